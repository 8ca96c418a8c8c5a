import JvmDerived
import JvmDerived.Pilot.@@N@@Statement
import JvmDerived.Pilot.@@N@@Code
set_option linter.unusedVariables false
set_option linter.unusedSimpArgs false
namespace Jvm.Pilot.@@N@@
open Jvm Jvm.ClassFile Sem Op Lib Jvm.Free Jvm.Stand Jvm.LawKit Jvm.RoadKit Bundle Jvm.Pilot.@@N@@.Jvm.D
theorem own_le {Z : State} {n0 : Nat} {h : Heap} (O : Old Z n0 h) : n0 ≤ h.size := O.1 ▸ O.2.1
theorem pn_com_example_glacial_workflow_glacialworkflow_core_FailureClass : plainName "com/example/glacial_workflow/glacialworkflow/core/FailureClass" = true := by first | (simp [plainName, overriddenIn]; done) | decide +kernel
theorem pn_com_example_glacial_workflow_glacialworkflow_core_FailureClassIsRetriedWhenCuredPinLaw : plainName "com/example/glacial_workflow/glacialworkflow/core/FailureClassIsRetriedWhenCuredPinLaw" = true := by first | (simp [plainName, overriddenIn]; done) | decide +kernel
theorem pd___Z : parseMethodDescriptor "()Z" = some ⟨[], some .boolean⟩ := by decide +kernel
theorem d1_0 : decode prog_8_method_5_code 0 = .ok (.aload_n 0, 1) := by decide +kernel
theorem d1_1 : decode prog_8_method_5_code 1 = .ok (.getstatic 19, 3) := by decide +kernel
theorem d1_4 : decode prog_8_method_5_code 4 = .ok (.if_acmp .eq 21, 3) := by decide +kernel
theorem d1_7 : decode prog_8_method_5_code 7 = .ok (.aload_n 0, 1) := by decide +kernel
theorem d1_8 : decode prog_8_method_5_code 8 = .ok (.getstatic 22, 3) := by decide +kernel
theorem d1_11 : decode prog_8_method_5_code 11 = .ok (.if_acmp .eq 14, 3) := by decide +kernel
theorem d1_14 : decode prog_8_method_5_code 14 = .ok (.aload_n 0, 1) := by decide +kernel
theorem d1_15 : decode prog_8_method_5_code 15 = .ok (.getstatic 16, 3) := by decide +kernel
theorem d1_18 : decode prog_8_method_5_code 18 = .ok (.if_acmp .eq 7, 3) := by decide +kernel
theorem d1_21 : decode prog_8_method_5_code 21 = .ok (.iconst 1, 1) := by decide +kernel
theorem d1_22 : decode prog_8_method_5_code 22 = .ok (.goto 4, 3) := by decide +kernel
theorem d1_25 : decode prog_8_method_5_code 25 = .ok (.iconst 0, 1) := by decide +kernel
theorem d1_26 : decode prog_8_method_5_code 26 = .ok (.ireturn, 1) := by decide +kernel
theorem d2_0 : decode prog_8_method_4_code 0 = .ok (.aload_n 0, 1) := by decide +kernel
theorem d2_1 : decode prog_8_method_4_code 1 = .ok (.getstatic 3, 3) := by decide +kernel
theorem d2_4 : decode prog_8_method_4_code 4 = .ok (.if_acmp .eq 17, 3) := by decide +kernel
theorem d2_7 : decode prog_8_method_4_code 7 = .ok (.aload_n 0, 1) := by decide +kernel
theorem d2_8 : decode prog_8_method_4_code 8 = .ok (.getstatic 7, 3) := by decide +kernel
theorem d2_11 : decode prog_8_method_4_code 11 = .ok (.if_acmp .eq 10, 3) := by decide +kernel
theorem d2_14 : decode prog_8_method_4_code 14 = .ok (.aload_n 0, 1) := by decide +kernel
theorem d2_15 : decode prog_8_method_4_code 15 = .ok (.getstatic 10, 3) := by decide +kernel
theorem d2_18 : decode prog_8_method_4_code 18 = .ok (.if_acmp .ne 7, 3) := by decide +kernel
theorem d2_21 : decode prog_8_method_4_code 21 = .ok (.iconst 1, 1) := by decide +kernel
theorem d2_22 : decode prog_8_method_4_code 22 = .ok (.goto 4, 3) := by decide +kernel
theorem d2_25 : decode prog_8_method_4_code 25 = .ok (.iconst 0, 1) := by decide +kernel
theorem d2_26 : decode prog_8_method_4_code 26 = .ok (.ireturn, 1) := by decide +kernel
section OwnWords
variable {args : Array Value} {s : State} {t u : Term} {a b : Addr} {C n d K : String}
theorem own_exa (h : (Jvm.Cond.exactly t K).value args s none s [] = some true) (ev : t.eval args s none [] s = some (.ref a)) : Exa s s.heap a K := Exa.start ev h
theorem own_fi {k : Int32} (ev : t.eval args s none [] s = some (.ref a)) (h : (Jvm.Cond.eq (.field t C n d) (.int k)).value args s none s [] = some true) : Fld s s.heap a C n d (.int k) := by
  refine Fld.start ?_
  have e := fld_at (C := C) (n := n) (dd := d) ev
  simp only [Cond.value, e] at h
  cases hv : s.fieldOf? a C n d with
  | none => simp [hv] at h
  | some z => cases z <;> simp [hv, Term.eval] at h ⊢; exact h
theorem own_fn (ev : t.eval args s none [] s = some (.ref a)) (h : (Jvm.Cond.eq (.field t C n d) .null).value args s none s [] = some true) : Fld s s.heap a C n d .null :=
  Fld.start ((fld_at ev).symm.trans (null_v h))
theorem own_fr (ev : t.eval args s none [] s = some (.ref a)) (ev' : u.eval args s none [] s = some (.ref b)) (h : (Jvm.Cond.eq (.field t C n d) u).value args s none s [] = some true) : Fld s s.heap a C n d (.ref b) := by
  refine Fld.start ?_
  have e := fld_at (C := C) (n := n) (dd := d) ev
  simp only [Cond.value, e, ev'] at h
  cases hv : s.fieldOf? a C n d with
  | none => simp [hv] at h
  | some z => cases z <;> simp [hv] at h ⊢; exact h
end OwnWords
theorem own_k (x : Int32) : (x &&& (2147483647 : Int32)) % (7 : Int32) = (0 : Int32) ∨ (x &&& (2147483647 : Int32)) % (7 : Int32) = (1 : Int32) ∨ (x &&& (2147483647 : Int32)) % (7 : Int32) = (2 : Int32) ∨ (x &&& (2147483647 : Int32)) % (7 : Int32) = (3 : Int32) ∨ (x &&& (2147483647 : Int32)) % (7 : Int32) = (4 : Int32) ∨ (x &&& (2147483647 : Int32)) % (7 : Int32) = (5 : Int32) ∨ (x &&& (2147483647 : Int32)) % (7 : Int32) = (6 : Int32) := by
  have e := c_mask x 2147483647 31 (by decide) (by decide)
  have r := (c_irem (x &&& 2147483647) 7 7 rfl).1 (by omega)
  have h : ((x &&& (2147483647 : Int32)) % (7 : Int32)).toInt = 0 ∨ ((x &&& (2147483647 : Int32)) % (7 : Int32)).toInt = 1 ∨ ((x &&& (2147483647 : Int32)) % (7 : Int32)).toInt = 2 ∨ ((x &&& (2147483647 : Int32)) % (7 : Int32)).toInt = 3 ∨ ((x &&& (2147483647 : Int32)) % (7 : Int32)).toInt = 4 ∨ ((x &&& (2147483647 : Int32)) % (7 : Int32)).toInt = 5 ∨ ((x &&& (2147483647 : Int32)) % (7 : Int32)).toInt = 6 := by omega
  rcases h with h | h | h | h | h | h | h
  · exact (Or.inl (Int32.toInt_inj.mp (h.trans rfl)))
  · exact (Or.inr (Or.inl (Int32.toInt_inj.mp (h.trans rfl))))
  · exact (Or.inr (Or.inr (Or.inl (Int32.toInt_inj.mp (h.trans rfl)))))
  · exact (Or.inr (Or.inr (Or.inr (Or.inl (Int32.toInt_inj.mp (h.trans rfl))))))
  · exact (Or.inr (Or.inr (Or.inr (Or.inr (Or.inl (Int32.toInt_inj.mp (h.trans rfl)))))))
  · exact (Or.inr (Or.inr (Or.inr (Or.inr (Or.inr (Or.inl (Int32.toInt_inj.mp (h.trans rfl))))))))
  · exact (Or.inr (Or.inr (Or.inr (Or.inr (Or.inr (Or.inr (Int32.toInt_inj.mp (h.trans rfl))))))))
def OwnEnv (Z : State) (w_INFRASTRUCTURE w_TRANSIENT w_QUALITY w_PERMANENT w_REJECTED w_DEADLINE w_STALLED : Addr) : Prop := Sta Z Z.heap "com/example/glacial_workflow/glacialworkflow/core/FailureClass" "INFRASTRUCTURE" "Lcom/example/glacial_workflow/glacialworkflow/core/FailureClass;" (.ref w_INFRASTRUCTURE) ∧ Exa Z Z.heap w_INFRASTRUCTURE "com/example/glacial_workflow/glacialworkflow/core/FailureClass" ∧ Sta Z Z.heap "com/example/glacial_workflow/glacialworkflow/core/FailureClass" "TRANSIENT" "Lcom/example/glacial_workflow/glacialworkflow/core/FailureClass;" (.ref w_TRANSIENT) ∧ Exa Z Z.heap w_TRANSIENT "com/example/glacial_workflow/glacialworkflow/core/FailureClass" ∧ Sta Z Z.heap "com/example/glacial_workflow/glacialworkflow/core/FailureClass" "QUALITY" "Lcom/example/glacial_workflow/glacialworkflow/core/FailureClass;" (.ref w_QUALITY) ∧ Exa Z Z.heap w_QUALITY "com/example/glacial_workflow/glacialworkflow/core/FailureClass" ∧ Sta Z Z.heap "com/example/glacial_workflow/glacialworkflow/core/FailureClass" "PERMANENT" "Lcom/example/glacial_workflow/glacialworkflow/core/FailureClass;" (.ref w_PERMANENT) ∧ Exa Z Z.heap w_PERMANENT "com/example/glacial_workflow/glacialworkflow/core/FailureClass" ∧ Sta Z Z.heap "com/example/glacial_workflow/glacialworkflow/core/FailureClass" "REJECTED" "Lcom/example/glacial_workflow/glacialworkflow/core/FailureClass;" (.ref w_REJECTED) ∧ Exa Z Z.heap w_REJECTED "com/example/glacial_workflow/glacialworkflow/core/FailureClass" ∧ Sta Z Z.heap "com/example/glacial_workflow/glacialworkflow/core/FailureClass" "DEADLINE" "Lcom/example/glacial_workflow/glacialworkflow/core/FailureClass;" (.ref w_DEADLINE) ∧ Exa Z Z.heap w_DEADLINE "com/example/glacial_workflow/glacialworkflow/core/FailureClass" ∧ Sta Z Z.heap "com/example/glacial_workflow/glacialworkflow/core/FailureClass" "STALLED" "Lcom/example/glacial_workflow/glacialworkflow/core/FailureClass;" (.ref w_STALLED) ∧ Exa Z Z.heap w_STALLED "com/example/glacial_workflow/glacialworkflow/core/FailureClass" ∧ Fld Z Z.heap w_INFRASTRUCTURE "java/lang/Enum" "ordinal" "I" (.int (0 : Int32)) ∧ Fld Z Z.heap w_DEADLINE "java/lang/Enum" "ordinal" "I" (.int (5 : Int32)) ∧ Fld Z Z.heap w_STALLED "java/lang/Enum" "ordinal" "I" (.int (6 : Int32)) ∧ Fld Z Z.heap w_REJECTED "java/lang/Enum" "ordinal" "I" (.int (4 : Int32)) ∧ Fld Z Z.heap w_PERMANENT "java/lang/Enum" "ordinal" "I" (.int (3 : Int32)) ∧ Fld Z Z.heap w_TRANSIENT "java/lang/Enum" "ordinal" "I" (.int (1 : Int32)) ∧ Fld Z Z.heap w_QUALITY "java/lang/Enum" "ordinal" "I" (.int (2 : Int32))
theorem ef_rc_INFRASTRUCTURE (m : MethodId) (w_INFRASTRUCTURE : Addr) : entryFrame m #[(.ref w_INFRASTRUCTURE)] 1 = mkF m 0 #[.val (.ref w_INFRASTRUCTURE)] [] := by first | (simp [entryFrame, mkF, argsToLocals, Value.category]; done) | rfl
def Q_rc_INFRASTRUCTURE (Z : State) (w_INFRASTRUCTURE w_TRANSIENT w_QUALITY w_PERMANENT w_REJECTED w_DEADLINE w_STALLED : Addr) (h0 : Heap) (n0 : Nat) (v : Option Value) (h : Heap) (L : List Loc) : Prop := v = some (.int (1 : Int32)) ∧ Fr n0 L ∧ h = h0
set_option maxRecDepth 65536 in
set_option maxHeartbeats 40000000 in
theorem rc_INFRASTRUCTURE (l : Launch) (Z : State) (a0 : Array Value) (hw : ∀ d ∈ tables_1, d.before a0 Z = true) (ws : List Jvm.Cond) (w_INFRASTRUCTURE w_TRANSIENT w_QUALITY w_PERMANENT w_REJECTED w_DEADLINE w_STALLED : Addr) (h0 : Heap) (n0 : Nat) (O0 : Old Z n0 h0) (hE : OwnEnv Z w_INFRASTRUCTURE w_TRANSIENT w_QUALITY w_PERMANENT w_REJECTED w_DEADLINE w_STALLED) :
    MetFree l (⟨"com/example/glacial_workflow/glacialworkflow/core/FailureClass", "isRetriedWhenCured", "()Z"⟩ : MethodName) (head1 (Jvm.Cond.code (⟨"com/example/glacial_workflow/glacialworkflow/core/FailureClass", "isRetriedWhenCured", "()Z"⟩ : MethodName) prog_8_method_5_code 1 (some .boolean) :: ws) ({ frames := 0, cells := 0, slots := 0, locals := 0 } : Room)) (fun a U => a = #[(.ref w_INFRASTRUCTURE)] ∧ Z.Warmed39 U.vm ∧ U.heap = h0) (fun _ _ _ _ _ => True) (fun _ U o U' => ∃ v L, o = .returned v ∧ Q_rc_INFRASTRUCTURE Z w_INFRASTRUCTURE w_TRANSIENT w_QUALITY w_PERMANENT w_REJECTED w_DEADLINE w_STALLED h0 n0 v U'.heap L ∧ FrameEnd U o U' L ({ frames := 0, cells := 0, slots := 0, locals := 0 } : Room).cells ({ frames := 0, cells := 0, slots := 0, locals := 0 } : Room).slots) := by
  refine MetFree.of_bodySF (plainFor_of_name pn_com_example_glacial_workflow_glacialworkflow_core_FailureClass) hisR ?_
  intro p e s m args below meth c s₁ Bd hml0 hP hK
  obtain ⟨rfl, hZ, hh⟩ := hP
  have hx := Bd.exec
  have hby := Bd.bytes
  have hml : c.maxLocals = 1 := hml0
  have hown : s.vm.findClass "com/example/glacial_workflow/glacialworkflow/core/FailureClass" = some m.cls := findClass_of_methodNamed Bd.named
  have hnm := (name_of_methodNamed Bd.named Bd.method).1
  have X0 : Stand p l e ({ frames := 0, cells := 0, slots := 0, locals := 0 } : Room) s m #[(.ref w_INFRASTRUCTURE)] below meth c s₁ [] 0 0 := Stand.of_body Bd
  have e0 : s₁.heap = h0 := by rw [← hh, Bd.state]; rfl
  have N0 := Fr.nil n0
  have pre0 : ∀ t, Steps p.tables e below (s₁.setTop (mkF m 0 #[.val (.ref w_INFRASTRUCTURE)] [])) t → Steps p.tables e below (s₁.setTop (entryFrame m #[(.ref w_INFRASTRUCTURE)] 1)) t := fun t k => castTop (ef_rc_INFRASTRUCTURE m w_INFRASTRUCTURE) k
  have hE_ := hE; obtain ⟨S_w_INFRASTRUCTURE, E_w_INFRASTRUCTURE, S_w_TRANSIENT, E_w_TRANSIENT, S_w_QUALITY, E_w_QUALITY, S_w_PERMANENT, E_w_PERMANENT, S_w_REJECTED, E_w_REJECTED, S_w_DEADLINE, E_w_DEADLINE, S_w_STALLED, E_w_STALLED, F_ordinal_w_INFRASTRUCTURE, F_ordinal_w_DEADLINE, F_ordinal_w_STALLED, F_ordinal_w_REJECTED, F_ordinal_w_PERMANENT, F_ordinal_w_TRANSIENT, F_ordinal_w_QUALITY⟩ := hE_
  obtain ⟨T1, X1, e1, st1⟩ := getS2 X0 hx hZ hown (host := "") (Or.inl (hw _ (List.mem_of_getElem? (i := 25) rfl))) Via.refl e0 (S_w_DEADLINE.ext O0.2) (g := (mkF m 1 #[.val (.ref w_INFRASTRUCTURE)] [(.ref w_INFRASTRUCTURE)])) rfl (hb hby d1_1)
  obtain ⟨T2, X2, e2, st2⟩ := getS2 X1 hx hZ hown (host := "") (Or.inl (hw _ (List.mem_of_getElem? (i := 26) rfl))) Via.refl e1 (S_w_STALLED.ext O0.2) (g := (mkF m 8 #[.val (.ref w_INFRASTRUCTURE)] [(.ref w_INFRASTRUCTURE)])) rfl (hb hby d1_8)
  obtain ⟨T3, X3, e3, st3⟩ := getS2 X2 hx hZ hown (host := "") (Or.inl (hw _ (List.mem_of_getElem? (i := 27) rfl))) Via.refl e2 (S_w_REJECTED.ext O0.2) (g := (mkF m 15 #[.val (.ref w_INFRASTRUCTURE)] [(.ref w_INFRASTRUCTURE)])) rfl (hb hby d1_15)
  obtain ⟨fs, hr, hrun, hended, hW, hsame⟩ := X3.leave (v := some (.int (1 : Int32))) (fun h => by rw [Bd.returns] at h; cases h)
  refine ⟨_, _, pre0 _ ?_, hrun, hended, _, _, rfl, ?_, ⟨_, rfl⟩, hW, hsame.mono (by decide) (by decide)⟩
  · show Steps p.tables e below (s₁.setTop (mkF m 0 #[.val (.ref w_INFRASTRUCTURE)] [])) _
    refine XS.aloadN X0.here hx rfl (hb hby d1_0) rfl rfl ?_
    show Steps p.tables e below (s₁.setTop (mkF m 1 #[.val (.ref w_INFRASTRUCTURE)] [(.ref w_INFRASTRUCTURE)])) _
    refine st1 _ ?_
    show Steps p.tables e below (T1.setTop (mkF m 4 #[.val (.ref w_INFRASTRUCTURE)] [(.ref w_DEADLINE), (.ref w_INFRASTRUCTURE)])) _
    refine Jvm.RoadKit.acmp (g := (mkF m 4 #[.val (.ref w_INFRASTRUCTURE)] [(.ref w_DEADLINE), (.ref w_INFRASTRUCTURE)])) X1 hx rfl rfl rfl (pc0 := 4) (pc' := 7) (same := false) rfl (hb hby d1_4) rfl (decide_eq_false fun q => (Fld.ne F_ordinal_w_INFRASTRUCTURE F_ordinal_w_DEADLINE (by decide)) (Value.ref.inj q)) (by decide) (by decide) ?_
    show Steps p.tables e below (T1.setTop (mkF m 7 #[.val (.ref w_INFRASTRUCTURE)] [])) _
    refine XS.aloadN X1.here hx rfl (hb hby d1_7) rfl rfl ?_
    show Steps p.tables e below (T1.setTop (mkF m 8 #[.val (.ref w_INFRASTRUCTURE)] [(.ref w_INFRASTRUCTURE)])) _
    refine st2 _ ?_
    show Steps p.tables e below (T2.setTop (mkF m 11 #[.val (.ref w_INFRASTRUCTURE)] [(.ref w_STALLED), (.ref w_INFRASTRUCTURE)])) _
    refine Jvm.RoadKit.acmp (g := (mkF m 11 #[.val (.ref w_INFRASTRUCTURE)] [(.ref w_STALLED), (.ref w_INFRASTRUCTURE)])) X2 hx rfl rfl rfl (pc0 := 11) (pc' := 14) (same := false) rfl (hb hby d1_11) rfl (decide_eq_false fun q => (Fld.ne F_ordinal_w_INFRASTRUCTURE F_ordinal_w_STALLED (by decide)) (Value.ref.inj q)) (by decide) (by decide) ?_
    show Steps p.tables e below (T2.setTop (mkF m 14 #[.val (.ref w_INFRASTRUCTURE)] [])) _
    refine XS.aloadN X2.here hx rfl (hb hby d1_14) rfl rfl ?_
    show Steps p.tables e below (T2.setTop (mkF m 15 #[.val (.ref w_INFRASTRUCTURE)] [(.ref w_INFRASTRUCTURE)])) _
    refine st3 _ ?_
    show Steps p.tables e below (T3.setTop (mkF m 18 #[.val (.ref w_INFRASTRUCTURE)] [(.ref w_REJECTED), (.ref w_INFRASTRUCTURE)])) _
    refine Jvm.RoadKit.acmp (g := (mkF m 18 #[.val (.ref w_INFRASTRUCTURE)] [(.ref w_REJECTED), (.ref w_INFRASTRUCTURE)])) X3 hx rfl rfl rfl (pc0 := 18) (pc' := 21) (same := false) rfl (hb hby d1_18) rfl (decide_eq_false fun q => (Fld.ne F_ordinal_w_INFRASTRUCTURE F_ordinal_w_REJECTED (by decide)) (Value.ref.inj q)) (by decide) (by decide) ?_
    show Steps p.tables e below (T3.setTop (mkF m 21 #[.val (.ref w_INFRASTRUCTURE)] [])) _
    refine XS.iconst X3.here hx rfl (hb hby d1_21) ?_
    show Steps p.tables e below (T3.setTop (mkF m 22 #[.val (.ref w_INFRASTRUCTURE)] [(.int (1 : Int32))])) _
    refine XS.goto X3.here hx rfl (pc0 := 22) (pc' := 26) rfl (hb hby d1_22) (by decide) (by decide) ?_
    show Steps p.tables e below (T3.setTop (mkF m 26 #[.val (.ref w_INFRASTRUCTURE)] [(.int (1 : Int32))])) _
    exact retN X3 hx (t := .boolean) Bd.returns (by simp) (hb hby d1_26) hr
  · show Q_rc_INFRASTRUCTURE Z w_INFRASTRUCTURE w_TRANSIENT w_QUALITY w_PERMANENT w_REJECTED w_DEADLINE w_STALLED h0 n0 _ T3.heap _
    rw [e3]
    exact ⟨rfl, N0, rfl⟩
theorem ef_re_INFRASTRUCTURE (m : MethodId) (w_INFRASTRUCTURE : Addr) : entryFrame m #[(.ref w_INFRASTRUCTURE)] 1 = mkF m 0 #[.val (.ref w_INFRASTRUCTURE)] [] := by first | (simp [entryFrame, mkF, argsToLocals, Value.category]; done) | rfl
def Q_re_INFRASTRUCTURE (Z : State) (w_INFRASTRUCTURE w_TRANSIENT w_QUALITY w_PERMANENT w_REJECTED w_DEADLINE w_STALLED : Addr) (h0 : Heap) (n0 : Nat) (v : Option Value) (h : Heap) (L : List Loc) : Prop := v = some (.int (1 : Int32)) ∧ Fr n0 L ∧ h = h0
set_option maxRecDepth 65536 in
set_option maxHeartbeats 40000000 in
theorem re_INFRASTRUCTURE (l : Launch) (Z : State) (a0 : Array Value) (hw : ∀ d ∈ tables_1, d.before a0 Z = true) (ws : List Jvm.Cond) (w_INFRASTRUCTURE w_TRANSIENT w_QUALITY w_PERMANENT w_REJECTED w_DEADLINE w_STALLED : Addr) (h0 : Heap) (n0 : Nat) (O0 : Old Z n0 h0) (hE : OwnEnv Z w_INFRASTRUCTURE w_TRANSIENT w_QUALITY w_PERMANENT w_REJECTED w_DEADLINE w_STALLED) :
    MetFree l (⟨"com/example/glacial_workflow/glacialworkflow/core/FailureClass", "isRetried", "()Z"⟩ : MethodName) (head1 (Jvm.Cond.code (⟨"com/example/glacial_workflow/glacialworkflow/core/FailureClass", "isRetried", "()Z"⟩ : MethodName) prog_8_method_4_code 1 (some .boolean) :: ws) ({ frames := 0, cells := 0, slots := 0, locals := 0 } : Room)) (fun a U => a = #[(.ref w_INFRASTRUCTURE)] ∧ Z.Warmed39 U.vm ∧ U.heap = h0) (fun _ _ _ _ _ => True) (fun _ U o U' => ∃ v L, o = .returned v ∧ Q_re_INFRASTRUCTURE Z w_INFRASTRUCTURE w_TRANSIENT w_QUALITY w_PERMANENT w_REJECTED w_DEADLINE w_STALLED h0 n0 v U'.heap L ∧ FrameEnd U o U' L ({ frames := 0, cells := 0, slots := 0, locals := 0 } : Room).cells ({ frames := 0, cells := 0, slots := 0, locals := 0 } : Room).slots) := by
  refine MetFree.of_bodySF (plainFor_of_name pn_com_example_glacial_workflow_glacialworkflow_core_FailureClass) hisR ?_
  intro p e s m args below meth c s₁ Bd hml0 hP hK
  obtain ⟨rfl, hZ, hh⟩ := hP
  have hx := Bd.exec
  have hby := Bd.bytes
  have hml : c.maxLocals = 1 := hml0
  have hown : s.vm.findClass "com/example/glacial_workflow/glacialworkflow/core/FailureClass" = some m.cls := findClass_of_methodNamed Bd.named
  have hnm := (name_of_methodNamed Bd.named Bd.method).1
  have X0 : Stand p l e ({ frames := 0, cells := 0, slots := 0, locals := 0 } : Room) s m #[(.ref w_INFRASTRUCTURE)] below meth c s₁ [] 0 0 := Stand.of_body Bd
  have e0 : s₁.heap = h0 := by rw [← hh, Bd.state]; rfl
  have N0 := Fr.nil n0
  have pre0 : ∀ t, Steps p.tables e below (s₁.setTop (mkF m 0 #[.val (.ref w_INFRASTRUCTURE)] [])) t → Steps p.tables e below (s₁.setTop (entryFrame m #[(.ref w_INFRASTRUCTURE)] 1)) t := fun t k => castTop (ef_re_INFRASTRUCTURE m w_INFRASTRUCTURE) k
  have hE_ := hE; obtain ⟨S_w_INFRASTRUCTURE, E_w_INFRASTRUCTURE, S_w_TRANSIENT, E_w_TRANSIENT, S_w_QUALITY, E_w_QUALITY, S_w_PERMANENT, E_w_PERMANENT, S_w_REJECTED, E_w_REJECTED, S_w_DEADLINE, E_w_DEADLINE, S_w_STALLED, E_w_STALLED, F_ordinal_w_INFRASTRUCTURE, F_ordinal_w_DEADLINE, F_ordinal_w_STALLED, F_ordinal_w_REJECTED, F_ordinal_w_PERMANENT, F_ordinal_w_TRANSIENT, F_ordinal_w_QUALITY⟩ := hE_
  obtain ⟨T1, X1, e1, st1⟩ := getS2 X0 hx hZ hown (host := "") (Or.inl (hw _ (List.mem_of_getElem? (i := 33) rfl))) Via.refl e0 (S_w_INFRASTRUCTURE.ext O0.2) (g := (mkF m 1 #[.val (.ref w_INFRASTRUCTURE)] [(.ref w_INFRASTRUCTURE)])) rfl (hb hby d2_1)
  obtain ⟨fs, hr, hrun, hended, hW, hsame⟩ := X1.leave (v := some (.int (1 : Int32))) (fun h => by rw [Bd.returns] at h; cases h)
  refine ⟨_, _, pre0 _ ?_, hrun, hended, _, _, rfl, ?_, ⟨_, rfl⟩, hW, hsame.mono (by decide) (by decide)⟩
  · show Steps p.tables e below (s₁.setTop (mkF m 0 #[.val (.ref w_INFRASTRUCTURE)] [])) _
    refine XS.aloadN X0.here hx rfl (hb hby d2_0) rfl rfl ?_
    show Steps p.tables e below (s₁.setTop (mkF m 1 #[.val (.ref w_INFRASTRUCTURE)] [(.ref w_INFRASTRUCTURE)])) _
    refine st1 _ ?_
    show Steps p.tables e below (T1.setTop (mkF m 4 #[.val (.ref w_INFRASTRUCTURE)] [(.ref w_INFRASTRUCTURE), (.ref w_INFRASTRUCTURE)])) _
    refine Jvm.RoadKit.acmp (g := (mkF m 4 #[.val (.ref w_INFRASTRUCTURE)] [(.ref w_INFRASTRUCTURE), (.ref w_INFRASTRUCTURE)])) X1 hx rfl rfl rfl (pc0 := 4) (pc' := 21) (same := true) rfl (hb hby d2_4) rfl (decide_eq_true (congrArg Value.ref (rfl : w_INFRASTRUCTURE = w_INFRASTRUCTURE))) (by decide) (by decide) ?_
    show Steps p.tables e below (T1.setTop (mkF m 21 #[.val (.ref w_INFRASTRUCTURE)] [])) _
    refine XS.iconst X1.here hx rfl (hb hby d2_21) ?_
    show Steps p.tables e below (T1.setTop (mkF m 22 #[.val (.ref w_INFRASTRUCTURE)] [(.int (1 : Int32))])) _
    refine XS.goto X1.here hx rfl (pc0 := 22) (pc' := 26) rfl (hb hby d2_22) (by decide) (by decide) ?_
    show Steps p.tables e below (T1.setTop (mkF m 26 #[.val (.ref w_INFRASTRUCTURE)] [(.int (1 : Int32))])) _
    exact retN X1 hx (t := .boolean) Bd.returns (by simp) (hb hby d2_26) hr
  · show Q_re_INFRASTRUCTURE Z w_INFRASTRUCTURE w_TRANSIENT w_QUALITY w_PERMANENT w_REJECTED w_DEADLINE w_STALLED h0 n0 _ T1.heap _
    rw [e1]
    exact ⟨rfl, N0, rfl⟩
theorem ef_rc_TRANSIENT (m : MethodId) (w_TRANSIENT : Addr) : entryFrame m #[(.ref w_TRANSIENT)] 1 = mkF m 0 #[.val (.ref w_TRANSIENT)] [] := by first | (simp [entryFrame, mkF, argsToLocals, Value.category]; done) | rfl
def Q_rc_TRANSIENT (Z : State) (w_INFRASTRUCTURE w_TRANSIENT w_QUALITY w_PERMANENT w_REJECTED w_DEADLINE w_STALLED : Addr) (h0 : Heap) (n0 : Nat) (v : Option Value) (h : Heap) (L : List Loc) : Prop := v = some (.int (1 : Int32)) ∧ Fr n0 L ∧ h = h0
set_option maxRecDepth 65536 in
set_option maxHeartbeats 40000000 in
theorem rc_TRANSIENT (l : Launch) (Z : State) (a0 : Array Value) (hw : ∀ d ∈ tables_1, d.before a0 Z = true) (ws : List Jvm.Cond) (w_INFRASTRUCTURE w_TRANSIENT w_QUALITY w_PERMANENT w_REJECTED w_DEADLINE w_STALLED : Addr) (h0 : Heap) (n0 : Nat) (O0 : Old Z n0 h0) (hE : OwnEnv Z w_INFRASTRUCTURE w_TRANSIENT w_QUALITY w_PERMANENT w_REJECTED w_DEADLINE w_STALLED) :
    MetFree l (⟨"com/example/glacial_workflow/glacialworkflow/core/FailureClass", "isRetriedWhenCured", "()Z"⟩ : MethodName) (head1 (Jvm.Cond.code (⟨"com/example/glacial_workflow/glacialworkflow/core/FailureClass", "isRetriedWhenCured", "()Z"⟩ : MethodName) prog_8_method_5_code 1 (some .boolean) :: ws) ({ frames := 0, cells := 0, slots := 0, locals := 0 } : Room)) (fun a U => a = #[(.ref w_TRANSIENT)] ∧ Z.Warmed39 U.vm ∧ U.heap = h0) (fun _ _ _ _ _ => True) (fun _ U o U' => ∃ v L, o = .returned v ∧ Q_rc_TRANSIENT Z w_INFRASTRUCTURE w_TRANSIENT w_QUALITY w_PERMANENT w_REJECTED w_DEADLINE w_STALLED h0 n0 v U'.heap L ∧ FrameEnd U o U' L ({ frames := 0, cells := 0, slots := 0, locals := 0 } : Room).cells ({ frames := 0, cells := 0, slots := 0, locals := 0 } : Room).slots) := by
  refine MetFree.of_bodySF (plainFor_of_name pn_com_example_glacial_workflow_glacialworkflow_core_FailureClass) hisR ?_
  intro p e s m args below meth c s₁ Bd hml0 hP hK
  obtain ⟨rfl, hZ, hh⟩ := hP
  have hx := Bd.exec
  have hby := Bd.bytes
  have hml : c.maxLocals = 1 := hml0
  have hown : s.vm.findClass "com/example/glacial_workflow/glacialworkflow/core/FailureClass" = some m.cls := findClass_of_methodNamed Bd.named
  have hnm := (name_of_methodNamed Bd.named Bd.method).1
  have X0 : Stand p l e ({ frames := 0, cells := 0, slots := 0, locals := 0 } : Room) s m #[(.ref w_TRANSIENT)] below meth c s₁ [] 0 0 := Stand.of_body Bd
  have e0 : s₁.heap = h0 := by rw [← hh, Bd.state]; rfl
  have N0 := Fr.nil n0
  have pre0 : ∀ t, Steps p.tables e below (s₁.setTop (mkF m 0 #[.val (.ref w_TRANSIENT)] [])) t → Steps p.tables e below (s₁.setTop (entryFrame m #[(.ref w_TRANSIENT)] 1)) t := fun t k => castTop (ef_rc_TRANSIENT m w_TRANSIENT) k
  have hE_ := hE; obtain ⟨S_w_INFRASTRUCTURE, E_w_INFRASTRUCTURE, S_w_TRANSIENT, E_w_TRANSIENT, S_w_QUALITY, E_w_QUALITY, S_w_PERMANENT, E_w_PERMANENT, S_w_REJECTED, E_w_REJECTED, S_w_DEADLINE, E_w_DEADLINE, S_w_STALLED, E_w_STALLED, F_ordinal_w_INFRASTRUCTURE, F_ordinal_w_DEADLINE, F_ordinal_w_STALLED, F_ordinal_w_REJECTED, F_ordinal_w_PERMANENT, F_ordinal_w_TRANSIENT, F_ordinal_w_QUALITY⟩ := hE_
  obtain ⟨T1, X1, e1, st1⟩ := getS2 X0 hx hZ hown (host := "") (Or.inl (hw _ (List.mem_of_getElem? (i := 25) rfl))) Via.refl e0 (S_w_DEADLINE.ext O0.2) (g := (mkF m 1 #[.val (.ref w_TRANSIENT)] [(.ref w_TRANSIENT)])) rfl (hb hby d1_1)
  obtain ⟨T2, X2, e2, st2⟩ := getS2 X1 hx hZ hown (host := "") (Or.inl (hw _ (List.mem_of_getElem? (i := 26) rfl))) Via.refl e1 (S_w_STALLED.ext O0.2) (g := (mkF m 8 #[.val (.ref w_TRANSIENT)] [(.ref w_TRANSIENT)])) rfl (hb hby d1_8)
  obtain ⟨T3, X3, e3, st3⟩ := getS2 X2 hx hZ hown (host := "") (Or.inl (hw _ (List.mem_of_getElem? (i := 27) rfl))) Via.refl e2 (S_w_REJECTED.ext O0.2) (g := (mkF m 15 #[.val (.ref w_TRANSIENT)] [(.ref w_TRANSIENT)])) rfl (hb hby d1_15)
  obtain ⟨fs, hr, hrun, hended, hW, hsame⟩ := X3.leave (v := some (.int (1 : Int32))) (fun h => by rw [Bd.returns] at h; cases h)
  refine ⟨_, _, pre0 _ ?_, hrun, hended, _, _, rfl, ?_, ⟨_, rfl⟩, hW, hsame.mono (by decide) (by decide)⟩
  · show Steps p.tables e below (s₁.setTop (mkF m 0 #[.val (.ref w_TRANSIENT)] [])) _
    refine XS.aloadN X0.here hx rfl (hb hby d1_0) rfl rfl ?_
    show Steps p.tables e below (s₁.setTop (mkF m 1 #[.val (.ref w_TRANSIENT)] [(.ref w_TRANSIENT)])) _
    refine st1 _ ?_
    show Steps p.tables e below (T1.setTop (mkF m 4 #[.val (.ref w_TRANSIENT)] [(.ref w_DEADLINE), (.ref w_TRANSIENT)])) _
    refine Jvm.RoadKit.acmp (g := (mkF m 4 #[.val (.ref w_TRANSIENT)] [(.ref w_DEADLINE), (.ref w_TRANSIENT)])) X1 hx rfl rfl rfl (pc0 := 4) (pc' := 7) (same := false) rfl (hb hby d1_4) rfl (decide_eq_false fun q => (Ne.symm (Fld.ne F_ordinal_w_DEADLINE F_ordinal_w_TRANSIENT (by decide))) (Value.ref.inj q)) (by decide) (by decide) ?_
    show Steps p.tables e below (T1.setTop (mkF m 7 #[.val (.ref w_TRANSIENT)] [])) _
    refine XS.aloadN X1.here hx rfl (hb hby d1_7) rfl rfl ?_
    show Steps p.tables e below (T1.setTop (mkF m 8 #[.val (.ref w_TRANSIENT)] [(.ref w_TRANSIENT)])) _
    refine st2 _ ?_
    show Steps p.tables e below (T2.setTop (mkF m 11 #[.val (.ref w_TRANSIENT)] [(.ref w_STALLED), (.ref w_TRANSIENT)])) _
    refine Jvm.RoadKit.acmp (g := (mkF m 11 #[.val (.ref w_TRANSIENT)] [(.ref w_STALLED), (.ref w_TRANSIENT)])) X2 hx rfl rfl rfl (pc0 := 11) (pc' := 14) (same := false) rfl (hb hby d1_11) rfl (decide_eq_false fun q => (Ne.symm (Fld.ne F_ordinal_w_STALLED F_ordinal_w_TRANSIENT (by decide))) (Value.ref.inj q)) (by decide) (by decide) ?_
    show Steps p.tables e below (T2.setTop (mkF m 14 #[.val (.ref w_TRANSIENT)] [])) _
    refine XS.aloadN X2.here hx rfl (hb hby d1_14) rfl rfl ?_
    show Steps p.tables e below (T2.setTop (mkF m 15 #[.val (.ref w_TRANSIENT)] [(.ref w_TRANSIENT)])) _
    refine st3 _ ?_
    show Steps p.tables e below (T3.setTop (mkF m 18 #[.val (.ref w_TRANSIENT)] [(.ref w_REJECTED), (.ref w_TRANSIENT)])) _
    refine Jvm.RoadKit.acmp (g := (mkF m 18 #[.val (.ref w_TRANSIENT)] [(.ref w_REJECTED), (.ref w_TRANSIENT)])) X3 hx rfl rfl rfl (pc0 := 18) (pc' := 21) (same := false) rfl (hb hby d1_18) rfl (decide_eq_false fun q => (Ne.symm (Fld.ne F_ordinal_w_REJECTED F_ordinal_w_TRANSIENT (by decide))) (Value.ref.inj q)) (by decide) (by decide) ?_
    show Steps p.tables e below (T3.setTop (mkF m 21 #[.val (.ref w_TRANSIENT)] [])) _
    refine XS.iconst X3.here hx rfl (hb hby d1_21) ?_
    show Steps p.tables e below (T3.setTop (mkF m 22 #[.val (.ref w_TRANSIENT)] [(.int (1 : Int32))])) _
    refine XS.goto X3.here hx rfl (pc0 := 22) (pc' := 26) rfl (hb hby d1_22) (by decide) (by decide) ?_
    show Steps p.tables e below (T3.setTop (mkF m 26 #[.val (.ref w_TRANSIENT)] [(.int (1 : Int32))])) _
    exact retN X3 hx (t := .boolean) Bd.returns (by simp) (hb hby d1_26) hr
  · show Q_rc_TRANSIENT Z w_INFRASTRUCTURE w_TRANSIENT w_QUALITY w_PERMANENT w_REJECTED w_DEADLINE w_STALLED h0 n0 _ T3.heap _
    rw [e3]
    exact ⟨rfl, N0, rfl⟩
theorem ef_re_TRANSIENT (m : MethodId) (w_TRANSIENT : Addr) : entryFrame m #[(.ref w_TRANSIENT)] 1 = mkF m 0 #[.val (.ref w_TRANSIENT)] [] := by first | (simp [entryFrame, mkF, argsToLocals, Value.category]; done) | rfl
def Q_re_TRANSIENT (Z : State) (w_INFRASTRUCTURE w_TRANSIENT w_QUALITY w_PERMANENT w_REJECTED w_DEADLINE w_STALLED : Addr) (h0 : Heap) (n0 : Nat) (v : Option Value) (h : Heap) (L : List Loc) : Prop := v = some (.int (1 : Int32)) ∧ Fr n0 L ∧ h = h0
set_option maxRecDepth 65536 in
set_option maxHeartbeats 40000000 in
theorem re_TRANSIENT (l : Launch) (Z : State) (a0 : Array Value) (hw : ∀ d ∈ tables_1, d.before a0 Z = true) (ws : List Jvm.Cond) (w_INFRASTRUCTURE w_TRANSIENT w_QUALITY w_PERMANENT w_REJECTED w_DEADLINE w_STALLED : Addr) (h0 : Heap) (n0 : Nat) (O0 : Old Z n0 h0) (hE : OwnEnv Z w_INFRASTRUCTURE w_TRANSIENT w_QUALITY w_PERMANENT w_REJECTED w_DEADLINE w_STALLED) :
    MetFree l (⟨"com/example/glacial_workflow/glacialworkflow/core/FailureClass", "isRetried", "()Z"⟩ : MethodName) (head1 (Jvm.Cond.code (⟨"com/example/glacial_workflow/glacialworkflow/core/FailureClass", "isRetried", "()Z"⟩ : MethodName) prog_8_method_4_code 1 (some .boolean) :: ws) ({ frames := 0, cells := 0, slots := 0, locals := 0 } : Room)) (fun a U => a = #[(.ref w_TRANSIENT)] ∧ Z.Warmed39 U.vm ∧ U.heap = h0) (fun _ _ _ _ _ => True) (fun _ U o U' => ∃ v L, o = .returned v ∧ Q_re_TRANSIENT Z w_INFRASTRUCTURE w_TRANSIENT w_QUALITY w_PERMANENT w_REJECTED w_DEADLINE w_STALLED h0 n0 v U'.heap L ∧ FrameEnd U o U' L ({ frames := 0, cells := 0, slots := 0, locals := 0 } : Room).cells ({ frames := 0, cells := 0, slots := 0, locals := 0 } : Room).slots) := by
  refine MetFree.of_bodySF (plainFor_of_name pn_com_example_glacial_workflow_glacialworkflow_core_FailureClass) hisR ?_
  intro p e s m args below meth c s₁ Bd hml0 hP hK
  obtain ⟨rfl, hZ, hh⟩ := hP
  have hx := Bd.exec
  have hby := Bd.bytes
  have hml : c.maxLocals = 1 := hml0
  have hown : s.vm.findClass "com/example/glacial_workflow/glacialworkflow/core/FailureClass" = some m.cls := findClass_of_methodNamed Bd.named
  have hnm := (name_of_methodNamed Bd.named Bd.method).1
  have X0 : Stand p l e ({ frames := 0, cells := 0, slots := 0, locals := 0 } : Room) s m #[(.ref w_TRANSIENT)] below meth c s₁ [] 0 0 := Stand.of_body Bd
  have e0 : s₁.heap = h0 := by rw [← hh, Bd.state]; rfl
  have N0 := Fr.nil n0
  have pre0 : ∀ t, Steps p.tables e below (s₁.setTop (mkF m 0 #[.val (.ref w_TRANSIENT)] [])) t → Steps p.tables e below (s₁.setTop (entryFrame m #[(.ref w_TRANSIENT)] 1)) t := fun t k => castTop (ef_re_TRANSIENT m w_TRANSIENT) k
  have hE_ := hE; obtain ⟨S_w_INFRASTRUCTURE, E_w_INFRASTRUCTURE, S_w_TRANSIENT, E_w_TRANSIENT, S_w_QUALITY, E_w_QUALITY, S_w_PERMANENT, E_w_PERMANENT, S_w_REJECTED, E_w_REJECTED, S_w_DEADLINE, E_w_DEADLINE, S_w_STALLED, E_w_STALLED, F_ordinal_w_INFRASTRUCTURE, F_ordinal_w_DEADLINE, F_ordinal_w_STALLED, F_ordinal_w_REJECTED, F_ordinal_w_PERMANENT, F_ordinal_w_TRANSIENT, F_ordinal_w_QUALITY⟩ := hE_
  obtain ⟨T1, X1, e1, st1⟩ := getS2 X0 hx hZ hown (host := "") (Or.inl (hw _ (List.mem_of_getElem? (i := 33) rfl))) Via.refl e0 (S_w_INFRASTRUCTURE.ext O0.2) (g := (mkF m 1 #[.val (.ref w_TRANSIENT)] [(.ref w_TRANSIENT)])) rfl (hb hby d2_1)
  obtain ⟨T2, X2, e2, st2⟩ := getS2 X1 hx hZ hown (host := "") (Or.inl (hw _ (List.mem_of_getElem? (i := 34) rfl))) Via.refl e1 (S_w_TRANSIENT.ext O0.2) (g := (mkF m 8 #[.val (.ref w_TRANSIENT)] [(.ref w_TRANSIENT)])) rfl (hb hby d2_8)
  obtain ⟨fs, hr, hrun, hended, hW, hsame⟩ := X2.leave (v := some (.int (1 : Int32))) (fun h => by rw [Bd.returns] at h; cases h)
  refine ⟨_, _, pre0 _ ?_, hrun, hended, _, _, rfl, ?_, ⟨_, rfl⟩, hW, hsame.mono (by decide) (by decide)⟩
  · show Steps p.tables e below (s₁.setTop (mkF m 0 #[.val (.ref w_TRANSIENT)] [])) _
    refine XS.aloadN X0.here hx rfl (hb hby d2_0) rfl rfl ?_
    show Steps p.tables e below (s₁.setTop (mkF m 1 #[.val (.ref w_TRANSIENT)] [(.ref w_TRANSIENT)])) _
    refine st1 _ ?_
    show Steps p.tables e below (T1.setTop (mkF m 4 #[.val (.ref w_TRANSIENT)] [(.ref w_INFRASTRUCTURE), (.ref w_TRANSIENT)])) _
    refine Jvm.RoadKit.acmp (g := (mkF m 4 #[.val (.ref w_TRANSIENT)] [(.ref w_INFRASTRUCTURE), (.ref w_TRANSIENT)])) X1 hx rfl rfl rfl (pc0 := 4) (pc' := 7) (same := false) rfl (hb hby d2_4) rfl (decide_eq_false fun q => (Ne.symm (Fld.ne F_ordinal_w_INFRASTRUCTURE F_ordinal_w_TRANSIENT (by decide))) (Value.ref.inj q)) (by decide) (by decide) ?_
    show Steps p.tables e below (T1.setTop (mkF m 7 #[.val (.ref w_TRANSIENT)] [])) _
    refine XS.aloadN X1.here hx rfl (hb hby d2_7) rfl rfl ?_
    show Steps p.tables e below (T1.setTop (mkF m 8 #[.val (.ref w_TRANSIENT)] [(.ref w_TRANSIENT)])) _
    refine st2 _ ?_
    show Steps p.tables e below (T2.setTop (mkF m 11 #[.val (.ref w_TRANSIENT)] [(.ref w_TRANSIENT), (.ref w_TRANSIENT)])) _
    refine Jvm.RoadKit.acmp (g := (mkF m 11 #[.val (.ref w_TRANSIENT)] [(.ref w_TRANSIENT), (.ref w_TRANSIENT)])) X2 hx rfl rfl rfl (pc0 := 11) (pc' := 21) (same := true) rfl (hb hby d2_11) rfl (decide_eq_true (congrArg Value.ref (rfl : w_TRANSIENT = w_TRANSIENT))) (by decide) (by decide) ?_
    show Steps p.tables e below (T2.setTop (mkF m 21 #[.val (.ref w_TRANSIENT)] [])) _
    refine XS.iconst X2.here hx rfl (hb hby d2_21) ?_
    show Steps p.tables e below (T2.setTop (mkF m 22 #[.val (.ref w_TRANSIENT)] [(.int (1 : Int32))])) _
    refine XS.goto X2.here hx rfl (pc0 := 22) (pc' := 26) rfl (hb hby d2_22) (by decide) (by decide) ?_
    show Steps p.tables e below (T2.setTop (mkF m 26 #[.val (.ref w_TRANSIENT)] [(.int (1 : Int32))])) _
    exact retN X2 hx (t := .boolean) Bd.returns (by simp) (hb hby d2_26) hr
  · show Q_re_TRANSIENT Z w_INFRASTRUCTURE w_TRANSIENT w_QUALITY w_PERMANENT w_REJECTED w_DEADLINE w_STALLED h0 n0 _ T2.heap _
    rw [e2]
    exact ⟨rfl, N0, rfl⟩
theorem ef_rc_QUALITY (m : MethodId) (w_QUALITY : Addr) : entryFrame m #[(.ref w_QUALITY)] 1 = mkF m 0 #[.val (.ref w_QUALITY)] [] := by first | (simp [entryFrame, mkF, argsToLocals, Value.category]; done) | rfl
def Q_rc_QUALITY (Z : State) (w_INFRASTRUCTURE w_TRANSIENT w_QUALITY w_PERMANENT w_REJECTED w_DEADLINE w_STALLED : Addr) (h0 : Heap) (n0 : Nat) (v : Option Value) (h : Heap) (L : List Loc) : Prop := v = some (.int (1 : Int32)) ∧ Fr n0 L ∧ h = h0
set_option maxRecDepth 65536 in
set_option maxHeartbeats 40000000 in
theorem rc_QUALITY (l : Launch) (Z : State) (a0 : Array Value) (hw : ∀ d ∈ tables_1, d.before a0 Z = true) (ws : List Jvm.Cond) (w_INFRASTRUCTURE w_TRANSIENT w_QUALITY w_PERMANENT w_REJECTED w_DEADLINE w_STALLED : Addr) (h0 : Heap) (n0 : Nat) (O0 : Old Z n0 h0) (hE : OwnEnv Z w_INFRASTRUCTURE w_TRANSIENT w_QUALITY w_PERMANENT w_REJECTED w_DEADLINE w_STALLED) :
    MetFree l (⟨"com/example/glacial_workflow/glacialworkflow/core/FailureClass", "isRetriedWhenCured", "()Z"⟩ : MethodName) (head1 (Jvm.Cond.code (⟨"com/example/glacial_workflow/glacialworkflow/core/FailureClass", "isRetriedWhenCured", "()Z"⟩ : MethodName) prog_8_method_5_code 1 (some .boolean) :: ws) ({ frames := 0, cells := 0, slots := 0, locals := 0 } : Room)) (fun a U => a = #[(.ref w_QUALITY)] ∧ Z.Warmed39 U.vm ∧ U.heap = h0) (fun _ _ _ _ _ => True) (fun _ U o U' => ∃ v L, o = .returned v ∧ Q_rc_QUALITY Z w_INFRASTRUCTURE w_TRANSIENT w_QUALITY w_PERMANENT w_REJECTED w_DEADLINE w_STALLED h0 n0 v U'.heap L ∧ FrameEnd U o U' L ({ frames := 0, cells := 0, slots := 0, locals := 0 } : Room).cells ({ frames := 0, cells := 0, slots := 0, locals := 0 } : Room).slots) := by
  refine MetFree.of_bodySF (plainFor_of_name pn_com_example_glacial_workflow_glacialworkflow_core_FailureClass) hisR ?_
  intro p e s m args below meth c s₁ Bd hml0 hP hK
  obtain ⟨rfl, hZ, hh⟩ := hP
  have hx := Bd.exec
  have hby := Bd.bytes
  have hml : c.maxLocals = 1 := hml0
  have hown : s.vm.findClass "com/example/glacial_workflow/glacialworkflow/core/FailureClass" = some m.cls := findClass_of_methodNamed Bd.named
  have hnm := (name_of_methodNamed Bd.named Bd.method).1
  have X0 : Stand p l e ({ frames := 0, cells := 0, slots := 0, locals := 0 } : Room) s m #[(.ref w_QUALITY)] below meth c s₁ [] 0 0 := Stand.of_body Bd
  have e0 : s₁.heap = h0 := by rw [← hh, Bd.state]; rfl
  have N0 := Fr.nil n0
  have pre0 : ∀ t, Steps p.tables e below (s₁.setTop (mkF m 0 #[.val (.ref w_QUALITY)] [])) t → Steps p.tables e below (s₁.setTop (entryFrame m #[(.ref w_QUALITY)] 1)) t := fun t k => castTop (ef_rc_QUALITY m w_QUALITY) k
  have hE_ := hE; obtain ⟨S_w_INFRASTRUCTURE, E_w_INFRASTRUCTURE, S_w_TRANSIENT, E_w_TRANSIENT, S_w_QUALITY, E_w_QUALITY, S_w_PERMANENT, E_w_PERMANENT, S_w_REJECTED, E_w_REJECTED, S_w_DEADLINE, E_w_DEADLINE, S_w_STALLED, E_w_STALLED, F_ordinal_w_INFRASTRUCTURE, F_ordinal_w_DEADLINE, F_ordinal_w_STALLED, F_ordinal_w_REJECTED, F_ordinal_w_PERMANENT, F_ordinal_w_TRANSIENT, F_ordinal_w_QUALITY⟩ := hE_
  obtain ⟨T1, X1, e1, st1⟩ := getS2 X0 hx hZ hown (host := "") (Or.inl (hw _ (List.mem_of_getElem? (i := 25) rfl))) Via.refl e0 (S_w_DEADLINE.ext O0.2) (g := (mkF m 1 #[.val (.ref w_QUALITY)] [(.ref w_QUALITY)])) rfl (hb hby d1_1)
  obtain ⟨T2, X2, e2, st2⟩ := getS2 X1 hx hZ hown (host := "") (Or.inl (hw _ (List.mem_of_getElem? (i := 26) rfl))) Via.refl e1 (S_w_STALLED.ext O0.2) (g := (mkF m 8 #[.val (.ref w_QUALITY)] [(.ref w_QUALITY)])) rfl (hb hby d1_8)
  obtain ⟨T3, X3, e3, st3⟩ := getS2 X2 hx hZ hown (host := "") (Or.inl (hw _ (List.mem_of_getElem? (i := 27) rfl))) Via.refl e2 (S_w_REJECTED.ext O0.2) (g := (mkF m 15 #[.val (.ref w_QUALITY)] [(.ref w_QUALITY)])) rfl (hb hby d1_15)
  obtain ⟨fs, hr, hrun, hended, hW, hsame⟩ := X3.leave (v := some (.int (1 : Int32))) (fun h => by rw [Bd.returns] at h; cases h)
  refine ⟨_, _, pre0 _ ?_, hrun, hended, _, _, rfl, ?_, ⟨_, rfl⟩, hW, hsame.mono (by decide) (by decide)⟩
  · show Steps p.tables e below (s₁.setTop (mkF m 0 #[.val (.ref w_QUALITY)] [])) _
    refine XS.aloadN X0.here hx rfl (hb hby d1_0) rfl rfl ?_
    show Steps p.tables e below (s₁.setTop (mkF m 1 #[.val (.ref w_QUALITY)] [(.ref w_QUALITY)])) _
    refine st1 _ ?_
    show Steps p.tables e below (T1.setTop (mkF m 4 #[.val (.ref w_QUALITY)] [(.ref w_DEADLINE), (.ref w_QUALITY)])) _
    refine Jvm.RoadKit.acmp (g := (mkF m 4 #[.val (.ref w_QUALITY)] [(.ref w_DEADLINE), (.ref w_QUALITY)])) X1 hx rfl rfl rfl (pc0 := 4) (pc' := 7) (same := false) rfl (hb hby d1_4) rfl (decide_eq_false fun q => (Ne.symm (Fld.ne F_ordinal_w_DEADLINE F_ordinal_w_QUALITY (by decide))) (Value.ref.inj q)) (by decide) (by decide) ?_
    show Steps p.tables e below (T1.setTop (mkF m 7 #[.val (.ref w_QUALITY)] [])) _
    refine XS.aloadN X1.here hx rfl (hb hby d1_7) rfl rfl ?_
    show Steps p.tables e below (T1.setTop (mkF m 8 #[.val (.ref w_QUALITY)] [(.ref w_QUALITY)])) _
    refine st2 _ ?_
    show Steps p.tables e below (T2.setTop (mkF m 11 #[.val (.ref w_QUALITY)] [(.ref w_STALLED), (.ref w_QUALITY)])) _
    refine Jvm.RoadKit.acmp (g := (mkF m 11 #[.val (.ref w_QUALITY)] [(.ref w_STALLED), (.ref w_QUALITY)])) X2 hx rfl rfl rfl (pc0 := 11) (pc' := 14) (same := false) rfl (hb hby d1_11) rfl (decide_eq_false fun q => (Ne.symm (Fld.ne F_ordinal_w_STALLED F_ordinal_w_QUALITY (by decide))) (Value.ref.inj q)) (by decide) (by decide) ?_
    show Steps p.tables e below (T2.setTop (mkF m 14 #[.val (.ref w_QUALITY)] [])) _
    refine XS.aloadN X2.here hx rfl (hb hby d1_14) rfl rfl ?_
    show Steps p.tables e below (T2.setTop (mkF m 15 #[.val (.ref w_QUALITY)] [(.ref w_QUALITY)])) _
    refine st3 _ ?_
    show Steps p.tables e below (T3.setTop (mkF m 18 #[.val (.ref w_QUALITY)] [(.ref w_REJECTED), (.ref w_QUALITY)])) _
    refine Jvm.RoadKit.acmp (g := (mkF m 18 #[.val (.ref w_QUALITY)] [(.ref w_REJECTED), (.ref w_QUALITY)])) X3 hx rfl rfl rfl (pc0 := 18) (pc' := 21) (same := false) rfl (hb hby d1_18) rfl (decide_eq_false fun q => (Ne.symm (Fld.ne F_ordinal_w_REJECTED F_ordinal_w_QUALITY (by decide))) (Value.ref.inj q)) (by decide) (by decide) ?_
    show Steps p.tables e below (T3.setTop (mkF m 21 #[.val (.ref w_QUALITY)] [])) _
    refine XS.iconst X3.here hx rfl (hb hby d1_21) ?_
    show Steps p.tables e below (T3.setTop (mkF m 22 #[.val (.ref w_QUALITY)] [(.int (1 : Int32))])) _
    refine XS.goto X3.here hx rfl (pc0 := 22) (pc' := 26) rfl (hb hby d1_22) (by decide) (by decide) ?_
    show Steps p.tables e below (T3.setTop (mkF m 26 #[.val (.ref w_QUALITY)] [(.int (1 : Int32))])) _
    exact retN X3 hx (t := .boolean) Bd.returns (by simp) (hb hby d1_26) hr
  · show Q_rc_QUALITY Z w_INFRASTRUCTURE w_TRANSIENT w_QUALITY w_PERMANENT w_REJECTED w_DEADLINE w_STALLED h0 n0 _ T3.heap _
    rw [e3]
    exact ⟨rfl, N0, rfl⟩
theorem ef_re_QUALITY (m : MethodId) (w_QUALITY : Addr) : entryFrame m #[(.ref w_QUALITY)] 1 = mkF m 0 #[.val (.ref w_QUALITY)] [] := by first | (simp [entryFrame, mkF, argsToLocals, Value.category]; done) | rfl
def Q_re_QUALITY (Z : State) (w_INFRASTRUCTURE w_TRANSIENT w_QUALITY w_PERMANENT w_REJECTED w_DEADLINE w_STALLED : Addr) (h0 : Heap) (n0 : Nat) (v : Option Value) (h : Heap) (L : List Loc) : Prop := v = some (.int (1 : Int32)) ∧ Fr n0 L ∧ h = h0
set_option maxRecDepth 65536 in
set_option maxHeartbeats 40000000 in
theorem re_QUALITY (l : Launch) (Z : State) (a0 : Array Value) (hw : ∀ d ∈ tables_1, d.before a0 Z = true) (ws : List Jvm.Cond) (w_INFRASTRUCTURE w_TRANSIENT w_QUALITY w_PERMANENT w_REJECTED w_DEADLINE w_STALLED : Addr) (h0 : Heap) (n0 : Nat) (O0 : Old Z n0 h0) (hE : OwnEnv Z w_INFRASTRUCTURE w_TRANSIENT w_QUALITY w_PERMANENT w_REJECTED w_DEADLINE w_STALLED) :
    MetFree l (⟨"com/example/glacial_workflow/glacialworkflow/core/FailureClass", "isRetried", "()Z"⟩ : MethodName) (head1 (Jvm.Cond.code (⟨"com/example/glacial_workflow/glacialworkflow/core/FailureClass", "isRetried", "()Z"⟩ : MethodName) prog_8_method_4_code 1 (some .boolean) :: ws) ({ frames := 0, cells := 0, slots := 0, locals := 0 } : Room)) (fun a U => a = #[(.ref w_QUALITY)] ∧ Z.Warmed39 U.vm ∧ U.heap = h0) (fun _ _ _ _ _ => True) (fun _ U o U' => ∃ v L, o = .returned v ∧ Q_re_QUALITY Z w_INFRASTRUCTURE w_TRANSIENT w_QUALITY w_PERMANENT w_REJECTED w_DEADLINE w_STALLED h0 n0 v U'.heap L ∧ FrameEnd U o U' L ({ frames := 0, cells := 0, slots := 0, locals := 0 } : Room).cells ({ frames := 0, cells := 0, slots := 0, locals := 0 } : Room).slots) := by
  refine MetFree.of_bodySF (plainFor_of_name pn_com_example_glacial_workflow_glacialworkflow_core_FailureClass) hisR ?_
  intro p e s m args below meth c s₁ Bd hml0 hP hK
  obtain ⟨rfl, hZ, hh⟩ := hP
  have hx := Bd.exec
  have hby := Bd.bytes
  have hml : c.maxLocals = 1 := hml0
  have hown : s.vm.findClass "com/example/glacial_workflow/glacialworkflow/core/FailureClass" = some m.cls := findClass_of_methodNamed Bd.named
  have hnm := (name_of_methodNamed Bd.named Bd.method).1
  have X0 : Stand p l e ({ frames := 0, cells := 0, slots := 0, locals := 0 } : Room) s m #[(.ref w_QUALITY)] below meth c s₁ [] 0 0 := Stand.of_body Bd
  have e0 : s₁.heap = h0 := by rw [← hh, Bd.state]; rfl
  have N0 := Fr.nil n0
  have pre0 : ∀ t, Steps p.tables e below (s₁.setTop (mkF m 0 #[.val (.ref w_QUALITY)] [])) t → Steps p.tables e below (s₁.setTop (entryFrame m #[(.ref w_QUALITY)] 1)) t := fun t k => castTop (ef_re_QUALITY m w_QUALITY) k
  have hE_ := hE; obtain ⟨S_w_INFRASTRUCTURE, E_w_INFRASTRUCTURE, S_w_TRANSIENT, E_w_TRANSIENT, S_w_QUALITY, E_w_QUALITY, S_w_PERMANENT, E_w_PERMANENT, S_w_REJECTED, E_w_REJECTED, S_w_DEADLINE, E_w_DEADLINE, S_w_STALLED, E_w_STALLED, F_ordinal_w_INFRASTRUCTURE, F_ordinal_w_DEADLINE, F_ordinal_w_STALLED, F_ordinal_w_REJECTED, F_ordinal_w_PERMANENT, F_ordinal_w_TRANSIENT, F_ordinal_w_QUALITY⟩ := hE_
  obtain ⟨T1, X1, e1, st1⟩ := getS2 X0 hx hZ hown (host := "") (Or.inl (hw _ (List.mem_of_getElem? (i := 33) rfl))) Via.refl e0 (S_w_INFRASTRUCTURE.ext O0.2) (g := (mkF m 1 #[.val (.ref w_QUALITY)] [(.ref w_QUALITY)])) rfl (hb hby d2_1)
  obtain ⟨T2, X2, e2, st2⟩ := getS2 X1 hx hZ hown (host := "") (Or.inl (hw _ (List.mem_of_getElem? (i := 34) rfl))) Via.refl e1 (S_w_TRANSIENT.ext O0.2) (g := (mkF m 8 #[.val (.ref w_QUALITY)] [(.ref w_QUALITY)])) rfl (hb hby d2_8)
  obtain ⟨T3, X3, e3, st3⟩ := getS2 X2 hx hZ hown (host := "") (Or.inl (hw _ (List.mem_of_getElem? (i := 35) rfl))) Via.refl e2 (S_w_QUALITY.ext O0.2) (g := (mkF m 15 #[.val (.ref w_QUALITY)] [(.ref w_QUALITY)])) rfl (hb hby d2_15)
  obtain ⟨fs, hr, hrun, hended, hW, hsame⟩ := X3.leave (v := some (.int (1 : Int32))) (fun h => by rw [Bd.returns] at h; cases h)
  refine ⟨_, _, pre0 _ ?_, hrun, hended, _, _, rfl, ?_, ⟨_, rfl⟩, hW, hsame.mono (by decide) (by decide)⟩
  · show Steps p.tables e below (s₁.setTop (mkF m 0 #[.val (.ref w_QUALITY)] [])) _
    refine XS.aloadN X0.here hx rfl (hb hby d2_0) rfl rfl ?_
    show Steps p.tables e below (s₁.setTop (mkF m 1 #[.val (.ref w_QUALITY)] [(.ref w_QUALITY)])) _
    refine st1 _ ?_
    show Steps p.tables e below (T1.setTop (mkF m 4 #[.val (.ref w_QUALITY)] [(.ref w_INFRASTRUCTURE), (.ref w_QUALITY)])) _
    refine Jvm.RoadKit.acmp (g := (mkF m 4 #[.val (.ref w_QUALITY)] [(.ref w_INFRASTRUCTURE), (.ref w_QUALITY)])) X1 hx rfl rfl rfl (pc0 := 4) (pc' := 7) (same := false) rfl (hb hby d2_4) rfl (decide_eq_false fun q => (Ne.symm (Fld.ne F_ordinal_w_INFRASTRUCTURE F_ordinal_w_QUALITY (by decide))) (Value.ref.inj q)) (by decide) (by decide) ?_
    show Steps p.tables e below (T1.setTop (mkF m 7 #[.val (.ref w_QUALITY)] [])) _
    refine XS.aloadN X1.here hx rfl (hb hby d2_7) rfl rfl ?_
    show Steps p.tables e below (T1.setTop (mkF m 8 #[.val (.ref w_QUALITY)] [(.ref w_QUALITY)])) _
    refine st2 _ ?_
    show Steps p.tables e below (T2.setTop (mkF m 11 #[.val (.ref w_QUALITY)] [(.ref w_TRANSIENT), (.ref w_QUALITY)])) _
    refine Jvm.RoadKit.acmp (g := (mkF m 11 #[.val (.ref w_QUALITY)] [(.ref w_TRANSIENT), (.ref w_QUALITY)])) X2 hx rfl rfl rfl (pc0 := 11) (pc' := 14) (same := false) rfl (hb hby d2_11) rfl (decide_eq_false fun q => (Ne.symm (Fld.ne F_ordinal_w_TRANSIENT F_ordinal_w_QUALITY (by decide))) (Value.ref.inj q)) (by decide) (by decide) ?_
    show Steps p.tables e below (T2.setTop (mkF m 14 #[.val (.ref w_QUALITY)] [])) _
    refine XS.aloadN X2.here hx rfl (hb hby d2_14) rfl rfl ?_
    show Steps p.tables e below (T2.setTop (mkF m 15 #[.val (.ref w_QUALITY)] [(.ref w_QUALITY)])) _
    refine st3 _ ?_
    show Steps p.tables e below (T3.setTop (mkF m 18 #[.val (.ref w_QUALITY)] [(.ref w_QUALITY), (.ref w_QUALITY)])) _
    refine Jvm.RoadKit.acmp (g := (mkF m 18 #[.val (.ref w_QUALITY)] [(.ref w_QUALITY), (.ref w_QUALITY)])) X3 hx rfl rfl rfl (pc0 := 18) (pc' := 21) (same := true) rfl (hb hby d2_18) rfl (decide_eq_true (congrArg Value.ref (rfl : w_QUALITY = w_QUALITY))) (by decide) (by decide) ?_
    show Steps p.tables e below (T3.setTop (mkF m 21 #[.val (.ref w_QUALITY)] [])) _
    refine XS.iconst X3.here hx rfl (hb hby d2_21) ?_
    show Steps p.tables e below (T3.setTop (mkF m 22 #[.val (.ref w_QUALITY)] [(.int (1 : Int32))])) _
    refine XS.goto X3.here hx rfl (pc0 := 22) (pc' := 26) rfl (hb hby d2_22) (by decide) (by decide) ?_
    show Steps p.tables e below (T3.setTop (mkF m 26 #[.val (.ref w_QUALITY)] [(.int (1 : Int32))])) _
    exact retN X3 hx (t := .boolean) Bd.returns (by simp) (hb hby d2_26) hr
  · show Q_re_QUALITY Z w_INFRASTRUCTURE w_TRANSIENT w_QUALITY w_PERMANENT w_REJECTED w_DEADLINE w_STALLED h0 n0 _ T3.heap _
    rw [e3]
    exact ⟨rfl, N0, rfl⟩
theorem ef_rc_PERMANENT (m : MethodId) (w_PERMANENT : Addr) : entryFrame m #[(.ref w_PERMANENT)] 1 = mkF m 0 #[.val (.ref w_PERMANENT)] [] := by first | (simp [entryFrame, mkF, argsToLocals, Value.category]; done) | rfl
def Q_rc_PERMANENT (Z : State) (w_INFRASTRUCTURE w_TRANSIENT w_QUALITY w_PERMANENT w_REJECTED w_DEADLINE w_STALLED : Addr) (h0 : Heap) (n0 : Nat) (v : Option Value) (h : Heap) (L : List Loc) : Prop := v = some (.int (1 : Int32)) ∧ Fr n0 L ∧ h = h0
set_option maxRecDepth 65536 in
set_option maxHeartbeats 40000000 in
theorem rc_PERMANENT (l : Launch) (Z : State) (a0 : Array Value) (hw : ∀ d ∈ tables_1, d.before a0 Z = true) (ws : List Jvm.Cond) (w_INFRASTRUCTURE w_TRANSIENT w_QUALITY w_PERMANENT w_REJECTED w_DEADLINE w_STALLED : Addr) (h0 : Heap) (n0 : Nat) (O0 : Old Z n0 h0) (hE : OwnEnv Z w_INFRASTRUCTURE w_TRANSIENT w_QUALITY w_PERMANENT w_REJECTED w_DEADLINE w_STALLED) :
    MetFree l (⟨"com/example/glacial_workflow/glacialworkflow/core/FailureClass", "isRetriedWhenCured", "()Z"⟩ : MethodName) (head1 (Jvm.Cond.code (⟨"com/example/glacial_workflow/glacialworkflow/core/FailureClass", "isRetriedWhenCured", "()Z"⟩ : MethodName) prog_8_method_5_code 1 (some .boolean) :: ws) ({ frames := 0, cells := 0, slots := 0, locals := 0 } : Room)) (fun a U => a = #[(.ref w_PERMANENT)] ∧ Z.Warmed39 U.vm ∧ U.heap = h0) (fun _ _ _ _ _ => True) (fun _ U o U' => ∃ v L, o = .returned v ∧ Q_rc_PERMANENT Z w_INFRASTRUCTURE w_TRANSIENT w_QUALITY w_PERMANENT w_REJECTED w_DEADLINE w_STALLED h0 n0 v U'.heap L ∧ FrameEnd U o U' L ({ frames := 0, cells := 0, slots := 0, locals := 0 } : Room).cells ({ frames := 0, cells := 0, slots := 0, locals := 0 } : Room).slots) := by
  refine MetFree.of_bodySF (plainFor_of_name pn_com_example_glacial_workflow_glacialworkflow_core_FailureClass) hisR ?_
  intro p e s m args below meth c s₁ Bd hml0 hP hK
  obtain ⟨rfl, hZ, hh⟩ := hP
  have hx := Bd.exec
  have hby := Bd.bytes
  have hml : c.maxLocals = 1 := hml0
  have hown : s.vm.findClass "com/example/glacial_workflow/glacialworkflow/core/FailureClass" = some m.cls := findClass_of_methodNamed Bd.named
  have hnm := (name_of_methodNamed Bd.named Bd.method).1
  have X0 : Stand p l e ({ frames := 0, cells := 0, slots := 0, locals := 0 } : Room) s m #[(.ref w_PERMANENT)] below meth c s₁ [] 0 0 := Stand.of_body Bd
  have e0 : s₁.heap = h0 := by rw [← hh, Bd.state]; rfl
  have N0 := Fr.nil n0
  have pre0 : ∀ t, Steps p.tables e below (s₁.setTop (mkF m 0 #[.val (.ref w_PERMANENT)] [])) t → Steps p.tables e below (s₁.setTop (entryFrame m #[(.ref w_PERMANENT)] 1)) t := fun t k => castTop (ef_rc_PERMANENT m w_PERMANENT) k
  have hE_ := hE; obtain ⟨S_w_INFRASTRUCTURE, E_w_INFRASTRUCTURE, S_w_TRANSIENT, E_w_TRANSIENT, S_w_QUALITY, E_w_QUALITY, S_w_PERMANENT, E_w_PERMANENT, S_w_REJECTED, E_w_REJECTED, S_w_DEADLINE, E_w_DEADLINE, S_w_STALLED, E_w_STALLED, F_ordinal_w_INFRASTRUCTURE, F_ordinal_w_DEADLINE, F_ordinal_w_STALLED, F_ordinal_w_REJECTED, F_ordinal_w_PERMANENT, F_ordinal_w_TRANSIENT, F_ordinal_w_QUALITY⟩ := hE_
  obtain ⟨T1, X1, e1, st1⟩ := getS2 X0 hx hZ hown (host := "") (Or.inl (hw _ (List.mem_of_getElem? (i := 25) rfl))) Via.refl e0 (S_w_DEADLINE.ext O0.2) (g := (mkF m 1 #[.val (.ref w_PERMANENT)] [(.ref w_PERMANENT)])) rfl (hb hby d1_1)
  obtain ⟨T2, X2, e2, st2⟩ := getS2 X1 hx hZ hown (host := "") (Or.inl (hw _ (List.mem_of_getElem? (i := 26) rfl))) Via.refl e1 (S_w_STALLED.ext O0.2) (g := (mkF m 8 #[.val (.ref w_PERMANENT)] [(.ref w_PERMANENT)])) rfl (hb hby d1_8)
  obtain ⟨T3, X3, e3, st3⟩ := getS2 X2 hx hZ hown (host := "") (Or.inl (hw _ (List.mem_of_getElem? (i := 27) rfl))) Via.refl e2 (S_w_REJECTED.ext O0.2) (g := (mkF m 15 #[.val (.ref w_PERMANENT)] [(.ref w_PERMANENT)])) rfl (hb hby d1_15)
  obtain ⟨fs, hr, hrun, hended, hW, hsame⟩ := X3.leave (v := some (.int (1 : Int32))) (fun h => by rw [Bd.returns] at h; cases h)
  refine ⟨_, _, pre0 _ ?_, hrun, hended, _, _, rfl, ?_, ⟨_, rfl⟩, hW, hsame.mono (by decide) (by decide)⟩
  · show Steps p.tables e below (s₁.setTop (mkF m 0 #[.val (.ref w_PERMANENT)] [])) _
    refine XS.aloadN X0.here hx rfl (hb hby d1_0) rfl rfl ?_
    show Steps p.tables e below (s₁.setTop (mkF m 1 #[.val (.ref w_PERMANENT)] [(.ref w_PERMANENT)])) _
    refine st1 _ ?_
    show Steps p.tables e below (T1.setTop (mkF m 4 #[.val (.ref w_PERMANENT)] [(.ref w_DEADLINE), (.ref w_PERMANENT)])) _
    refine Jvm.RoadKit.acmp (g := (mkF m 4 #[.val (.ref w_PERMANENT)] [(.ref w_DEADLINE), (.ref w_PERMANENT)])) X1 hx rfl rfl rfl (pc0 := 4) (pc' := 7) (same := false) rfl (hb hby d1_4) rfl (decide_eq_false fun q => (Ne.symm (Fld.ne F_ordinal_w_DEADLINE F_ordinal_w_PERMANENT (by decide))) (Value.ref.inj q)) (by decide) (by decide) ?_
    show Steps p.tables e below (T1.setTop (mkF m 7 #[.val (.ref w_PERMANENT)] [])) _
    refine XS.aloadN X1.here hx rfl (hb hby d1_7) rfl rfl ?_
    show Steps p.tables e below (T1.setTop (mkF m 8 #[.val (.ref w_PERMANENT)] [(.ref w_PERMANENT)])) _
    refine st2 _ ?_
    show Steps p.tables e below (T2.setTop (mkF m 11 #[.val (.ref w_PERMANENT)] [(.ref w_STALLED), (.ref w_PERMANENT)])) _
    refine Jvm.RoadKit.acmp (g := (mkF m 11 #[.val (.ref w_PERMANENT)] [(.ref w_STALLED), (.ref w_PERMANENT)])) X2 hx rfl rfl rfl (pc0 := 11) (pc' := 14) (same := false) rfl (hb hby d1_11) rfl (decide_eq_false fun q => (Ne.symm (Fld.ne F_ordinal_w_STALLED F_ordinal_w_PERMANENT (by decide))) (Value.ref.inj q)) (by decide) (by decide) ?_
    show Steps p.tables e below (T2.setTop (mkF m 14 #[.val (.ref w_PERMANENT)] [])) _
    refine XS.aloadN X2.here hx rfl (hb hby d1_14) rfl rfl ?_
    show Steps p.tables e below (T2.setTop (mkF m 15 #[.val (.ref w_PERMANENT)] [(.ref w_PERMANENT)])) _
    refine st3 _ ?_
    show Steps p.tables e below (T3.setTop (mkF m 18 #[.val (.ref w_PERMANENT)] [(.ref w_REJECTED), (.ref w_PERMANENT)])) _
    refine Jvm.RoadKit.acmp (g := (mkF m 18 #[.val (.ref w_PERMANENT)] [(.ref w_REJECTED), (.ref w_PERMANENT)])) X3 hx rfl rfl rfl (pc0 := 18) (pc' := 21) (same := false) rfl (hb hby d1_18) rfl (decide_eq_false fun q => (Ne.symm (Fld.ne F_ordinal_w_REJECTED F_ordinal_w_PERMANENT (by decide))) (Value.ref.inj q)) (by decide) (by decide) ?_
    show Steps p.tables e below (T3.setTop (mkF m 21 #[.val (.ref w_PERMANENT)] [])) _
    refine XS.iconst X3.here hx rfl (hb hby d1_21) ?_
    show Steps p.tables e below (T3.setTop (mkF m 22 #[.val (.ref w_PERMANENT)] [(.int (1 : Int32))])) _
    refine XS.goto X3.here hx rfl (pc0 := 22) (pc' := 26) rfl (hb hby d1_22) (by decide) (by decide) ?_
    show Steps p.tables e below (T3.setTop (mkF m 26 #[.val (.ref w_PERMANENT)] [(.int (1 : Int32))])) _
    exact retN X3 hx (t := .boolean) Bd.returns (by simp) (hb hby d1_26) hr
  · show Q_rc_PERMANENT Z w_INFRASTRUCTURE w_TRANSIENT w_QUALITY w_PERMANENT w_REJECTED w_DEADLINE w_STALLED h0 n0 _ T3.heap _
    rw [e3]
    exact ⟨rfl, N0, rfl⟩
theorem ef_re_PERMANENT (m : MethodId) (w_PERMANENT : Addr) : entryFrame m #[(.ref w_PERMANENT)] 1 = mkF m 0 #[.val (.ref w_PERMANENT)] [] := by first | (simp [entryFrame, mkF, argsToLocals, Value.category]; done) | rfl
def Q_re_PERMANENT (Z : State) (w_INFRASTRUCTURE w_TRANSIENT w_QUALITY w_PERMANENT w_REJECTED w_DEADLINE w_STALLED : Addr) (h0 : Heap) (n0 : Nat) (v : Option Value) (h : Heap) (L : List Loc) : Prop := v = some (.int (0 : Int32)) ∧ Fr n0 L ∧ h = h0
set_option maxRecDepth 65536 in
set_option maxHeartbeats 40000000 in
theorem re_PERMANENT (l : Launch) (Z : State) (a0 : Array Value) (hw : ∀ d ∈ tables_1, d.before a0 Z = true) (ws : List Jvm.Cond) (w_INFRASTRUCTURE w_TRANSIENT w_QUALITY w_PERMANENT w_REJECTED w_DEADLINE w_STALLED : Addr) (h0 : Heap) (n0 : Nat) (O0 : Old Z n0 h0) (hE : OwnEnv Z w_INFRASTRUCTURE w_TRANSIENT w_QUALITY w_PERMANENT w_REJECTED w_DEADLINE w_STALLED) :
    MetFree l (⟨"com/example/glacial_workflow/glacialworkflow/core/FailureClass", "isRetried", "()Z"⟩ : MethodName) (head1 (Jvm.Cond.code (⟨"com/example/glacial_workflow/glacialworkflow/core/FailureClass", "isRetried", "()Z"⟩ : MethodName) prog_8_method_4_code 1 (some .boolean) :: ws) ({ frames := 0, cells := 0, slots := 0, locals := 0 } : Room)) (fun a U => a = #[(.ref w_PERMANENT)] ∧ Z.Warmed39 U.vm ∧ U.heap = h0) (fun _ _ _ _ _ => True) (fun _ U o U' => ∃ v L, o = .returned v ∧ Q_re_PERMANENT Z w_INFRASTRUCTURE w_TRANSIENT w_QUALITY w_PERMANENT w_REJECTED w_DEADLINE w_STALLED h0 n0 v U'.heap L ∧ FrameEnd U o U' L ({ frames := 0, cells := 0, slots := 0, locals := 0 } : Room).cells ({ frames := 0, cells := 0, slots := 0, locals := 0 } : Room).slots) := by
  refine MetFree.of_bodySF (plainFor_of_name pn_com_example_glacial_workflow_glacialworkflow_core_FailureClass) hisR ?_
  intro p e s m args below meth c s₁ Bd hml0 hP hK
  obtain ⟨rfl, hZ, hh⟩ := hP
  have hx := Bd.exec
  have hby := Bd.bytes
  have hml : c.maxLocals = 1 := hml0
  have hown : s.vm.findClass "com/example/glacial_workflow/glacialworkflow/core/FailureClass" = some m.cls := findClass_of_methodNamed Bd.named
  have hnm := (name_of_methodNamed Bd.named Bd.method).1
  have X0 : Stand p l e ({ frames := 0, cells := 0, slots := 0, locals := 0 } : Room) s m #[(.ref w_PERMANENT)] below meth c s₁ [] 0 0 := Stand.of_body Bd
  have e0 : s₁.heap = h0 := by rw [← hh, Bd.state]; rfl
  have N0 := Fr.nil n0
  have pre0 : ∀ t, Steps p.tables e below (s₁.setTop (mkF m 0 #[.val (.ref w_PERMANENT)] [])) t → Steps p.tables e below (s₁.setTop (entryFrame m #[(.ref w_PERMANENT)] 1)) t := fun t k => castTop (ef_re_PERMANENT m w_PERMANENT) k
  have hE_ := hE; obtain ⟨S_w_INFRASTRUCTURE, E_w_INFRASTRUCTURE, S_w_TRANSIENT, E_w_TRANSIENT, S_w_QUALITY, E_w_QUALITY, S_w_PERMANENT, E_w_PERMANENT, S_w_REJECTED, E_w_REJECTED, S_w_DEADLINE, E_w_DEADLINE, S_w_STALLED, E_w_STALLED, F_ordinal_w_INFRASTRUCTURE, F_ordinal_w_DEADLINE, F_ordinal_w_STALLED, F_ordinal_w_REJECTED, F_ordinal_w_PERMANENT, F_ordinal_w_TRANSIENT, F_ordinal_w_QUALITY⟩ := hE_
  obtain ⟨T1, X1, e1, st1⟩ := getS2 X0 hx hZ hown (host := "") (Or.inl (hw _ (List.mem_of_getElem? (i := 33) rfl))) Via.refl e0 (S_w_INFRASTRUCTURE.ext O0.2) (g := (mkF m 1 #[.val (.ref w_PERMANENT)] [(.ref w_PERMANENT)])) rfl (hb hby d2_1)
  obtain ⟨T2, X2, e2, st2⟩ := getS2 X1 hx hZ hown (host := "") (Or.inl (hw _ (List.mem_of_getElem? (i := 34) rfl))) Via.refl e1 (S_w_TRANSIENT.ext O0.2) (g := (mkF m 8 #[.val (.ref w_PERMANENT)] [(.ref w_PERMANENT)])) rfl (hb hby d2_8)
  obtain ⟨T3, X3, e3, st3⟩ := getS2 X2 hx hZ hown (host := "") (Or.inl (hw _ (List.mem_of_getElem? (i := 35) rfl))) Via.refl e2 (S_w_QUALITY.ext O0.2) (g := (mkF m 15 #[.val (.ref w_PERMANENT)] [(.ref w_PERMANENT)])) rfl (hb hby d2_15)
  obtain ⟨fs, hr, hrun, hended, hW, hsame⟩ := X3.leave (v := some (.int (0 : Int32))) (fun h => by rw [Bd.returns] at h; cases h)
  refine ⟨_, _, pre0 _ ?_, hrun, hended, _, _, rfl, ?_, ⟨_, rfl⟩, hW, hsame.mono (by decide) (by decide)⟩
  · show Steps p.tables e below (s₁.setTop (mkF m 0 #[.val (.ref w_PERMANENT)] [])) _
    refine XS.aloadN X0.here hx rfl (hb hby d2_0) rfl rfl ?_
    show Steps p.tables e below (s₁.setTop (mkF m 1 #[.val (.ref w_PERMANENT)] [(.ref w_PERMANENT)])) _
    refine st1 _ ?_
    show Steps p.tables e below (T1.setTop (mkF m 4 #[.val (.ref w_PERMANENT)] [(.ref w_INFRASTRUCTURE), (.ref w_PERMANENT)])) _
    refine Jvm.RoadKit.acmp (g := (mkF m 4 #[.val (.ref w_PERMANENT)] [(.ref w_INFRASTRUCTURE), (.ref w_PERMANENT)])) X1 hx rfl rfl rfl (pc0 := 4) (pc' := 7) (same := false) rfl (hb hby d2_4) rfl (decide_eq_false fun q => (Ne.symm (Fld.ne F_ordinal_w_INFRASTRUCTURE F_ordinal_w_PERMANENT (by decide))) (Value.ref.inj q)) (by decide) (by decide) ?_
    show Steps p.tables e below (T1.setTop (mkF m 7 #[.val (.ref w_PERMANENT)] [])) _
    refine XS.aloadN X1.here hx rfl (hb hby d2_7) rfl rfl ?_
    show Steps p.tables e below (T1.setTop (mkF m 8 #[.val (.ref w_PERMANENT)] [(.ref w_PERMANENT)])) _
    refine st2 _ ?_
    show Steps p.tables e below (T2.setTop (mkF m 11 #[.val (.ref w_PERMANENT)] [(.ref w_TRANSIENT), (.ref w_PERMANENT)])) _
    refine Jvm.RoadKit.acmp (g := (mkF m 11 #[.val (.ref w_PERMANENT)] [(.ref w_TRANSIENT), (.ref w_PERMANENT)])) X2 hx rfl rfl rfl (pc0 := 11) (pc' := 14) (same := false) rfl (hb hby d2_11) rfl (decide_eq_false fun q => (Fld.ne F_ordinal_w_PERMANENT F_ordinal_w_TRANSIENT (by decide)) (Value.ref.inj q)) (by decide) (by decide) ?_
    show Steps p.tables e below (T2.setTop (mkF m 14 #[.val (.ref w_PERMANENT)] [])) _
    refine XS.aloadN X2.here hx rfl (hb hby d2_14) rfl rfl ?_
    show Steps p.tables e below (T2.setTop (mkF m 15 #[.val (.ref w_PERMANENT)] [(.ref w_PERMANENT)])) _
    refine st3 _ ?_
    show Steps p.tables e below (T3.setTop (mkF m 18 #[.val (.ref w_PERMANENT)] [(.ref w_QUALITY), (.ref w_PERMANENT)])) _
    refine Jvm.RoadKit.acmp (g := (mkF m 18 #[.val (.ref w_PERMANENT)] [(.ref w_QUALITY), (.ref w_PERMANENT)])) X3 hx rfl rfl rfl (pc0 := 18) (pc' := 25) (same := false) rfl (hb hby d2_18) rfl (decide_eq_false fun q => (Fld.ne F_ordinal_w_PERMANENT F_ordinal_w_QUALITY (by decide)) (Value.ref.inj q)) (by decide) (by decide) ?_
    show Steps p.tables e below (T3.setTop (mkF m 25 #[.val (.ref w_PERMANENT)] [])) _
    refine XS.iconst X3.here hx rfl (hb hby d2_25) ?_
    show Steps p.tables e below (T3.setTop (mkF m 26 #[.val (.ref w_PERMANENT)] [(.int (0 : Int32))])) _
    exact retN X3 hx (t := .boolean) Bd.returns (by simp) (hb hby d2_26) hr
  · show Q_re_PERMANENT Z w_INFRASTRUCTURE w_TRANSIENT w_QUALITY w_PERMANENT w_REJECTED w_DEADLINE w_STALLED h0 n0 _ T3.heap _
    rw [e3]
    exact ⟨rfl, N0, rfl⟩
theorem ef_rc_REJECTED (m : MethodId) (w_REJECTED : Addr) : entryFrame m #[(.ref w_REJECTED)] 1 = mkF m 0 #[.val (.ref w_REJECTED)] [] := by first | (simp [entryFrame, mkF, argsToLocals, Value.category]; done) | rfl
def Q_rc_REJECTED (Z : State) (w_INFRASTRUCTURE w_TRANSIENT w_QUALITY w_PERMANENT w_REJECTED w_DEADLINE w_STALLED : Addr) (h0 : Heap) (n0 : Nat) (v : Option Value) (h : Heap) (L : List Loc) : Prop := v = some (.int (0 : Int32)) ∧ Fr n0 L ∧ h = h0
set_option maxRecDepth 65536 in
set_option maxHeartbeats 40000000 in
theorem rc_REJECTED (l : Launch) (Z : State) (a0 : Array Value) (hw : ∀ d ∈ tables_1, d.before a0 Z = true) (ws : List Jvm.Cond) (w_INFRASTRUCTURE w_TRANSIENT w_QUALITY w_PERMANENT w_REJECTED w_DEADLINE w_STALLED : Addr) (h0 : Heap) (n0 : Nat) (O0 : Old Z n0 h0) (hE : OwnEnv Z w_INFRASTRUCTURE w_TRANSIENT w_QUALITY w_PERMANENT w_REJECTED w_DEADLINE w_STALLED) :
    MetFree l (⟨"com/example/glacial_workflow/glacialworkflow/core/FailureClass", "isRetriedWhenCured", "()Z"⟩ : MethodName) (head1 (Jvm.Cond.code (⟨"com/example/glacial_workflow/glacialworkflow/core/FailureClass", "isRetriedWhenCured", "()Z"⟩ : MethodName) prog_8_method_5_code 1 (some .boolean) :: ws) ({ frames := 0, cells := 0, slots := 0, locals := 0 } : Room)) (fun a U => a = #[(.ref w_REJECTED)] ∧ Z.Warmed39 U.vm ∧ U.heap = h0) (fun _ _ _ _ _ => True) (fun _ U o U' => ∃ v L, o = .returned v ∧ Q_rc_REJECTED Z w_INFRASTRUCTURE w_TRANSIENT w_QUALITY w_PERMANENT w_REJECTED w_DEADLINE w_STALLED h0 n0 v U'.heap L ∧ FrameEnd U o U' L ({ frames := 0, cells := 0, slots := 0, locals := 0 } : Room).cells ({ frames := 0, cells := 0, slots := 0, locals := 0 } : Room).slots) := by
  refine MetFree.of_bodySF (plainFor_of_name pn_com_example_glacial_workflow_glacialworkflow_core_FailureClass) hisR ?_
  intro p e s m args below meth c s₁ Bd hml0 hP hK
  obtain ⟨rfl, hZ, hh⟩ := hP
  have hx := Bd.exec
  have hby := Bd.bytes
  have hml : c.maxLocals = 1 := hml0
  have hown : s.vm.findClass "com/example/glacial_workflow/glacialworkflow/core/FailureClass" = some m.cls := findClass_of_methodNamed Bd.named
  have hnm := (name_of_methodNamed Bd.named Bd.method).1
  have X0 : Stand p l e ({ frames := 0, cells := 0, slots := 0, locals := 0 } : Room) s m #[(.ref w_REJECTED)] below meth c s₁ [] 0 0 := Stand.of_body Bd
  have e0 : s₁.heap = h0 := by rw [← hh, Bd.state]; rfl
  have N0 := Fr.nil n0
  have pre0 : ∀ t, Steps p.tables e below (s₁.setTop (mkF m 0 #[.val (.ref w_REJECTED)] [])) t → Steps p.tables e below (s₁.setTop (entryFrame m #[(.ref w_REJECTED)] 1)) t := fun t k => castTop (ef_rc_REJECTED m w_REJECTED) k
  have hE_ := hE; obtain ⟨S_w_INFRASTRUCTURE, E_w_INFRASTRUCTURE, S_w_TRANSIENT, E_w_TRANSIENT, S_w_QUALITY, E_w_QUALITY, S_w_PERMANENT, E_w_PERMANENT, S_w_REJECTED, E_w_REJECTED, S_w_DEADLINE, E_w_DEADLINE, S_w_STALLED, E_w_STALLED, F_ordinal_w_INFRASTRUCTURE, F_ordinal_w_DEADLINE, F_ordinal_w_STALLED, F_ordinal_w_REJECTED, F_ordinal_w_PERMANENT, F_ordinal_w_TRANSIENT, F_ordinal_w_QUALITY⟩ := hE_
  obtain ⟨T1, X1, e1, st1⟩ := getS2 X0 hx hZ hown (host := "") (Or.inl (hw _ (List.mem_of_getElem? (i := 25) rfl))) Via.refl e0 (S_w_DEADLINE.ext O0.2) (g := (mkF m 1 #[.val (.ref w_REJECTED)] [(.ref w_REJECTED)])) rfl (hb hby d1_1)
  obtain ⟨T2, X2, e2, st2⟩ := getS2 X1 hx hZ hown (host := "") (Or.inl (hw _ (List.mem_of_getElem? (i := 26) rfl))) Via.refl e1 (S_w_STALLED.ext O0.2) (g := (mkF m 8 #[.val (.ref w_REJECTED)] [(.ref w_REJECTED)])) rfl (hb hby d1_8)
  obtain ⟨T3, X3, e3, st3⟩ := getS2 X2 hx hZ hown (host := "") (Or.inl (hw _ (List.mem_of_getElem? (i := 27) rfl))) Via.refl e2 (S_w_REJECTED.ext O0.2) (g := (mkF m 15 #[.val (.ref w_REJECTED)] [(.ref w_REJECTED)])) rfl (hb hby d1_15)
  obtain ⟨fs, hr, hrun, hended, hW, hsame⟩ := X3.leave (v := some (.int (0 : Int32))) (fun h => by rw [Bd.returns] at h; cases h)
  refine ⟨_, _, pre0 _ ?_, hrun, hended, _, _, rfl, ?_, ⟨_, rfl⟩, hW, hsame.mono (by decide) (by decide)⟩
  · show Steps p.tables e below (s₁.setTop (mkF m 0 #[.val (.ref w_REJECTED)] [])) _
    refine XS.aloadN X0.here hx rfl (hb hby d1_0) rfl rfl ?_
    show Steps p.tables e below (s₁.setTop (mkF m 1 #[.val (.ref w_REJECTED)] [(.ref w_REJECTED)])) _
    refine st1 _ ?_
    show Steps p.tables e below (T1.setTop (mkF m 4 #[.val (.ref w_REJECTED)] [(.ref w_DEADLINE), (.ref w_REJECTED)])) _
    refine Jvm.RoadKit.acmp (g := (mkF m 4 #[.val (.ref w_REJECTED)] [(.ref w_DEADLINE), (.ref w_REJECTED)])) X1 hx rfl rfl rfl (pc0 := 4) (pc' := 7) (same := false) rfl (hb hby d1_4) rfl (decide_eq_false fun q => (Ne.symm (Fld.ne F_ordinal_w_DEADLINE F_ordinal_w_REJECTED (by decide))) (Value.ref.inj q)) (by decide) (by decide) ?_
    show Steps p.tables e below (T1.setTop (mkF m 7 #[.val (.ref w_REJECTED)] [])) _
    refine XS.aloadN X1.here hx rfl (hb hby d1_7) rfl rfl ?_
    show Steps p.tables e below (T1.setTop (mkF m 8 #[.val (.ref w_REJECTED)] [(.ref w_REJECTED)])) _
    refine st2 _ ?_
    show Steps p.tables e below (T2.setTop (mkF m 11 #[.val (.ref w_REJECTED)] [(.ref w_STALLED), (.ref w_REJECTED)])) _
    refine Jvm.RoadKit.acmp (g := (mkF m 11 #[.val (.ref w_REJECTED)] [(.ref w_STALLED), (.ref w_REJECTED)])) X2 hx rfl rfl rfl (pc0 := 11) (pc' := 14) (same := false) rfl (hb hby d1_11) rfl (decide_eq_false fun q => (Ne.symm (Fld.ne F_ordinal_w_STALLED F_ordinal_w_REJECTED (by decide))) (Value.ref.inj q)) (by decide) (by decide) ?_
    show Steps p.tables e below (T2.setTop (mkF m 14 #[.val (.ref w_REJECTED)] [])) _
    refine XS.aloadN X2.here hx rfl (hb hby d1_14) rfl rfl ?_
    show Steps p.tables e below (T2.setTop (mkF m 15 #[.val (.ref w_REJECTED)] [(.ref w_REJECTED)])) _
    refine st3 _ ?_
    show Steps p.tables e below (T3.setTop (mkF m 18 #[.val (.ref w_REJECTED)] [(.ref w_REJECTED), (.ref w_REJECTED)])) _
    refine Jvm.RoadKit.acmp (g := (mkF m 18 #[.val (.ref w_REJECTED)] [(.ref w_REJECTED), (.ref w_REJECTED)])) X3 hx rfl rfl rfl (pc0 := 18) (pc' := 25) (same := true) rfl (hb hby d1_18) rfl (decide_eq_true (congrArg Value.ref (rfl : w_REJECTED = w_REJECTED))) (by decide) (by decide) ?_
    show Steps p.tables e below (T3.setTop (mkF m 25 #[.val (.ref w_REJECTED)] [])) _
    refine XS.iconst X3.here hx rfl (hb hby d1_25) ?_
    show Steps p.tables e below (T3.setTop (mkF m 26 #[.val (.ref w_REJECTED)] [(.int (0 : Int32))])) _
    exact retN X3 hx (t := .boolean) Bd.returns (by simp) (hb hby d1_26) hr
  · show Q_rc_REJECTED Z w_INFRASTRUCTURE w_TRANSIENT w_QUALITY w_PERMANENT w_REJECTED w_DEADLINE w_STALLED h0 n0 _ T3.heap _
    rw [e3]
    exact ⟨rfl, N0, rfl⟩
theorem ef_re_REJECTED (m : MethodId) (w_REJECTED : Addr) : entryFrame m #[(.ref w_REJECTED)] 1 = mkF m 0 #[.val (.ref w_REJECTED)] [] := by first | (simp [entryFrame, mkF, argsToLocals, Value.category]; done) | rfl
def Q_re_REJECTED (Z : State) (w_INFRASTRUCTURE w_TRANSIENT w_QUALITY w_PERMANENT w_REJECTED w_DEADLINE w_STALLED : Addr) (h0 : Heap) (n0 : Nat) (v : Option Value) (h : Heap) (L : List Loc) : Prop := v = some (.int (0 : Int32)) ∧ Fr n0 L ∧ h = h0
set_option maxRecDepth 65536 in
set_option maxHeartbeats 40000000 in
theorem re_REJECTED (l : Launch) (Z : State) (a0 : Array Value) (hw : ∀ d ∈ tables_1, d.before a0 Z = true) (ws : List Jvm.Cond) (w_INFRASTRUCTURE w_TRANSIENT w_QUALITY w_PERMANENT w_REJECTED w_DEADLINE w_STALLED : Addr) (h0 : Heap) (n0 : Nat) (O0 : Old Z n0 h0) (hE : OwnEnv Z w_INFRASTRUCTURE w_TRANSIENT w_QUALITY w_PERMANENT w_REJECTED w_DEADLINE w_STALLED) :
    MetFree l (⟨"com/example/glacial_workflow/glacialworkflow/core/FailureClass", "isRetried", "()Z"⟩ : MethodName) (head1 (Jvm.Cond.code (⟨"com/example/glacial_workflow/glacialworkflow/core/FailureClass", "isRetried", "()Z"⟩ : MethodName) prog_8_method_4_code 1 (some .boolean) :: ws) ({ frames := 0, cells := 0, slots := 0, locals := 0 } : Room)) (fun a U => a = #[(.ref w_REJECTED)] ∧ Z.Warmed39 U.vm ∧ U.heap = h0) (fun _ _ _ _ _ => True) (fun _ U o U' => ∃ v L, o = .returned v ∧ Q_re_REJECTED Z w_INFRASTRUCTURE w_TRANSIENT w_QUALITY w_PERMANENT w_REJECTED w_DEADLINE w_STALLED h0 n0 v U'.heap L ∧ FrameEnd U o U' L ({ frames := 0, cells := 0, slots := 0, locals := 0 } : Room).cells ({ frames := 0, cells := 0, slots := 0, locals := 0 } : Room).slots) := by
  refine MetFree.of_bodySF (plainFor_of_name pn_com_example_glacial_workflow_glacialworkflow_core_FailureClass) hisR ?_
  intro p e s m args below meth c s₁ Bd hml0 hP hK
  obtain ⟨rfl, hZ, hh⟩ := hP
  have hx := Bd.exec
  have hby := Bd.bytes
  have hml : c.maxLocals = 1 := hml0
  have hown : s.vm.findClass "com/example/glacial_workflow/glacialworkflow/core/FailureClass" = some m.cls := findClass_of_methodNamed Bd.named
  have hnm := (name_of_methodNamed Bd.named Bd.method).1
  have X0 : Stand p l e ({ frames := 0, cells := 0, slots := 0, locals := 0 } : Room) s m #[(.ref w_REJECTED)] below meth c s₁ [] 0 0 := Stand.of_body Bd
  have e0 : s₁.heap = h0 := by rw [← hh, Bd.state]; rfl
  have N0 := Fr.nil n0
  have pre0 : ∀ t, Steps p.tables e below (s₁.setTop (mkF m 0 #[.val (.ref w_REJECTED)] [])) t → Steps p.tables e below (s₁.setTop (entryFrame m #[(.ref w_REJECTED)] 1)) t := fun t k => castTop (ef_re_REJECTED m w_REJECTED) k
  have hE_ := hE; obtain ⟨S_w_INFRASTRUCTURE, E_w_INFRASTRUCTURE, S_w_TRANSIENT, E_w_TRANSIENT, S_w_QUALITY, E_w_QUALITY, S_w_PERMANENT, E_w_PERMANENT, S_w_REJECTED, E_w_REJECTED, S_w_DEADLINE, E_w_DEADLINE, S_w_STALLED, E_w_STALLED, F_ordinal_w_INFRASTRUCTURE, F_ordinal_w_DEADLINE, F_ordinal_w_STALLED, F_ordinal_w_REJECTED, F_ordinal_w_PERMANENT, F_ordinal_w_TRANSIENT, F_ordinal_w_QUALITY⟩ := hE_
  obtain ⟨T1, X1, e1, st1⟩ := getS2 X0 hx hZ hown (host := "") (Or.inl (hw _ (List.mem_of_getElem? (i := 33) rfl))) Via.refl e0 (S_w_INFRASTRUCTURE.ext O0.2) (g := (mkF m 1 #[.val (.ref w_REJECTED)] [(.ref w_REJECTED)])) rfl (hb hby d2_1)
  obtain ⟨T2, X2, e2, st2⟩ := getS2 X1 hx hZ hown (host := "") (Or.inl (hw _ (List.mem_of_getElem? (i := 34) rfl))) Via.refl e1 (S_w_TRANSIENT.ext O0.2) (g := (mkF m 8 #[.val (.ref w_REJECTED)] [(.ref w_REJECTED)])) rfl (hb hby d2_8)
  obtain ⟨T3, X3, e3, st3⟩ := getS2 X2 hx hZ hown (host := "") (Or.inl (hw _ (List.mem_of_getElem? (i := 35) rfl))) Via.refl e2 (S_w_QUALITY.ext O0.2) (g := (mkF m 15 #[.val (.ref w_REJECTED)] [(.ref w_REJECTED)])) rfl (hb hby d2_15)
  obtain ⟨fs, hr, hrun, hended, hW, hsame⟩ := X3.leave (v := some (.int (0 : Int32))) (fun h => by rw [Bd.returns] at h; cases h)
  refine ⟨_, _, pre0 _ ?_, hrun, hended, _, _, rfl, ?_, ⟨_, rfl⟩, hW, hsame.mono (by decide) (by decide)⟩
  · show Steps p.tables e below (s₁.setTop (mkF m 0 #[.val (.ref w_REJECTED)] [])) _
    refine XS.aloadN X0.here hx rfl (hb hby d2_0) rfl rfl ?_
    show Steps p.tables e below (s₁.setTop (mkF m 1 #[.val (.ref w_REJECTED)] [(.ref w_REJECTED)])) _
    refine st1 _ ?_
    show Steps p.tables e below (T1.setTop (mkF m 4 #[.val (.ref w_REJECTED)] [(.ref w_INFRASTRUCTURE), (.ref w_REJECTED)])) _
    refine Jvm.RoadKit.acmp (g := (mkF m 4 #[.val (.ref w_REJECTED)] [(.ref w_INFRASTRUCTURE), (.ref w_REJECTED)])) X1 hx rfl rfl rfl (pc0 := 4) (pc' := 7) (same := false) rfl (hb hby d2_4) rfl (decide_eq_false fun q => (Ne.symm (Fld.ne F_ordinal_w_INFRASTRUCTURE F_ordinal_w_REJECTED (by decide))) (Value.ref.inj q)) (by decide) (by decide) ?_
    show Steps p.tables e below (T1.setTop (mkF m 7 #[.val (.ref w_REJECTED)] [])) _
    refine XS.aloadN X1.here hx rfl (hb hby d2_7) rfl rfl ?_
    show Steps p.tables e below (T1.setTop (mkF m 8 #[.val (.ref w_REJECTED)] [(.ref w_REJECTED)])) _
    refine st2 _ ?_
    show Steps p.tables e below (T2.setTop (mkF m 11 #[.val (.ref w_REJECTED)] [(.ref w_TRANSIENT), (.ref w_REJECTED)])) _
    refine Jvm.RoadKit.acmp (g := (mkF m 11 #[.val (.ref w_REJECTED)] [(.ref w_TRANSIENT), (.ref w_REJECTED)])) X2 hx rfl rfl rfl (pc0 := 11) (pc' := 14) (same := false) rfl (hb hby d2_11) rfl (decide_eq_false fun q => (Fld.ne F_ordinal_w_REJECTED F_ordinal_w_TRANSIENT (by decide)) (Value.ref.inj q)) (by decide) (by decide) ?_
    show Steps p.tables e below (T2.setTop (mkF m 14 #[.val (.ref w_REJECTED)] [])) _
    refine XS.aloadN X2.here hx rfl (hb hby d2_14) rfl rfl ?_
    show Steps p.tables e below (T2.setTop (mkF m 15 #[.val (.ref w_REJECTED)] [(.ref w_REJECTED)])) _
    refine st3 _ ?_
    show Steps p.tables e below (T3.setTop (mkF m 18 #[.val (.ref w_REJECTED)] [(.ref w_QUALITY), (.ref w_REJECTED)])) _
    refine Jvm.RoadKit.acmp (g := (mkF m 18 #[.val (.ref w_REJECTED)] [(.ref w_QUALITY), (.ref w_REJECTED)])) X3 hx rfl rfl rfl (pc0 := 18) (pc' := 25) (same := false) rfl (hb hby d2_18) rfl (decide_eq_false fun q => (Fld.ne F_ordinal_w_REJECTED F_ordinal_w_QUALITY (by decide)) (Value.ref.inj q)) (by decide) (by decide) ?_
    show Steps p.tables e below (T3.setTop (mkF m 25 #[.val (.ref w_REJECTED)] [])) _
    refine XS.iconst X3.here hx rfl (hb hby d2_25) ?_
    show Steps p.tables e below (T3.setTop (mkF m 26 #[.val (.ref w_REJECTED)] [(.int (0 : Int32))])) _
    exact retN X3 hx (t := .boolean) Bd.returns (by simp) (hb hby d2_26) hr
  · show Q_re_REJECTED Z w_INFRASTRUCTURE w_TRANSIENT w_QUALITY w_PERMANENT w_REJECTED w_DEADLINE w_STALLED h0 n0 _ T3.heap _
    rw [e3]
    exact ⟨rfl, N0, rfl⟩
theorem ef_rc_DEADLINE (m : MethodId) (w_DEADLINE : Addr) : entryFrame m #[(.ref w_DEADLINE)] 1 = mkF m 0 #[.val (.ref w_DEADLINE)] [] := by first | (simp [entryFrame, mkF, argsToLocals, Value.category]; done) | rfl
def Q_rc_DEADLINE (Z : State) (w_INFRASTRUCTURE w_TRANSIENT w_QUALITY w_PERMANENT w_REJECTED w_DEADLINE w_STALLED : Addr) (h0 : Heap) (n0 : Nat) (v : Option Value) (h : Heap) (L : List Loc) : Prop := v = some (.int (0 : Int32)) ∧ Fr n0 L ∧ h = h0
set_option maxRecDepth 65536 in
set_option maxHeartbeats 40000000 in
theorem rc_DEADLINE (l : Launch) (Z : State) (a0 : Array Value) (hw : ∀ d ∈ tables_1, d.before a0 Z = true) (ws : List Jvm.Cond) (w_INFRASTRUCTURE w_TRANSIENT w_QUALITY w_PERMANENT w_REJECTED w_DEADLINE w_STALLED : Addr) (h0 : Heap) (n0 : Nat) (O0 : Old Z n0 h0) (hE : OwnEnv Z w_INFRASTRUCTURE w_TRANSIENT w_QUALITY w_PERMANENT w_REJECTED w_DEADLINE w_STALLED) :
    MetFree l (⟨"com/example/glacial_workflow/glacialworkflow/core/FailureClass", "isRetriedWhenCured", "()Z"⟩ : MethodName) (head1 (Jvm.Cond.code (⟨"com/example/glacial_workflow/glacialworkflow/core/FailureClass", "isRetriedWhenCured", "()Z"⟩ : MethodName) prog_8_method_5_code 1 (some .boolean) :: ws) ({ frames := 0, cells := 0, slots := 0, locals := 0 } : Room)) (fun a U => a = #[(.ref w_DEADLINE)] ∧ Z.Warmed39 U.vm ∧ U.heap = h0) (fun _ _ _ _ _ => True) (fun _ U o U' => ∃ v L, o = .returned v ∧ Q_rc_DEADLINE Z w_INFRASTRUCTURE w_TRANSIENT w_QUALITY w_PERMANENT w_REJECTED w_DEADLINE w_STALLED h0 n0 v U'.heap L ∧ FrameEnd U o U' L ({ frames := 0, cells := 0, slots := 0, locals := 0 } : Room).cells ({ frames := 0, cells := 0, slots := 0, locals := 0 } : Room).slots) := by
  refine MetFree.of_bodySF (plainFor_of_name pn_com_example_glacial_workflow_glacialworkflow_core_FailureClass) hisR ?_
  intro p e s m args below meth c s₁ Bd hml0 hP hK
  obtain ⟨rfl, hZ, hh⟩ := hP
  have hx := Bd.exec
  have hby := Bd.bytes
  have hml : c.maxLocals = 1 := hml0
  have hown : s.vm.findClass "com/example/glacial_workflow/glacialworkflow/core/FailureClass" = some m.cls := findClass_of_methodNamed Bd.named
  have hnm := (name_of_methodNamed Bd.named Bd.method).1
  have X0 : Stand p l e ({ frames := 0, cells := 0, slots := 0, locals := 0 } : Room) s m #[(.ref w_DEADLINE)] below meth c s₁ [] 0 0 := Stand.of_body Bd
  have e0 : s₁.heap = h0 := by rw [← hh, Bd.state]; rfl
  have N0 := Fr.nil n0
  have pre0 : ∀ t, Steps p.tables e below (s₁.setTop (mkF m 0 #[.val (.ref w_DEADLINE)] [])) t → Steps p.tables e below (s₁.setTop (entryFrame m #[(.ref w_DEADLINE)] 1)) t := fun t k => castTop (ef_rc_DEADLINE m w_DEADLINE) k
  have hE_ := hE; obtain ⟨S_w_INFRASTRUCTURE, E_w_INFRASTRUCTURE, S_w_TRANSIENT, E_w_TRANSIENT, S_w_QUALITY, E_w_QUALITY, S_w_PERMANENT, E_w_PERMANENT, S_w_REJECTED, E_w_REJECTED, S_w_DEADLINE, E_w_DEADLINE, S_w_STALLED, E_w_STALLED, F_ordinal_w_INFRASTRUCTURE, F_ordinal_w_DEADLINE, F_ordinal_w_STALLED, F_ordinal_w_REJECTED, F_ordinal_w_PERMANENT, F_ordinal_w_TRANSIENT, F_ordinal_w_QUALITY⟩ := hE_
  obtain ⟨T1, X1, e1, st1⟩ := getS2 X0 hx hZ hown (host := "") (Or.inl (hw _ (List.mem_of_getElem? (i := 25) rfl))) Via.refl e0 (S_w_DEADLINE.ext O0.2) (g := (mkF m 1 #[.val (.ref w_DEADLINE)] [(.ref w_DEADLINE)])) rfl (hb hby d1_1)
  obtain ⟨fs, hr, hrun, hended, hW, hsame⟩ := X1.leave (v := some (.int (0 : Int32))) (fun h => by rw [Bd.returns] at h; cases h)
  refine ⟨_, _, pre0 _ ?_, hrun, hended, _, _, rfl, ?_, ⟨_, rfl⟩, hW, hsame.mono (by decide) (by decide)⟩
  · show Steps p.tables e below (s₁.setTop (mkF m 0 #[.val (.ref w_DEADLINE)] [])) _
    refine XS.aloadN X0.here hx rfl (hb hby d1_0) rfl rfl ?_
    show Steps p.tables e below (s₁.setTop (mkF m 1 #[.val (.ref w_DEADLINE)] [(.ref w_DEADLINE)])) _
    refine st1 _ ?_
    show Steps p.tables e below (T1.setTop (mkF m 4 #[.val (.ref w_DEADLINE)] [(.ref w_DEADLINE), (.ref w_DEADLINE)])) _
    refine Jvm.RoadKit.acmp (g := (mkF m 4 #[.val (.ref w_DEADLINE)] [(.ref w_DEADLINE), (.ref w_DEADLINE)])) X1 hx rfl rfl rfl (pc0 := 4) (pc' := 25) (same := true) rfl (hb hby d1_4) rfl (decide_eq_true (congrArg Value.ref (rfl : w_DEADLINE = w_DEADLINE))) (by decide) (by decide) ?_
    show Steps p.tables e below (T1.setTop (mkF m 25 #[.val (.ref w_DEADLINE)] [])) _
    refine XS.iconst X1.here hx rfl (hb hby d1_25) ?_
    show Steps p.tables e below (T1.setTop (mkF m 26 #[.val (.ref w_DEADLINE)] [(.int (0 : Int32))])) _
    exact retN X1 hx (t := .boolean) Bd.returns (by simp) (hb hby d1_26) hr
  · show Q_rc_DEADLINE Z w_INFRASTRUCTURE w_TRANSIENT w_QUALITY w_PERMANENT w_REJECTED w_DEADLINE w_STALLED h0 n0 _ T1.heap _
    rw [e1]
    exact ⟨rfl, N0, rfl⟩
theorem ef_re_DEADLINE (m : MethodId) (w_DEADLINE : Addr) : entryFrame m #[(.ref w_DEADLINE)] 1 = mkF m 0 #[.val (.ref w_DEADLINE)] [] := by first | (simp [entryFrame, mkF, argsToLocals, Value.category]; done) | rfl
def Q_re_DEADLINE (Z : State) (w_INFRASTRUCTURE w_TRANSIENT w_QUALITY w_PERMANENT w_REJECTED w_DEADLINE w_STALLED : Addr) (h0 : Heap) (n0 : Nat) (v : Option Value) (h : Heap) (L : List Loc) : Prop := v = some (.int (0 : Int32)) ∧ Fr n0 L ∧ h = h0
set_option maxRecDepth 65536 in
set_option maxHeartbeats 40000000 in
theorem re_DEADLINE (l : Launch) (Z : State) (a0 : Array Value) (hw : ∀ d ∈ tables_1, d.before a0 Z = true) (ws : List Jvm.Cond) (w_INFRASTRUCTURE w_TRANSIENT w_QUALITY w_PERMANENT w_REJECTED w_DEADLINE w_STALLED : Addr) (h0 : Heap) (n0 : Nat) (O0 : Old Z n0 h0) (hE : OwnEnv Z w_INFRASTRUCTURE w_TRANSIENT w_QUALITY w_PERMANENT w_REJECTED w_DEADLINE w_STALLED) :
    MetFree l (⟨"com/example/glacial_workflow/glacialworkflow/core/FailureClass", "isRetried", "()Z"⟩ : MethodName) (head1 (Jvm.Cond.code (⟨"com/example/glacial_workflow/glacialworkflow/core/FailureClass", "isRetried", "()Z"⟩ : MethodName) prog_8_method_4_code 1 (some .boolean) :: ws) ({ frames := 0, cells := 0, slots := 0, locals := 0 } : Room)) (fun a U => a = #[(.ref w_DEADLINE)] ∧ Z.Warmed39 U.vm ∧ U.heap = h0) (fun _ _ _ _ _ => True) (fun _ U o U' => ∃ v L, o = .returned v ∧ Q_re_DEADLINE Z w_INFRASTRUCTURE w_TRANSIENT w_QUALITY w_PERMANENT w_REJECTED w_DEADLINE w_STALLED h0 n0 v U'.heap L ∧ FrameEnd U o U' L ({ frames := 0, cells := 0, slots := 0, locals := 0 } : Room).cells ({ frames := 0, cells := 0, slots := 0, locals := 0 } : Room).slots) := by
  refine MetFree.of_bodySF (plainFor_of_name pn_com_example_glacial_workflow_glacialworkflow_core_FailureClass) hisR ?_
  intro p e s m args below meth c s₁ Bd hml0 hP hK
  obtain ⟨rfl, hZ, hh⟩ := hP
  have hx := Bd.exec
  have hby := Bd.bytes
  have hml : c.maxLocals = 1 := hml0
  have hown : s.vm.findClass "com/example/glacial_workflow/glacialworkflow/core/FailureClass" = some m.cls := findClass_of_methodNamed Bd.named
  have hnm := (name_of_methodNamed Bd.named Bd.method).1
  have X0 : Stand p l e ({ frames := 0, cells := 0, slots := 0, locals := 0 } : Room) s m #[(.ref w_DEADLINE)] below meth c s₁ [] 0 0 := Stand.of_body Bd
  have e0 : s₁.heap = h0 := by rw [← hh, Bd.state]; rfl
  have N0 := Fr.nil n0
  have pre0 : ∀ t, Steps p.tables e below (s₁.setTop (mkF m 0 #[.val (.ref w_DEADLINE)] [])) t → Steps p.tables e below (s₁.setTop (entryFrame m #[(.ref w_DEADLINE)] 1)) t := fun t k => castTop (ef_re_DEADLINE m w_DEADLINE) k
  have hE_ := hE; obtain ⟨S_w_INFRASTRUCTURE, E_w_INFRASTRUCTURE, S_w_TRANSIENT, E_w_TRANSIENT, S_w_QUALITY, E_w_QUALITY, S_w_PERMANENT, E_w_PERMANENT, S_w_REJECTED, E_w_REJECTED, S_w_DEADLINE, E_w_DEADLINE, S_w_STALLED, E_w_STALLED, F_ordinal_w_INFRASTRUCTURE, F_ordinal_w_DEADLINE, F_ordinal_w_STALLED, F_ordinal_w_REJECTED, F_ordinal_w_PERMANENT, F_ordinal_w_TRANSIENT, F_ordinal_w_QUALITY⟩ := hE_
  obtain ⟨T1, X1, e1, st1⟩ := getS2 X0 hx hZ hown (host := "") (Or.inl (hw _ (List.mem_of_getElem? (i := 33) rfl))) Via.refl e0 (S_w_INFRASTRUCTURE.ext O0.2) (g := (mkF m 1 #[.val (.ref w_DEADLINE)] [(.ref w_DEADLINE)])) rfl (hb hby d2_1)
  obtain ⟨T2, X2, e2, st2⟩ := getS2 X1 hx hZ hown (host := "") (Or.inl (hw _ (List.mem_of_getElem? (i := 34) rfl))) Via.refl e1 (S_w_TRANSIENT.ext O0.2) (g := (mkF m 8 #[.val (.ref w_DEADLINE)] [(.ref w_DEADLINE)])) rfl (hb hby d2_8)
  obtain ⟨T3, X3, e3, st3⟩ := getS2 X2 hx hZ hown (host := "") (Or.inl (hw _ (List.mem_of_getElem? (i := 35) rfl))) Via.refl e2 (S_w_QUALITY.ext O0.2) (g := (mkF m 15 #[.val (.ref w_DEADLINE)] [(.ref w_DEADLINE)])) rfl (hb hby d2_15)
  obtain ⟨fs, hr, hrun, hended, hW, hsame⟩ := X3.leave (v := some (.int (0 : Int32))) (fun h => by rw [Bd.returns] at h; cases h)
  refine ⟨_, _, pre0 _ ?_, hrun, hended, _, _, rfl, ?_, ⟨_, rfl⟩, hW, hsame.mono (by decide) (by decide)⟩
  · show Steps p.tables e below (s₁.setTop (mkF m 0 #[.val (.ref w_DEADLINE)] [])) _
    refine XS.aloadN X0.here hx rfl (hb hby d2_0) rfl rfl ?_
    show Steps p.tables e below (s₁.setTop (mkF m 1 #[.val (.ref w_DEADLINE)] [(.ref w_DEADLINE)])) _
    refine st1 _ ?_
    show Steps p.tables e below (T1.setTop (mkF m 4 #[.val (.ref w_DEADLINE)] [(.ref w_INFRASTRUCTURE), (.ref w_DEADLINE)])) _
    refine Jvm.RoadKit.acmp (g := (mkF m 4 #[.val (.ref w_DEADLINE)] [(.ref w_INFRASTRUCTURE), (.ref w_DEADLINE)])) X1 hx rfl rfl rfl (pc0 := 4) (pc' := 7) (same := false) rfl (hb hby d2_4) rfl (decide_eq_false fun q => (Ne.symm (Fld.ne F_ordinal_w_INFRASTRUCTURE F_ordinal_w_DEADLINE (by decide))) (Value.ref.inj q)) (by decide) (by decide) ?_
    show Steps p.tables e below (T1.setTop (mkF m 7 #[.val (.ref w_DEADLINE)] [])) _
    refine XS.aloadN X1.here hx rfl (hb hby d2_7) rfl rfl ?_
    show Steps p.tables e below (T1.setTop (mkF m 8 #[.val (.ref w_DEADLINE)] [(.ref w_DEADLINE)])) _
    refine st2 _ ?_
    show Steps p.tables e below (T2.setTop (mkF m 11 #[.val (.ref w_DEADLINE)] [(.ref w_TRANSIENT), (.ref w_DEADLINE)])) _
    refine Jvm.RoadKit.acmp (g := (mkF m 11 #[.val (.ref w_DEADLINE)] [(.ref w_TRANSIENT), (.ref w_DEADLINE)])) X2 hx rfl rfl rfl (pc0 := 11) (pc' := 14) (same := false) rfl (hb hby d2_11) rfl (decide_eq_false fun q => (Fld.ne F_ordinal_w_DEADLINE F_ordinal_w_TRANSIENT (by decide)) (Value.ref.inj q)) (by decide) (by decide) ?_
    show Steps p.tables e below (T2.setTop (mkF m 14 #[.val (.ref w_DEADLINE)] [])) _
    refine XS.aloadN X2.here hx rfl (hb hby d2_14) rfl rfl ?_
    show Steps p.tables e below (T2.setTop (mkF m 15 #[.val (.ref w_DEADLINE)] [(.ref w_DEADLINE)])) _
    refine st3 _ ?_
    show Steps p.tables e below (T3.setTop (mkF m 18 #[.val (.ref w_DEADLINE)] [(.ref w_QUALITY), (.ref w_DEADLINE)])) _
    refine Jvm.RoadKit.acmp (g := (mkF m 18 #[.val (.ref w_DEADLINE)] [(.ref w_QUALITY), (.ref w_DEADLINE)])) X3 hx rfl rfl rfl (pc0 := 18) (pc' := 25) (same := false) rfl (hb hby d2_18) rfl (decide_eq_false fun q => (Fld.ne F_ordinal_w_DEADLINE F_ordinal_w_QUALITY (by decide)) (Value.ref.inj q)) (by decide) (by decide) ?_
    show Steps p.tables e below (T3.setTop (mkF m 25 #[.val (.ref w_DEADLINE)] [])) _
    refine XS.iconst X3.here hx rfl (hb hby d2_25) ?_
    show Steps p.tables e below (T3.setTop (mkF m 26 #[.val (.ref w_DEADLINE)] [(.int (0 : Int32))])) _
    exact retN X3 hx (t := .boolean) Bd.returns (by simp) (hb hby d2_26) hr
  · show Q_re_DEADLINE Z w_INFRASTRUCTURE w_TRANSIENT w_QUALITY w_PERMANENT w_REJECTED w_DEADLINE w_STALLED h0 n0 _ T3.heap _
    rw [e3]
    exact ⟨rfl, N0, rfl⟩
theorem ef_rc_STALLED (m : MethodId) (w_STALLED : Addr) : entryFrame m #[(.ref w_STALLED)] 1 = mkF m 0 #[.val (.ref w_STALLED)] [] := by first | (simp [entryFrame, mkF, argsToLocals, Value.category]; done) | rfl
def Q_rc_STALLED (Z : State) (w_INFRASTRUCTURE w_TRANSIENT w_QUALITY w_PERMANENT w_REJECTED w_DEADLINE w_STALLED : Addr) (h0 : Heap) (n0 : Nat) (v : Option Value) (h : Heap) (L : List Loc) : Prop := v = some (.int (0 : Int32)) ∧ Fr n0 L ∧ h = h0
set_option maxRecDepth 65536 in
set_option maxHeartbeats 40000000 in
theorem rc_STALLED (l : Launch) (Z : State) (a0 : Array Value) (hw : ∀ d ∈ tables_1, d.before a0 Z = true) (ws : List Jvm.Cond) (w_INFRASTRUCTURE w_TRANSIENT w_QUALITY w_PERMANENT w_REJECTED w_DEADLINE w_STALLED : Addr) (h0 : Heap) (n0 : Nat) (O0 : Old Z n0 h0) (hE : OwnEnv Z w_INFRASTRUCTURE w_TRANSIENT w_QUALITY w_PERMANENT w_REJECTED w_DEADLINE w_STALLED) :
    MetFree l (⟨"com/example/glacial_workflow/glacialworkflow/core/FailureClass", "isRetriedWhenCured", "()Z"⟩ : MethodName) (head1 (Jvm.Cond.code (⟨"com/example/glacial_workflow/glacialworkflow/core/FailureClass", "isRetriedWhenCured", "()Z"⟩ : MethodName) prog_8_method_5_code 1 (some .boolean) :: ws) ({ frames := 0, cells := 0, slots := 0, locals := 0 } : Room)) (fun a U => a = #[(.ref w_STALLED)] ∧ Z.Warmed39 U.vm ∧ U.heap = h0) (fun _ _ _ _ _ => True) (fun _ U o U' => ∃ v L, o = .returned v ∧ Q_rc_STALLED Z w_INFRASTRUCTURE w_TRANSIENT w_QUALITY w_PERMANENT w_REJECTED w_DEADLINE w_STALLED h0 n0 v U'.heap L ∧ FrameEnd U o U' L ({ frames := 0, cells := 0, slots := 0, locals := 0 } : Room).cells ({ frames := 0, cells := 0, slots := 0, locals := 0 } : Room).slots) := by
  refine MetFree.of_bodySF (plainFor_of_name pn_com_example_glacial_workflow_glacialworkflow_core_FailureClass) hisR ?_
  intro p e s m args below meth c s₁ Bd hml0 hP hK
  obtain ⟨rfl, hZ, hh⟩ := hP
  have hx := Bd.exec
  have hby := Bd.bytes
  have hml : c.maxLocals = 1 := hml0
  have hown : s.vm.findClass "com/example/glacial_workflow/glacialworkflow/core/FailureClass" = some m.cls := findClass_of_methodNamed Bd.named
  have hnm := (name_of_methodNamed Bd.named Bd.method).1
  have X0 : Stand p l e ({ frames := 0, cells := 0, slots := 0, locals := 0 } : Room) s m #[(.ref w_STALLED)] below meth c s₁ [] 0 0 := Stand.of_body Bd
  have e0 : s₁.heap = h0 := by rw [← hh, Bd.state]; rfl
  have N0 := Fr.nil n0
  have pre0 : ∀ t, Steps p.tables e below (s₁.setTop (mkF m 0 #[.val (.ref w_STALLED)] [])) t → Steps p.tables e below (s₁.setTop (entryFrame m #[(.ref w_STALLED)] 1)) t := fun t k => castTop (ef_rc_STALLED m w_STALLED) k
  have hE_ := hE; obtain ⟨S_w_INFRASTRUCTURE, E_w_INFRASTRUCTURE, S_w_TRANSIENT, E_w_TRANSIENT, S_w_QUALITY, E_w_QUALITY, S_w_PERMANENT, E_w_PERMANENT, S_w_REJECTED, E_w_REJECTED, S_w_DEADLINE, E_w_DEADLINE, S_w_STALLED, E_w_STALLED, F_ordinal_w_INFRASTRUCTURE, F_ordinal_w_DEADLINE, F_ordinal_w_STALLED, F_ordinal_w_REJECTED, F_ordinal_w_PERMANENT, F_ordinal_w_TRANSIENT, F_ordinal_w_QUALITY⟩ := hE_
  obtain ⟨T1, X1, e1, st1⟩ := getS2 X0 hx hZ hown (host := "") (Or.inl (hw _ (List.mem_of_getElem? (i := 25) rfl))) Via.refl e0 (S_w_DEADLINE.ext O0.2) (g := (mkF m 1 #[.val (.ref w_STALLED)] [(.ref w_STALLED)])) rfl (hb hby d1_1)
  obtain ⟨T2, X2, e2, st2⟩ := getS2 X1 hx hZ hown (host := "") (Or.inl (hw _ (List.mem_of_getElem? (i := 26) rfl))) Via.refl e1 (S_w_STALLED.ext O0.2) (g := (mkF m 8 #[.val (.ref w_STALLED)] [(.ref w_STALLED)])) rfl (hb hby d1_8)
  obtain ⟨fs, hr, hrun, hended, hW, hsame⟩ := X2.leave (v := some (.int (0 : Int32))) (fun h => by rw [Bd.returns] at h; cases h)
  refine ⟨_, _, pre0 _ ?_, hrun, hended, _, _, rfl, ?_, ⟨_, rfl⟩, hW, hsame.mono (by decide) (by decide)⟩
  · show Steps p.tables e below (s₁.setTop (mkF m 0 #[.val (.ref w_STALLED)] [])) _
    refine XS.aloadN X0.here hx rfl (hb hby d1_0) rfl rfl ?_
    show Steps p.tables e below (s₁.setTop (mkF m 1 #[.val (.ref w_STALLED)] [(.ref w_STALLED)])) _
    refine st1 _ ?_
    show Steps p.tables e below (T1.setTop (mkF m 4 #[.val (.ref w_STALLED)] [(.ref w_DEADLINE), (.ref w_STALLED)])) _
    refine Jvm.RoadKit.acmp (g := (mkF m 4 #[.val (.ref w_STALLED)] [(.ref w_DEADLINE), (.ref w_STALLED)])) X1 hx rfl rfl rfl (pc0 := 4) (pc' := 7) (same := false) rfl (hb hby d1_4) rfl (decide_eq_false fun q => (Ne.symm (Fld.ne F_ordinal_w_DEADLINE F_ordinal_w_STALLED (by decide))) (Value.ref.inj q)) (by decide) (by decide) ?_
    show Steps p.tables e below (T1.setTop (mkF m 7 #[.val (.ref w_STALLED)] [])) _
    refine XS.aloadN X1.here hx rfl (hb hby d1_7) rfl rfl ?_
    show Steps p.tables e below (T1.setTop (mkF m 8 #[.val (.ref w_STALLED)] [(.ref w_STALLED)])) _
    refine st2 _ ?_
    show Steps p.tables e below (T2.setTop (mkF m 11 #[.val (.ref w_STALLED)] [(.ref w_STALLED), (.ref w_STALLED)])) _
    refine Jvm.RoadKit.acmp (g := (mkF m 11 #[.val (.ref w_STALLED)] [(.ref w_STALLED), (.ref w_STALLED)])) X2 hx rfl rfl rfl (pc0 := 11) (pc' := 25) (same := true) rfl (hb hby d1_11) rfl (decide_eq_true (congrArg Value.ref (rfl : w_STALLED = w_STALLED))) (by decide) (by decide) ?_
    show Steps p.tables e below (T2.setTop (mkF m 25 #[.val (.ref w_STALLED)] [])) _
    refine XS.iconst X2.here hx rfl (hb hby d1_25) ?_
    show Steps p.tables e below (T2.setTop (mkF m 26 #[.val (.ref w_STALLED)] [(.int (0 : Int32))])) _
    exact retN X2 hx (t := .boolean) Bd.returns (by simp) (hb hby d1_26) hr
  · show Q_rc_STALLED Z w_INFRASTRUCTURE w_TRANSIENT w_QUALITY w_PERMANENT w_REJECTED w_DEADLINE w_STALLED h0 n0 _ T2.heap _
    rw [e2]
    exact ⟨rfl, N0, rfl⟩
theorem ef_re_STALLED (m : MethodId) (w_STALLED : Addr) : entryFrame m #[(.ref w_STALLED)] 1 = mkF m 0 #[.val (.ref w_STALLED)] [] := by first | (simp [entryFrame, mkF, argsToLocals, Value.category]; done) | rfl
def Q_re_STALLED (Z : State) (w_INFRASTRUCTURE w_TRANSIENT w_QUALITY w_PERMANENT w_REJECTED w_DEADLINE w_STALLED : Addr) (h0 : Heap) (n0 : Nat) (v : Option Value) (h : Heap) (L : List Loc) : Prop := v = some (.int (0 : Int32)) ∧ Fr n0 L ∧ h = h0
set_option maxRecDepth 65536 in
set_option maxHeartbeats 40000000 in
theorem re_STALLED (l : Launch) (Z : State) (a0 : Array Value) (hw : ∀ d ∈ tables_1, d.before a0 Z = true) (ws : List Jvm.Cond) (w_INFRASTRUCTURE w_TRANSIENT w_QUALITY w_PERMANENT w_REJECTED w_DEADLINE w_STALLED : Addr) (h0 : Heap) (n0 : Nat) (O0 : Old Z n0 h0) (hE : OwnEnv Z w_INFRASTRUCTURE w_TRANSIENT w_QUALITY w_PERMANENT w_REJECTED w_DEADLINE w_STALLED) :
    MetFree l (⟨"com/example/glacial_workflow/glacialworkflow/core/FailureClass", "isRetried", "()Z"⟩ : MethodName) (head1 (Jvm.Cond.code (⟨"com/example/glacial_workflow/glacialworkflow/core/FailureClass", "isRetried", "()Z"⟩ : MethodName) prog_8_method_4_code 1 (some .boolean) :: ws) ({ frames := 0, cells := 0, slots := 0, locals := 0 } : Room)) (fun a U => a = #[(.ref w_STALLED)] ∧ Z.Warmed39 U.vm ∧ U.heap = h0) (fun _ _ _ _ _ => True) (fun _ U o U' => ∃ v L, o = .returned v ∧ Q_re_STALLED Z w_INFRASTRUCTURE w_TRANSIENT w_QUALITY w_PERMANENT w_REJECTED w_DEADLINE w_STALLED h0 n0 v U'.heap L ∧ FrameEnd U o U' L ({ frames := 0, cells := 0, slots := 0, locals := 0 } : Room).cells ({ frames := 0, cells := 0, slots := 0, locals := 0 } : Room).slots) := by
  refine MetFree.of_bodySF (plainFor_of_name pn_com_example_glacial_workflow_glacialworkflow_core_FailureClass) hisR ?_
  intro p e s m args below meth c s₁ Bd hml0 hP hK
  obtain ⟨rfl, hZ, hh⟩ := hP
  have hx := Bd.exec
  have hby := Bd.bytes
  have hml : c.maxLocals = 1 := hml0
  have hown : s.vm.findClass "com/example/glacial_workflow/glacialworkflow/core/FailureClass" = some m.cls := findClass_of_methodNamed Bd.named
  have hnm := (name_of_methodNamed Bd.named Bd.method).1
  have X0 : Stand p l e ({ frames := 0, cells := 0, slots := 0, locals := 0 } : Room) s m #[(.ref w_STALLED)] below meth c s₁ [] 0 0 := Stand.of_body Bd
  have e0 : s₁.heap = h0 := by rw [← hh, Bd.state]; rfl
  have N0 := Fr.nil n0
  have pre0 : ∀ t, Steps p.tables e below (s₁.setTop (mkF m 0 #[.val (.ref w_STALLED)] [])) t → Steps p.tables e below (s₁.setTop (entryFrame m #[(.ref w_STALLED)] 1)) t := fun t k => castTop (ef_re_STALLED m w_STALLED) k
  have hE_ := hE; obtain ⟨S_w_INFRASTRUCTURE, E_w_INFRASTRUCTURE, S_w_TRANSIENT, E_w_TRANSIENT, S_w_QUALITY, E_w_QUALITY, S_w_PERMANENT, E_w_PERMANENT, S_w_REJECTED, E_w_REJECTED, S_w_DEADLINE, E_w_DEADLINE, S_w_STALLED, E_w_STALLED, F_ordinal_w_INFRASTRUCTURE, F_ordinal_w_DEADLINE, F_ordinal_w_STALLED, F_ordinal_w_REJECTED, F_ordinal_w_PERMANENT, F_ordinal_w_TRANSIENT, F_ordinal_w_QUALITY⟩ := hE_
  obtain ⟨T1, X1, e1, st1⟩ := getS2 X0 hx hZ hown (host := "") (Or.inl (hw _ (List.mem_of_getElem? (i := 33) rfl))) Via.refl e0 (S_w_INFRASTRUCTURE.ext O0.2) (g := (mkF m 1 #[.val (.ref w_STALLED)] [(.ref w_STALLED)])) rfl (hb hby d2_1)
  obtain ⟨T2, X2, e2, st2⟩ := getS2 X1 hx hZ hown (host := "") (Or.inl (hw _ (List.mem_of_getElem? (i := 34) rfl))) Via.refl e1 (S_w_TRANSIENT.ext O0.2) (g := (mkF m 8 #[.val (.ref w_STALLED)] [(.ref w_STALLED)])) rfl (hb hby d2_8)
  obtain ⟨T3, X3, e3, st3⟩ := getS2 X2 hx hZ hown (host := "") (Or.inl (hw _ (List.mem_of_getElem? (i := 35) rfl))) Via.refl e2 (S_w_QUALITY.ext O0.2) (g := (mkF m 15 #[.val (.ref w_STALLED)] [(.ref w_STALLED)])) rfl (hb hby d2_15)
  obtain ⟨fs, hr, hrun, hended, hW, hsame⟩ := X3.leave (v := some (.int (0 : Int32))) (fun h => by rw [Bd.returns] at h; cases h)
  refine ⟨_, _, pre0 _ ?_, hrun, hended, _, _, rfl, ?_, ⟨_, rfl⟩, hW, hsame.mono (by decide) (by decide)⟩
  · show Steps p.tables e below (s₁.setTop (mkF m 0 #[.val (.ref w_STALLED)] [])) _
    refine XS.aloadN X0.here hx rfl (hb hby d2_0) rfl rfl ?_
    show Steps p.tables e below (s₁.setTop (mkF m 1 #[.val (.ref w_STALLED)] [(.ref w_STALLED)])) _
    refine st1 _ ?_
    show Steps p.tables e below (T1.setTop (mkF m 4 #[.val (.ref w_STALLED)] [(.ref w_INFRASTRUCTURE), (.ref w_STALLED)])) _
    refine Jvm.RoadKit.acmp (g := (mkF m 4 #[.val (.ref w_STALLED)] [(.ref w_INFRASTRUCTURE), (.ref w_STALLED)])) X1 hx rfl rfl rfl (pc0 := 4) (pc' := 7) (same := false) rfl (hb hby d2_4) rfl (decide_eq_false fun q => (Ne.symm (Fld.ne F_ordinal_w_INFRASTRUCTURE F_ordinal_w_STALLED (by decide))) (Value.ref.inj q)) (by decide) (by decide) ?_
    show Steps p.tables e below (T1.setTop (mkF m 7 #[.val (.ref w_STALLED)] [])) _
    refine XS.aloadN X1.here hx rfl (hb hby d2_7) rfl rfl ?_
    show Steps p.tables e below (T1.setTop (mkF m 8 #[.val (.ref w_STALLED)] [(.ref w_STALLED)])) _
    refine st2 _ ?_
    show Steps p.tables e below (T2.setTop (mkF m 11 #[.val (.ref w_STALLED)] [(.ref w_TRANSIENT), (.ref w_STALLED)])) _
    refine Jvm.RoadKit.acmp (g := (mkF m 11 #[.val (.ref w_STALLED)] [(.ref w_TRANSIENT), (.ref w_STALLED)])) X2 hx rfl rfl rfl (pc0 := 11) (pc' := 14) (same := false) rfl (hb hby d2_11) rfl (decide_eq_false fun q => (Fld.ne F_ordinal_w_STALLED F_ordinal_w_TRANSIENT (by decide)) (Value.ref.inj q)) (by decide) (by decide) ?_
    show Steps p.tables e below (T2.setTop (mkF m 14 #[.val (.ref w_STALLED)] [])) _
    refine XS.aloadN X2.here hx rfl (hb hby d2_14) rfl rfl ?_
    show Steps p.tables e below (T2.setTop (mkF m 15 #[.val (.ref w_STALLED)] [(.ref w_STALLED)])) _
    refine st3 _ ?_
    show Steps p.tables e below (T3.setTop (mkF m 18 #[.val (.ref w_STALLED)] [(.ref w_QUALITY), (.ref w_STALLED)])) _
    refine Jvm.RoadKit.acmp (g := (mkF m 18 #[.val (.ref w_STALLED)] [(.ref w_QUALITY), (.ref w_STALLED)])) X3 hx rfl rfl rfl (pc0 := 18) (pc' := 25) (same := false) rfl (hb hby d2_18) rfl (decide_eq_false fun q => (Fld.ne F_ordinal_w_STALLED F_ordinal_w_QUALITY (by decide)) (Value.ref.inj q)) (by decide) (by decide) ?_
    show Steps p.tables e below (T3.setTop (mkF m 25 #[.val (.ref w_STALLED)] [])) _
    refine XS.iconst X3.here hx rfl (hb hby d2_25) ?_
    show Steps p.tables e below (T3.setTop (mkF m 26 #[.val (.ref w_STALLED)] [(.int (0 : Int32))])) _
    exact retN X3 hx (t := .boolean) Bd.returns (by simp) (hb hby d2_26) hr
  · show Q_re_STALLED Z w_INFRASTRUCTURE w_TRANSIENT w_QUALITY w_PERMANENT w_REJECTED w_DEADLINE w_STALLED h0 n0 _ T3.heap _
    rw [e3]
    exact ⟨rfl, N0, rfl⟩
theorem ef_rm0 (m : MethodId) (p1 : Int32) : entryFrame m #[(.int p1)] maxLocals = mkF m 0 #[.val (.int p1), .unset, .unset, .unset, .unset, .unset] [] := by first | (simp [entryFrame, mkF, argsToLocals, Value.category, maxLocals]; done) | rfl
def Q_rm0 (Z : State) (p1 : Int32) (w_INFRASTRUCTURE w_TRANSIENT w_QUALITY w_PERMANENT w_REJECTED w_DEADLINE w_STALLED : Addr) (h0 : Heap) (n0 : Nat) (v : Option Value) (h : Heap) (L : List Loc) : Prop := v = some (.int (1 : Int32)) ∧ Fr n0 L
set_option maxRecDepth 65536 in
set_option maxHeartbeats 40000000 in
theorem rm0 (l : Launch) (Z : State) (a0 : Array Value) (hw : ∀ d ∈ tables_1, d.before a0 Z = true) (ws : List Jvm.Cond) (p1 : Int32) (w_INFRASTRUCTURE w_TRANSIENT w_QUALITY w_PERMANENT w_REJECTED w_DEADLINE w_STALLED : Addr) (h0 : Heap) (n0 : Nat) (O0 : Old Z n0 h0) (hE : OwnEnv Z w_INFRASTRUCTURE w_TRANSIENT w_QUALITY w_PERMANENT w_REJECTED w_DEADLINE w_STALLED) :
    MetFree l x (head1 (Jvm.Cond.code x code maxLocals ret :: ws) room_1) (fun a U => a = #[(.int p1)] ∧ Z.Warmed39 U.vm ∧ U.heap = h0) (fun _ _ _ _ _ => True) (fun _ U o U' => ∃ v L, o = .returned v ∧ Q_rm0 Z p1 w_INFRASTRUCTURE w_TRANSIENT w_QUALITY w_PERMANENT w_REJECTED w_DEADLINE w_STALLED h0 n0 v U'.heap L ∧ FrameEnd U o U' L room_1.cells room_1.slots) := by
  refine MetFree.of_bodySF (plainFor_of_name pn_com_example_glacial_workflow_glacialworkflow_core_FailureClassIsRetriedWhenCuredPinLaw) hisR ?_
  intro p e s m args below meth c s₁ Bd hml0 hP hK
  obtain ⟨rfl, hZ, hh⟩ := hP
  have hx := Bd.exec
  have hby := Bd.bytes
  have hml : c.maxLocals = 6 := hml0
  have hown : s.vm.findClass "com/example/glacial_workflow/glacialworkflow/core/FailureClassIsRetriedWhenCuredPinLaw" = some m.cls := findClass_of_methodNamed Bd.named
  have hnm := (name_of_methodNamed Bd.named Bd.method).1
  have X0 : Stand p l e room_1 s m #[(.int p1)] below meth c s₁ [] 0 0 := Stand.of_body Bd
  have e0 : s₁.heap = h0 := by rw [← hh, Bd.state]; rfl
  have N0 := Fr.nil n0
  have pre0 : ∀ t, Steps p.tables e below (s₁.setTop (mkF m 0 #[.val (.int p1), .unset, .unset, .unset, .unset, .unset] [])) t → Steps p.tables e below (s₁.setTop (entryFrame m #[(.int p1)] maxLocals)) t := fun t k => castTop (ef_rm0 m p1) k
  have hE_ := hE; obtain ⟨S_w_INFRASTRUCTURE, E_w_INFRASTRUCTURE, S_w_TRANSIENT, E_w_TRANSIENT, S_w_QUALITY, E_w_QUALITY, S_w_PERMANENT, E_w_PERMANENT, S_w_REJECTED, E_w_REJECTED, S_w_DEADLINE, E_w_DEADLINE, S_w_STALLED, E_w_STALLED, F_ordinal_w_INFRASTRUCTURE, F_ordinal_w_DEADLINE, F_ordinal_w_STALLED, F_ordinal_w_REJECTED, F_ordinal_w_PERMANENT, F_ordinal_w_TRANSIENT, F_ordinal_w_QUALITY⟩ := hE_
  obtain ⟨T1, h1, k1, X1, e1, E1, A1, Ov1, st1⟩ := newR X0 hx hZ hown (hw _ (List.mem_of_getElem? (i := 0) rfl)) (hw _ (List.mem_of_getElem? (i := 1) rfl)) e0 (g := (mkF m 2 #[.val (.int p1), .unset, .unset, .unset, .unset, .unset] [(.int (7 : Int32))])) rfl (hb hby at_2) rfl (by decide) (cap := 7) (by decide) (by decide) (by decide) (by decide)
  obtain ⟨b1, g1⟩ : ∃ z, z = h0.size := ⟨_, rfl⟩
  rw [← g1] at A1 st1
  have g_b1 : n0 ≤ b1 := Nat.le_trans (own_le O0) (Nat.le_of_eq g1.symm)
  have O1 := O0.ext E1
  have V1 : Arv Z h1 b1 k1 (.object "com/example/glacial_workflow/glacialworkflow/core/FailureClass") (7 : Int32) [.null, .null, .null, .null, .null, .null, .null] .null := (Arv.new A1 (by decide)).pad (pad_rep [] .null 7)
  obtain ⟨T2, X2, e2, st2⟩ := getS2 X1 hx hZ hown (host := "") (Or.inl (hw _ (List.mem_of_getElem? (i := 2) rfl))) Via.refl e1 (S_w_INFRASTRUCTURE.ext O1.2) (g := (mkF m 7 #[.val (.int p1), .unset, .unset, .unset, .unset, .unset] [(.int (0 : Int32)), (.ref b1), (.ref b1)])) rfl (hb hby at_7)
  have Vc3 := V1
  obtain ⟨cl3, Ar3, qa3, Sz3, Nn3, Ha3, Ga3⟩ := Vc3
  have hin3 : ¬ ((0 : Int32) < 0 ∨ cl3.slots.size ≤ ((0 : Int32)).toNatClampNeg) := inb_of Sz3 ⟨by decide, by decide⟩
  obtain ⟨T3, h3, X3, e3, W3, st3⟩ := stR X2 hx hZ e2 Ar3 (j := (0 : Int32)) hin3 rfl (Sto.ofV Ar3 qa3 Ov1 (Ins.self (E_w_INFRASTRUCTURE.ext O1.2))) (g := (mkF m 10 #[.val (.int p1), .unset, .unset, .unset, .unset, .unset] [(.ref w_INFRASTRUCTURE), (.int (0 : Int32)), (.ref b1), (.ref b1)])) rfl rfl (hb hby at_10)
  have V3 : Arv Z h3 b1 k1 (.object "com/example/glacial_workflow/glacialworkflow/core/FailureClass") (7 : Int32) [(.ref w_INFRASTRUCTURE), .null, .null, .null, .null, .null, .null] .null := Arv.set Ar3 qa3 Sz3 Nn3 Ha3 Ga3 rfl W3 0 rfl (Nat.le_of_ble_eq_true rfl)
  have O3 := O1.wr W3 g_b1
  have N3 := Fr.snoc X3 N0 g_b1
  obtain ⟨T4, X4, e4, st4⟩ := getS2 X3 hx hZ hown (host := "") (Or.inl (hw _ (List.mem_of_getElem? (i := 6) rfl))) Via.refl e3 (S_w_TRANSIENT.ext O3.2) (g := (mkF m 13 #[.val (.int p1), .unset, .unset, .unset, .unset, .unset] [(.int (1 : Int32)), (.ref b1), (.ref b1)])) rfl (hb hby at_13)
  have Vc5 := V3
  obtain ⟨cl5, Ar5, qa5, Sz5, Nn5, Ha5, Ga5⟩ := Vc5
  have hin5 : ¬ ((1 : Int32) < 0 ∨ cl5.slots.size ≤ ((1 : Int32)).toNatClampNeg) := inb_of Sz5 ⟨by decide, by decide⟩
  obtain ⟨T5, h5, X5, e5, W5, st5⟩ := stR X4 hx hZ e4 Ar5 (j := (1 : Int32)) hin5 rfl (Sto.ofV Ar5 qa5 Ov1 (Ins.self (E_w_TRANSIENT.ext O3.2))) (g := (mkF m 16 #[.val (.int p1), .unset, .unset, .unset, .unset, .unset] [(.ref w_TRANSIENT), (.int (1 : Int32)), (.ref b1), (.ref b1)])) rfl rfl (hb hby at_16)
  have V5 : Arv Z h5 b1 k1 (.object "com/example/glacial_workflow/glacialworkflow/core/FailureClass") (7 : Int32) [(.ref w_INFRASTRUCTURE), (.ref w_TRANSIENT), .null, .null, .null, .null, .null] .null := Arv.set Ar5 qa5 Sz5 Nn5 Ha5 Ga5 rfl W5 1 rfl (Nat.le_of_ble_eq_true rfl)
  have O5 := O3.wr W5 g_b1
  have N5 := Fr.snoc X5 N3 g_b1
  obtain ⟨T6, X6, e6, st6⟩ := getS2 X5 hx hZ hown (host := "") (Or.inl (hw _ (List.mem_of_getElem? (i := 8) rfl))) Via.refl e5 (S_w_QUALITY.ext O5.2) (g := (mkF m 19 #[.val (.int p1), .unset, .unset, .unset, .unset, .unset] [(.int (2 : Int32)), (.ref b1), (.ref b1)])) rfl (hb hby at_19)
  have Vc7 := V5
  obtain ⟨cl7, Ar7, qa7, Sz7, Nn7, Ha7, Ga7⟩ := Vc7
  have hin7 : ¬ ((2 : Int32) < 0 ∨ cl7.slots.size ≤ ((2 : Int32)).toNatClampNeg) := inb_of Sz7 ⟨by decide, by decide⟩
  obtain ⟨T7, h7, X7, e7, W7, st7⟩ := stR X6 hx hZ e6 Ar7 (j := (2 : Int32)) hin7 rfl (Sto.ofV Ar7 qa7 Ov1 (Ins.self (E_w_QUALITY.ext O5.2))) (g := (mkF m 22 #[.val (.int p1), .unset, .unset, .unset, .unset, .unset] [(.ref w_QUALITY), (.int (2 : Int32)), (.ref b1), (.ref b1)])) rfl rfl (hb hby at_22)
  have V7 : Arv Z h7 b1 k1 (.object "com/example/glacial_workflow/glacialworkflow/core/FailureClass") (7 : Int32) [(.ref w_INFRASTRUCTURE), (.ref w_TRANSIENT), (.ref w_QUALITY), .null, .null, .null, .null] .null := Arv.set Ar7 qa7 Sz7 Nn7 Ha7 Ga7 rfl W7 2 rfl (Nat.le_of_ble_eq_true rfl)
  have O7 := O5.wr W7 g_b1
  have N7 := Fr.snoc X7 N5 g_b1
  obtain ⟨T8, X8, e8, st8⟩ := getS2 X7 hx hZ hown (host := "") (Or.inl (hw _ (List.mem_of_getElem? (i := 10) rfl))) Via.refl e7 (S_w_PERMANENT.ext O7.2) (g := (mkF m 25 #[.val (.int p1), .unset, .unset, .unset, .unset, .unset] [(.int (3 : Int32)), (.ref b1), (.ref b1)])) rfl (hb hby at_25)
  have Vc9 := V7
  obtain ⟨cl9, Ar9, qa9, Sz9, Nn9, Ha9, Ga9⟩ := Vc9
  have hin9 : ¬ ((3 : Int32) < 0 ∨ cl9.slots.size ≤ ((3 : Int32)).toNatClampNeg) := inb_of Sz9 ⟨by decide, by decide⟩
  obtain ⟨T9, h9, X9, e9, W9, st9⟩ := stR X8 hx hZ e8 Ar9 (j := (3 : Int32)) hin9 rfl (Sto.ofV Ar9 qa9 Ov1 (Ins.self (E_w_PERMANENT.ext O7.2))) (g := (mkF m 28 #[.val (.int p1), .unset, .unset, .unset, .unset, .unset] [(.ref w_PERMANENT), (.int (3 : Int32)), (.ref b1), (.ref b1)])) rfl rfl (hb hby at_28)
  have V9 : Arv Z h9 b1 k1 (.object "com/example/glacial_workflow/glacialworkflow/core/FailureClass") (7 : Int32) [(.ref w_INFRASTRUCTURE), (.ref w_TRANSIENT), (.ref w_QUALITY), (.ref w_PERMANENT), .null, .null, .null] .null := Arv.set Ar9 qa9 Sz9 Nn9 Ha9 Ga9 rfl W9 3 rfl (Nat.le_of_ble_eq_true rfl)
  have O9 := O7.wr W9 g_b1
  have N9 := Fr.snoc X9 N7 g_b1
  obtain ⟨T10, X10, e10, st10⟩ := getS2 X9 hx hZ hown (host := "") (Or.inl (hw _ (List.mem_of_getElem? (i := 12) rfl))) Via.refl e9 (S_w_REJECTED.ext O9.2) (g := (mkF m 31 #[.val (.int p1), .unset, .unset, .unset, .unset, .unset] [(.int (4 : Int32)), (.ref b1), (.ref b1)])) rfl (hb hby at_31)
  have Vc11 := V9
  obtain ⟨cl11, Ar11, qa11, Sz11, Nn11, Ha11, Ga11⟩ := Vc11
  have hin11 : ¬ ((4 : Int32) < 0 ∨ cl11.slots.size ≤ ((4 : Int32)).toNatClampNeg) := inb_of Sz11 ⟨by decide, by decide⟩
  obtain ⟨T11, h11, X11, e11, W11, st11⟩ := stR X10 hx hZ e10 Ar11 (j := (4 : Int32)) hin11 rfl (Sto.ofV Ar11 qa11 Ov1 (Ins.self (E_w_REJECTED.ext O9.2))) (g := (mkF m 34 #[.val (.int p1), .unset, .unset, .unset, .unset, .unset] [(.ref w_REJECTED), (.int (4 : Int32)), (.ref b1), (.ref b1)])) rfl rfl (hb hby at_34)
  have V11 : Arv Z h11 b1 k1 (.object "com/example/glacial_workflow/glacialworkflow/core/FailureClass") (7 : Int32) [(.ref w_INFRASTRUCTURE), (.ref w_TRANSIENT), (.ref w_QUALITY), (.ref w_PERMANENT), (.ref w_REJECTED), .null, .null] .null := Arv.set Ar11 qa11 Sz11 Nn11 Ha11 Ga11 rfl W11 4 rfl (Nat.le_of_ble_eq_true rfl)
  have O11 := O9.wr W11 g_b1
  have N11 := Fr.snoc X11 N9 g_b1
  obtain ⟨T12, X12, e12, st12⟩ := getS2 X11 hx hZ hown (host := "") (Or.inl (hw _ (List.mem_of_getElem? (i := 14) rfl))) Via.refl e11 (S_w_DEADLINE.ext O11.2) (g := (mkF m 37 #[.val (.int p1), .unset, .unset, .unset, .unset, .unset] [(.int (5 : Int32)), (.ref b1), (.ref b1)])) rfl (hb hby at_37)
  have Vc13 := V11
  obtain ⟨cl13, Ar13, qa13, Sz13, Nn13, Ha13, Ga13⟩ := Vc13
  have hin13 : ¬ ((5 : Int32) < 0 ∨ cl13.slots.size ≤ ((5 : Int32)).toNatClampNeg) := inb_of Sz13 ⟨by decide, by decide⟩
  obtain ⟨T13, h13, X13, e13, W13, st13⟩ := stR X12 hx hZ e12 Ar13 (j := (5 : Int32)) hin13 rfl (Sto.ofV Ar13 qa13 Ov1 (Ins.self (E_w_DEADLINE.ext O11.2))) (g := (mkF m 40 #[.val (.int p1), .unset, .unset, .unset, .unset, .unset] [(.ref w_DEADLINE), (.int (5 : Int32)), (.ref b1), (.ref b1)])) rfl rfl (hb hby at_40)
  have V13 : Arv Z h13 b1 k1 (.object "com/example/glacial_workflow/glacialworkflow/core/FailureClass") (7 : Int32) [(.ref w_INFRASTRUCTURE), (.ref w_TRANSIENT), (.ref w_QUALITY), (.ref w_PERMANENT), (.ref w_REJECTED), (.ref w_DEADLINE), .null] .null := Arv.set Ar13 qa13 Sz13 Nn13 Ha13 Ga13 rfl W13 5 rfl (Nat.le_of_ble_eq_true rfl)
  have O13 := O11.wr W13 g_b1
  have N13 := Fr.snoc X13 N11 g_b1
  obtain ⟨T14, X14, e14, st14⟩ := getS2 X13 hx hZ hown (host := "") (Or.inl (hw _ (List.mem_of_getElem? (i := 16) rfl))) Via.refl e13 (S_w_STALLED.ext O13.2) (g := (mkF m 44 #[.val (.int p1), .unset, .unset, .unset, .unset, .unset] [(.int (6 : Int32)), (.ref b1), (.ref b1)])) rfl (hb hby at_44)
  have Vc15 := V13
  obtain ⟨cl15, Ar15, qa15, Sz15, Nn15, Ha15, Ga15⟩ := Vc15
  have hin15 : ¬ ((6 : Int32) < 0 ∨ cl15.slots.size ≤ ((6 : Int32)).toNatClampNeg) := inb_of Sz15 ⟨by decide, by decide⟩
  obtain ⟨T15, h15, X15, e15, W15, st15⟩ := stR X14 hx hZ e14 Ar15 (j := (6 : Int32)) hin15 rfl (Sto.ofV Ar15 qa15 Ov1 (Ins.self (E_w_STALLED.ext O13.2))) (g := (mkF m 47 #[.val (.int p1), .unset, .unset, .unset, .unset, .unset] [(.ref w_STALLED), (.int (6 : Int32)), (.ref b1), (.ref b1)])) rfl rfl (hb hby at_47)
  have V15 : Arv Z h15 b1 k1 (.object "com/example/glacial_workflow/glacialworkflow/core/FailureClass") (7 : Int32) [(.ref w_INFRASTRUCTURE), (.ref w_TRANSIENT), (.ref w_QUALITY), (.ref w_PERMANENT), (.ref w_REJECTED), (.ref w_DEADLINE), (.ref w_STALLED)] .null := Arv.set Ar15 qa15 Sz15 Nn15 Ha15 Ga15 rfl W15 6 rfl (Nat.le_of_ble_eq_true rfl)
  have O15 := O13.wr W15 g_b1
  have N15 := Fr.snoc X15 N13 g_b1
  obtain ⟨T16, h16, k16, X16, e16, E16, A16, st16⟩ := newP X15 hx hZ (hw _ (List.mem_of_getElem? (i := 18) rfl)) e15 (g := (mkF m 51 #[.val (.int p1), .val (.ref b1), .unset, .unset, .unset, .unset] [(.int (7 : Int32))])) rfl (hb hby at_51) rfl (by decide) (cap := 7) (by decide) (by decide) (by decide) (by decide)
  obtain ⟨b16, g16⟩ : ∃ z, z = h15.size := ⟨_, rfl⟩
  rw [← g16] at A16 st16
  have ne_b1_b16 : b1 ≠ b16 := Nat.ne_of_lt (Nat.lt_of_lt_of_le V15.lt (Nat.le_of_eq g16.symm))
  have g_b16 : n0 ≤ b16 := Nat.le_trans (own_le O15) (Nat.le_of_eq g16.symm)
  have O16 := O15.ext E16
  have V16 : Arv Z h16 b16 k16 .boolean (7 : Int32) [(.int (0 : Int32)), (.int (0 : Int32)), (.int (0 : Int32)), (.int (0 : Int32)), (.int (0 : Int32)), (.int (0 : Int32)), (.int (0 : Int32))] (.int (0 : Int32)) := (Arv.new A16 (by decide)).pad (pad_rep [] (.int (0 : Int32)) 7)
  have Vc17 := V16
  obtain ⟨cl17, Ar17, qa17, Sz17, Nn17, Ha17, Ga17⟩ := Vc17
  have hin17 : ¬ ((0 : Int32) < 0 ∨ cl17.slots.size ≤ ((0 : Int32)).toNatClampNeg) := inb_of Sz17 ⟨by decide, by decide⟩
  obtain ⟨T17, h17, X17, e17, W17, st17⟩ := stZ X16 hx hZ e16 Ar17 (j := (0 : Int32)) hin17 (g := (mkF m 56 #[.val (.int p1), .val (.ref b1), .unset, .unset, .unset, .unset] [(.int (1 : Int32)), (.int (0 : Int32)), (.ref b16), (.ref b16)])) rfl rfl (hb hby at_56)
  have V17 : Arv Z h17 b16 k16 .boolean (7 : Int32) [(.int (1 : Int32)), (.int (0 : Int32)), (.int (0 : Int32)), (.int (0 : Int32)), (.int (0 : Int32)), (.int (0 : Int32)), (.int (0 : Int32))] (.int (0 : Int32)) := Arv.set Ar17 qa17 Sz17 Nn17 Ha17 Ga17 rfl W17 0 rfl (Nat.le_of_ble_eq_true rfl)
  have O17 := O16.wr W17 g_b16
  have N17 := Fr.snoc X17 N15 g_b16
  have Vc18 := V17
  obtain ⟨cl18, Ar18, qa18, Sz18, Nn18, Ha18, Ga18⟩ := Vc18
  have hin18 : ¬ ((1 : Int32) < 0 ∨ cl18.slots.size ≤ ((1 : Int32)).toNatClampNeg) := inb_of Sz18 ⟨by decide, by decide⟩
  obtain ⟨T18, h18, X18, e18, W18, st18⟩ := stZ X17 hx hZ e17 Ar18 (j := (1 : Int32)) hin18 (g := (mkF m 60 #[.val (.int p1), .val (.ref b1), .unset, .unset, .unset, .unset] [(.int (1 : Int32)), (.int (1 : Int32)), (.ref b16), (.ref b16)])) rfl rfl (hb hby at_60)
  have V18 : Arv Z h18 b16 k16 .boolean (7 : Int32) [(.int (1 : Int32)), (.int (1 : Int32)), (.int (0 : Int32)), (.int (0 : Int32)), (.int (0 : Int32)), (.int (0 : Int32)), (.int (0 : Int32))] (.int (0 : Int32)) := Arv.set Ar18 qa18 Sz18 Nn18 Ha18 Ga18 rfl W18 1 rfl (Nat.le_of_ble_eq_true rfl)
  have O18 := O17.wr W18 g_b16
  have N18 := Fr.snoc X18 N17 g_b16
  have Vc19 := V18
  obtain ⟨cl19, Ar19, qa19, Sz19, Nn19, Ha19, Ga19⟩ := Vc19
  have hin19 : ¬ ((2 : Int32) < 0 ∨ cl19.slots.size ≤ ((2 : Int32)).toNatClampNeg) := inb_of Sz19 ⟨by decide, by decide⟩
  obtain ⟨T19, h19, X19, e19, W19, st19⟩ := stZ X18 hx hZ e18 Ar19 (j := (2 : Int32)) hin19 (g := (mkF m 64 #[.val (.int p1), .val (.ref b1), .unset, .unset, .unset, .unset] [(.int (1 : Int32)), (.int (2 : Int32)), (.ref b16), (.ref b16)])) rfl rfl (hb hby at_64)
  have V19 : Arv Z h19 b16 k16 .boolean (7 : Int32) [(.int (1 : Int32)), (.int (1 : Int32)), (.int (1 : Int32)), (.int (0 : Int32)), (.int (0 : Int32)), (.int (0 : Int32)), (.int (0 : Int32))] (.int (0 : Int32)) := Arv.set Ar19 qa19 Sz19 Nn19 Ha19 Ga19 rfl W19 2 rfl (Nat.le_of_ble_eq_true rfl)
  have O19 := O18.wr W19 g_b16
  have N19 := Fr.snoc X19 N18 g_b16
  have Vc20 := V19
  obtain ⟨cl20, Ar20, qa20, Sz20, Nn20, Ha20, Ga20⟩ := Vc20
  have hin20 : ¬ ((3 : Int32) < 0 ∨ cl20.slots.size ≤ ((3 : Int32)).toNatClampNeg) := inb_of Sz20 ⟨by decide, by decide⟩
  obtain ⟨T20, h20, X20, e20, W20, st20⟩ := stZ X19 hx hZ e19 Ar20 (j := (3 : Int32)) hin20 (g := (mkF m 68 #[.val (.int p1), .val (.ref b1), .unset, .unset, .unset, .unset] [(.int (1 : Int32)), (.int (3 : Int32)), (.ref b16), (.ref b16)])) rfl rfl (hb hby at_68)
  have V20 : Arv Z h20 b16 k16 .boolean (7 : Int32) [(.int (1 : Int32)), (.int (1 : Int32)), (.int (1 : Int32)), (.int (1 : Int32)), (.int (0 : Int32)), (.int (0 : Int32)), (.int (0 : Int32))] (.int (0 : Int32)) := Arv.set Ar20 qa20 Sz20 Nn20 Ha20 Ga20 rfl W20 3 rfl (Nat.le_of_ble_eq_true rfl)
  have O20 := O19.wr W20 g_b16
  have N20 := Fr.snoc X20 N19 g_b16
  have Vc21 := V20
  obtain ⟨cl21, Ar21, qa21, Sz21, Nn21, Ha21, Ga21⟩ := Vc21
  have hin21 : ¬ ((4 : Int32) < 0 ∨ cl21.slots.size ≤ ((4 : Int32)).toNatClampNeg) := inb_of Sz21 ⟨by decide, by decide⟩
  obtain ⟨T21, h21, X21, e21, W21, st21⟩ := stZ X20 hx hZ e20 Ar21 (j := (4 : Int32)) hin21 (g := (mkF m 72 #[.val (.int p1), .val (.ref b1), .unset, .unset, .unset, .unset] [(.int (0 : Int32)), (.int (4 : Int32)), (.ref b16), (.ref b16)])) rfl rfl (hb hby at_72)
  have V21 : Arv Z h21 b16 k16 .boolean (7 : Int32) [(.int (1 : Int32)), (.int (1 : Int32)), (.int (1 : Int32)), (.int (1 : Int32)), (.int (0 : Int32)), (.int (0 : Int32)), (.int (0 : Int32))] (.int (0 : Int32)) := Arv.set Ar21 qa21 Sz21 Nn21 Ha21 Ga21 rfl W21 4 rfl (Nat.le_of_ble_eq_true rfl)
  have O21 := O20.wr W21 g_b16
  have N21 := Fr.snoc X21 N20 g_b16
  have Vc22 := V21
  obtain ⟨cl22, Ar22, qa22, Sz22, Nn22, Ha22, Ga22⟩ := Vc22
  have hin22 : ¬ ((5 : Int32) < 0 ∨ cl22.slots.size ≤ ((5 : Int32)).toNatClampNeg) := inb_of Sz22 ⟨by decide, by decide⟩
  obtain ⟨T22, h22, X22, e22, W22, st22⟩ := stZ X21 hx hZ e21 Ar22 (j := (5 : Int32)) hin22 (g := (mkF m 76 #[.val (.int p1), .val (.ref b1), .unset, .unset, .unset, .unset] [(.int (0 : Int32)), (.int (5 : Int32)), (.ref b16), (.ref b16)])) rfl rfl (hb hby at_76)
  have V22 : Arv Z h22 b16 k16 .boolean (7 : Int32) [(.int (1 : Int32)), (.int (1 : Int32)), (.int (1 : Int32)), (.int (1 : Int32)), (.int (0 : Int32)), (.int (0 : Int32)), (.int (0 : Int32))] (.int (0 : Int32)) := Arv.set Ar22 qa22 Sz22 Nn22 Ha22 Ga22 rfl W22 5 rfl (Nat.le_of_ble_eq_true rfl)
  have O22 := O21.wr W22 g_b16
  have N22 := Fr.snoc X22 N21 g_b16
  have Vc23 := V22
  obtain ⟨cl23, Ar23, qa23, Sz23, Nn23, Ha23, Ga23⟩ := Vc23
  have hin23 : ¬ ((6 : Int32) < 0 ∨ cl23.slots.size ≤ ((6 : Int32)).toNatClampNeg) := inb_of Sz23 ⟨by decide, by decide⟩
  obtain ⟨T23, h23, X23, e23, W23, st23⟩ := stZ X22 hx hZ e22 Ar23 (j := (6 : Int32)) hin23 (g := (mkF m 81 #[.val (.int p1), .val (.ref b1), .unset, .unset, .unset, .unset] [(.int (0 : Int32)), (.int (6 : Int32)), (.ref b16), (.ref b16)])) rfl rfl (hb hby at_81)
  have V23 : Arv Z h23 b16 k16 .boolean (7 : Int32) [(.int (1 : Int32)), (.int (1 : Int32)), (.int (1 : Int32)), (.int (1 : Int32)), (.int (0 : Int32)), (.int (0 : Int32)), (.int (0 : Int32))] (.int (0 : Int32)) := Arv.set Ar23 qa23 Sz23 Nn23 Ha23 Ga23 rfl W23 6 rfl (Nat.le_of_ble_eq_true rfl)
  have O23 := O22.wr W23 g_b16
  have N23 := Fr.snoc X23 N22 g_b16
  have pre24 : ∀ t, Steps p.tables e below (T23.setTop (mkF m 91 #[.val (.int p1), .val (.ref b1), .val (.ref b16), .val (.int ((p1 &&& (2147483647 : Int32)) % (7 : Int32))), .unset, .unset] [])) t → Steps p.tables e below (s₁.setTop (entryFrame m #[(.int p1)] maxLocals)) t := by
    intro t kt
    refine pre0 _ ?_
    show Steps p.tables e below (s₁.setTop (mkF m 0 #[.val (.int p1), .unset, .unset, .unset, .unset, .unset] [])) _
    refine XS.bipush X0.here hx rfl (hb hby at_0) ?_
    show Steps p.tables e below (s₁.setTop (mkF m 2 #[.val (.int p1), .unset, .unset, .unset, .unset, .unset] [(.int (7 : Int32))])) _
    refine st1 _ ?_
    show Steps p.tables e below (T1.setTop (mkF m 5 #[.val (.int p1), .unset, .unset, .unset, .unset, .unset] [(.ref b1)])) _
    refine XS.dup X1.here hx rfl (hb hby at_5) rfl rfl ?_
    show Steps p.tables e below (T1.setTop (mkF m 6 #[.val (.int p1), .unset, .unset, .unset, .unset, .unset] [(.ref b1), (.ref b1)])) _
    refine XS.iconst X1.here hx rfl (hb hby at_6) ?_
    show Steps p.tables e below (T1.setTop (mkF m 7 #[.val (.int p1), .unset, .unset, .unset, .unset, .unset] [(.int (0 : Int32)), (.ref b1), (.ref b1)])) _
    refine st2 _ ?_
    show Steps p.tables e below (T2.setTop (mkF m 10 #[.val (.int p1), .unset, .unset, .unset, .unset, .unset] [(.ref w_INFRASTRUCTURE), (.int (0 : Int32)), (.ref b1), (.ref b1)])) _
    refine st3 _ ?_
    show Steps p.tables e below (T3.setTop (mkF m 11 #[.val (.int p1), .unset, .unset, .unset, .unset, .unset] [(.ref b1)])) _
    refine XS.dup X3.here hx rfl (hb hby at_11) rfl rfl ?_
    show Steps p.tables e below (T3.setTop (mkF m 12 #[.val (.int p1), .unset, .unset, .unset, .unset, .unset] [(.ref b1), (.ref b1)])) _
    refine XS.iconst X3.here hx rfl (hb hby at_12) ?_
    show Steps p.tables e below (T3.setTop (mkF m 13 #[.val (.int p1), .unset, .unset, .unset, .unset, .unset] [(.int (1 : Int32)), (.ref b1), (.ref b1)])) _
    refine st4 _ ?_
    show Steps p.tables e below (T4.setTop (mkF m 16 #[.val (.int p1), .unset, .unset, .unset, .unset, .unset] [(.ref w_TRANSIENT), (.int (1 : Int32)), (.ref b1), (.ref b1)])) _
    refine st5 _ ?_
    show Steps p.tables e below (T5.setTop (mkF m 17 #[.val (.int p1), .unset, .unset, .unset, .unset, .unset] [(.ref b1)])) _
    refine XS.dup X5.here hx rfl (hb hby at_17) rfl rfl ?_
    show Steps p.tables e below (T5.setTop (mkF m 18 #[.val (.int p1), .unset, .unset, .unset, .unset, .unset] [(.ref b1), (.ref b1)])) _
    refine XS.iconst X5.here hx rfl (hb hby at_18) ?_
    show Steps p.tables e below (T5.setTop (mkF m 19 #[.val (.int p1), .unset, .unset, .unset, .unset, .unset] [(.int (2 : Int32)), (.ref b1), (.ref b1)])) _
    refine st6 _ ?_
    show Steps p.tables e below (T6.setTop (mkF m 22 #[.val (.int p1), .unset, .unset, .unset, .unset, .unset] [(.ref w_QUALITY), (.int (2 : Int32)), (.ref b1), (.ref b1)])) _
    refine st7 _ ?_
    show Steps p.tables e below (T7.setTop (mkF m 23 #[.val (.int p1), .unset, .unset, .unset, .unset, .unset] [(.ref b1)])) _
    refine XS.dup X7.here hx rfl (hb hby at_23) rfl rfl ?_
    show Steps p.tables e below (T7.setTop (mkF m 24 #[.val (.int p1), .unset, .unset, .unset, .unset, .unset] [(.ref b1), (.ref b1)])) _
    refine XS.iconst X7.here hx rfl (hb hby at_24) ?_
    show Steps p.tables e below (T7.setTop (mkF m 25 #[.val (.int p1), .unset, .unset, .unset, .unset, .unset] [(.int (3 : Int32)), (.ref b1), (.ref b1)])) _
    refine st8 _ ?_
    show Steps p.tables e below (T8.setTop (mkF m 28 #[.val (.int p1), .unset, .unset, .unset, .unset, .unset] [(.ref w_PERMANENT), (.int (3 : Int32)), (.ref b1), (.ref b1)])) _
    refine st9 _ ?_
    show Steps p.tables e below (T9.setTop (mkF m 29 #[.val (.int p1), .unset, .unset, .unset, .unset, .unset] [(.ref b1)])) _
    refine XS.dup X9.here hx rfl (hb hby at_29) rfl rfl ?_
    show Steps p.tables e below (T9.setTop (mkF m 30 #[.val (.int p1), .unset, .unset, .unset, .unset, .unset] [(.ref b1), (.ref b1)])) _
    refine XS.iconst X9.here hx rfl (hb hby at_30) ?_
    show Steps p.tables e below (T9.setTop (mkF m 31 #[.val (.int p1), .unset, .unset, .unset, .unset, .unset] [(.int (4 : Int32)), (.ref b1), (.ref b1)])) _
    refine st10 _ ?_
    show Steps p.tables e below (T10.setTop (mkF m 34 #[.val (.int p1), .unset, .unset, .unset, .unset, .unset] [(.ref w_REJECTED), (.int (4 : Int32)), (.ref b1), (.ref b1)])) _
    refine st11 _ ?_
    show Steps p.tables e below (T11.setTop (mkF m 35 #[.val (.int p1), .unset, .unset, .unset, .unset, .unset] [(.ref b1)])) _
    refine XS.dup X11.here hx rfl (hb hby at_35) rfl rfl ?_
    show Steps p.tables e below (T11.setTop (mkF m 36 #[.val (.int p1), .unset, .unset, .unset, .unset, .unset] [(.ref b1), (.ref b1)])) _
    refine XS.iconst X11.here hx rfl (hb hby at_36) ?_
    show Steps p.tables e below (T11.setTop (mkF m 37 #[.val (.int p1), .unset, .unset, .unset, .unset, .unset] [(.int (5 : Int32)), (.ref b1), (.ref b1)])) _
    refine st12 _ ?_
    show Steps p.tables e below (T12.setTop (mkF m 40 #[.val (.int p1), .unset, .unset, .unset, .unset, .unset] [(.ref w_DEADLINE), (.int (5 : Int32)), (.ref b1), (.ref b1)])) _
    refine st13 _ ?_
    show Steps p.tables e below (T13.setTop (mkF m 41 #[.val (.int p1), .unset, .unset, .unset, .unset, .unset] [(.ref b1)])) _
    refine XS.dup X13.here hx rfl (hb hby at_41) rfl rfl ?_
    show Steps p.tables e below (T13.setTop (mkF m 42 #[.val (.int p1), .unset, .unset, .unset, .unset, .unset] [(.ref b1), (.ref b1)])) _
    refine XS.bipush X13.here hx rfl (hb hby at_42) ?_
    show Steps p.tables e below (T13.setTop (mkF m 44 #[.val (.int p1), .unset, .unset, .unset, .unset, .unset] [(.int (6 : Int32)), (.ref b1), (.ref b1)])) _
    refine st14 _ ?_
    show Steps p.tables e below (T14.setTop (mkF m 47 #[.val (.int p1), .unset, .unset, .unset, .unset, .unset] [(.ref w_STALLED), (.int (6 : Int32)), (.ref b1), (.ref b1)])) _
    refine st15 _ ?_
    show Steps p.tables e below (T15.setTop (mkF m 48 #[.val (.int p1), .unset, .unset, .unset, .unset, .unset] [(.ref b1)])) _
    refine XS.astoreN X15.here hx rfl (hb hby at_48) rfl rfl (l' := #[.val (.int p1), .val (.ref b1), .unset, .unset, .unset, .unset]) rfl ?_
    show Steps p.tables e below (T15.setTop (mkF m 49 #[.val (.int p1), .val (.ref b1), .unset, .unset, .unset, .unset] [])) _
    refine XS.bipush X15.here hx rfl (hb hby at_49) ?_
    show Steps p.tables e below (T15.setTop (mkF m 51 #[.val (.int p1), .val (.ref b1), .unset, .unset, .unset, .unset] [(.int (7 : Int32))])) _
    refine st16 _ ?_
    show Steps p.tables e below (T16.setTop (mkF m 53 #[.val (.int p1), .val (.ref b1), .unset, .unset, .unset, .unset] [(.ref b16)])) _
    refine XS.dup X16.here hx rfl (hb hby at_53) rfl rfl ?_
    show Steps p.tables e below (T16.setTop (mkF m 54 #[.val (.int p1), .val (.ref b1), .unset, .unset, .unset, .unset] [(.ref b16), (.ref b16)])) _
    refine XS.iconst X16.here hx rfl (hb hby at_54) ?_
    show Steps p.tables e below (T16.setTop (mkF m 55 #[.val (.int p1), .val (.ref b1), .unset, .unset, .unset, .unset] [(.int (0 : Int32)), (.ref b16), (.ref b16)])) _
    refine XS.iconst X16.here hx rfl (hb hby at_55) ?_
    show Steps p.tables e below (T16.setTop (mkF m 56 #[.val (.int p1), .val (.ref b1), .unset, .unset, .unset, .unset] [(.int (1 : Int32)), (.int (0 : Int32)), (.ref b16), (.ref b16)])) _
    refine st17 _ ?_
    show Steps p.tables e below (T17.setTop (mkF m 57 #[.val (.int p1), .val (.ref b1), .unset, .unset, .unset, .unset] [(.ref b16)])) _
    refine XS.dup X17.here hx rfl (hb hby at_57) rfl rfl ?_
    show Steps p.tables e below (T17.setTop (mkF m 58 #[.val (.int p1), .val (.ref b1), .unset, .unset, .unset, .unset] [(.ref b16), (.ref b16)])) _
    refine XS.iconst X17.here hx rfl (hb hby at_58) ?_
    show Steps p.tables e below (T17.setTop (mkF m 59 #[.val (.int p1), .val (.ref b1), .unset, .unset, .unset, .unset] [(.int (1 : Int32)), (.ref b16), (.ref b16)])) _
    refine XS.iconst X17.here hx rfl (hb hby at_59) ?_
    show Steps p.tables e below (T17.setTop (mkF m 60 #[.val (.int p1), .val (.ref b1), .unset, .unset, .unset, .unset] [(.int (1 : Int32)), (.int (1 : Int32)), (.ref b16), (.ref b16)])) _
    refine st18 _ ?_
    show Steps p.tables e below (T18.setTop (mkF m 61 #[.val (.int p1), .val (.ref b1), .unset, .unset, .unset, .unset] [(.ref b16)])) _
    refine XS.dup X18.here hx rfl (hb hby at_61) rfl rfl ?_
    show Steps p.tables e below (T18.setTop (mkF m 62 #[.val (.int p1), .val (.ref b1), .unset, .unset, .unset, .unset] [(.ref b16), (.ref b16)])) _
    refine XS.iconst X18.here hx rfl (hb hby at_62) ?_
    show Steps p.tables e below (T18.setTop (mkF m 63 #[.val (.int p1), .val (.ref b1), .unset, .unset, .unset, .unset] [(.int (2 : Int32)), (.ref b16), (.ref b16)])) _
    refine XS.iconst X18.here hx rfl (hb hby at_63) ?_
    show Steps p.tables e below (T18.setTop (mkF m 64 #[.val (.int p1), .val (.ref b1), .unset, .unset, .unset, .unset] [(.int (1 : Int32)), (.int (2 : Int32)), (.ref b16), (.ref b16)])) _
    refine st19 _ ?_
    show Steps p.tables e below (T19.setTop (mkF m 65 #[.val (.int p1), .val (.ref b1), .unset, .unset, .unset, .unset] [(.ref b16)])) _
    refine XS.dup X19.here hx rfl (hb hby at_65) rfl rfl ?_
    show Steps p.tables e below (T19.setTop (mkF m 66 #[.val (.int p1), .val (.ref b1), .unset, .unset, .unset, .unset] [(.ref b16), (.ref b16)])) _
    refine XS.iconst X19.here hx rfl (hb hby at_66) ?_
    show Steps p.tables e below (T19.setTop (mkF m 67 #[.val (.int p1), .val (.ref b1), .unset, .unset, .unset, .unset] [(.int (3 : Int32)), (.ref b16), (.ref b16)])) _
    refine XS.iconst X19.here hx rfl (hb hby at_67) ?_
    show Steps p.tables e below (T19.setTop (mkF m 68 #[.val (.int p1), .val (.ref b1), .unset, .unset, .unset, .unset] [(.int (1 : Int32)), (.int (3 : Int32)), (.ref b16), (.ref b16)])) _
    refine st20 _ ?_
    show Steps p.tables e below (T20.setTop (mkF m 69 #[.val (.int p1), .val (.ref b1), .unset, .unset, .unset, .unset] [(.ref b16)])) _
    refine XS.dup X20.here hx rfl (hb hby at_69) rfl rfl ?_
    show Steps p.tables e below (T20.setTop (mkF m 70 #[.val (.int p1), .val (.ref b1), .unset, .unset, .unset, .unset] [(.ref b16), (.ref b16)])) _
    refine XS.iconst X20.here hx rfl (hb hby at_70) ?_
    show Steps p.tables e below (T20.setTop (mkF m 71 #[.val (.int p1), .val (.ref b1), .unset, .unset, .unset, .unset] [(.int (4 : Int32)), (.ref b16), (.ref b16)])) _
    refine XS.iconst X20.here hx rfl (hb hby at_71) ?_
    show Steps p.tables e below (T20.setTop (mkF m 72 #[.val (.int p1), .val (.ref b1), .unset, .unset, .unset, .unset] [(.int (0 : Int32)), (.int (4 : Int32)), (.ref b16), (.ref b16)])) _
    refine st21 _ ?_
    show Steps p.tables e below (T21.setTop (mkF m 73 #[.val (.int p1), .val (.ref b1), .unset, .unset, .unset, .unset] [(.ref b16)])) _
    refine XS.dup X21.here hx rfl (hb hby at_73) rfl rfl ?_
    show Steps p.tables e below (T21.setTop (mkF m 74 #[.val (.int p1), .val (.ref b1), .unset, .unset, .unset, .unset] [(.ref b16), (.ref b16)])) _
    refine XS.iconst X21.here hx rfl (hb hby at_74) ?_
    show Steps p.tables e below (T21.setTop (mkF m 75 #[.val (.int p1), .val (.ref b1), .unset, .unset, .unset, .unset] [(.int (5 : Int32)), (.ref b16), (.ref b16)])) _
    refine XS.iconst X21.here hx rfl (hb hby at_75) ?_
    show Steps p.tables e below (T21.setTop (mkF m 76 #[.val (.int p1), .val (.ref b1), .unset, .unset, .unset, .unset] [(.int (0 : Int32)), (.int (5 : Int32)), (.ref b16), (.ref b16)])) _
    refine st22 _ ?_
    show Steps p.tables e below (T22.setTop (mkF m 77 #[.val (.int p1), .val (.ref b1), .unset, .unset, .unset, .unset] [(.ref b16)])) _
    refine XS.dup X22.here hx rfl (hb hby at_77) rfl rfl ?_
    show Steps p.tables e below (T22.setTop (mkF m 78 #[.val (.int p1), .val (.ref b1), .unset, .unset, .unset, .unset] [(.ref b16), (.ref b16)])) _
    refine XS.bipush X22.here hx rfl (hb hby at_78) ?_
    show Steps p.tables e below (T22.setTop (mkF m 80 #[.val (.int p1), .val (.ref b1), .unset, .unset, .unset, .unset] [(.int (6 : Int32)), (.ref b16), (.ref b16)])) _
    refine XS.iconst X22.here hx rfl (hb hby at_80) ?_
    show Steps p.tables e below (T22.setTop (mkF m 81 #[.val (.int p1), .val (.ref b1), .unset, .unset, .unset, .unset] [(.int (0 : Int32)), (.int (6 : Int32)), (.ref b16), (.ref b16)])) _
    refine st23 _ ?_
    show Steps p.tables e below (T23.setTop (mkF m 82 #[.val (.int p1), .val (.ref b1), .unset, .unset, .unset, .unset] [(.ref b16)])) _
    refine XS.astoreN X23.here hx rfl (hb hby at_82) rfl rfl (l' := #[.val (.int p1), .val (.ref b1), .val (.ref b16), .unset, .unset, .unset]) rfl ?_
    show Steps p.tables e below (T23.setTop (mkF m 83 #[.val (.int p1), .val (.ref b1), .val (.ref b16), .unset, .unset, .unset] [])) _
    refine XS.iloadN X23.here hx rfl (hb hby at_83) rfl ?_
    show Steps p.tables e below (T23.setTop (mkF m 84 #[.val (.int p1), .val (.ref b1), .val (.ref b16), .unset, .unset, .unset] [(.int p1)])) _
    refine X23.ldcInt hx hown (mvT hZ (hw _ (List.mem_of_getElem? (i := 19) rfl))) (g := (mkF m 84 #[.val (.int p1), .val (.ref b1), .val (.ref b16), .unset, .unset, .unset] [(.int p1)])) rfl (hb hby at_84) _ ?_
    show Steps p.tables e below (T23.setTop (mkF m 86 #[.val (.int p1), .val (.ref b1), .val (.ref b16), .unset, .unset, .unset] [(.int (2147483647 : Int32)), (.int p1)])) _
    refine XS.iand X23.here hx rfl (hb hby at_86) rfl ?_
    show Steps p.tables e below (T23.setTop (mkF m 87 #[.val (.int p1), .val (.ref b1), .val (.ref b16), .unset, .unset, .unset] [(.int (p1 &&& (2147483647 : Int32)))])) _
    refine XS.bipush X23.here hx rfl (hb hby at_87) ?_
    show Steps p.tables e below (T23.setTop (mkF m 89 #[.val (.int p1), .val (.ref b1), .val (.ref b16), .unset, .unset, .unset] [(.int (7 : Int32)), (.int (p1 &&& (2147483647 : Int32)))])) _
    refine iremM X23 hx (g := (mkF m 89 #[.val (.int p1), .val (.ref b1), .val (.ref b16), .unset, .unset, .unset] [(.int (7 : Int32)), (.int (p1 &&& (2147483647 : Int32)))])) rfl (hb hby at_89) rfl (by decide) ?_
    show Steps p.tables e below (T23.setTop (mkF m 90 #[.val (.int p1), .val (.ref b1), .val (.ref b16), .unset, .unset, .unset] [(.int ((p1 &&& (2147483647 : Int32)) % (7 : Int32)))])) _
    refine XS.istoreN X23.here hx rfl (hb hby at_90) rfl (l' := #[.val (.int p1), .val (.ref b1), .val (.ref b16), .val (.int ((p1 &&& (2147483647 : Int32)) % (7 : Int32))), .unset, .unset]) rfl ?_
    exact kt
  rcases own_k p1 with hv25 | hv25 | hv25 | hv25 | hv25 | hv25 | hv25
  · rw [hv25] at pre24
    have f27 := ((((((((V15.ext E16).other W17 ne_b1_b16).other W18 ne_b1_b16).other W19 ne_b1_b16).other W20 ne_b1_b16).other W21 ne_b1_b16).other W22 ne_b1_b16).other W23 ne_b1_b16)
    have Vc26 := f27
    obtain ⟨cl26, Ar26, qa26, Sz26, Nn26, Ha26, Ga26⟩ := Vc26
    have hin26 : ¬ ((0 : Int32) < 0 ∨ cl26.slots.size ≤ ((0 : Int32)).toNatClampNeg) := inb_of Sz26 ⟨by decide, by decide⟩
    have hat26 : cl26.slots[((0 : Int32)).toNatClampNeg]? = some (.ref w_INFRASTRUCTURE) := Has.at Ha26 hin26 rfl
    obtain ⟨cq28, kq28, q28a, q28b, q28c⟩ := isOf hZ e23 (E_w_INFRASTRUCTURE.ext O23.2)
    obtain ⟨_, _, ⟨T28, L28, k28, n28⟩, -, X28, ⟨Lc28, hQ28, l28, y28, z28⟩, st28⟩ := X23.virtualBack hx (y := (⟨"com/example/glacial_workflow/glacialworkflow/core/FailureClass", "isRetriedWhenCured", "()Z"⟩ : MethodName)) (z := (⟨"com/example/glacial_workflow/glacialworkflow/core/FailureClass", "isRetriedWhenCured", "()Z"⟩ : MethodName)) hown (mvT hZ (hw _ (List.mem_of_getElem? (i := 20) rfl))) (mvT hZ (hw _ (List.mem_of_getElem? (i := 21) rfl))) (notFace_of_selects (args := #[]) (mvT hZ (hw _ (List.mem_of_getElem? (i := 23) rfl)))) (mvT hZ (hw _ (List.mem_of_getElem? (i := 23) rfl))) (mvT hZ (hw _ (List.mem_of_getElem? (i := 22) rfl))) (by decide) (backOf (W := 0) (rc_INFRASTRUCTURE l Z a0 hw [] w_INFRASTRUCTURE w_TRANSIENT w_QUALITY w_PERMANENT w_REJECTED w_DEADLINE w_STALLED h23 n0 O23 hE) hZ (hw _ (List.mem_of_getElem? (i := 24) rfl)) (hw _ (List.mem_of_getElem? (i := 3) rfl)) (by decide) (by decide)) q28a q28c (g := (mkF m 98 #[.val (.int p1), .val (.ref b1), .val (.ref b16), .val (.int (0 : Int32)), .val (.ref w_INFRASTRUCTURE), .unset] [(.ref w_INFRASTRUCTURE)])) rfl (by rw [hml]; rfl) (Steps.refl _) (argsL := []) (rest := []) (lenOf pd___Z rfl) rfl (by show 2 * 0 + _ ≤ _; exact Nat.le_of_eq rfl) (hb hby at_98) (fun _ _ => ⟨rfl, e23, (by decide : 2 + 0 ≤ _), (by decide : 14 + 0 ≤ _)⟩)
    dsimp only [Pt.U, Pt.locs, Pt.cells, Pt.slots] at X28 l28 y28 z28 st28 hQ28
    subst l28 y28 z28
    obtain ⟨rfl, Nq28, eq28⟩ := hQ28
    have N28 := Fr.app N23 Nq28
    have Vc29 := V23
    obtain ⟨cl29, Ar29, qa29, Sz29, Nn29, Ha29, Ga29⟩ := Vc29
    have hin29 : ¬ ((0 : Int32) < 0 ∨ cl29.slots.size ≤ ((0 : Int32)).toNatClampNeg) := inb_of Sz29 ⟨by decide, by decide⟩
    have hat29 : cl29.slots[((0 : Int32)).toNatClampNeg]? = some (.int (1 : Int32)) := Has.at Ha29 hin29 rfl
    obtain ⟨cq30, kq30, q30a, q30b, q30c⟩ := isOf hZ eq28 (E_w_INFRASTRUCTURE.ext O23.2)
    obtain ⟨_, _, ⟨T30, L30, k30, n30⟩, -, X30, ⟨Lc30, hQ30, l30, y30, z30⟩, st30⟩ := X28.virtualBack hx (y := (⟨"com/example/glacial_workflow/glacialworkflow/core/FailureClass", "isRetried", "()Z"⟩ : MethodName)) (z := (⟨"com/example/glacial_workflow/glacialworkflow/core/FailureClass", "isRetried", "()Z"⟩ : MethodName)) hown (mvT hZ (hw _ (List.mem_of_getElem? (i := 28) rfl))) (mvT hZ (hw _ (List.mem_of_getElem? (i := 29) rfl))) (notFace_of_selects (args := #[]) (mvT hZ (hw _ (List.mem_of_getElem? (i := 31) rfl)))) (mvT hZ (hw _ (List.mem_of_getElem? (i := 31) rfl))) (mvT hZ (hw _ (List.mem_of_getElem? (i := 30) rfl))) (by decide) (backOf (W := 0) (re_INFRASTRUCTURE l Z a0 hw [] w_INFRASTRUCTURE w_TRANSIENT w_QUALITY w_PERMANENT w_REJECTED w_DEADLINE w_STALLED h23 n0 O23 hE) hZ (hw _ (List.mem_of_getElem? (i := 32) rfl)) (hw _ (List.mem_of_getElem? (i := 3) rfl)) (by decide) (by decide)) q30a q30c (g := (mkF m 115 #[.val (.int p1), .val (.ref b1), .val (.ref b16), .val (.int (0 : Int32)), .val (.ref w_INFRASTRUCTURE), .val (.int (1 : Int32))] [(.ref w_INFRASTRUCTURE)])) rfl (by rw [hml]; rfl) (Steps.refl _) (argsL := []) (rest := []) (lenOf pd___Z rfl) rfl (by show 2 * 0 + _ ≤ _; exact Nat.le_of_eq rfl) (hb hby at_115) (fun _ _ => ⟨rfl, eq28, (by decide : 2 + 0 ≤ _), (by decide : 14 + 0 ≤ _)⟩)
    dsimp only [Pt.U, Pt.locs, Pt.cells, Pt.slots] at X30 l30 y30 z30 st30 hQ30
    subst l30 y30 z30
    obtain ⟨rfl, Nq30, eq30⟩ := hQ30
    have N30 := Fr.app N28 Nq30
    obtain ⟨fs, hr, hrun, hended, hW, hsame⟩ := X30.leave (v := some (.int (1 : Int32))) (fun h => by rw [Bd.returns] at h; cases h)
    refine ⟨_, _, pre24 _ ?_, hrun, hended, _, _, rfl, ?_, ⟨_, rfl⟩, hW, hsame.mono (by decide) (by decide)⟩
    · show Steps p.tables e below (T23.setTop (mkF m 91 #[.val (.int p1), .val (.ref b1), .val (.ref b16), .val (.int (0 : Int32)), .unset, .unset] [])) _
      refine XS.aloadN X23.here hx rfl (hb hby at_91) rfl rfl ?_
      show Steps p.tables e below (T23.setTop (mkF m 92 #[.val (.int p1), .val (.ref b1), .val (.ref b16), .val (.int (0 : Int32)), .unset, .unset] [(.ref b1)])) _
      refine XS.iloadN X23.here hx rfl (hb hby at_92) rfl ?_
      show Steps p.tables e below (T23.setTop (mkF m 93 #[.val (.int p1), .val (.ref b1), .val (.ref b16), .val (.int (0 : Int32)), .unset, .unset] [(.int (0 : Int32)), (.ref b1)])) _
      refine X23.aaload hx (j := (0 : Int32)) (v := (.ref w_INFRASTRUCTURE)) (by rw [e23]; exact Ar26.1) (State.isArrayOf_alike hZ.alike Ar26.2.1) rfl Ar26.2.2 hin26 hat26 (g := (mkF m 93 #[.val (.int p1), .val (.ref b1), .val (.ref b16), .val (.int (0 : Int32)), .unset, .unset] [(.int (0 : Int32)), (.ref b1)])) rfl rfl (hb hby at_93) _ ?_
      show Steps p.tables e below (T23.setTop (mkF m 94 #[.val (.int p1), .val (.ref b1), .val (.ref b16), .val (.int (0 : Int32)), .unset, .unset] [(.ref w_INFRASTRUCTURE)])) _
      refine XS.astore X23.here hx rfl (hb hby at_94) rfl rfl (l' := #[.val (.int p1), .val (.ref b1), .val (.ref b16), .val (.int (0 : Int32)), .val (.ref w_INFRASTRUCTURE), .unset]) rfl ?_
      show Steps p.tables e below (T23.setTop (mkF m 96 #[.val (.int p1), .val (.ref b1), .val (.ref b16), .val (.int (0 : Int32)), .val (.ref w_INFRASTRUCTURE), .unset] [])) _
      refine XS.aload X23.here hx rfl (hb hby at_96) rfl rfl ?_
      show Steps p.tables e below (T23.setTop (mkF m 98 #[.val (.int p1), .val (.ref b1), .val (.ref b16), .val (.int (0 : Int32)), .val (.ref w_INFRASTRUCTURE), .unset] [(.ref w_INFRASTRUCTURE)])) _
      refine st28.trans ?_
      show Steps p.tables e below (T28.setTop (mkF m 101 #[.val (.int p1), .val (.ref b1), .val (.ref b16), .val (.int (0 : Int32)), .val (.ref w_INFRASTRUCTURE), .unset] [(.int (1 : Int32))])) _
      refine XS.istore X28.here hx rfl (hb hby at_101) rfl (l' := #[.val (.int p1), .val (.ref b1), .val (.ref b16), .val (.int (0 : Int32)), .val (.ref w_INFRASTRUCTURE), .val (.int (1 : Int32))]) rfl ?_
      show Steps p.tables e below (T28.setTop (mkF m 103 #[.val (.int p1), .val (.ref b1), .val (.ref b16), .val (.int (0 : Int32)), .val (.ref w_INFRASTRUCTURE), .val (.int (1 : Int32))] [])) _
      refine XS.iload X28.here hx rfl (hb hby at_103) rfl ?_
      show Steps p.tables e below (T28.setTop (mkF m 105 #[.val (.int p1), .val (.ref b1), .val (.ref b16), .val (.int (0 : Int32)), .val (.ref w_INFRASTRUCTURE), .val (.int (1 : Int32))] [(.int (1 : Int32))])) _
      refine XS.aloadN X28.here hx rfl (hb hby at_105) rfl rfl ?_
      show Steps p.tables e below (T28.setTop (mkF m 106 #[.val (.int p1), .val (.ref b1), .val (.ref b16), .val (.int (0 : Int32)), .val (.ref w_INFRASTRUCTURE), .val (.int (1 : Int32))] [(.ref b16), (.int (1 : Int32))])) _
      refine XS.iloadN X28.here hx rfl (hb hby at_106) rfl ?_
      show Steps p.tables e below (T28.setTop (mkF m 107 #[.val (.int p1), .val (.ref b1), .val (.ref b16), .val (.int (0 : Int32)), .val (.ref w_INFRASTRUCTURE), .val (.int (1 : Int32))] [(.int (0 : Int32)), (.ref b16), (.int (1 : Int32))])) _
      refine X28.baloadBooleans hx (j := (0 : Int32)) (v := (.int (1 : Int32))) (by rw [eq28]; exact Ar29.1) (State.isArrayOf_alike hZ.alike Ar29.2.1) Ar29.2.2 hin29 hat29 (g := (mkF m 107 #[.val (.int p1), .val (.ref b1), .val (.ref b16), .val (.int (0 : Int32)), .val (.ref w_INFRASTRUCTURE), .val (.int (1 : Int32))] [(.int (0 : Int32)), (.ref b16), (.int (1 : Int32))])) rfl rfl (hb hby at_107) _ ?_
      show Steps p.tables e below (T28.setTop (mkF m 108 #[.val (.int p1), .val (.ref b1), .val (.ref b16), .val (.int (0 : Int32)), .val (.ref w_INFRASTRUCTURE), .val (.int (1 : Int32))] [(.int (1 : Int32)), (.int (1 : Int32))])) _
      refine XS.icmpYes X28.here hx rfl (pc0 := 108) (pc' := 113) rfl (hb hby at_108) rfl (teq (by decide : (1 : Int32) = (1 : Int32))).1 (by decide) (by decide) ?_
      show Steps p.tables e below (T28.setTop (mkF m 113 #[.val (.int p1), .val (.ref b1), .val (.ref b16), .val (.int (0 : Int32)), .val (.ref w_INFRASTRUCTURE), .val (.int (1 : Int32))] [])) _
      refine XS.aload X28.here hx rfl (hb hby at_113) rfl rfl ?_
      show Steps p.tables e below (T28.setTop (mkF m 115 #[.val (.int p1), .val (.ref b1), .val (.ref b16), .val (.int (0 : Int32)), .val (.ref w_INFRASTRUCTURE), .val (.int (1 : Int32))] [(.ref w_INFRASTRUCTURE)])) _
      refine st30.trans ?_
      show Steps p.tables e below (T30.setTop (mkF m 118 #[.val (.int p1), .val (.ref b1), .val (.ref b16), .val (.int (0 : Int32)), .val (.ref w_INFRASTRUCTURE), .val (.int (1 : Int32))] [(.int (1 : Int32))])) _
      refine XS.ifNo X30.here hx rfl (hb hby at_118) rfl ((if0 _ _).trans (feq (by decide : ¬ ((1 : Int32) = (0 : Int32)))).1) ?_
      show Steps p.tables e below (T30.setTop (mkF m 121 #[.val (.int p1), .val (.ref b1), .val (.ref b16), .val (.int (0 : Int32)), .val (.ref w_INFRASTRUCTURE), .val (.int (1 : Int32))] [])) _
      refine XS.iload X30.here hx rfl (hb hby at_121) rfl ?_
      show Steps p.tables e below (T30.setTop (mkF m 123 #[.val (.int p1), .val (.ref b1), .val (.ref b16), .val (.int (0 : Int32)), .val (.ref w_INFRASTRUCTURE), .val (.int (1 : Int32))] [(.int (1 : Int32))])) _
      refine XS.ifYes X30.here hx rfl (pc0 := 123) (pc' := 128) rfl (hb hby at_123) rfl ((if0 _ _).trans (feq (by decide : ¬ ((1 : Int32) = (0 : Int32)))).2) (by decide) (by decide) ?_
      show Steps p.tables e below (T30.setTop (mkF m 128 #[.val (.int p1), .val (.ref b1), .val (.ref b16), .val (.int (0 : Int32)), .val (.ref w_INFRASTRUCTURE), .val (.int (1 : Int32))] [])) _
      refine XS.iconst X30.here hx rfl (hb hby at_128) ?_
      show Steps p.tables e below (T30.setTop (mkF m 129 #[.val (.int p1), .val (.ref b1), .val (.ref b16), .val (.int (0 : Int32)), .val (.ref w_INFRASTRUCTURE), .val (.int (1 : Int32))] [(.int (1 : Int32))])) _
      exact retN X30 hx (t := .boolean) Bd.returns (by simp) (hb hby at_129) hr
    · show Q_rm0 Z p1 w_INFRASTRUCTURE w_TRANSIENT w_QUALITY w_PERMANENT w_REJECTED w_DEADLINE w_STALLED h0 n0 _ T30.heap _
      rw [eq30]
      exact ⟨rfl, N30⟩
  · rw [hv25] at pre24
    have f32 := ((((((((V15.ext E16).other W17 ne_b1_b16).other W18 ne_b1_b16).other W19 ne_b1_b16).other W20 ne_b1_b16).other W21 ne_b1_b16).other W22 ne_b1_b16).other W23 ne_b1_b16)
    have Vc31 := f32
    obtain ⟨cl31, Ar31, qa31, Sz31, Nn31, Ha31, Ga31⟩ := Vc31
    have hin31 : ¬ ((1 : Int32) < 0 ∨ cl31.slots.size ≤ ((1 : Int32)).toNatClampNeg) := inb_of Sz31 ⟨by decide, by decide⟩
    have hat31 : cl31.slots[((1 : Int32)).toNatClampNeg]? = some (.ref w_TRANSIENT) := Has.at Ha31 hin31 rfl
    obtain ⟨cq33, kq33, q33a, q33b, q33c⟩ := isOf hZ e23 (E_w_TRANSIENT.ext O23.2)
    obtain ⟨_, _, ⟨T33, L33, k33, n33⟩, -, X33, ⟨Lc33, hQ33, l33, y33, z33⟩, st33⟩ := X23.virtualBack hx (y := (⟨"com/example/glacial_workflow/glacialworkflow/core/FailureClass", "isRetriedWhenCured", "()Z"⟩ : MethodName)) (z := (⟨"com/example/glacial_workflow/glacialworkflow/core/FailureClass", "isRetriedWhenCured", "()Z"⟩ : MethodName)) hown (mvT hZ (hw _ (List.mem_of_getElem? (i := 20) rfl))) (mvT hZ (hw _ (List.mem_of_getElem? (i := 21) rfl))) (notFace_of_selects (args := #[]) (mvT hZ (hw _ (List.mem_of_getElem? (i := 23) rfl)))) (mvT hZ (hw _ (List.mem_of_getElem? (i := 23) rfl))) (mvT hZ (hw _ (List.mem_of_getElem? (i := 22) rfl))) (by decide) (backOf (W := 0) (rc_TRANSIENT l Z a0 hw [] w_INFRASTRUCTURE w_TRANSIENT w_QUALITY w_PERMANENT w_REJECTED w_DEADLINE w_STALLED h23 n0 O23 hE) hZ (hw _ (List.mem_of_getElem? (i := 24) rfl)) (hw _ (List.mem_of_getElem? (i := 3) rfl)) (by decide) (by decide)) q33a q33c (g := (mkF m 98 #[.val (.int p1), .val (.ref b1), .val (.ref b16), .val (.int (1 : Int32)), .val (.ref w_TRANSIENT), .unset] [(.ref w_TRANSIENT)])) rfl (by rw [hml]; rfl) (Steps.refl _) (argsL := []) (rest := []) (lenOf pd___Z rfl) rfl (by show 2 * 0 + _ ≤ _; exact Nat.le_of_eq rfl) (hb hby at_98) (fun _ _ => ⟨rfl, e23, (by decide : 2 + 0 ≤ _), (by decide : 14 + 0 ≤ _)⟩)
    dsimp only [Pt.U, Pt.locs, Pt.cells, Pt.slots] at X33 l33 y33 z33 st33 hQ33
    subst l33 y33 z33
    obtain ⟨rfl, Nq33, eq33⟩ := hQ33
    have N33 := Fr.app N23 Nq33
    have Vc34 := V23
    obtain ⟨cl34, Ar34, qa34, Sz34, Nn34, Ha34, Ga34⟩ := Vc34
    have hin34 : ¬ ((1 : Int32) < 0 ∨ cl34.slots.size ≤ ((1 : Int32)).toNatClampNeg) := inb_of Sz34 ⟨by decide, by decide⟩
    have hat34 : cl34.slots[((1 : Int32)).toNatClampNeg]? = some (.int (1 : Int32)) := Has.at Ha34 hin34 rfl
    obtain ⟨cq35, kq35, q35a, q35b, q35c⟩ := isOf hZ eq33 (E_w_TRANSIENT.ext O23.2)
    obtain ⟨_, _, ⟨T35, L35, k35, n35⟩, -, X35, ⟨Lc35, hQ35, l35, y35, z35⟩, st35⟩ := X33.virtualBack hx (y := (⟨"com/example/glacial_workflow/glacialworkflow/core/FailureClass", "isRetried", "()Z"⟩ : MethodName)) (z := (⟨"com/example/glacial_workflow/glacialworkflow/core/FailureClass", "isRetried", "()Z"⟩ : MethodName)) hown (mvT hZ (hw _ (List.mem_of_getElem? (i := 28) rfl))) (mvT hZ (hw _ (List.mem_of_getElem? (i := 29) rfl))) (notFace_of_selects (args := #[]) (mvT hZ (hw _ (List.mem_of_getElem? (i := 31) rfl)))) (mvT hZ (hw _ (List.mem_of_getElem? (i := 31) rfl))) (mvT hZ (hw _ (List.mem_of_getElem? (i := 30) rfl))) (by decide) (backOf (W := 0) (re_TRANSIENT l Z a0 hw [] w_INFRASTRUCTURE w_TRANSIENT w_QUALITY w_PERMANENT w_REJECTED w_DEADLINE w_STALLED h23 n0 O23 hE) hZ (hw _ (List.mem_of_getElem? (i := 32) rfl)) (hw _ (List.mem_of_getElem? (i := 3) rfl)) (by decide) (by decide)) q35a q35c (g := (mkF m 115 #[.val (.int p1), .val (.ref b1), .val (.ref b16), .val (.int (1 : Int32)), .val (.ref w_TRANSIENT), .val (.int (1 : Int32))] [(.ref w_TRANSIENT)])) rfl (by rw [hml]; rfl) (Steps.refl _) (argsL := []) (rest := []) (lenOf pd___Z rfl) rfl (by show 2 * 0 + _ ≤ _; exact Nat.le_of_eq rfl) (hb hby at_115) (fun _ _ => ⟨rfl, eq33, (by decide : 2 + 0 ≤ _), (by decide : 14 + 0 ≤ _)⟩)
    dsimp only [Pt.U, Pt.locs, Pt.cells, Pt.slots] at X35 l35 y35 z35 st35 hQ35
    subst l35 y35 z35
    obtain ⟨rfl, Nq35, eq35⟩ := hQ35
    have N35 := Fr.app N33 Nq35
    obtain ⟨fs, hr, hrun, hended, hW, hsame⟩ := X35.leave (v := some (.int (1 : Int32))) (fun h => by rw [Bd.returns] at h; cases h)
    refine ⟨_, _, pre24 _ ?_, hrun, hended, _, _, rfl, ?_, ⟨_, rfl⟩, hW, hsame.mono (by decide) (by decide)⟩
    · show Steps p.tables e below (T23.setTop (mkF m 91 #[.val (.int p1), .val (.ref b1), .val (.ref b16), .val (.int (1 : Int32)), .unset, .unset] [])) _
      refine XS.aloadN X23.here hx rfl (hb hby at_91) rfl rfl ?_
      show Steps p.tables e below (T23.setTop (mkF m 92 #[.val (.int p1), .val (.ref b1), .val (.ref b16), .val (.int (1 : Int32)), .unset, .unset] [(.ref b1)])) _
      refine XS.iloadN X23.here hx rfl (hb hby at_92) rfl ?_
      show Steps p.tables e below (T23.setTop (mkF m 93 #[.val (.int p1), .val (.ref b1), .val (.ref b16), .val (.int (1 : Int32)), .unset, .unset] [(.int (1 : Int32)), (.ref b1)])) _
      refine X23.aaload hx (j := (1 : Int32)) (v := (.ref w_TRANSIENT)) (by rw [e23]; exact Ar31.1) (State.isArrayOf_alike hZ.alike Ar31.2.1) rfl Ar31.2.2 hin31 hat31 (g := (mkF m 93 #[.val (.int p1), .val (.ref b1), .val (.ref b16), .val (.int (1 : Int32)), .unset, .unset] [(.int (1 : Int32)), (.ref b1)])) rfl rfl (hb hby at_93) _ ?_
      show Steps p.tables e below (T23.setTop (mkF m 94 #[.val (.int p1), .val (.ref b1), .val (.ref b16), .val (.int (1 : Int32)), .unset, .unset] [(.ref w_TRANSIENT)])) _
      refine XS.astore X23.here hx rfl (hb hby at_94) rfl rfl (l' := #[.val (.int p1), .val (.ref b1), .val (.ref b16), .val (.int (1 : Int32)), .val (.ref w_TRANSIENT), .unset]) rfl ?_
      show Steps p.tables e below (T23.setTop (mkF m 96 #[.val (.int p1), .val (.ref b1), .val (.ref b16), .val (.int (1 : Int32)), .val (.ref w_TRANSIENT), .unset] [])) _
      refine XS.aload X23.here hx rfl (hb hby at_96) rfl rfl ?_
      show Steps p.tables e below (T23.setTop (mkF m 98 #[.val (.int p1), .val (.ref b1), .val (.ref b16), .val (.int (1 : Int32)), .val (.ref w_TRANSIENT), .unset] [(.ref w_TRANSIENT)])) _
      refine st33.trans ?_
      show Steps p.tables e below (T33.setTop (mkF m 101 #[.val (.int p1), .val (.ref b1), .val (.ref b16), .val (.int (1 : Int32)), .val (.ref w_TRANSIENT), .unset] [(.int (1 : Int32))])) _
      refine XS.istore X33.here hx rfl (hb hby at_101) rfl (l' := #[.val (.int p1), .val (.ref b1), .val (.ref b16), .val (.int (1 : Int32)), .val (.ref w_TRANSIENT), .val (.int (1 : Int32))]) rfl ?_
      show Steps p.tables e below (T33.setTop (mkF m 103 #[.val (.int p1), .val (.ref b1), .val (.ref b16), .val (.int (1 : Int32)), .val (.ref w_TRANSIENT), .val (.int (1 : Int32))] [])) _
      refine XS.iload X33.here hx rfl (hb hby at_103) rfl ?_
      show Steps p.tables e below (T33.setTop (mkF m 105 #[.val (.int p1), .val (.ref b1), .val (.ref b16), .val (.int (1 : Int32)), .val (.ref w_TRANSIENT), .val (.int (1 : Int32))] [(.int (1 : Int32))])) _
      refine XS.aloadN X33.here hx rfl (hb hby at_105) rfl rfl ?_
      show Steps p.tables e below (T33.setTop (mkF m 106 #[.val (.int p1), .val (.ref b1), .val (.ref b16), .val (.int (1 : Int32)), .val (.ref w_TRANSIENT), .val (.int (1 : Int32))] [(.ref b16), (.int (1 : Int32))])) _
      refine XS.iloadN X33.here hx rfl (hb hby at_106) rfl ?_
      show Steps p.tables e below (T33.setTop (mkF m 107 #[.val (.int p1), .val (.ref b1), .val (.ref b16), .val (.int (1 : Int32)), .val (.ref w_TRANSIENT), .val (.int (1 : Int32))] [(.int (1 : Int32)), (.ref b16), (.int (1 : Int32))])) _
      refine X33.baloadBooleans hx (j := (1 : Int32)) (v := (.int (1 : Int32))) (by rw [eq33]; exact Ar34.1) (State.isArrayOf_alike hZ.alike Ar34.2.1) Ar34.2.2 hin34 hat34 (g := (mkF m 107 #[.val (.int p1), .val (.ref b1), .val (.ref b16), .val (.int (1 : Int32)), .val (.ref w_TRANSIENT), .val (.int (1 : Int32))] [(.int (1 : Int32)), (.ref b16), (.int (1 : Int32))])) rfl rfl (hb hby at_107) _ ?_
      show Steps p.tables e below (T33.setTop (mkF m 108 #[.val (.int p1), .val (.ref b1), .val (.ref b16), .val (.int (1 : Int32)), .val (.ref w_TRANSIENT), .val (.int (1 : Int32))] [(.int (1 : Int32)), (.int (1 : Int32))])) _
      refine XS.icmpYes X33.here hx rfl (pc0 := 108) (pc' := 113) rfl (hb hby at_108) rfl (teq (by decide : (1 : Int32) = (1 : Int32))).1 (by decide) (by decide) ?_
      show Steps p.tables e below (T33.setTop (mkF m 113 #[.val (.int p1), .val (.ref b1), .val (.ref b16), .val (.int (1 : Int32)), .val (.ref w_TRANSIENT), .val (.int (1 : Int32))] [])) _
      refine XS.aload X33.here hx rfl (hb hby at_113) rfl rfl ?_
      show Steps p.tables e below (T33.setTop (mkF m 115 #[.val (.int p1), .val (.ref b1), .val (.ref b16), .val (.int (1 : Int32)), .val (.ref w_TRANSIENT), .val (.int (1 : Int32))] [(.ref w_TRANSIENT)])) _
      refine st35.trans ?_
      show Steps p.tables e below (T35.setTop (mkF m 118 #[.val (.int p1), .val (.ref b1), .val (.ref b16), .val (.int (1 : Int32)), .val (.ref w_TRANSIENT), .val (.int (1 : Int32))] [(.int (1 : Int32))])) _
      refine XS.ifNo X35.here hx rfl (hb hby at_118) rfl ((if0 _ _).trans (feq (by decide : ¬ ((1 : Int32) = (0 : Int32)))).1) ?_
      show Steps p.tables e below (T35.setTop (mkF m 121 #[.val (.int p1), .val (.ref b1), .val (.ref b16), .val (.int (1 : Int32)), .val (.ref w_TRANSIENT), .val (.int (1 : Int32))] [])) _
      refine XS.iload X35.here hx rfl (hb hby at_121) rfl ?_
      show Steps p.tables e below (T35.setTop (mkF m 123 #[.val (.int p1), .val (.ref b1), .val (.ref b16), .val (.int (1 : Int32)), .val (.ref w_TRANSIENT), .val (.int (1 : Int32))] [(.int (1 : Int32))])) _
      refine XS.ifYes X35.here hx rfl (pc0 := 123) (pc' := 128) rfl (hb hby at_123) rfl ((if0 _ _).trans (feq (by decide : ¬ ((1 : Int32) = (0 : Int32)))).2) (by decide) (by decide) ?_
      show Steps p.tables e below (T35.setTop (mkF m 128 #[.val (.int p1), .val (.ref b1), .val (.ref b16), .val (.int (1 : Int32)), .val (.ref w_TRANSIENT), .val (.int (1 : Int32))] [])) _
      refine XS.iconst X35.here hx rfl (hb hby at_128) ?_
      show Steps p.tables e below (T35.setTop (mkF m 129 #[.val (.int p1), .val (.ref b1), .val (.ref b16), .val (.int (1 : Int32)), .val (.ref w_TRANSIENT), .val (.int (1 : Int32))] [(.int (1 : Int32))])) _
      exact retN X35 hx (t := .boolean) Bd.returns (by simp) (hb hby at_129) hr
    · show Q_rm0 Z p1 w_INFRASTRUCTURE w_TRANSIENT w_QUALITY w_PERMANENT w_REJECTED w_DEADLINE w_STALLED h0 n0 _ T35.heap _
      rw [eq35]
      exact ⟨rfl, N35⟩
  · rw [hv25] at pre24
    have f37 := ((((((((V15.ext E16).other W17 ne_b1_b16).other W18 ne_b1_b16).other W19 ne_b1_b16).other W20 ne_b1_b16).other W21 ne_b1_b16).other W22 ne_b1_b16).other W23 ne_b1_b16)
    have Vc36 := f37
    obtain ⟨cl36, Ar36, qa36, Sz36, Nn36, Ha36, Ga36⟩ := Vc36
    have hin36 : ¬ ((2 : Int32) < 0 ∨ cl36.slots.size ≤ ((2 : Int32)).toNatClampNeg) := inb_of Sz36 ⟨by decide, by decide⟩
    have hat36 : cl36.slots[((2 : Int32)).toNatClampNeg]? = some (.ref w_QUALITY) := Has.at Ha36 hin36 rfl
    obtain ⟨cq38, kq38, q38a, q38b, q38c⟩ := isOf hZ e23 (E_w_QUALITY.ext O23.2)
    obtain ⟨_, _, ⟨T38, L38, k38, n38⟩, -, X38, ⟨Lc38, hQ38, l38, y38, z38⟩, st38⟩ := X23.virtualBack hx (y := (⟨"com/example/glacial_workflow/glacialworkflow/core/FailureClass", "isRetriedWhenCured", "()Z"⟩ : MethodName)) (z := (⟨"com/example/glacial_workflow/glacialworkflow/core/FailureClass", "isRetriedWhenCured", "()Z"⟩ : MethodName)) hown (mvT hZ (hw _ (List.mem_of_getElem? (i := 20) rfl))) (mvT hZ (hw _ (List.mem_of_getElem? (i := 21) rfl))) (notFace_of_selects (args := #[]) (mvT hZ (hw _ (List.mem_of_getElem? (i := 23) rfl)))) (mvT hZ (hw _ (List.mem_of_getElem? (i := 23) rfl))) (mvT hZ (hw _ (List.mem_of_getElem? (i := 22) rfl))) (by decide) (backOf (W := 0) (rc_QUALITY l Z a0 hw [] w_INFRASTRUCTURE w_TRANSIENT w_QUALITY w_PERMANENT w_REJECTED w_DEADLINE w_STALLED h23 n0 O23 hE) hZ (hw _ (List.mem_of_getElem? (i := 24) rfl)) (hw _ (List.mem_of_getElem? (i := 3) rfl)) (by decide) (by decide)) q38a q38c (g := (mkF m 98 #[.val (.int p1), .val (.ref b1), .val (.ref b16), .val (.int (2 : Int32)), .val (.ref w_QUALITY), .unset] [(.ref w_QUALITY)])) rfl (by rw [hml]; rfl) (Steps.refl _) (argsL := []) (rest := []) (lenOf pd___Z rfl) rfl (by show 2 * 0 + _ ≤ _; exact Nat.le_of_eq rfl) (hb hby at_98) (fun _ _ => ⟨rfl, e23, (by decide : 2 + 0 ≤ _), (by decide : 14 + 0 ≤ _)⟩)
    dsimp only [Pt.U, Pt.locs, Pt.cells, Pt.slots] at X38 l38 y38 z38 st38 hQ38
    subst l38 y38 z38
    obtain ⟨rfl, Nq38, eq38⟩ := hQ38
    have N38 := Fr.app N23 Nq38
    have Vc39 := V23
    obtain ⟨cl39, Ar39, qa39, Sz39, Nn39, Ha39, Ga39⟩ := Vc39
    have hin39 : ¬ ((2 : Int32) < 0 ∨ cl39.slots.size ≤ ((2 : Int32)).toNatClampNeg) := inb_of Sz39 ⟨by decide, by decide⟩
    have hat39 : cl39.slots[((2 : Int32)).toNatClampNeg]? = some (.int (1 : Int32)) := Has.at Ha39 hin39 rfl
    obtain ⟨cq40, kq40, q40a, q40b, q40c⟩ := isOf hZ eq38 (E_w_QUALITY.ext O23.2)
    obtain ⟨_, _, ⟨T40, L40, k40, n40⟩, -, X40, ⟨Lc40, hQ40, l40, y40, z40⟩, st40⟩ := X38.virtualBack hx (y := (⟨"com/example/glacial_workflow/glacialworkflow/core/FailureClass", "isRetried", "()Z"⟩ : MethodName)) (z := (⟨"com/example/glacial_workflow/glacialworkflow/core/FailureClass", "isRetried", "()Z"⟩ : MethodName)) hown (mvT hZ (hw _ (List.mem_of_getElem? (i := 28) rfl))) (mvT hZ (hw _ (List.mem_of_getElem? (i := 29) rfl))) (notFace_of_selects (args := #[]) (mvT hZ (hw _ (List.mem_of_getElem? (i := 31) rfl)))) (mvT hZ (hw _ (List.mem_of_getElem? (i := 31) rfl))) (mvT hZ (hw _ (List.mem_of_getElem? (i := 30) rfl))) (by decide) (backOf (W := 0) (re_QUALITY l Z a0 hw [] w_INFRASTRUCTURE w_TRANSIENT w_QUALITY w_PERMANENT w_REJECTED w_DEADLINE w_STALLED h23 n0 O23 hE) hZ (hw _ (List.mem_of_getElem? (i := 32) rfl)) (hw _ (List.mem_of_getElem? (i := 3) rfl)) (by decide) (by decide)) q40a q40c (g := (mkF m 115 #[.val (.int p1), .val (.ref b1), .val (.ref b16), .val (.int (2 : Int32)), .val (.ref w_QUALITY), .val (.int (1 : Int32))] [(.ref w_QUALITY)])) rfl (by rw [hml]; rfl) (Steps.refl _) (argsL := []) (rest := []) (lenOf pd___Z rfl) rfl (by show 2 * 0 + _ ≤ _; exact Nat.le_of_eq rfl) (hb hby at_115) (fun _ _ => ⟨rfl, eq38, (by decide : 2 + 0 ≤ _), (by decide : 14 + 0 ≤ _)⟩)
    dsimp only [Pt.U, Pt.locs, Pt.cells, Pt.slots] at X40 l40 y40 z40 st40 hQ40
    subst l40 y40 z40
    obtain ⟨rfl, Nq40, eq40⟩ := hQ40
    have N40 := Fr.app N38 Nq40
    obtain ⟨fs, hr, hrun, hended, hW, hsame⟩ := X40.leave (v := some (.int (1 : Int32))) (fun h => by rw [Bd.returns] at h; cases h)
    refine ⟨_, _, pre24 _ ?_, hrun, hended, _, _, rfl, ?_, ⟨_, rfl⟩, hW, hsame.mono (by decide) (by decide)⟩
    · show Steps p.tables e below (T23.setTop (mkF m 91 #[.val (.int p1), .val (.ref b1), .val (.ref b16), .val (.int (2 : Int32)), .unset, .unset] [])) _
      refine XS.aloadN X23.here hx rfl (hb hby at_91) rfl rfl ?_
      show Steps p.tables e below (T23.setTop (mkF m 92 #[.val (.int p1), .val (.ref b1), .val (.ref b16), .val (.int (2 : Int32)), .unset, .unset] [(.ref b1)])) _
      refine XS.iloadN X23.here hx rfl (hb hby at_92) rfl ?_
      show Steps p.tables e below (T23.setTop (mkF m 93 #[.val (.int p1), .val (.ref b1), .val (.ref b16), .val (.int (2 : Int32)), .unset, .unset] [(.int (2 : Int32)), (.ref b1)])) _
      refine X23.aaload hx (j := (2 : Int32)) (v := (.ref w_QUALITY)) (by rw [e23]; exact Ar36.1) (State.isArrayOf_alike hZ.alike Ar36.2.1) rfl Ar36.2.2 hin36 hat36 (g := (mkF m 93 #[.val (.int p1), .val (.ref b1), .val (.ref b16), .val (.int (2 : Int32)), .unset, .unset] [(.int (2 : Int32)), (.ref b1)])) rfl rfl (hb hby at_93) _ ?_
      show Steps p.tables e below (T23.setTop (mkF m 94 #[.val (.int p1), .val (.ref b1), .val (.ref b16), .val (.int (2 : Int32)), .unset, .unset] [(.ref w_QUALITY)])) _
      refine XS.astore X23.here hx rfl (hb hby at_94) rfl rfl (l' := #[.val (.int p1), .val (.ref b1), .val (.ref b16), .val (.int (2 : Int32)), .val (.ref w_QUALITY), .unset]) rfl ?_
      show Steps p.tables e below (T23.setTop (mkF m 96 #[.val (.int p1), .val (.ref b1), .val (.ref b16), .val (.int (2 : Int32)), .val (.ref w_QUALITY), .unset] [])) _
      refine XS.aload X23.here hx rfl (hb hby at_96) rfl rfl ?_
      show Steps p.tables e below (T23.setTop (mkF m 98 #[.val (.int p1), .val (.ref b1), .val (.ref b16), .val (.int (2 : Int32)), .val (.ref w_QUALITY), .unset] [(.ref w_QUALITY)])) _
      refine st38.trans ?_
      show Steps p.tables e below (T38.setTop (mkF m 101 #[.val (.int p1), .val (.ref b1), .val (.ref b16), .val (.int (2 : Int32)), .val (.ref w_QUALITY), .unset] [(.int (1 : Int32))])) _
      refine XS.istore X38.here hx rfl (hb hby at_101) rfl (l' := #[.val (.int p1), .val (.ref b1), .val (.ref b16), .val (.int (2 : Int32)), .val (.ref w_QUALITY), .val (.int (1 : Int32))]) rfl ?_
      show Steps p.tables e below (T38.setTop (mkF m 103 #[.val (.int p1), .val (.ref b1), .val (.ref b16), .val (.int (2 : Int32)), .val (.ref w_QUALITY), .val (.int (1 : Int32))] [])) _
      refine XS.iload X38.here hx rfl (hb hby at_103) rfl ?_
      show Steps p.tables e below (T38.setTop (mkF m 105 #[.val (.int p1), .val (.ref b1), .val (.ref b16), .val (.int (2 : Int32)), .val (.ref w_QUALITY), .val (.int (1 : Int32))] [(.int (1 : Int32))])) _
      refine XS.aloadN X38.here hx rfl (hb hby at_105) rfl rfl ?_
      show Steps p.tables e below (T38.setTop (mkF m 106 #[.val (.int p1), .val (.ref b1), .val (.ref b16), .val (.int (2 : Int32)), .val (.ref w_QUALITY), .val (.int (1 : Int32))] [(.ref b16), (.int (1 : Int32))])) _
      refine XS.iloadN X38.here hx rfl (hb hby at_106) rfl ?_
      show Steps p.tables e below (T38.setTop (mkF m 107 #[.val (.int p1), .val (.ref b1), .val (.ref b16), .val (.int (2 : Int32)), .val (.ref w_QUALITY), .val (.int (1 : Int32))] [(.int (2 : Int32)), (.ref b16), (.int (1 : Int32))])) _
      refine X38.baloadBooleans hx (j := (2 : Int32)) (v := (.int (1 : Int32))) (by rw [eq38]; exact Ar39.1) (State.isArrayOf_alike hZ.alike Ar39.2.1) Ar39.2.2 hin39 hat39 (g := (mkF m 107 #[.val (.int p1), .val (.ref b1), .val (.ref b16), .val (.int (2 : Int32)), .val (.ref w_QUALITY), .val (.int (1 : Int32))] [(.int (2 : Int32)), (.ref b16), (.int (1 : Int32))])) rfl rfl (hb hby at_107) _ ?_
      show Steps p.tables e below (T38.setTop (mkF m 108 #[.val (.int p1), .val (.ref b1), .val (.ref b16), .val (.int (2 : Int32)), .val (.ref w_QUALITY), .val (.int (1 : Int32))] [(.int (1 : Int32)), (.int (1 : Int32))])) _
      refine XS.icmpYes X38.here hx rfl (pc0 := 108) (pc' := 113) rfl (hb hby at_108) rfl (teq (by decide : (1 : Int32) = (1 : Int32))).1 (by decide) (by decide) ?_
      show Steps p.tables e below (T38.setTop (mkF m 113 #[.val (.int p1), .val (.ref b1), .val (.ref b16), .val (.int (2 : Int32)), .val (.ref w_QUALITY), .val (.int (1 : Int32))] [])) _
      refine XS.aload X38.here hx rfl (hb hby at_113) rfl rfl ?_
      show Steps p.tables e below (T38.setTop (mkF m 115 #[.val (.int p1), .val (.ref b1), .val (.ref b16), .val (.int (2 : Int32)), .val (.ref w_QUALITY), .val (.int (1 : Int32))] [(.ref w_QUALITY)])) _
      refine st40.trans ?_
      show Steps p.tables e below (T40.setTop (mkF m 118 #[.val (.int p1), .val (.ref b1), .val (.ref b16), .val (.int (2 : Int32)), .val (.ref w_QUALITY), .val (.int (1 : Int32))] [(.int (1 : Int32))])) _
      refine XS.ifNo X40.here hx rfl (hb hby at_118) rfl ((if0 _ _).trans (feq (by decide : ¬ ((1 : Int32) = (0 : Int32)))).1) ?_
      show Steps p.tables e below (T40.setTop (mkF m 121 #[.val (.int p1), .val (.ref b1), .val (.ref b16), .val (.int (2 : Int32)), .val (.ref w_QUALITY), .val (.int (1 : Int32))] [])) _
      refine XS.iload X40.here hx rfl (hb hby at_121) rfl ?_
      show Steps p.tables e below (T40.setTop (mkF m 123 #[.val (.int p1), .val (.ref b1), .val (.ref b16), .val (.int (2 : Int32)), .val (.ref w_QUALITY), .val (.int (1 : Int32))] [(.int (1 : Int32))])) _
      refine XS.ifYes X40.here hx rfl (pc0 := 123) (pc' := 128) rfl (hb hby at_123) rfl ((if0 _ _).trans (feq (by decide : ¬ ((1 : Int32) = (0 : Int32)))).2) (by decide) (by decide) ?_
      show Steps p.tables e below (T40.setTop (mkF m 128 #[.val (.int p1), .val (.ref b1), .val (.ref b16), .val (.int (2 : Int32)), .val (.ref w_QUALITY), .val (.int (1 : Int32))] [])) _
      refine XS.iconst X40.here hx rfl (hb hby at_128) ?_
      show Steps p.tables e below (T40.setTop (mkF m 129 #[.val (.int p1), .val (.ref b1), .val (.ref b16), .val (.int (2 : Int32)), .val (.ref w_QUALITY), .val (.int (1 : Int32))] [(.int (1 : Int32))])) _
      exact retN X40 hx (t := .boolean) Bd.returns (by simp) (hb hby at_129) hr
    · show Q_rm0 Z p1 w_INFRASTRUCTURE w_TRANSIENT w_QUALITY w_PERMANENT w_REJECTED w_DEADLINE w_STALLED h0 n0 _ T40.heap _
      rw [eq40]
      exact ⟨rfl, N40⟩
  · rw [hv25] at pre24
    have f42 := ((((((((V15.ext E16).other W17 ne_b1_b16).other W18 ne_b1_b16).other W19 ne_b1_b16).other W20 ne_b1_b16).other W21 ne_b1_b16).other W22 ne_b1_b16).other W23 ne_b1_b16)
    have Vc41 := f42
    obtain ⟨cl41, Ar41, qa41, Sz41, Nn41, Ha41, Ga41⟩ := Vc41
    have hin41 : ¬ ((3 : Int32) < 0 ∨ cl41.slots.size ≤ ((3 : Int32)).toNatClampNeg) := inb_of Sz41 ⟨by decide, by decide⟩
    have hat41 : cl41.slots[((3 : Int32)).toNatClampNeg]? = some (.ref w_PERMANENT) := Has.at Ha41 hin41 rfl
    obtain ⟨cq43, kq43, q43a, q43b, q43c⟩ := isOf hZ e23 (E_w_PERMANENT.ext O23.2)
    obtain ⟨_, _, ⟨T43, L43, k43, n43⟩, -, X43, ⟨Lc43, hQ43, l43, y43, z43⟩, st43⟩ := X23.virtualBack hx (y := (⟨"com/example/glacial_workflow/glacialworkflow/core/FailureClass", "isRetriedWhenCured", "()Z"⟩ : MethodName)) (z := (⟨"com/example/glacial_workflow/glacialworkflow/core/FailureClass", "isRetriedWhenCured", "()Z"⟩ : MethodName)) hown (mvT hZ (hw _ (List.mem_of_getElem? (i := 20) rfl))) (mvT hZ (hw _ (List.mem_of_getElem? (i := 21) rfl))) (notFace_of_selects (args := #[]) (mvT hZ (hw _ (List.mem_of_getElem? (i := 23) rfl)))) (mvT hZ (hw _ (List.mem_of_getElem? (i := 23) rfl))) (mvT hZ (hw _ (List.mem_of_getElem? (i := 22) rfl))) (by decide) (backOf (W := 0) (rc_PERMANENT l Z a0 hw [] w_INFRASTRUCTURE w_TRANSIENT w_QUALITY w_PERMANENT w_REJECTED w_DEADLINE w_STALLED h23 n0 O23 hE) hZ (hw _ (List.mem_of_getElem? (i := 24) rfl)) (hw _ (List.mem_of_getElem? (i := 3) rfl)) (by decide) (by decide)) q43a q43c (g := (mkF m 98 #[.val (.int p1), .val (.ref b1), .val (.ref b16), .val (.int (3 : Int32)), .val (.ref w_PERMANENT), .unset] [(.ref w_PERMANENT)])) rfl (by rw [hml]; rfl) (Steps.refl _) (argsL := []) (rest := []) (lenOf pd___Z rfl) rfl (by show 2 * 0 + _ ≤ _; exact Nat.le_of_eq rfl) (hb hby at_98) (fun _ _ => ⟨rfl, e23, (by decide : 2 + 0 ≤ _), (by decide : 14 + 0 ≤ _)⟩)
    dsimp only [Pt.U, Pt.locs, Pt.cells, Pt.slots] at X43 l43 y43 z43 st43 hQ43
    subst l43 y43 z43
    obtain ⟨rfl, Nq43, eq43⟩ := hQ43
    have N43 := Fr.app N23 Nq43
    have Vc44 := V23
    obtain ⟨cl44, Ar44, qa44, Sz44, Nn44, Ha44, Ga44⟩ := Vc44
    have hin44 : ¬ ((3 : Int32) < 0 ∨ cl44.slots.size ≤ ((3 : Int32)).toNatClampNeg) := inb_of Sz44 ⟨by decide, by decide⟩
    have hat44 : cl44.slots[((3 : Int32)).toNatClampNeg]? = some (.int (1 : Int32)) := Has.at Ha44 hin44 rfl
    obtain ⟨cq45, kq45, q45a, q45b, q45c⟩ := isOf hZ eq43 (E_w_PERMANENT.ext O23.2)
    obtain ⟨_, _, ⟨T45, L45, k45, n45⟩, -, X45, ⟨Lc45, hQ45, l45, y45, z45⟩, st45⟩ := X43.virtualBack hx (y := (⟨"com/example/glacial_workflow/glacialworkflow/core/FailureClass", "isRetried", "()Z"⟩ : MethodName)) (z := (⟨"com/example/glacial_workflow/glacialworkflow/core/FailureClass", "isRetried", "()Z"⟩ : MethodName)) hown (mvT hZ (hw _ (List.mem_of_getElem? (i := 28) rfl))) (mvT hZ (hw _ (List.mem_of_getElem? (i := 29) rfl))) (notFace_of_selects (args := #[]) (mvT hZ (hw _ (List.mem_of_getElem? (i := 31) rfl)))) (mvT hZ (hw _ (List.mem_of_getElem? (i := 31) rfl))) (mvT hZ (hw _ (List.mem_of_getElem? (i := 30) rfl))) (by decide) (backOf (W := 0) (re_PERMANENT l Z a0 hw [] w_INFRASTRUCTURE w_TRANSIENT w_QUALITY w_PERMANENT w_REJECTED w_DEADLINE w_STALLED h23 n0 O23 hE) hZ (hw _ (List.mem_of_getElem? (i := 32) rfl)) (hw _ (List.mem_of_getElem? (i := 3) rfl)) (by decide) (by decide)) q45a q45c (g := (mkF m 115 #[.val (.int p1), .val (.ref b1), .val (.ref b16), .val (.int (3 : Int32)), .val (.ref w_PERMANENT), .val (.int (1 : Int32))] [(.ref w_PERMANENT)])) rfl (by rw [hml]; rfl) (Steps.refl _) (argsL := []) (rest := []) (lenOf pd___Z rfl) rfl (by show 2 * 0 + _ ≤ _; exact Nat.le_of_eq rfl) (hb hby at_115) (fun _ _ => ⟨rfl, eq43, (by decide : 2 + 0 ≤ _), (by decide : 14 + 0 ≤ _)⟩)
    dsimp only [Pt.U, Pt.locs, Pt.cells, Pt.slots] at X45 l45 y45 z45 st45 hQ45
    subst l45 y45 z45
    obtain ⟨rfl, Nq45, eq45⟩ := hQ45
    have N45 := Fr.app N43 Nq45
    obtain ⟨fs, hr, hrun, hended, hW, hsame⟩ := X45.leave (v := some (.int (1 : Int32))) (fun h => by rw [Bd.returns] at h; cases h)
    refine ⟨_, _, pre24 _ ?_, hrun, hended, _, _, rfl, ?_, ⟨_, rfl⟩, hW, hsame.mono (by decide) (by decide)⟩
    · show Steps p.tables e below (T23.setTop (mkF m 91 #[.val (.int p1), .val (.ref b1), .val (.ref b16), .val (.int (3 : Int32)), .unset, .unset] [])) _
      refine XS.aloadN X23.here hx rfl (hb hby at_91) rfl rfl ?_
      show Steps p.tables e below (T23.setTop (mkF m 92 #[.val (.int p1), .val (.ref b1), .val (.ref b16), .val (.int (3 : Int32)), .unset, .unset] [(.ref b1)])) _
      refine XS.iloadN X23.here hx rfl (hb hby at_92) rfl ?_
      show Steps p.tables e below (T23.setTop (mkF m 93 #[.val (.int p1), .val (.ref b1), .val (.ref b16), .val (.int (3 : Int32)), .unset, .unset] [(.int (3 : Int32)), (.ref b1)])) _
      refine X23.aaload hx (j := (3 : Int32)) (v := (.ref w_PERMANENT)) (by rw [e23]; exact Ar41.1) (State.isArrayOf_alike hZ.alike Ar41.2.1) rfl Ar41.2.2 hin41 hat41 (g := (mkF m 93 #[.val (.int p1), .val (.ref b1), .val (.ref b16), .val (.int (3 : Int32)), .unset, .unset] [(.int (3 : Int32)), (.ref b1)])) rfl rfl (hb hby at_93) _ ?_
      show Steps p.tables e below (T23.setTop (mkF m 94 #[.val (.int p1), .val (.ref b1), .val (.ref b16), .val (.int (3 : Int32)), .unset, .unset] [(.ref w_PERMANENT)])) _
      refine XS.astore X23.here hx rfl (hb hby at_94) rfl rfl (l' := #[.val (.int p1), .val (.ref b1), .val (.ref b16), .val (.int (3 : Int32)), .val (.ref w_PERMANENT), .unset]) rfl ?_
      show Steps p.tables e below (T23.setTop (mkF m 96 #[.val (.int p1), .val (.ref b1), .val (.ref b16), .val (.int (3 : Int32)), .val (.ref w_PERMANENT), .unset] [])) _
      refine XS.aload X23.here hx rfl (hb hby at_96) rfl rfl ?_
      show Steps p.tables e below (T23.setTop (mkF m 98 #[.val (.int p1), .val (.ref b1), .val (.ref b16), .val (.int (3 : Int32)), .val (.ref w_PERMANENT), .unset] [(.ref w_PERMANENT)])) _
      refine st43.trans ?_
      show Steps p.tables e below (T43.setTop (mkF m 101 #[.val (.int p1), .val (.ref b1), .val (.ref b16), .val (.int (3 : Int32)), .val (.ref w_PERMANENT), .unset] [(.int (1 : Int32))])) _
      refine XS.istore X43.here hx rfl (hb hby at_101) rfl (l' := #[.val (.int p1), .val (.ref b1), .val (.ref b16), .val (.int (3 : Int32)), .val (.ref w_PERMANENT), .val (.int (1 : Int32))]) rfl ?_
      show Steps p.tables e below (T43.setTop (mkF m 103 #[.val (.int p1), .val (.ref b1), .val (.ref b16), .val (.int (3 : Int32)), .val (.ref w_PERMANENT), .val (.int (1 : Int32))] [])) _
      refine XS.iload X43.here hx rfl (hb hby at_103) rfl ?_
      show Steps p.tables e below (T43.setTop (mkF m 105 #[.val (.int p1), .val (.ref b1), .val (.ref b16), .val (.int (3 : Int32)), .val (.ref w_PERMANENT), .val (.int (1 : Int32))] [(.int (1 : Int32))])) _
      refine XS.aloadN X43.here hx rfl (hb hby at_105) rfl rfl ?_
      show Steps p.tables e below (T43.setTop (mkF m 106 #[.val (.int p1), .val (.ref b1), .val (.ref b16), .val (.int (3 : Int32)), .val (.ref w_PERMANENT), .val (.int (1 : Int32))] [(.ref b16), (.int (1 : Int32))])) _
      refine XS.iloadN X43.here hx rfl (hb hby at_106) rfl ?_
      show Steps p.tables e below (T43.setTop (mkF m 107 #[.val (.int p1), .val (.ref b1), .val (.ref b16), .val (.int (3 : Int32)), .val (.ref w_PERMANENT), .val (.int (1 : Int32))] [(.int (3 : Int32)), (.ref b16), (.int (1 : Int32))])) _
      refine X43.baloadBooleans hx (j := (3 : Int32)) (v := (.int (1 : Int32))) (by rw [eq43]; exact Ar44.1) (State.isArrayOf_alike hZ.alike Ar44.2.1) Ar44.2.2 hin44 hat44 (g := (mkF m 107 #[.val (.int p1), .val (.ref b1), .val (.ref b16), .val (.int (3 : Int32)), .val (.ref w_PERMANENT), .val (.int (1 : Int32))] [(.int (3 : Int32)), (.ref b16), (.int (1 : Int32))])) rfl rfl (hb hby at_107) _ ?_
      show Steps p.tables e below (T43.setTop (mkF m 108 #[.val (.int p1), .val (.ref b1), .val (.ref b16), .val (.int (3 : Int32)), .val (.ref w_PERMANENT), .val (.int (1 : Int32))] [(.int (1 : Int32)), (.int (1 : Int32))])) _
      refine XS.icmpYes X43.here hx rfl (pc0 := 108) (pc' := 113) rfl (hb hby at_108) rfl (teq (by decide : (1 : Int32) = (1 : Int32))).1 (by decide) (by decide) ?_
      show Steps p.tables e below (T43.setTop (mkF m 113 #[.val (.int p1), .val (.ref b1), .val (.ref b16), .val (.int (3 : Int32)), .val (.ref w_PERMANENT), .val (.int (1 : Int32))] [])) _
      refine XS.aload X43.here hx rfl (hb hby at_113) rfl rfl ?_
      show Steps p.tables e below (T43.setTop (mkF m 115 #[.val (.int p1), .val (.ref b1), .val (.ref b16), .val (.int (3 : Int32)), .val (.ref w_PERMANENT), .val (.int (1 : Int32))] [(.ref w_PERMANENT)])) _
      refine st45.trans ?_
      show Steps p.tables e below (T45.setTop (mkF m 118 #[.val (.int p1), .val (.ref b1), .val (.ref b16), .val (.int (3 : Int32)), .val (.ref w_PERMANENT), .val (.int (1 : Int32))] [(.int (0 : Int32))])) _
      refine XS.ifYes X45.here hx rfl (pc0 := 118) (pc' := 128) rfl (hb hby at_118) rfl ((if0 _ _).trans (teq (by decide : (0 : Int32) = (0 : Int32))).1) (by decide) (by decide) ?_
      show Steps p.tables e below (T45.setTop (mkF m 128 #[.val (.int p1), .val (.ref b1), .val (.ref b16), .val (.int (3 : Int32)), .val (.ref w_PERMANENT), .val (.int (1 : Int32))] [])) _
      refine XS.iconst X45.here hx rfl (hb hby at_128) ?_
      show Steps p.tables e below (T45.setTop (mkF m 129 #[.val (.int p1), .val (.ref b1), .val (.ref b16), .val (.int (3 : Int32)), .val (.ref w_PERMANENT), .val (.int (1 : Int32))] [(.int (1 : Int32))])) _
      exact retN X45 hx (t := .boolean) Bd.returns (by simp) (hb hby at_129) hr
    · show Q_rm0 Z p1 w_INFRASTRUCTURE w_TRANSIENT w_QUALITY w_PERMANENT w_REJECTED w_DEADLINE w_STALLED h0 n0 _ T45.heap _
      rw [eq45]
      exact ⟨rfl, N45⟩
  · rw [hv25] at pre24
    have f47 := ((((((((V15.ext E16).other W17 ne_b1_b16).other W18 ne_b1_b16).other W19 ne_b1_b16).other W20 ne_b1_b16).other W21 ne_b1_b16).other W22 ne_b1_b16).other W23 ne_b1_b16)
    have Vc46 := f47
    obtain ⟨cl46, Ar46, qa46, Sz46, Nn46, Ha46, Ga46⟩ := Vc46
    have hin46 : ¬ ((4 : Int32) < 0 ∨ cl46.slots.size ≤ ((4 : Int32)).toNatClampNeg) := inb_of Sz46 ⟨by decide, by decide⟩
    have hat46 : cl46.slots[((4 : Int32)).toNatClampNeg]? = some (.ref w_REJECTED) := Has.at Ha46 hin46 rfl
    obtain ⟨cq48, kq48, q48a, q48b, q48c⟩ := isOf hZ e23 (E_w_REJECTED.ext O23.2)
    obtain ⟨_, _, ⟨T48, L48, k48, n48⟩, -, X48, ⟨Lc48, hQ48, l48, y48, z48⟩, st48⟩ := X23.virtualBack hx (y := (⟨"com/example/glacial_workflow/glacialworkflow/core/FailureClass", "isRetriedWhenCured", "()Z"⟩ : MethodName)) (z := (⟨"com/example/glacial_workflow/glacialworkflow/core/FailureClass", "isRetriedWhenCured", "()Z"⟩ : MethodName)) hown (mvT hZ (hw _ (List.mem_of_getElem? (i := 20) rfl))) (mvT hZ (hw _ (List.mem_of_getElem? (i := 21) rfl))) (notFace_of_selects (args := #[]) (mvT hZ (hw _ (List.mem_of_getElem? (i := 23) rfl)))) (mvT hZ (hw _ (List.mem_of_getElem? (i := 23) rfl))) (mvT hZ (hw _ (List.mem_of_getElem? (i := 22) rfl))) (by decide) (backOf (W := 0) (rc_REJECTED l Z a0 hw [] w_INFRASTRUCTURE w_TRANSIENT w_QUALITY w_PERMANENT w_REJECTED w_DEADLINE w_STALLED h23 n0 O23 hE) hZ (hw _ (List.mem_of_getElem? (i := 24) rfl)) (hw _ (List.mem_of_getElem? (i := 3) rfl)) (by decide) (by decide)) q48a q48c (g := (mkF m 98 #[.val (.int p1), .val (.ref b1), .val (.ref b16), .val (.int (4 : Int32)), .val (.ref w_REJECTED), .unset] [(.ref w_REJECTED)])) rfl (by rw [hml]; rfl) (Steps.refl _) (argsL := []) (rest := []) (lenOf pd___Z rfl) rfl (by show 2 * 0 + _ ≤ _; exact Nat.le_of_eq rfl) (hb hby at_98) (fun _ _ => ⟨rfl, e23, (by decide : 2 + 0 ≤ _), (by decide : 14 + 0 ≤ _)⟩)
    dsimp only [Pt.U, Pt.locs, Pt.cells, Pt.slots] at X48 l48 y48 z48 st48 hQ48
    subst l48 y48 z48
    obtain ⟨rfl, Nq48, eq48⟩ := hQ48
    have N48 := Fr.app N23 Nq48
    have Vc49 := V23
    obtain ⟨cl49, Ar49, qa49, Sz49, Nn49, Ha49, Ga49⟩ := Vc49
    have hin49 : ¬ ((4 : Int32) < 0 ∨ cl49.slots.size ≤ ((4 : Int32)).toNatClampNeg) := inb_of Sz49 ⟨by decide, by decide⟩
    have hat49 : cl49.slots[((4 : Int32)).toNatClampNeg]? = some (.int (0 : Int32)) := Has.at Ha49 hin49 rfl
    obtain ⟨cq50, kq50, q50a, q50b, q50c⟩ := isOf hZ eq48 (E_w_REJECTED.ext O23.2)
    obtain ⟨_, _, ⟨T50, L50, k50, n50⟩, -, X50, ⟨Lc50, hQ50, l50, y50, z50⟩, st50⟩ := X48.virtualBack hx (y := (⟨"com/example/glacial_workflow/glacialworkflow/core/FailureClass", "isRetried", "()Z"⟩ : MethodName)) (z := (⟨"com/example/glacial_workflow/glacialworkflow/core/FailureClass", "isRetried", "()Z"⟩ : MethodName)) hown (mvT hZ (hw _ (List.mem_of_getElem? (i := 28) rfl))) (mvT hZ (hw _ (List.mem_of_getElem? (i := 29) rfl))) (notFace_of_selects (args := #[]) (mvT hZ (hw _ (List.mem_of_getElem? (i := 31) rfl)))) (mvT hZ (hw _ (List.mem_of_getElem? (i := 31) rfl))) (mvT hZ (hw _ (List.mem_of_getElem? (i := 30) rfl))) (by decide) (backOf (W := 0) (re_REJECTED l Z a0 hw [] w_INFRASTRUCTURE w_TRANSIENT w_QUALITY w_PERMANENT w_REJECTED w_DEADLINE w_STALLED h23 n0 O23 hE) hZ (hw _ (List.mem_of_getElem? (i := 32) rfl)) (hw _ (List.mem_of_getElem? (i := 3) rfl)) (by decide) (by decide)) q50a q50c (g := (mkF m 115 #[.val (.int p1), .val (.ref b1), .val (.ref b16), .val (.int (4 : Int32)), .val (.ref w_REJECTED), .val (.int (0 : Int32))] [(.ref w_REJECTED)])) rfl (by rw [hml]; rfl) (Steps.refl _) (argsL := []) (rest := []) (lenOf pd___Z rfl) rfl (by show 2 * 0 + _ ≤ _; exact Nat.le_of_eq rfl) (hb hby at_115) (fun _ _ => ⟨rfl, eq48, (by decide : 2 + 0 ≤ _), (by decide : 14 + 0 ≤ _)⟩)
    dsimp only [Pt.U, Pt.locs, Pt.cells, Pt.slots] at X50 l50 y50 z50 st50 hQ50
    subst l50 y50 z50
    obtain ⟨rfl, Nq50, eq50⟩ := hQ50
    have N50 := Fr.app N48 Nq50
    obtain ⟨fs, hr, hrun, hended, hW, hsame⟩ := X50.leave (v := some (.int (1 : Int32))) (fun h => by rw [Bd.returns] at h; cases h)
    refine ⟨_, _, pre24 _ ?_, hrun, hended, _, _, rfl, ?_, ⟨_, rfl⟩, hW, hsame.mono (by decide) (by decide)⟩
    · show Steps p.tables e below (T23.setTop (mkF m 91 #[.val (.int p1), .val (.ref b1), .val (.ref b16), .val (.int (4 : Int32)), .unset, .unset] [])) _
      refine XS.aloadN X23.here hx rfl (hb hby at_91) rfl rfl ?_
      show Steps p.tables e below (T23.setTop (mkF m 92 #[.val (.int p1), .val (.ref b1), .val (.ref b16), .val (.int (4 : Int32)), .unset, .unset] [(.ref b1)])) _
      refine XS.iloadN X23.here hx rfl (hb hby at_92) rfl ?_
      show Steps p.tables e below (T23.setTop (mkF m 93 #[.val (.int p1), .val (.ref b1), .val (.ref b16), .val (.int (4 : Int32)), .unset, .unset] [(.int (4 : Int32)), (.ref b1)])) _
      refine X23.aaload hx (j := (4 : Int32)) (v := (.ref w_REJECTED)) (by rw [e23]; exact Ar46.1) (State.isArrayOf_alike hZ.alike Ar46.2.1) rfl Ar46.2.2 hin46 hat46 (g := (mkF m 93 #[.val (.int p1), .val (.ref b1), .val (.ref b16), .val (.int (4 : Int32)), .unset, .unset] [(.int (4 : Int32)), (.ref b1)])) rfl rfl (hb hby at_93) _ ?_
      show Steps p.tables e below (T23.setTop (mkF m 94 #[.val (.int p1), .val (.ref b1), .val (.ref b16), .val (.int (4 : Int32)), .unset, .unset] [(.ref w_REJECTED)])) _
      refine XS.astore X23.here hx rfl (hb hby at_94) rfl rfl (l' := #[.val (.int p1), .val (.ref b1), .val (.ref b16), .val (.int (4 : Int32)), .val (.ref w_REJECTED), .unset]) rfl ?_
      show Steps p.tables e below (T23.setTop (mkF m 96 #[.val (.int p1), .val (.ref b1), .val (.ref b16), .val (.int (4 : Int32)), .val (.ref w_REJECTED), .unset] [])) _
      refine XS.aload X23.here hx rfl (hb hby at_96) rfl rfl ?_
      show Steps p.tables e below (T23.setTop (mkF m 98 #[.val (.int p1), .val (.ref b1), .val (.ref b16), .val (.int (4 : Int32)), .val (.ref w_REJECTED), .unset] [(.ref w_REJECTED)])) _
      refine st48.trans ?_
      show Steps p.tables e below (T48.setTop (mkF m 101 #[.val (.int p1), .val (.ref b1), .val (.ref b16), .val (.int (4 : Int32)), .val (.ref w_REJECTED), .unset] [(.int (0 : Int32))])) _
      refine XS.istore X48.here hx rfl (hb hby at_101) rfl (l' := #[.val (.int p1), .val (.ref b1), .val (.ref b16), .val (.int (4 : Int32)), .val (.ref w_REJECTED), .val (.int (0 : Int32))]) rfl ?_
      show Steps p.tables e below (T48.setTop (mkF m 103 #[.val (.int p1), .val (.ref b1), .val (.ref b16), .val (.int (4 : Int32)), .val (.ref w_REJECTED), .val (.int (0 : Int32))] [])) _
      refine XS.iload X48.here hx rfl (hb hby at_103) rfl ?_
      show Steps p.tables e below (T48.setTop (mkF m 105 #[.val (.int p1), .val (.ref b1), .val (.ref b16), .val (.int (4 : Int32)), .val (.ref w_REJECTED), .val (.int (0 : Int32))] [(.int (0 : Int32))])) _
      refine XS.aloadN X48.here hx rfl (hb hby at_105) rfl rfl ?_
      show Steps p.tables e below (T48.setTop (mkF m 106 #[.val (.int p1), .val (.ref b1), .val (.ref b16), .val (.int (4 : Int32)), .val (.ref w_REJECTED), .val (.int (0 : Int32))] [(.ref b16), (.int (0 : Int32))])) _
      refine XS.iloadN X48.here hx rfl (hb hby at_106) rfl ?_
      show Steps p.tables e below (T48.setTop (mkF m 107 #[.val (.int p1), .val (.ref b1), .val (.ref b16), .val (.int (4 : Int32)), .val (.ref w_REJECTED), .val (.int (0 : Int32))] [(.int (4 : Int32)), (.ref b16), (.int (0 : Int32))])) _
      refine X48.baloadBooleans hx (j := (4 : Int32)) (v := (.int (0 : Int32))) (by rw [eq48]; exact Ar49.1) (State.isArrayOf_alike hZ.alike Ar49.2.1) Ar49.2.2 hin49 hat49 (g := (mkF m 107 #[.val (.int p1), .val (.ref b1), .val (.ref b16), .val (.int (4 : Int32)), .val (.ref w_REJECTED), .val (.int (0 : Int32))] [(.int (4 : Int32)), (.ref b16), (.int (0 : Int32))])) rfl rfl (hb hby at_107) _ ?_
      show Steps p.tables e below (T48.setTop (mkF m 108 #[.val (.int p1), .val (.ref b1), .val (.ref b16), .val (.int (4 : Int32)), .val (.ref w_REJECTED), .val (.int (0 : Int32))] [(.int (0 : Int32)), (.int (0 : Int32))])) _
      refine XS.icmpYes X48.here hx rfl (pc0 := 108) (pc' := 113) rfl (hb hby at_108) rfl (teq (by decide : (0 : Int32) = (0 : Int32))).1 (by decide) (by decide) ?_
      show Steps p.tables e below (T48.setTop (mkF m 113 #[.val (.int p1), .val (.ref b1), .val (.ref b16), .val (.int (4 : Int32)), .val (.ref w_REJECTED), .val (.int (0 : Int32))] [])) _
      refine XS.aload X48.here hx rfl (hb hby at_113) rfl rfl ?_
      show Steps p.tables e below (T48.setTop (mkF m 115 #[.val (.int p1), .val (.ref b1), .val (.ref b16), .val (.int (4 : Int32)), .val (.ref w_REJECTED), .val (.int (0 : Int32))] [(.ref w_REJECTED)])) _
      refine st50.trans ?_
      show Steps p.tables e below (T50.setTop (mkF m 118 #[.val (.int p1), .val (.ref b1), .val (.ref b16), .val (.int (4 : Int32)), .val (.ref w_REJECTED), .val (.int (0 : Int32))] [(.int (0 : Int32))])) _
      refine XS.ifYes X50.here hx rfl (pc0 := 118) (pc' := 128) rfl (hb hby at_118) rfl ((if0 _ _).trans (teq (by decide : (0 : Int32) = (0 : Int32))).1) (by decide) (by decide) ?_
      show Steps p.tables e below (T50.setTop (mkF m 128 #[.val (.int p1), .val (.ref b1), .val (.ref b16), .val (.int (4 : Int32)), .val (.ref w_REJECTED), .val (.int (0 : Int32))] [])) _
      refine XS.iconst X50.here hx rfl (hb hby at_128) ?_
      show Steps p.tables e below (T50.setTop (mkF m 129 #[.val (.int p1), .val (.ref b1), .val (.ref b16), .val (.int (4 : Int32)), .val (.ref w_REJECTED), .val (.int (0 : Int32))] [(.int (1 : Int32))])) _
      exact retN X50 hx (t := .boolean) Bd.returns (by simp) (hb hby at_129) hr
    · show Q_rm0 Z p1 w_INFRASTRUCTURE w_TRANSIENT w_QUALITY w_PERMANENT w_REJECTED w_DEADLINE w_STALLED h0 n0 _ T50.heap _
      rw [eq50]
      exact ⟨rfl, N50⟩
  · rw [hv25] at pre24
    have f52 := ((((((((V15.ext E16).other W17 ne_b1_b16).other W18 ne_b1_b16).other W19 ne_b1_b16).other W20 ne_b1_b16).other W21 ne_b1_b16).other W22 ne_b1_b16).other W23 ne_b1_b16)
    have Vc51 := f52
    obtain ⟨cl51, Ar51, qa51, Sz51, Nn51, Ha51, Ga51⟩ := Vc51
    have hin51 : ¬ ((5 : Int32) < 0 ∨ cl51.slots.size ≤ ((5 : Int32)).toNatClampNeg) := inb_of Sz51 ⟨by decide, by decide⟩
    have hat51 : cl51.slots[((5 : Int32)).toNatClampNeg]? = some (.ref w_DEADLINE) := Has.at Ha51 hin51 rfl
    obtain ⟨cq53, kq53, q53a, q53b, q53c⟩ := isOf hZ e23 (E_w_DEADLINE.ext O23.2)
    obtain ⟨_, _, ⟨T53, L53, k53, n53⟩, -, X53, ⟨Lc53, hQ53, l53, y53, z53⟩, st53⟩ := X23.virtualBack hx (y := (⟨"com/example/glacial_workflow/glacialworkflow/core/FailureClass", "isRetriedWhenCured", "()Z"⟩ : MethodName)) (z := (⟨"com/example/glacial_workflow/glacialworkflow/core/FailureClass", "isRetriedWhenCured", "()Z"⟩ : MethodName)) hown (mvT hZ (hw _ (List.mem_of_getElem? (i := 20) rfl))) (mvT hZ (hw _ (List.mem_of_getElem? (i := 21) rfl))) (notFace_of_selects (args := #[]) (mvT hZ (hw _ (List.mem_of_getElem? (i := 23) rfl)))) (mvT hZ (hw _ (List.mem_of_getElem? (i := 23) rfl))) (mvT hZ (hw _ (List.mem_of_getElem? (i := 22) rfl))) (by decide) (backOf (W := 0) (rc_DEADLINE l Z a0 hw [] w_INFRASTRUCTURE w_TRANSIENT w_QUALITY w_PERMANENT w_REJECTED w_DEADLINE w_STALLED h23 n0 O23 hE) hZ (hw _ (List.mem_of_getElem? (i := 24) rfl)) (hw _ (List.mem_of_getElem? (i := 3) rfl)) (by decide) (by decide)) q53a q53c (g := (mkF m 98 #[.val (.int p1), .val (.ref b1), .val (.ref b16), .val (.int (5 : Int32)), .val (.ref w_DEADLINE), .unset] [(.ref w_DEADLINE)])) rfl (by rw [hml]; rfl) (Steps.refl _) (argsL := []) (rest := []) (lenOf pd___Z rfl) rfl (by show 2 * 0 + _ ≤ _; exact Nat.le_of_eq rfl) (hb hby at_98) (fun _ _ => ⟨rfl, e23, (by decide : 2 + 0 ≤ _), (by decide : 14 + 0 ≤ _)⟩)
    dsimp only [Pt.U, Pt.locs, Pt.cells, Pt.slots] at X53 l53 y53 z53 st53 hQ53
    subst l53 y53 z53
    obtain ⟨rfl, Nq53, eq53⟩ := hQ53
    have N53 := Fr.app N23 Nq53
    have Vc54 := V23
    obtain ⟨cl54, Ar54, qa54, Sz54, Nn54, Ha54, Ga54⟩ := Vc54
    have hin54 : ¬ ((5 : Int32) < 0 ∨ cl54.slots.size ≤ ((5 : Int32)).toNatClampNeg) := inb_of Sz54 ⟨by decide, by decide⟩
    have hat54 : cl54.slots[((5 : Int32)).toNatClampNeg]? = some (.int (0 : Int32)) := Has.at Ha54 hin54 rfl
    obtain ⟨cq55, kq55, q55a, q55b, q55c⟩ := isOf hZ eq53 (E_w_DEADLINE.ext O23.2)
    obtain ⟨_, _, ⟨T55, L55, k55, n55⟩, -, X55, ⟨Lc55, hQ55, l55, y55, z55⟩, st55⟩ := X53.virtualBack hx (y := (⟨"com/example/glacial_workflow/glacialworkflow/core/FailureClass", "isRetried", "()Z"⟩ : MethodName)) (z := (⟨"com/example/glacial_workflow/glacialworkflow/core/FailureClass", "isRetried", "()Z"⟩ : MethodName)) hown (mvT hZ (hw _ (List.mem_of_getElem? (i := 28) rfl))) (mvT hZ (hw _ (List.mem_of_getElem? (i := 29) rfl))) (notFace_of_selects (args := #[]) (mvT hZ (hw _ (List.mem_of_getElem? (i := 31) rfl)))) (mvT hZ (hw _ (List.mem_of_getElem? (i := 31) rfl))) (mvT hZ (hw _ (List.mem_of_getElem? (i := 30) rfl))) (by decide) (backOf (W := 0) (re_DEADLINE l Z a0 hw [] w_INFRASTRUCTURE w_TRANSIENT w_QUALITY w_PERMANENT w_REJECTED w_DEADLINE w_STALLED h23 n0 O23 hE) hZ (hw _ (List.mem_of_getElem? (i := 32) rfl)) (hw _ (List.mem_of_getElem? (i := 3) rfl)) (by decide) (by decide)) q55a q55c (g := (mkF m 115 #[.val (.int p1), .val (.ref b1), .val (.ref b16), .val (.int (5 : Int32)), .val (.ref w_DEADLINE), .val (.int (0 : Int32))] [(.ref w_DEADLINE)])) rfl (by rw [hml]; rfl) (Steps.refl _) (argsL := []) (rest := []) (lenOf pd___Z rfl) rfl (by show 2 * 0 + _ ≤ _; exact Nat.le_of_eq rfl) (hb hby at_115) (fun _ _ => ⟨rfl, eq53, (by decide : 2 + 0 ≤ _), (by decide : 14 + 0 ≤ _)⟩)
    dsimp only [Pt.U, Pt.locs, Pt.cells, Pt.slots] at X55 l55 y55 z55 st55 hQ55
    subst l55 y55 z55
    obtain ⟨rfl, Nq55, eq55⟩ := hQ55
    have N55 := Fr.app N53 Nq55
    obtain ⟨fs, hr, hrun, hended, hW, hsame⟩ := X55.leave (v := some (.int (1 : Int32))) (fun h => by rw [Bd.returns] at h; cases h)
    refine ⟨_, _, pre24 _ ?_, hrun, hended, _, _, rfl, ?_, ⟨_, rfl⟩, hW, hsame.mono (by decide) (by decide)⟩
    · show Steps p.tables e below (T23.setTop (mkF m 91 #[.val (.int p1), .val (.ref b1), .val (.ref b16), .val (.int (5 : Int32)), .unset, .unset] [])) _
      refine XS.aloadN X23.here hx rfl (hb hby at_91) rfl rfl ?_
      show Steps p.tables e below (T23.setTop (mkF m 92 #[.val (.int p1), .val (.ref b1), .val (.ref b16), .val (.int (5 : Int32)), .unset, .unset] [(.ref b1)])) _
      refine XS.iloadN X23.here hx rfl (hb hby at_92) rfl ?_
      show Steps p.tables e below (T23.setTop (mkF m 93 #[.val (.int p1), .val (.ref b1), .val (.ref b16), .val (.int (5 : Int32)), .unset, .unset] [(.int (5 : Int32)), (.ref b1)])) _
      refine X23.aaload hx (j := (5 : Int32)) (v := (.ref w_DEADLINE)) (by rw [e23]; exact Ar51.1) (State.isArrayOf_alike hZ.alike Ar51.2.1) rfl Ar51.2.2 hin51 hat51 (g := (mkF m 93 #[.val (.int p1), .val (.ref b1), .val (.ref b16), .val (.int (5 : Int32)), .unset, .unset] [(.int (5 : Int32)), (.ref b1)])) rfl rfl (hb hby at_93) _ ?_
      show Steps p.tables e below (T23.setTop (mkF m 94 #[.val (.int p1), .val (.ref b1), .val (.ref b16), .val (.int (5 : Int32)), .unset, .unset] [(.ref w_DEADLINE)])) _
      refine XS.astore X23.here hx rfl (hb hby at_94) rfl rfl (l' := #[.val (.int p1), .val (.ref b1), .val (.ref b16), .val (.int (5 : Int32)), .val (.ref w_DEADLINE), .unset]) rfl ?_
      show Steps p.tables e below (T23.setTop (mkF m 96 #[.val (.int p1), .val (.ref b1), .val (.ref b16), .val (.int (5 : Int32)), .val (.ref w_DEADLINE), .unset] [])) _
      refine XS.aload X23.here hx rfl (hb hby at_96) rfl rfl ?_
      show Steps p.tables e below (T23.setTop (mkF m 98 #[.val (.int p1), .val (.ref b1), .val (.ref b16), .val (.int (5 : Int32)), .val (.ref w_DEADLINE), .unset] [(.ref w_DEADLINE)])) _
      refine st53.trans ?_
      show Steps p.tables e below (T53.setTop (mkF m 101 #[.val (.int p1), .val (.ref b1), .val (.ref b16), .val (.int (5 : Int32)), .val (.ref w_DEADLINE), .unset] [(.int (0 : Int32))])) _
      refine XS.istore X53.here hx rfl (hb hby at_101) rfl (l' := #[.val (.int p1), .val (.ref b1), .val (.ref b16), .val (.int (5 : Int32)), .val (.ref w_DEADLINE), .val (.int (0 : Int32))]) rfl ?_
      show Steps p.tables e below (T53.setTop (mkF m 103 #[.val (.int p1), .val (.ref b1), .val (.ref b16), .val (.int (5 : Int32)), .val (.ref w_DEADLINE), .val (.int (0 : Int32))] [])) _
      refine XS.iload X53.here hx rfl (hb hby at_103) rfl ?_
      show Steps p.tables e below (T53.setTop (mkF m 105 #[.val (.int p1), .val (.ref b1), .val (.ref b16), .val (.int (5 : Int32)), .val (.ref w_DEADLINE), .val (.int (0 : Int32))] [(.int (0 : Int32))])) _
      refine XS.aloadN X53.here hx rfl (hb hby at_105) rfl rfl ?_
      show Steps p.tables e below (T53.setTop (mkF m 106 #[.val (.int p1), .val (.ref b1), .val (.ref b16), .val (.int (5 : Int32)), .val (.ref w_DEADLINE), .val (.int (0 : Int32))] [(.ref b16), (.int (0 : Int32))])) _
      refine XS.iloadN X53.here hx rfl (hb hby at_106) rfl ?_
      show Steps p.tables e below (T53.setTop (mkF m 107 #[.val (.int p1), .val (.ref b1), .val (.ref b16), .val (.int (5 : Int32)), .val (.ref w_DEADLINE), .val (.int (0 : Int32))] [(.int (5 : Int32)), (.ref b16), (.int (0 : Int32))])) _
      refine X53.baloadBooleans hx (j := (5 : Int32)) (v := (.int (0 : Int32))) (by rw [eq53]; exact Ar54.1) (State.isArrayOf_alike hZ.alike Ar54.2.1) Ar54.2.2 hin54 hat54 (g := (mkF m 107 #[.val (.int p1), .val (.ref b1), .val (.ref b16), .val (.int (5 : Int32)), .val (.ref w_DEADLINE), .val (.int (0 : Int32))] [(.int (5 : Int32)), (.ref b16), (.int (0 : Int32))])) rfl rfl (hb hby at_107) _ ?_
      show Steps p.tables e below (T53.setTop (mkF m 108 #[.val (.int p1), .val (.ref b1), .val (.ref b16), .val (.int (5 : Int32)), .val (.ref w_DEADLINE), .val (.int (0 : Int32))] [(.int (0 : Int32)), (.int (0 : Int32))])) _
      refine XS.icmpYes X53.here hx rfl (pc0 := 108) (pc' := 113) rfl (hb hby at_108) rfl (teq (by decide : (0 : Int32) = (0 : Int32))).1 (by decide) (by decide) ?_
      show Steps p.tables e below (T53.setTop (mkF m 113 #[.val (.int p1), .val (.ref b1), .val (.ref b16), .val (.int (5 : Int32)), .val (.ref w_DEADLINE), .val (.int (0 : Int32))] [])) _
      refine XS.aload X53.here hx rfl (hb hby at_113) rfl rfl ?_
      show Steps p.tables e below (T53.setTop (mkF m 115 #[.val (.int p1), .val (.ref b1), .val (.ref b16), .val (.int (5 : Int32)), .val (.ref w_DEADLINE), .val (.int (0 : Int32))] [(.ref w_DEADLINE)])) _
      refine st55.trans ?_
      show Steps p.tables e below (T55.setTop (mkF m 118 #[.val (.int p1), .val (.ref b1), .val (.ref b16), .val (.int (5 : Int32)), .val (.ref w_DEADLINE), .val (.int (0 : Int32))] [(.int (0 : Int32))])) _
      refine XS.ifYes X55.here hx rfl (pc0 := 118) (pc' := 128) rfl (hb hby at_118) rfl ((if0 _ _).trans (teq (by decide : (0 : Int32) = (0 : Int32))).1) (by decide) (by decide) ?_
      show Steps p.tables e below (T55.setTop (mkF m 128 #[.val (.int p1), .val (.ref b1), .val (.ref b16), .val (.int (5 : Int32)), .val (.ref w_DEADLINE), .val (.int (0 : Int32))] [])) _
      refine XS.iconst X55.here hx rfl (hb hby at_128) ?_
      show Steps p.tables e below (T55.setTop (mkF m 129 #[.val (.int p1), .val (.ref b1), .val (.ref b16), .val (.int (5 : Int32)), .val (.ref w_DEADLINE), .val (.int (0 : Int32))] [(.int (1 : Int32))])) _
      exact retN X55 hx (t := .boolean) Bd.returns (by simp) (hb hby at_129) hr
    · show Q_rm0 Z p1 w_INFRASTRUCTURE w_TRANSIENT w_QUALITY w_PERMANENT w_REJECTED w_DEADLINE w_STALLED h0 n0 _ T55.heap _
      rw [eq55]
      exact ⟨rfl, N55⟩
  · rw [hv25] at pre24
    have f57 := ((((((((V15.ext E16).other W17 ne_b1_b16).other W18 ne_b1_b16).other W19 ne_b1_b16).other W20 ne_b1_b16).other W21 ne_b1_b16).other W22 ne_b1_b16).other W23 ne_b1_b16)
    have Vc56 := f57
    obtain ⟨cl56, Ar56, qa56, Sz56, Nn56, Ha56, Ga56⟩ := Vc56
    have hin56 : ¬ ((6 : Int32) < 0 ∨ cl56.slots.size ≤ ((6 : Int32)).toNatClampNeg) := inb_of Sz56 ⟨by decide, by decide⟩
    have hat56 : cl56.slots[((6 : Int32)).toNatClampNeg]? = some (.ref w_STALLED) := Has.at Ha56 hin56 rfl
    obtain ⟨cq58, kq58, q58a, q58b, q58c⟩ := isOf hZ e23 (E_w_STALLED.ext O23.2)
    obtain ⟨_, _, ⟨T58, L58, k58, n58⟩, -, X58, ⟨Lc58, hQ58, l58, y58, z58⟩, st58⟩ := X23.virtualBack hx (y := (⟨"com/example/glacial_workflow/glacialworkflow/core/FailureClass", "isRetriedWhenCured", "()Z"⟩ : MethodName)) (z := (⟨"com/example/glacial_workflow/glacialworkflow/core/FailureClass", "isRetriedWhenCured", "()Z"⟩ : MethodName)) hown (mvT hZ (hw _ (List.mem_of_getElem? (i := 20) rfl))) (mvT hZ (hw _ (List.mem_of_getElem? (i := 21) rfl))) (notFace_of_selects (args := #[]) (mvT hZ (hw _ (List.mem_of_getElem? (i := 23) rfl)))) (mvT hZ (hw _ (List.mem_of_getElem? (i := 23) rfl))) (mvT hZ (hw _ (List.mem_of_getElem? (i := 22) rfl))) (by decide) (backOf (W := 0) (rc_STALLED l Z a0 hw [] w_INFRASTRUCTURE w_TRANSIENT w_QUALITY w_PERMANENT w_REJECTED w_DEADLINE w_STALLED h23 n0 O23 hE) hZ (hw _ (List.mem_of_getElem? (i := 24) rfl)) (hw _ (List.mem_of_getElem? (i := 3) rfl)) (by decide) (by decide)) q58a q58c (g := (mkF m 98 #[.val (.int p1), .val (.ref b1), .val (.ref b16), .val (.int (6 : Int32)), .val (.ref w_STALLED), .unset] [(.ref w_STALLED)])) rfl (by rw [hml]; rfl) (Steps.refl _) (argsL := []) (rest := []) (lenOf pd___Z rfl) rfl (by show 2 * 0 + _ ≤ _; exact Nat.le_of_eq rfl) (hb hby at_98) (fun _ _ => ⟨rfl, e23, (by decide : 2 + 0 ≤ _), (by decide : 14 + 0 ≤ _)⟩)
    dsimp only [Pt.U, Pt.locs, Pt.cells, Pt.slots] at X58 l58 y58 z58 st58 hQ58
    subst l58 y58 z58
    obtain ⟨rfl, Nq58, eq58⟩ := hQ58
    have N58 := Fr.app N23 Nq58
    have Vc59 := V23
    obtain ⟨cl59, Ar59, qa59, Sz59, Nn59, Ha59, Ga59⟩ := Vc59
    have hin59 : ¬ ((6 : Int32) < 0 ∨ cl59.slots.size ≤ ((6 : Int32)).toNatClampNeg) := inb_of Sz59 ⟨by decide, by decide⟩
    have hat59 : cl59.slots[((6 : Int32)).toNatClampNeg]? = some (.int (0 : Int32)) := Has.at Ha59 hin59 rfl
    obtain ⟨cq60, kq60, q60a, q60b, q60c⟩ := isOf hZ eq58 (E_w_STALLED.ext O23.2)
    obtain ⟨_, _, ⟨T60, L60, k60, n60⟩, -, X60, ⟨Lc60, hQ60, l60, y60, z60⟩, st60⟩ := X58.virtualBack hx (y := (⟨"com/example/glacial_workflow/glacialworkflow/core/FailureClass", "isRetried", "()Z"⟩ : MethodName)) (z := (⟨"com/example/glacial_workflow/glacialworkflow/core/FailureClass", "isRetried", "()Z"⟩ : MethodName)) hown (mvT hZ (hw _ (List.mem_of_getElem? (i := 28) rfl))) (mvT hZ (hw _ (List.mem_of_getElem? (i := 29) rfl))) (notFace_of_selects (args := #[]) (mvT hZ (hw _ (List.mem_of_getElem? (i := 31) rfl)))) (mvT hZ (hw _ (List.mem_of_getElem? (i := 31) rfl))) (mvT hZ (hw _ (List.mem_of_getElem? (i := 30) rfl))) (by decide) (backOf (W := 0) (re_STALLED l Z a0 hw [] w_INFRASTRUCTURE w_TRANSIENT w_QUALITY w_PERMANENT w_REJECTED w_DEADLINE w_STALLED h23 n0 O23 hE) hZ (hw _ (List.mem_of_getElem? (i := 32) rfl)) (hw _ (List.mem_of_getElem? (i := 3) rfl)) (by decide) (by decide)) q60a q60c (g := (mkF m 115 #[.val (.int p1), .val (.ref b1), .val (.ref b16), .val (.int (6 : Int32)), .val (.ref w_STALLED), .val (.int (0 : Int32))] [(.ref w_STALLED)])) rfl (by rw [hml]; rfl) (Steps.refl _) (argsL := []) (rest := []) (lenOf pd___Z rfl) rfl (by show 2 * 0 + _ ≤ _; exact Nat.le_of_eq rfl) (hb hby at_115) (fun _ _ => ⟨rfl, eq58, (by decide : 2 + 0 ≤ _), (by decide : 14 + 0 ≤ _)⟩)
    dsimp only [Pt.U, Pt.locs, Pt.cells, Pt.slots] at X60 l60 y60 z60 st60 hQ60
    subst l60 y60 z60
    obtain ⟨rfl, Nq60, eq60⟩ := hQ60
    have N60 := Fr.app N58 Nq60
    obtain ⟨fs, hr, hrun, hended, hW, hsame⟩ := X60.leave (v := some (.int (1 : Int32))) (fun h => by rw [Bd.returns] at h; cases h)
    refine ⟨_, _, pre24 _ ?_, hrun, hended, _, _, rfl, ?_, ⟨_, rfl⟩, hW, hsame.mono (by decide) (by decide)⟩
    · show Steps p.tables e below (T23.setTop (mkF m 91 #[.val (.int p1), .val (.ref b1), .val (.ref b16), .val (.int (6 : Int32)), .unset, .unset] [])) _
      refine XS.aloadN X23.here hx rfl (hb hby at_91) rfl rfl ?_
      show Steps p.tables e below (T23.setTop (mkF m 92 #[.val (.int p1), .val (.ref b1), .val (.ref b16), .val (.int (6 : Int32)), .unset, .unset] [(.ref b1)])) _
      refine XS.iloadN X23.here hx rfl (hb hby at_92) rfl ?_
      show Steps p.tables e below (T23.setTop (mkF m 93 #[.val (.int p1), .val (.ref b1), .val (.ref b16), .val (.int (6 : Int32)), .unset, .unset] [(.int (6 : Int32)), (.ref b1)])) _
      refine X23.aaload hx (j := (6 : Int32)) (v := (.ref w_STALLED)) (by rw [e23]; exact Ar56.1) (State.isArrayOf_alike hZ.alike Ar56.2.1) rfl Ar56.2.2 hin56 hat56 (g := (mkF m 93 #[.val (.int p1), .val (.ref b1), .val (.ref b16), .val (.int (6 : Int32)), .unset, .unset] [(.int (6 : Int32)), (.ref b1)])) rfl rfl (hb hby at_93) _ ?_
      show Steps p.tables e below (T23.setTop (mkF m 94 #[.val (.int p1), .val (.ref b1), .val (.ref b16), .val (.int (6 : Int32)), .unset, .unset] [(.ref w_STALLED)])) _
      refine XS.astore X23.here hx rfl (hb hby at_94) rfl rfl (l' := #[.val (.int p1), .val (.ref b1), .val (.ref b16), .val (.int (6 : Int32)), .val (.ref w_STALLED), .unset]) rfl ?_
      show Steps p.tables e below (T23.setTop (mkF m 96 #[.val (.int p1), .val (.ref b1), .val (.ref b16), .val (.int (6 : Int32)), .val (.ref w_STALLED), .unset] [])) _
      refine XS.aload X23.here hx rfl (hb hby at_96) rfl rfl ?_
      show Steps p.tables e below (T23.setTop (mkF m 98 #[.val (.int p1), .val (.ref b1), .val (.ref b16), .val (.int (6 : Int32)), .val (.ref w_STALLED), .unset] [(.ref w_STALLED)])) _
      refine st58.trans ?_
      show Steps p.tables e below (T58.setTop (mkF m 101 #[.val (.int p1), .val (.ref b1), .val (.ref b16), .val (.int (6 : Int32)), .val (.ref w_STALLED), .unset] [(.int (0 : Int32))])) _
      refine XS.istore X58.here hx rfl (hb hby at_101) rfl (l' := #[.val (.int p1), .val (.ref b1), .val (.ref b16), .val (.int (6 : Int32)), .val (.ref w_STALLED), .val (.int (0 : Int32))]) rfl ?_
      show Steps p.tables e below (T58.setTop (mkF m 103 #[.val (.int p1), .val (.ref b1), .val (.ref b16), .val (.int (6 : Int32)), .val (.ref w_STALLED), .val (.int (0 : Int32))] [])) _
      refine XS.iload X58.here hx rfl (hb hby at_103) rfl ?_
      show Steps p.tables e below (T58.setTop (mkF m 105 #[.val (.int p1), .val (.ref b1), .val (.ref b16), .val (.int (6 : Int32)), .val (.ref w_STALLED), .val (.int (0 : Int32))] [(.int (0 : Int32))])) _
      refine XS.aloadN X58.here hx rfl (hb hby at_105) rfl rfl ?_
      show Steps p.tables e below (T58.setTop (mkF m 106 #[.val (.int p1), .val (.ref b1), .val (.ref b16), .val (.int (6 : Int32)), .val (.ref w_STALLED), .val (.int (0 : Int32))] [(.ref b16), (.int (0 : Int32))])) _
      refine XS.iloadN X58.here hx rfl (hb hby at_106) rfl ?_
      show Steps p.tables e below (T58.setTop (mkF m 107 #[.val (.int p1), .val (.ref b1), .val (.ref b16), .val (.int (6 : Int32)), .val (.ref w_STALLED), .val (.int (0 : Int32))] [(.int (6 : Int32)), (.ref b16), (.int (0 : Int32))])) _
      refine X58.baloadBooleans hx (j := (6 : Int32)) (v := (.int (0 : Int32))) (by rw [eq58]; exact Ar59.1) (State.isArrayOf_alike hZ.alike Ar59.2.1) Ar59.2.2 hin59 hat59 (g := (mkF m 107 #[.val (.int p1), .val (.ref b1), .val (.ref b16), .val (.int (6 : Int32)), .val (.ref w_STALLED), .val (.int (0 : Int32))] [(.int (6 : Int32)), (.ref b16), (.int (0 : Int32))])) rfl rfl (hb hby at_107) _ ?_
      show Steps p.tables e below (T58.setTop (mkF m 108 #[.val (.int p1), .val (.ref b1), .val (.ref b16), .val (.int (6 : Int32)), .val (.ref w_STALLED), .val (.int (0 : Int32))] [(.int (0 : Int32)), (.int (0 : Int32))])) _
      refine XS.icmpYes X58.here hx rfl (pc0 := 108) (pc' := 113) rfl (hb hby at_108) rfl (teq (by decide : (0 : Int32) = (0 : Int32))).1 (by decide) (by decide) ?_
      show Steps p.tables e below (T58.setTop (mkF m 113 #[.val (.int p1), .val (.ref b1), .val (.ref b16), .val (.int (6 : Int32)), .val (.ref w_STALLED), .val (.int (0 : Int32))] [])) _
      refine XS.aload X58.here hx rfl (hb hby at_113) rfl rfl ?_
      show Steps p.tables e below (T58.setTop (mkF m 115 #[.val (.int p1), .val (.ref b1), .val (.ref b16), .val (.int (6 : Int32)), .val (.ref w_STALLED), .val (.int (0 : Int32))] [(.ref w_STALLED)])) _
      refine st60.trans ?_
      show Steps p.tables e below (T60.setTop (mkF m 118 #[.val (.int p1), .val (.ref b1), .val (.ref b16), .val (.int (6 : Int32)), .val (.ref w_STALLED), .val (.int (0 : Int32))] [(.int (0 : Int32))])) _
      refine XS.ifYes X60.here hx rfl (pc0 := 118) (pc' := 128) rfl (hb hby at_118) rfl ((if0 _ _).trans (teq (by decide : (0 : Int32) = (0 : Int32))).1) (by decide) (by decide) ?_
      show Steps p.tables e below (T60.setTop (mkF m 128 #[.val (.int p1), .val (.ref b1), .val (.ref b16), .val (.int (6 : Int32)), .val (.ref w_STALLED), .val (.int (0 : Int32))] [])) _
      refine XS.iconst X60.here hx rfl (hb hby at_128) ?_
      show Steps p.tables e below (T60.setTop (mkF m 129 #[.val (.int p1), .val (.ref b1), .val (.ref b16), .val (.int (6 : Int32)), .val (.ref w_STALLED), .val (.int (0 : Int32))] [(.int (1 : Int32))])) _
      exact retN X60 hx (t := .boolean) Bd.returns (by simp) (hb hby at_129) hr
    · show Q_rm0 Z p1 w_INFRASTRUCTURE w_TRANSIENT w_QUALITY w_PERMANENT w_REJECTED w_DEADLINE w_STALLED h0 n0 _ T60.heap _
      rw [eq60]
      exact ⟨rfl, N60⟩
set_option maxRecDepth 65536 in
set_option maxHeartbeats 40000000 in
theorem comes_1 {Post : Tables → Env → Array Value → State → Outcome → State → Prop} (hpost : ∀ tb e args s v u, (limb_1_1.after args s (.returned v) u = true ∧ limb_1_2.after args s (.returned v) u = true ∧ True) → FrameEnd s (.returned v) u (Jvm.fieldLocs frame_1_writes args s ++ Jvm.arrayLocs frame_1_arrays args s ++ Jvm.staticLocs frame_1_statics s) 16 128 → Post tb e args s (.returned v) u) :
    ArmFor flags0 classFile x code maxLocals ret World_1 tables_1 room_1 Calls_1 rest_1 Pre_1 Post := by
  intro l hfl _ _ p e ha hc hk s m args below hf hA hF happ hP
  obtain ⟨hcalls, hrest, hpre⟩ := hP
  obtain ⟨-, -, -, hnamed, -, -, -, hat⟩ := (Spec.applies_iff hf).mp happ
  obtain ⟨hg, hn⟩ := and_e (Cond.before_iff.mp (show (Jvm.Cond.and given_1 narrow_1).before args s = true from hpre))
  obtain ⟨hg0, hgr0⟩ := and_e hg
  obtain ⟨w0, rfl⟩ : ∃ w0 : Value, args = #[w0] := by
    have hs : args.size = 1 := by simpa [Cond.value, given_1] using hg0
    obtain ⟨L⟩ := args
    match L, hs with
    | [w0], _ => exact ⟨w0, rfl⟩
  have hw := fun d (hd : d ∈ tables_1) => atoms_spec (ws := Jvm.Cond.code x code maxLocals ret :: tables_1) hat d (List.mem_cons_of_mem _ hd)
  have hfit : Fit s := fun {y c} hc i hi => by
    obtain ⟨ha, rfl⟩ := Array.getElem?_eq_some_iff.mp hc
    have q := List.all_eq_true.mp ((Array.all_eq_true_iff_forall_mem.mp hF) _ (Array.getElem_mem ha)) i (List.mem_range.mpr hi)
    simpa [Array.getElem?_eq_getElem hi] using q
  obtain ⟨i0, ei0⟩ := is_v hgr0
  obtain rfl : w0 = (.int i0) := Option.some.inj ei0
  obtain ⟨hq1a, hq1b⟩ := and_e hn
  obtain ⟨hq2a, hq2b⟩ := and_e hq1b
  obtain ⟨hq3a, hq3b⟩ := and_e hq2b
  obtain ⟨hq4a, hq4b⟩ := and_e hq3b
  obtain ⟨hq5a, hq5b⟩ := and_e hq4b
  obtain ⟨hq6a, hq6b⟩ := and_e hq5b
  obtain ⟨hq7a, hq7b⟩ := and_e hq6b
  obtain ⟨hq8a, hq8b⟩ := and_e hq7b
  obtain ⟨hq9a, hq9b⟩ := and_e hq8b
  obtain ⟨hq10a, hq10b⟩ := and_e hq9b
  obtain ⟨hq11a, hq11b⟩ := and_e hq10b
  obtain ⟨hq12a, hq12b⟩ := and_e hq11b
  obtain ⟨hq13a, hq13b⟩ := and_e hq12b
  obtain ⟨w_INFRASTRUCTURE, ev_w_INFRASTRUCTURE⟩ := exa_v hq1a
  obtain ⟨w_TRANSIENT, ev_w_TRANSIENT⟩ := exa_v hq2a
  obtain ⟨w_QUALITY, ev_w_QUALITY⟩ := exa_v hq3a
  obtain ⟨w_PERMANENT, ev_w_PERMANENT⟩ := exa_v hq4a
  obtain ⟨w_REJECTED, ev_w_REJECTED⟩ := exa_v hq5a
  obtain ⟨w_DEADLINE, ev_w_DEADLINE⟩ := exa_v hq6a
  obtain ⟨w_STALLED, ev_w_STALLED⟩ := exa_v hq7a
  obtain ⟨n, o, h1, h2, h3, _, L, rfl, ⟨rfl, N⟩, hq⟩ := rm0 l s _ hw tables_1 i0 w_INFRASTRUCTURE w_TRANSIENT w_QUALITY w_PERMANENT w_REJECTED w_DEADLINE w_STALLED s.heap s.heap.size (Old.start s) ⟨(Sta.start ev_w_INFRASTRUCTURE (Or.inr ⟨(hw _ (List.mem_of_getElem? (i := 3) rfl)), (hw _ (List.mem_of_getElem? (i := 4) rfl))⟩)), (own_exa hq1a ev_w_INFRASTRUCTURE), (Sta.start ev_w_TRANSIENT (Or.inr ⟨(hw _ (List.mem_of_getElem? (i := 3) rfl)), (hw _ (List.mem_of_getElem? (i := 7) rfl))⟩)), (own_exa hq2a ev_w_TRANSIENT), (Sta.start ev_w_QUALITY (Or.inr ⟨(hw _ (List.mem_of_getElem? (i := 3) rfl)), (hw _ (List.mem_of_getElem? (i := 9) rfl))⟩)), (own_exa hq3a ev_w_QUALITY), (Sta.start ev_w_PERMANENT (Or.inr ⟨(hw _ (List.mem_of_getElem? (i := 3) rfl)), (hw _ (List.mem_of_getElem? (i := 11) rfl))⟩)), (own_exa hq4a ev_w_PERMANENT), (Sta.start ev_w_REJECTED (Or.inr ⟨(hw _ (List.mem_of_getElem? (i := 3) rfl)), (hw _ (List.mem_of_getElem? (i := 13) rfl))⟩)), (own_exa hq5a ev_w_REJECTED), (Sta.start ev_w_DEADLINE (Or.inr ⟨(hw _ (List.mem_of_getElem? (i := 3) rfl)), (hw _ (List.mem_of_getElem? (i := 15) rfl))⟩)), (own_exa hq6a ev_w_DEADLINE), (Sta.start ev_w_STALLED (Or.inr ⟨(hw _ (List.mem_of_getElem? (i := 3) rfl)), (hw _ (List.mem_of_getElem? (i := 17) rfl))⟩)), (own_exa hq7a ev_w_STALLED), (own_fi ev_w_INFRASTRUCTURE hq8a), (own_fi ev_w_DEADLINE hq9a), (own_fi ev_w_STALLED hq10a), (own_fi ev_w_REJECTED hq11a), (own_fi ev_w_PERMANENT hq12a), (own_fi ev_w_TRANSIENT hq13a), (own_fi ev_w_QUALITY hq13b)⟩ p e ha hc hk s m _ below hf ((Spec.applies_iff_loose hf).mp happ).1 ⟨rfl, State.Warmed39.refl s, rfl⟩ trivial
  refine ⟨n, _, h1, h2, h3, hpost _ _ _ _ _ _ ⟨Cond.after_iff.mpr rfl, Cond.after_iff.mpr (eq_i res_at (Term.int_eval (1)) rfl), trivial⟩ ⟨hq.1, hq.2.1, (hq.2.2.sift fun y hy => Or.inr (N y hy)).mono (by decide) (by decide)⟩⟩
theorem main_1_1 : Claimed_1_1 := comes_1 fun _ _ _ _ _ _ h hF => ⟨h.1, hF⟩
theorem main_1_2 : Claimed_1_2 := comes_1 fun _ _ _ _ _ _ h hF => ⟨h.2.1, hF⟩
end Jvm.Pilot.@@N@@
namespace Jvm.Pilot.@@N@@
open Jvm Jvm.ClassFile Sem Op Lib Jvm.Free Jvm.Stand Jvm.Pilot.@@N@@.Jvm.D
/-! MADE BY PROGRAM (witnessworld.py) out of the Statement's table words and the real class files: 16 classes; the members and pool entries that the words name. The judged class is class 1, her method 1. -/
namespace start1
open Jvm.ClassFile
def u (s : String) : CpInfo := .utf8 (stringToUtf16 s)
/-- a pool by its gaps: so many unusable entries, then the entry; so many at the end -/
def gap : Nat → List CpInfo → List CpInfo
  | 0, r => r
  | n + 1, r => .unusable :: gap n r
def poolList (es : List (Nat × CpInfo)) (last : Nat) : List CpInfo := es.foldr (fun e r => gap e.1 (e.2 :: r)) (gap last [])
def pool (es : List (Nat × CpInfo)) (last : Nat) : Array CpInfo := ⟨poolList es last⟩
def fileOf (pool : Array CpInfo) (this : Nat) (attrs : Array Attribute := #[]) (ms : Array MethodInfo := #[]) (fl : Nat := 33) (sup : Nat := 0) (ifs : Array Nat := #[]) (fds : Array FieldInfo := #[]) : ClassFile where
  minorVersion := 0
  majorVersion := 65
  constantPool := pool
  accessFlags := fl
  thisClass := this
  superClass := sup
  interfaces := ifs
  fields := fds
  methods := ms
  attributes := attrs
def plain (name : String) (sup : Option ClassId) : Class where
  name := name
  kind := .ordinary
  loader := none
  accessFlags := 33
  super := sup
  interfaces := #[]
  cf := none
  fields := #[]
  methods := #[]
  instanceTypes := #[]
  staticTypes := #[]
  resolved := #[]
  callSites := []
  init := .initialized
  statics := none
  mirror := none

def pool0 : Array CpInfo := pool [(5, u "<init>"), (0, u "()V"), (1, .class_ 10), (1, u "java/lang/Object")] 113

def k0m0 : Method := { name := "<init>", desc := "()V", sig := { parameters := [], returnType := none }, accessFlags := 1, code := none }
/-- java/lang/Object -/
def k0 : Class := { plain "java/lang/Object" none with
  accessFlags := 33
  interfaces := #[]
  cf := some (fileOf pool0 8 #[] #[{ accessFlags := 1, nameIndex := 5, descriptorIndex := 6, attributes := #[] }] 33 0 #[] #[])
  fields := #[]
  methods := #[k0m0]
  instanceTypes := #[]
  staticTypes := #[]
  resolved := Array.replicate 124 none
  statics := none }

def pool1 : Array CpInfo := pool [(2, .class_ 4), (1, u "java/lang/Object"), (0, u "<init>"), (0, u "()V"), (0, .class_ 8), (0, u "com/example/glacial_workflow/glacialworkflow/core/FailureClass"), (0, .fieldref 7 10), (0, .nameAndType 11 12), (0, u "INFRASTRUCTURE"), (0, u "Lcom/example/glacial_workflow/glacialworkflow/core/FailureClass;"), (0, .fieldref 7 14), (0, .nameAndType 15 12), (0, u "TRANSIENT"), (0, .fieldref 7 17), (0, .nameAndType 18 12), (0, u "QUALITY"), (0, .fieldref 7 20), (0, .nameAndType 21 12), (0, u "PERMANENT"), (0, .fieldref 7 23), (0, .nameAndType 24 12), (0, u "REJECTED"), (0, .fieldref 7 26), (0, .nameAndType 27 12), (0, u "DEADLINE"), (0, .fieldref 7 29), (0, .nameAndType 30 12), (0, u "STALLED"), (0, .integer 2147483647), (0, .methodref 7 33), (0, .nameAndType 34 35), (0, u "isRetriedWhenCured"), (0, u "()Z"), (0, .methodref 7 37), (0, .nameAndType 38 35), (0, u "isRetried"), (0, .class_ 40), (0, u "com/example/glacial_workflow/glacialworkflow/core/FailureClassIsRetriedWhenCuredPinLaw"), (2, u "law"), (0, u "(I)Z")] 7

def k1m0 : Method := { name := "<init>", desc := "()V", sig := { parameters := [], returnType := none }, accessFlags := 1, code := none }
def k1c1 : Code := { maxStack := 4, maxLocals := 6, code := code, exceptionTable := #[], attributes := #[] }
def k1m1 : Method := { name := "law", desc := "(I)Z", sig := { parameters := [.int], returnType := some .boolean }, accessFlags := 9, code := some k1c1 }
/-- com/example/glacial_workflow/glacialworkflow/core/FailureClassIsRetriedWhenCuredPinLaw -/
def k1 : Class := { plain "com/example/glacial_workflow/glacialworkflow/core/FailureClassIsRetriedWhenCuredPinLaw" (some 0) with
  accessFlags := 49
  interfaces := #[]
  cf := some (fileOf pool1 39 #[] #[{ accessFlags := 1, nameIndex := 5, descriptorIndex := 6, attributes := #[] }, { accessFlags := 9, nameIndex := 43, descriptorIndex := 44, attributes := #[] }] 49 2 #[] #[])
  fields := #[]
  methods := #[k1m0, k1m1]
  instanceTypes := #[]
  staticTypes := #[]
  resolved := Array.replicate 52 none
  statics := none }

def pool2 : Array CpInfo := pool [(1, .class_ 2), (0, u "java/lang/constant/Constable"), (0, .class_ 4), (0, u "java/lang/Object")] 6

/-- java/lang/constant/Constable -/
def k2 : Class := { plain "java/lang/constant/Constable" (some 0) with
  accessFlags := 1537
  interfaces := #[]
  cf := some (fileOf pool2 1 #[] #[] 1537 3 #[] #[])
  fields := #[]
  methods := #[]
  instanceTypes := #[]
  staticTypes := #[]
  resolved := Array.replicate 11 none
  statics := none }

def pool3 : Array CpInfo := pool [(1, .class_ 2), (0, u "java/lang/Comparable"), (0, .class_ 4), (0, u "java/lang/Object")] 7

/-- java/lang/Comparable -/
def k3 : Class := { plain "java/lang/Comparable" (some 0) with
  accessFlags := 1537
  interfaces := #[]
  cf := some (fileOf pool3 1 #[] #[] 1537 3 #[] #[])
  fields := #[]
  methods := #[]
  instanceTypes := #[]
  staticTypes := #[]
  resolved := Array.replicate 12 none
  statics := none }

def pool4 : Array CpInfo := pool [(1, .class_ 2), (0, u "java/io/Serializable"), (0, .class_ 4), (0, u "java/lang/Object")] 2

/-- java/io/Serializable -/
def k4 : Class := { plain "java/io/Serializable" (some 0) with
  accessFlags := 1537
  interfaces := #[]
  cf := some (fileOf pool4 1 #[] #[] 1537 3 #[] #[])
  fields := #[]
  methods := #[]
  instanceTypes := #[]
  staticTypes := #[]
  resolved := Array.replicate 7 none
  statics := none }

def pool5 : Array CpInfo := pool [(2, .class_ 4), (1, u "java/lang/Enum"), (0, u "name"), (0, u "Ljava/lang/String;"), (2, u "ordinal"), (0, u "I"), (1, .class_ 14), (1, u "java/lang/Object"), (4, u "hash"), (86, .class_ 108), (1, u "java/lang/Enum$EnumDesc"), (2, .class_ 112), (0, u "java/lang/constant/Constable"), (0, .class_ 114), (0, u "java/lang/Comparable"), (0, .class_ 116), (0, u "java/io/Serializable")] 87

/-- java/lang/Enum -/
def k5 : Class := { plain "java/lang/Enum" (some 0) with
  accessFlags := 1057
  interfaces := #[2, 3, 4]
  cf := some (fileOf pool5 2 #[.nestMembers #[106]] #[] 1057 12 #[111, 113, 115] #[{ accessFlags := 18, nameIndex := 5, descriptorIndex := 6, attributes := #[] }, { accessFlags := 18, nameIndex := 9, descriptorIndex := 10, attributes := #[] }, { accessFlags := 2, nameIndex := 19, descriptorIndex := 10, attributes := #[] }])
  fields := #[{ name := "name", type := (.object "java/lang/String"), accessFlags := 18, slot := 0, constantValue := 0 }, { name := "ordinal", type := .int, accessFlags := 18, slot := 1, constantValue := 0 }, { name := "hash", type := .int, accessFlags := 2, slot := 2, constantValue := 0 }]
  methods := #[]
  instanceTypes := #[(.object "java/lang/String"), .int, .int]
  staticTypes := #[]
  resolved := Array.replicate 204 none
  statics := none }

def pool6 : Array CpInfo := pool [(2, .class_ 4), (1, u "com/example/glacial_workflow/glacialworkflow/core/Labelled"), (14, .class_ 20), (0, u "java/lang/Object")] 5

/-- com/example/glacial_workflow/glacialworkflow/core/Labelled -/
def k6 : Class := { plain "com/example/glacial_workflow/glacialworkflow/core/Labelled" (some 0) with
  accessFlags := 1537
  interfaces := #[]
  cf := some (fileOf pool6 2 #[] #[] 1537 19 #[] #[])
  fields := #[]
  methods := #[]
  instanceTypes := #[]
  staticTypes := #[]
  resolved := Array.replicate 26 none
  statics := none }

def pool7 : Array CpInfo := pool [(1, .class_ 2), (0, u "com/example/glacial_workflow/glacialworkflow/core/FailureClass"), (0, .fieldref 1 4), (0, .nameAndType 5 6), (0, u "INFRASTRUCTURE"), (0, u "Lcom/example/glacial_workflow/glacialworkflow/core/FailureClass;"), (0, .fieldref 1 8), (0, .nameAndType 9 6), (0, u "TRANSIENT"), (0, .fieldref 1 11), (0, .nameAndType 12 6), (0, u "QUALITY"), (2, u "PERMANENT"), (0, .fieldref 1 17), (0, .nameAndType 18 6), (0, u "REJECTED"), (0, .fieldref 1 20), (0, .nameAndType 21 6), (0, u "DEADLINE"), (0, .fieldref 1 23), (0, .nameAndType 24 6), (0, u "STALLED"), (2, u "$VALUES"), (0, u "[Lcom/example/glacial_workflow/glacialworkflow/core/FailureClass;"), (6, .class_ 37), (1, u "java/lang/Enum"), (18, .class_ 57), (0, u "com/example/glacial_workflow/glacialworkflow/core/Labelled"), (7, u "isRetried"), (0, u "()Z"), (1, u "isRetriedWhenCured")] 5

def k7c0 : Code := { maxStack := 2, maxLocals := 1, code := prog_8_method_4_code, exceptionTable := #[], attributes := #[] }
def k7m0 : Method := { name := "isRetried", desc := "()Z", sig := { parameters := [], returnType := some .boolean }, accessFlags := 1, code := some k7c0 }
def k7c1 : Code := { maxStack := 2, maxLocals := 1, code := prog_8_method_5_code, exceptionTable := #[], attributes := #[] }
def k7m1 : Method := { name := "isRetriedWhenCured", desc := "()Z", sig := { parameters := [], returnType := some .boolean }, accessFlags := 1, code := some k7c1 }
/-- com/example/glacial_workflow/glacialworkflow/core/FailureClass -/
def k7 : Class := { plain "com/example/glacial_workflow/glacialworkflow/core/FailureClass" (some 5) with
  accessFlags := 16433
  interfaces := #[6]
  cf := some (fileOf pool7 1 #[] #[{ accessFlags := 1, nameIndex := 65, descriptorIndex := 66, attributes := #[] }, { accessFlags := 1, nameIndex := 68, descriptorIndex := 66, attributes := #[] }] 16433 35 #[56] #[{ accessFlags := 16409, nameIndex := 5, descriptorIndex := 6, attributes := #[] }, { accessFlags := 16409, nameIndex := 9, descriptorIndex := 6, attributes := #[] }, { accessFlags := 16409, nameIndex := 12, descriptorIndex := 6, attributes := #[] }, { accessFlags := 16409, nameIndex := 15, descriptorIndex := 6, attributes := #[] }, { accessFlags := 16409, nameIndex := 18, descriptorIndex := 6, attributes := #[] }, { accessFlags := 16409, nameIndex := 21, descriptorIndex := 6, attributes := #[] }, { accessFlags := 16409, nameIndex := 24, descriptorIndex := 6, attributes := #[] }, { accessFlags := 4122, nameIndex := 27, descriptorIndex := 28, attributes := #[] }])
  fields := #[{ name := "INFRASTRUCTURE", type := (.object "com/example/glacial_workflow/glacialworkflow/core/FailureClass"), accessFlags := 16409, slot := 0, constantValue := 0 }, { name := "TRANSIENT", type := (.object "com/example/glacial_workflow/glacialworkflow/core/FailureClass"), accessFlags := 16409, slot := 1, constantValue := 0 }, { name := "QUALITY", type := (.object "com/example/glacial_workflow/glacialworkflow/core/FailureClass"), accessFlags := 16409, slot := 2, constantValue := 0 }, { name := "PERMANENT", type := (.object "com/example/glacial_workflow/glacialworkflow/core/FailureClass"), accessFlags := 16409, slot := 3, constantValue := 0 }, { name := "REJECTED", type := (.object "com/example/glacial_workflow/glacialworkflow/core/FailureClass"), accessFlags := 16409, slot := 4, constantValue := 0 }, { name := "DEADLINE", type := (.object "com/example/glacial_workflow/glacialworkflow/core/FailureClass"), accessFlags := 16409, slot := 5, constantValue := 0 }, { name := "STALLED", type := (.object "com/example/glacial_workflow/glacialworkflow/core/FailureClass"), accessFlags := 16409, slot := 6, constantValue := 0 }, { name := "$VALUES", type := (.array (.object "com/example/glacial_workflow/glacialworkflow/core/FailureClass")), accessFlags := 4122, slot := 7, constantValue := 0 }]
  methods := #[k7m0, k7m1]
  instanceTypes := #[(.object "java/lang/String"), .int, .int]
  staticTypes := #[(.object "com/example/glacial_workflow/glacialworkflow/core/FailureClass"), (.object "com/example/glacial_workflow/glacialworkflow/core/FailureClass"), (.object "com/example/glacial_workflow/glacialworkflow/core/FailureClass"), (.object "com/example/glacial_workflow/glacialworkflow/core/FailureClass"), (.object "com/example/glacial_workflow/glacialworkflow/core/FailureClass"), (.object "com/example/glacial_workflow/glacialworkflow/core/FailureClass"), (.object "com/example/glacial_workflow/glacialworkflow/core/FailureClass"), (.array (.object "com/example/glacial_workflow/glacialworkflow/core/FailureClass"))]
  resolved := Array.replicate 74 none
  statics := some 0 }

def pool8 : Array CpInfo := pool [(1, u "java/lang/Cloneable"), (0, .class_ 1), (0, u "java/lang/Object"), (0, .class_ 3)] 3

/-- java/lang/Cloneable -/
def k8 : Class := { plain "java/lang/Cloneable" (some 0) with
  accessFlags := 1537
  interfaces := #[]
  cf := some (fileOf pool8 2 #[] #[] 1537 4 #[] #[])
  fields := #[]
  methods := #[]
  instanceTypes := #[]
  staticTypes := #[]
  resolved := Array.replicate 8 none
  statics := none }

/-- the primitive boolean -/
def k9 : Class := { plain "boolean" none with kind := .primitive 'Z', accessFlags := 0x411 }
/-- [Z -/
def k10 : Class := { plain "[Z" (some 0) with kind := .array 9 .boolean, interfaces := #[8, 4], accessFlags := 1041 }

/-- the primitive byte -/
def k11 : Class := { plain "byte" none with kind := .primitive 'B', accessFlags := 0x411 }
/-- [B -/
def k12 : Class := { plain "[B" (some 0) with kind := .array 11 .byte, interfaces := #[8, 4], accessFlags := 1041 }

/-- the primitive int -/
def k13 : Class := { plain "int" none with kind := .primitive 'I', accessFlags := 0x411 }
/-- [I -/
def k14 : Class := { plain "[I" (some 0) with kind := .array 13 .int, interfaces := #[8, 4], accessFlags := 1041 }

/-- [Lcom/example/glacial_workflow/glacialworkflow/core/FailureClass; -/
def k15 : Class := { plain "[Lcom/example/glacial_workflow/glacialworkflow/core/FailureClass;" (some 0) with kind := .array 7 (.object "com/example/glacial_workflow/glacialworkflow/core/FailureClass"), interfaces := #[8, 4], accessFlags := 1041 }

def heap : Heap := #[{ cls := 7, slots := #[.ref 1, .ref 2, .ref 3, .ref 4, .ref 5, .ref 6, .ref 7, .null], vm := .statics 7 },
  { cls := 7, slots := #[.null, .int 0, .int 0], vm := .none },
  { cls := 7, slots := #[.null, .int 1, .int 0], vm := .none },
  { cls := 7, slots := #[.null, .int 2, .int 0], vm := .none },
  { cls := 7, slots := #[.null, .int 3, .int 0], vm := .none },
  { cls := 7, slots := #[.null, .int 4, .int 0], vm := .none },
  { cls := 7, slots := #[.null, .int 5, .int 0], vm := .none },
  { cls := 7, slots := #[.null, .int 6, .int 0], vm := .none }]
def classes : Array Class := #[k0, k1, k2, k3, k4, k5, k6, k7, k8, k9, k10, k11, k12, k13, k14, k15]
def interned : List (Array UInt16 × Addr) := []
def slotsUsed : Nat := 29
def theMethod : MethodId := ⟨1, 1⟩
def args0 : Array Value := #[.int 5]
def aboutOver (below : List Frame) : State where
  vm := { classes := classes, interned := interned.toArray }
  heap := heap
  slotsUsed := slotsUsed
  threads := #[{ frames := .invoking theMethod args0 :: below }]
def below0 : List Frame := [.native { method := ⟨0, 0⟩, args := #[] }]
def about1 : State := aboutOver below0
def p0 : Program := .bare "" "" ""
def e0 : Env := launch0.env 0 0 0
theorem w_frames : about1.frames = Frame.invoking theMethod args0 :: below0 := rfl
set_option maxRecDepth 65536 in
theorem w_args : argsFit about1.vm theMethod args0 = true := by decide +kernel
set_option maxRecDepth 65536 in
theorem w_heap : heapFits about1 = true := by decide +kernel
set_option maxRecDepth 65536 in
theorem w_runnable : about1.curStatus? = some .runnable := by decide +kernel
set_option maxRecDepth 65536 in
theorem w_alone : about1.alone = true := by decide +kernel
set_option maxRecDepth 65536 in
theorem w_named : about1.methodNamed? x = some theMethod := by decide +kernel
set_option maxRecDepth 65536 in
theorem w_hears : about1.hears theMethod below0 = true := by decide +kernel
set_option maxRecDepth 65536 in
theorem w_ripe : about1.ripe theMethod args0 below0 = true := by decide +kernel
theorem w_running : about1.status = .running := rfl
set_option maxRecDepth 65536 in
theorem w_room : about1.hasRoom e0.platform room_1 = true :=
  launch0.hasRoom_least _ room_1 (by decide +kernel) (by decide +kernel) (by decide +kernel) (by decide +kernel) (by decide +kernel) (by decide +kernel)
theorem allAtoms_all (ts : List Jvm.Cond) (a : Array Jvm.Value) (st : Jvm.State) : (allAtoms ts).before a st = ts.all (fun c => c.before a st) := by
  induction ts with
  | nil => rfl
  | cons c t ih =>
    show (Jvm.Cond.and c (allAtoms t)).before a st = _
    rw [Jvm.Cond.before_and, ih, List.all_cons]
def words1 : List Jvm.Cond := Jvm.Cond.code x code maxLocals ret :: tables_1
/-- a 'code' word, met by the world's own term for the bytes: nothing is compared byte by byte -/
theorem code_word {y : MethodName} {bytes : ByteArray} {mx : Nat} {rt : Option FieldType} {a : Array Value} {s : State} {m : MethodId} {meth : Method} {c : Code} (h1 : s.methodNamed? y = some m) (h2 : s.vm.method? m = some meth) (h3 : meth.code = some c) (h4 : c.code = bytes)
    (h5 : (c.maxLocals == mx && c.exceptionTable.isEmpty && decide (c.maxStack ≤ mostOperands) && decide (meth.sig.returnType = rt) && !meth.locks && decide (parseMethodDescriptor y.desc = some meth.sig)) = true) : (Jvm.Cond.code y bytes mx rt).before a s = true := by
  simp only [Bool.and_eq_true, beq_iff_eq, Bool.not_eq_true', decide_eq_true_eq] at h5
  obtain ⟨⟨⟨⟨⟨g1, g2⟩, g3⟩, g4⟩, g5⟩, g6⟩ := h5
  simp [Cond.before, Cond.holds, Cond.value, h1, h2, h3, h4, g1, g2, g3, g4, g5, g6]
def isCode : Jvm.Cond → Bool
  | .code _ _ _ _ => true
  | _ => false
theorem all_split {L : List Jvm.Cond} {P : Jvm.Cond → Bool} (h1 : L.all (fun c => isCode c || P c) = true) (h2 : ∀ c ∈ L.filter isCode, P c = true) : L.all P = true := by
  refine List.all_eq_true.mpr fun c hc => ?_
  have h := List.all_eq_true.mp h1 c hc
  rcases Bool.eq_false_or_eq_true (isCode c) with hi | hi
  · exact h2 c (List.mem_filter.mpr ⟨hc, hi⟩)
  · simpa [hi] using h
set_option maxRecDepth 65536 in
theorem w_c0 : (Jvm.Cond.code x code maxLocals ret).before args0 about1 = true := code_word (m := ⟨1, 1⟩) (meth := k1m1) (c := k1c1) (by decide +kernel) rfl rfl rfl (by decide +kernel)
set_option maxRecDepth 65536 in
theorem w_c1 : (Jvm.Cond.code ({ cls := "com/example/glacial_workflow/glacialworkflow/core/FailureClass", name := "isRetriedWhenCured", desc := "()Z" } : Jvm.MethodName) prog_8_method_5_code (1 : Nat) (Option.some Jvm.ClassFile.FieldType.boolean)).before args0 about1 = true := code_word (m := ⟨7, 1⟩) (meth := k7m1) (c := k7c1) (by decide +kernel) rfl rfl rfl (by decide +kernel)
set_option maxRecDepth 65536 in
theorem w_c2 : (Jvm.Cond.code ({ cls := "com/example/glacial_workflow/glacialworkflow/core/FailureClass", name := "isRetried", desc := "()Z" } : Jvm.MethodName) prog_8_method_4_code (1 : Nat) (Option.some Jvm.ClassFile.FieldType.boolean)).before args0 about1 = true := code_word (m := ⟨7, 0⟩) (meth := k7m0) (c := k7c0) (by decide +kernel) rfl rfl rfl (by decide +kernel)
def codes1 : List Jvm.Cond := [Jvm.Cond.code x code maxLocals ret, Jvm.Cond.code ({ cls := "com/example/glacial_workflow/glacialworkflow/core/FailureClass", name := "isRetriedWhenCured", desc := "()Z" } : Jvm.MethodName) prog_8_method_5_code (1 : Nat) (Option.some Jvm.ClassFile.FieldType.boolean), Jvm.Cond.code ({ cls := "com/example/glacial_workflow/glacialworkflow/core/FailureClass", name := "isRetried", desc := "()Z" } : Jvm.MethodName) prog_8_method_4_code (1 : Nat) (Option.some Jvm.ClassFile.FieldType.boolean)]
set_option maxRecDepth 65536 in
theorem codes_eq : words1.filter isCode = codes1 := rfl
theorem w_codes : ∀ c ∈ words1.filter isCode, c.before args0 about1 = true := by
  rw [codes_eq]
  intro c hc
  simp only [codes1, List.mem_cons, List.not_mem_nil, or_false] at hc
  rcases hc with rfl | rfl | rfl
  · exact w_c0
  · exact w_c1
  · exact w_c2
set_option maxRecDepth 65536 in
theorem w_t1 : (words1.take 24).all (fun c => isCode c || c.before args0 about1) = true := by decide +kernel
set_option maxRecDepth 65536 in
theorem w_t2 : (words1.drop 24).all (fun c => isCode c || c.before args0 about1) = true := by decide +kernel
theorem w_tables : (allAtoms (Jvm.Cond.code x code maxLocals ret :: tables_1)).before args0 about1 = true := by
  rw [allAtoms_all]
  show words1.all (fun c => c.before args0 about1) = true
  refine all_split ?_ w_codes
  rw [← List.take_append_drop 24 words1, List.all_append, w_t1, w_t2]
  rfl
set_option maxRecDepth 65536 in
theorem w_case : (Jvm.Cond.and given_1 narrow_1).before args0 about1 = true := by decide +kernel
theorem w_applies : (headSpec (Jvm.Cond.code x code maxLocals ret :: tables_1) room_1).applies x e0.platform about1 = true :=
  (Spec.applies_iff w_frames).mpr ⟨w_running, w_runnable, w_alone, w_named, w_hears, w_ripe, w_room, w_tables⟩
theorem atStart : AtStart classFile x code maxLocals ret World_1 tables_1 room_1 Calls_1 rest_1 Pre_1 launch0 p0 e0 about1 theMethod args0 below0 :=
  ⟨lists_1, trivial, launch0.admits_env _ _ _, launch0.least_env, fairChoices_fair.cas, fairChoices_fair.clock, w_frames, w_args, w_heap, w_applies, trivial, trivial, w_case⟩
end start1
theorem witness_1 : WitnessClaimed_1 := ⟨start1.p0, start1.e0, start1.about1, start1.theMethod, start1.args0, start1.below0, start1.atStart⟩
end Jvm.Pilot.@@N@@
