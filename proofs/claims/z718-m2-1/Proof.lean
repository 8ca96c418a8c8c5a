import JvmDerived
import JvmDerived.Pilot.@@N@@Statement
import JvmDerived.Pilot.@@N@@Code
set_option linter.unusedVariables false
set_option linter.unusedSimpArgs false
namespace Jvm.Pilot.@@N@@
open Jvm Jvm.ClassFile Sem Op Lib Jvm.Free Jvm.Stand Jvm.LawKit Jvm.RoadKit Bundle Jvm.Pilot.@@N@@.Jvm.D
theorem own_le {Z : State} {n0 : Nat} {h : Heap} (O : Old Z n0 h) : n0 ≤ h.size := O.1 ▸ O.2.1
theorem pn_com_example_kindred_consent_kindredconsent_engine_EReason : plainName "com/example/kindred_consent/kindredconsent/engine/EReason" = true := by first | (simp [plainName, overriddenIn]; done) | decide +kernel
theorem pn_com_example_kindred_consent_kindredconsent_engine_EReasonForRulePinLaw : plainName "com/example/kindred_consent/kindredconsent/engine/EReasonForRulePinLaw" = true := by first | (simp [plainName, overriddenIn]; done) | decide +kernel
theorem pd___Lcom_example_kindred_consent_kindredconsent_model_EResolutionRule_ : parseMethodDescriptor "()Lcom/example/kindred_consent/kindredconsent/model/EResolutionRule;" = some ⟨[], some (.object "com/example/kindred_consent/kindredconsent/model/EResolutionRule")⟩ := by decide +kernel
theorem pd____Lcom_example_kindred_consent_kindredconsent_engine_EReason_ : parseMethodDescriptor "()[Lcom/example/kindred_consent/kindredconsent/engine/EReason;" = some ⟨[], some (.array (.object "com/example/kindred_consent/kindredconsent/engine/EReason"))⟩ := by decide +kernel
theorem pd__Lcom_example_kindred_consent_kindredconsent_model_EResolutionRule__Lcom_example_kindred_consent_kindredconsent_engine_EReason_ : parseMethodDescriptor "(Lcom/example/kindred_consent/kindredconsent/model/EResolutionRule;)Lcom/example/kindred_consent/kindredconsent/engine/EReason;" = some ⟨[(.object "com/example/kindred_consent/kindredconsent/model/EResolutionRule")], some (.object "com/example/kindred_consent/kindredconsent/engine/EReason")⟩ := by decide +kernel
theorem d1_0 : decode prog_7_method_8_code 0 = .ok (.invokestatic 75, 3) := by decide +kernel
theorem d1_3 : decode prog_7_method_8_code 3 = .ok (.astore_n 1, 1) := by decide +kernel
theorem d1_4 : decode prog_7_method_8_code 4 = .ok (.aload_n 1, 1) := by decide +kernel
theorem d1_5 : decode prog_7_method_8_code 5 = .ok (.arraylength, 1) := by decide +kernel
theorem d1_6 : decode prog_7_method_8_code 6 = .ok (.istore_n 2, 1) := by decide +kernel
theorem d1_7 : decode prog_7_method_8_code 7 = .ok (.iconst 0, 1) := by decide +kernel
theorem d1_8 : decode prog_7_method_8_code 8 = .ok (.istore_n 3, 1) := by decide +kernel
theorem d1_9 : decode prog_7_method_8_code 9 = .ok (.iload_n 3, 1) := by decide +kernel
theorem d1_10 : decode prog_7_method_8_code 10 = .ok (.iload_n 2, 1) := by decide +kernel
theorem d1_11 : decode prog_7_method_8_code 11 = .ok (.if_icmp .ge 26, 3) := by decide +kernel
theorem d1_14 : decode prog_7_method_8_code 14 = .ok (.aload_n 1, 1) := by decide +kernel
theorem d1_15 : decode prog_7_method_8_code 15 = .ok (.iload_n 3, 1) := by decide +kernel
theorem d1_16 : decode prog_7_method_8_code 16 = .ok (.aaload, 1) := by decide +kernel
theorem d1_17 : decode prog_7_method_8_code 17 = .ok (.astore 4, 2) := by decide +kernel
theorem d1_19 : decode prog_7_method_8_code 19 = .ok (.aload 4, 2) := by decide +kernel
theorem d1_21 : decode prog_7_method_8_code 21 = .ok (.getfield 63, 3) := by decide +kernel
theorem d1_24 : decode prog_7_method_8_code 24 = .ok (.aload_n 0, 1) := by decide +kernel
theorem d1_25 : decode prog_7_method_8_code 25 = .ok (.if_acmp .ne 6, 3) := by decide +kernel
theorem d1_28 : decode prog_7_method_8_code 28 = .ok (.aload 4, 2) := by decide +kernel
theorem d1_30 : decode prog_7_method_8_code 30 = .ok (.areturn, 1) := by decide +kernel
theorem d1_31 : decode prog_7_method_8_code 31 = .ok (.iinc 3 1, 3) := by decide +kernel
theorem d1_34 : decode prog_7_method_8_code 34 = .ok (.goto (-25), 3) := by decide +kernel
theorem d2_0 : decode prog_7_method_1_code 0 = .ok (.getstatic 40, 3) := by decide +kernel
theorem d2_3 : decode prog_7_method_1_code 3 = .ok (.invokevirtual 44, 3) := by decide +kernel
theorem d2_6 : decode prog_7_method_1_code 6 = .ok (.checkcast 45, 3) := by decide +kernel
theorem d2_9 : decode prog_7_method_1_code 9 = .ok (.areturn, 1) := by decide +kernel
theorem d3_0 : decode prog_7_method_6_code 0 = .ok (.aload_n 0, 1) := by decide +kernel
theorem d3_1 : decode prog_7_method_6_code 1 = .ok (.getfield 63, 3) := by decide +kernel
theorem d3_4 : decode prog_7_method_6_code 4 = .ok (.areturn, 1) := by decide +kernel
section OwnWords
variable {args : Array Value} {s : State} {t u : Term} {a b : Addr} {C n d K : String}
theorem own_exa (h : (Jvm.Cond.exactly t K).value args s none s [] = some true) (ev : t.eval args s none [] s = some (.ref a)) : Exa s s.heap a K := Exa.start ev h
theorem own_fi {k : Int32} (ev : t.eval args s none [] s = some (.ref a)) (h : (Jvm.Cond.eq (.field t C n d) (.int k)).value args s none s [] = some true) : Fld s s.heap a C n d (.int k) := by
  refine Fld.start ?_
  have e := fld_at (C := C) (n := n) (dd := d) ev
  simp only [Cond.value, e] at h
  cases hv : s.fieldOf? a C n d with
  | none => simp [hv] at h
  | some z => cases z <;> simp [hv, Term.eval] at h ⊢; exact h
theorem own_fn (ev : t.eval args s none [] s = some (.ref a)) (h : (Jvm.Cond.eq (.field t C n d) .null).value args s none s [] = some true) : Fld s s.heap a C n d .null :=
  Fld.start ((fld_at ev).symm.trans (null_v h))
theorem own_fr (ev : t.eval args s none [] s = some (.ref a)) (ev' : u.eval args s none [] s = some (.ref b)) (h : (Jvm.Cond.eq (.field t C n d) u).value args s none s [] = some true) : Fld s s.heap a C n d (.ref b) := by
  refine Fld.start ?_
  have e := fld_at (C := C) (n := n) (dd := d) ev
  simp only [Cond.value, e, ev'] at h
  cases hv : s.fieldOf? a C n d with
  | none => simp [hv] at h
  | some z => cases z <;> simp [hv] at h ⊢; exact h
end OwnWords
theorem own_len {args : Array Value} {s : State} {t : Term} {a : Addr} {cl : Cell} {ty : FieldType} {n : Int32} (ev : t.eval args s none [] s = some (.ref a)) (A : Arr s s.heap a cl ty) (h : (Jvm.Cond.eq (.length t) (.int n)).value args s none s [] = some true) : cl.slots.size < 2 ^ 31 ∧ cl.slots.size.toInt32 = n := by
  have e := eqv_i (Term.int_eval n) h
  have hA := A.fin (Vm.Alike.refl _)
  simp only [Term.eval, ev, hA, Option.bind_eq_bind, Option.bind_some, Option.pure_def] at e
  split at e
  · rename_i hlt; exact ⟨hlt, by simpa using e⟩
  · cases e
theorem own_el {args : Array Value} {s : State} {t u : Term} {a b : Addr} {cl : Cell} {ty : FieldType} {j : Int32} (ev : t.eval args s none [] s = some (.ref a)) (ev' : u.eval args s none [] s = some (.ref b)) (A : Arr s s.heap a cl ty) (h : (Jvm.Cond.eq (.elem t (.int j)) u).value args s none s [] = some true) : cl.slots[j.toNatClampNeg]? = some (.ref b) := by
  have e : (Term.elem t (.int j)).eval args s none [] s = some (.ref b) := by
    simp only [Cond.value, ev'] at h
    cases hv : (Term.elem t (.int j)).eval args s none [] s with
    | none => simp [hv] at h
    | some z => cases z <;> simp [hv] at h ⊢; exact h
  exact (elem_in e ev (Term.int_eval j) A.1).2
theorem own_k (x : Int32) : (x &&& (2147483647 : Int32)) % (6 : Int32) = (0 : Int32) ∨ (x &&& (2147483647 : Int32)) % (6 : Int32) = (1 : Int32) ∨ (x &&& (2147483647 : Int32)) % (6 : Int32) = (2 : Int32) ∨ (x &&& (2147483647 : Int32)) % (6 : Int32) = (3 : Int32) ∨ (x &&& (2147483647 : Int32)) % (6 : Int32) = (4 : Int32) ∨ (x &&& (2147483647 : Int32)) % (6 : Int32) = (5 : Int32) := by
  have e := c_mask x 2147483647 31 (by decide) (by decide)
  have r := (c_irem (x &&& 2147483647) 6 6 rfl).1 (by omega)
  have h : ((x &&& (2147483647 : Int32)) % (6 : Int32)).toInt = 0 ∨ ((x &&& (2147483647 : Int32)) % (6 : Int32)).toInt = 1 ∨ ((x &&& (2147483647 : Int32)) % (6 : Int32)).toInt = 2 ∨ ((x &&& (2147483647 : Int32)) % (6 : Int32)).toInt = 3 ∨ ((x &&& (2147483647 : Int32)) % (6 : Int32)).toInt = 4 ∨ ((x &&& (2147483647 : Int32)) % (6 : Int32)).toInt = 5 := by omega
  rcases h with h | h | h | h | h | h
  · exact (Or.inl (Int32.toInt_inj.mp (h.trans rfl)))
  · exact (Or.inr (Or.inl (Int32.toInt_inj.mp (h.trans rfl))))
  · exact (Or.inr (Or.inr (Or.inl (Int32.toInt_inj.mp (h.trans rfl)))))
  · exact (Or.inr (Or.inr (Or.inr (Or.inl (Int32.toInt_inj.mp (h.trans rfl))))))
  · exact (Or.inr (Or.inr (Or.inr (Or.inr (Or.inl (Int32.toInt_inj.mp (h.trans rfl)))))))
  · exact (Or.inr (Or.inr (Or.inr (Or.inr (Or.inr (Int32.toInt_inj.mp (h.trans rfl)))))))
def OwnEnv (Z : State) (w_WEIGHTED w_WEIGHTED_EReason w_SVALUES w_CONTROLLER w_OWNER_OVERRIDES w_FULL_CONSENSUS_PERMIT w_MAJORITY_PERMIT w_STRONG_MAJORITY_PERMIT w_SUPER_MAJORITY_PERMIT w_SOURCE w_RESHARE_REFUSED w_UNNAMED w_NOT_VIEWER w_NO_THRESHOLD w_MAJORITY_PERMIT_EResolutionRule w_OWNER_OVERRIDES_EResolutionRule w_FULL_CONSENSUS_PERMIT_EResolutionRule w_SUPER_MAJORITY_PERMIT_EResolutionRule w_STRONG_MAJORITY_PERMIT_EResolutionRule : Addr) (kV : ClassId) : Prop := Sta Z Z.heap "com/example/kindred_consent/kindredconsent/model/EResolutionRule" "WEIGHTED" "Lcom/example/kindred_consent/kindredconsent/model/EResolutionRule;" (.ref w_WEIGHTED) ∧ Exa Z Z.heap w_WEIGHTED "com/example/kindred_consent/kindredconsent/model/EResolutionRule" ∧ Sta Z Z.heap "com/example/kindred_consent/kindredconsent/engine/EReason" "WEIGHTED" "Lcom/example/kindred_consent/kindredconsent/engine/EReason;" (.ref w_WEIGHTED_EReason) ∧ Exa Z Z.heap w_WEIGHTED_EReason "com/example/kindred_consent/kindredconsent/engine/EReason" ∧ Sta Z Z.heap "com/example/kindred_consent/kindredconsent/engine/EReason" "$VALUES" "[Lcom/example/kindred_consent/kindredconsent/engine/EReason;" (.ref w_SVALUES) ∧ Exa Z Z.heap w_SVALUES "[Lcom/example/kindred_consent/kindredconsent/engine/EReason;" ∧ Sta Z Z.heap "com/example/kindred_consent/kindredconsent/engine/EReason" "CONTROLLER" "Lcom/example/kindred_consent/kindredconsent/engine/EReason;" (.ref w_CONTROLLER) ∧ Exa Z Z.heap w_CONTROLLER "com/example/kindred_consent/kindredconsent/engine/EReason" ∧ Sta Z Z.heap "com/example/kindred_consent/kindredconsent/engine/EReason" "OWNER_OVERRIDES" "Lcom/example/kindred_consent/kindredconsent/engine/EReason;" (.ref w_OWNER_OVERRIDES) ∧ Exa Z Z.heap w_OWNER_OVERRIDES "com/example/kindred_consent/kindredconsent/engine/EReason" ∧ Sta Z Z.heap "com/example/kindred_consent/kindredconsent/engine/EReason" "FULL_CONSENSUS_PERMIT" "Lcom/example/kindred_consent/kindredconsent/engine/EReason;" (.ref w_FULL_CONSENSUS_PERMIT) ∧ Exa Z Z.heap w_FULL_CONSENSUS_PERMIT "com/example/kindred_consent/kindredconsent/engine/EReason" ∧ Sta Z Z.heap "com/example/kindred_consent/kindredconsent/engine/EReason" "MAJORITY_PERMIT" "Lcom/example/kindred_consent/kindredconsent/engine/EReason;" (.ref w_MAJORITY_PERMIT) ∧ Exa Z Z.heap w_MAJORITY_PERMIT "com/example/kindred_consent/kindredconsent/engine/EReason" ∧ Sta Z Z.heap "com/example/kindred_consent/kindredconsent/engine/EReason" "STRONG_MAJORITY_PERMIT" "Lcom/example/kindred_consent/kindredconsent/engine/EReason;" (.ref w_STRONG_MAJORITY_PERMIT) ∧ Exa Z Z.heap w_STRONG_MAJORITY_PERMIT "com/example/kindred_consent/kindredconsent/engine/EReason" ∧ Sta Z Z.heap "com/example/kindred_consent/kindredconsent/engine/EReason" "SUPER_MAJORITY_PERMIT" "Lcom/example/kindred_consent/kindredconsent/engine/EReason;" (.ref w_SUPER_MAJORITY_PERMIT) ∧ Exa Z Z.heap w_SUPER_MAJORITY_PERMIT "com/example/kindred_consent/kindredconsent/engine/EReason" ∧ Sta Z Z.heap "com/example/kindred_consent/kindredconsent/engine/EReason" "SOURCE" "Lcom/example/kindred_consent/kindredconsent/engine/EReason;" (.ref w_SOURCE) ∧ Exa Z Z.heap w_SOURCE "com/example/kindred_consent/kindredconsent/engine/EReason" ∧ Sta Z Z.heap "com/example/kindred_consent/kindredconsent/engine/EReason" "RESHARE_REFUSED" "Lcom/example/kindred_consent/kindredconsent/engine/EReason;" (.ref w_RESHARE_REFUSED) ∧ Exa Z Z.heap w_RESHARE_REFUSED "com/example/kindred_consent/kindredconsent/engine/EReason" ∧ Sta Z Z.heap "com/example/kindred_consent/kindredconsent/engine/EReason" "UNNAMED" "Lcom/example/kindred_consent/kindredconsent/engine/EReason;" (.ref w_UNNAMED) ∧ Exa Z Z.heap w_UNNAMED "com/example/kindred_consent/kindredconsent/engine/EReason" ∧ Sta Z Z.heap "com/example/kindred_consent/kindredconsent/engine/EReason" "NOT_VIEWER" "Lcom/example/kindred_consent/kindredconsent/engine/EReason;" (.ref w_NOT_VIEWER) ∧ Exa Z Z.heap w_NOT_VIEWER "com/example/kindred_consent/kindredconsent/engine/EReason" ∧ Sta Z Z.heap "com/example/kindred_consent/kindredconsent/engine/EReason" "NO_THRESHOLD" "Lcom/example/kindred_consent/kindredconsent/engine/EReason;" (.ref w_NO_THRESHOLD) ∧ Exa Z Z.heap w_NO_THRESHOLD "com/example/kindred_consent/kindredconsent/engine/EReason" ∧ Sta Z Z.heap "com/example/kindred_consent/kindredconsent/model/EResolutionRule" "MAJORITY_PERMIT" "Lcom/example/kindred_consent/kindredconsent/model/EResolutionRule;" (.ref w_MAJORITY_PERMIT_EResolutionRule) ∧ Exa Z Z.heap w_MAJORITY_PERMIT_EResolutionRule "com/example/kindred_consent/kindredconsent/model/EResolutionRule" ∧ Sta Z Z.heap "com/example/kindred_consent/kindredconsent/model/EResolutionRule" "OWNER_OVERRIDES" "Lcom/example/kindred_consent/kindredconsent/model/EResolutionRule;" (.ref w_OWNER_OVERRIDES_EResolutionRule) ∧ Exa Z Z.heap w_OWNER_OVERRIDES_EResolutionRule "com/example/kindred_consent/kindredconsent/model/EResolutionRule" ∧ Sta Z Z.heap "com/example/kindred_consent/kindredconsent/model/EResolutionRule" "FULL_CONSENSUS_PERMIT" "Lcom/example/kindred_consent/kindredconsent/model/EResolutionRule;" (.ref w_FULL_CONSENSUS_PERMIT_EResolutionRule) ∧ Exa Z Z.heap w_FULL_CONSENSUS_PERMIT_EResolutionRule "com/example/kindred_consent/kindredconsent/model/EResolutionRule" ∧ Sta Z Z.heap "com/example/kindred_consent/kindredconsent/model/EResolutionRule" "SUPER_MAJORITY_PERMIT" "Lcom/example/kindred_consent/kindredconsent/model/EResolutionRule;" (.ref w_SUPER_MAJORITY_PERMIT_EResolutionRule) ∧ Exa Z Z.heap w_SUPER_MAJORITY_PERMIT_EResolutionRule "com/example/kindred_consent/kindredconsent/model/EResolutionRule" ∧ Sta Z Z.heap "com/example/kindred_consent/kindredconsent/model/EResolutionRule" "STRONG_MAJORITY_PERMIT" "Lcom/example/kindred_consent/kindredconsent/model/EResolutionRule;" (.ref w_STRONG_MAJORITY_PERMIT_EResolutionRule) ∧ Exa Z Z.heap w_STRONG_MAJORITY_PERMIT_EResolutionRule "com/example/kindred_consent/kindredconsent/model/EResolutionRule" ∧ Fld Z Z.heap w_CONTROLLER "com/example/kindred_consent/kindredconsent/engine/EReason" "m_eRule" "Lcom/example/kindred_consent/kindredconsent/model/EResolutionRule;" .null ∧ Fld Z Z.heap w_WEIGHTED_EReason "com/example/kindred_consent/kindredconsent/engine/EReason" "m_eRule" "Lcom/example/kindred_consent/kindredconsent/model/EResolutionRule;" (.ref w_WEIGHTED) ∧ Fld Z Z.heap w_WEIGHTED "java/lang/Enum" "ordinal" "I" (.int (0 : Int32)) ∧ Fld Z Z.heap w_MAJORITY_PERMIT_EResolutionRule "java/lang/Enum" "ordinal" "I" (.int (3 : Int32)) ∧ Fld Z Z.heap w_OWNER_OVERRIDES "com/example/kindred_consent/kindredconsent/engine/EReason" "m_eRule" "Lcom/example/kindred_consent/kindredconsent/model/EResolutionRule;" (.ref w_OWNER_OVERRIDES_EResolutionRule) ∧ Fld Z Z.heap w_OWNER_OVERRIDES_EResolutionRule "java/lang/Enum" "ordinal" "I" (.int (1 : Int32)) ∧ Fld Z Z.heap w_FULL_CONSENSUS_PERMIT "com/example/kindred_consent/kindredconsent/engine/EReason" "m_eRule" "Lcom/example/kindred_consent/kindredconsent/model/EResolutionRule;" (.ref w_FULL_CONSENSUS_PERMIT_EResolutionRule) ∧ Fld Z Z.heap w_FULL_CONSENSUS_PERMIT_EResolutionRule "java/lang/Enum" "ordinal" "I" (.int (2 : Int32)) ∧ Fld Z Z.heap w_MAJORITY_PERMIT "com/example/kindred_consent/kindredconsent/engine/EReason" "m_eRule" "Lcom/example/kindred_consent/kindredconsent/model/EResolutionRule;" (.ref w_MAJORITY_PERMIT_EResolutionRule) ∧ Fld Z Z.heap w_SUPER_MAJORITY_PERMIT_EResolutionRule "java/lang/Enum" "ordinal" "I" (.int (5 : Int32)) ∧ Fld Z Z.heap w_STRONG_MAJORITY_PERMIT "com/example/kindred_consent/kindredconsent/engine/EReason" "m_eRule" "Lcom/example/kindred_consent/kindredconsent/model/EResolutionRule;" (.ref w_STRONG_MAJORITY_PERMIT_EResolutionRule) ∧ Fld Z Z.heap w_STRONG_MAJORITY_PERMIT_EResolutionRule "java/lang/Enum" "ordinal" "I" (.int (4 : Int32)) ∧ Fld Z Z.heap w_SUPER_MAJORITY_PERMIT "com/example/kindred_consent/kindredconsent/engine/EReason" "m_eRule" "Lcom/example/kindred_consent/kindredconsent/model/EResolutionRule;" (.ref w_SUPER_MAJORITY_PERMIT_EResolutionRule) ∧ Fld Z Z.heap w_SOURCE "com/example/kindred_consent/kindredconsent/engine/EReason" "m_eRule" "Lcom/example/kindred_consent/kindredconsent/model/EResolutionRule;" .null ∧ Fld Z Z.heap w_RESHARE_REFUSED "com/example/kindred_consent/kindredconsent/engine/EReason" "m_eRule" "Lcom/example/kindred_consent/kindredconsent/model/EResolutionRule;" .null ∧ Fld Z Z.heap w_UNNAMED "com/example/kindred_consent/kindredconsent/engine/EReason" "m_eRule" "Lcom/example/kindred_consent/kindredconsent/model/EResolutionRule;" .null ∧ Fld Z Z.heap w_NOT_VIEWER "com/example/kindred_consent/kindredconsent/engine/EReason" "m_eRule" "Lcom/example/kindred_consent/kindredconsent/model/EResolutionRule;" .null ∧ Fld Z Z.heap w_NO_THRESHOLD "com/example/kindred_consent/kindredconsent/engine/EReason" "m_eRule" "Lcom/example/kindred_consent/kindredconsent/model/EResolutionRule;" .null ∧ Arv Z Z.heap w_SVALUES kV (.object "com/example/kindred_consent/kindredconsent/engine/EReason") (12 : Int32) [(.ref w_CONTROLLER), (.ref w_WEIGHTED_EReason), (.ref w_OWNER_OVERRIDES), (.ref w_FULL_CONSENSUS_PERMIT), (.ref w_MAJORITY_PERMIT), (.ref w_STRONG_MAJORITY_PERMIT), (.ref w_SUPER_MAJORITY_PERMIT), (.ref w_SOURCE), (.ref w_RESHARE_REFUSED), (.ref w_UNNAMED), (.ref w_NOT_VIEWER), (.ref w_NO_THRESHOLD)] .null
theorem ef_vals (m : MethodId)  : entryFrame m #[] 0 = mkF m 0 #[] [] := by first | (simp [entryFrame, mkF, argsToLocals, Value.category]; done) | rfl
def Q_vals (Z : State) (w_WEIGHTED w_WEIGHTED_EReason w_SVALUES w_CONTROLLER w_OWNER_OVERRIDES w_FULL_CONSENSUS_PERMIT w_MAJORITY_PERMIT w_STRONG_MAJORITY_PERMIT w_SUPER_MAJORITY_PERMIT w_SOURCE w_RESHARE_REFUSED w_UNNAMED w_NOT_VIEWER w_NO_THRESHOLD w_MAJORITY_PERMIT_EResolutionRule w_OWNER_OVERRIDES_EResolutionRule w_FULL_CONSENSUS_PERMIT_EResolutionRule w_SUPER_MAJORITY_PERMIT_EResolutionRule w_STRONG_MAJORITY_PERMIT_EResolutionRule : Addr) (kV : ClassId) (h0 : Heap) (n0 : Nat) (v : Option Value) (h : Heap) (L : List Loc) : Prop := ∃ b, v = some (.ref b) ∧ Fr n0 L ∧ Keep h0 h [] ∧ n0 ≤ b ∧ Arv Z h b kV (.object "com/example/kindred_consent/kindredconsent/engine/EReason") (12 : Int32) [(.ref w_CONTROLLER), (.ref w_WEIGHTED_EReason), (.ref w_OWNER_OVERRIDES), (.ref w_FULL_CONSENSUS_PERMIT), (.ref w_MAJORITY_PERMIT), (.ref w_STRONG_MAJORITY_PERMIT), (.ref w_SUPER_MAJORITY_PERMIT), (.ref w_SOURCE), (.ref w_RESHARE_REFUSED), (.ref w_UNNAMED), (.ref w_NOT_VIEWER), (.ref w_NO_THRESHOLD)] .null
set_option maxRecDepth 65536 in
set_option maxHeartbeats 40000000 in
theorem vals (l : Launch) (Z : State) (a0 : Array Value) (hw : ∀ d ∈ tables_1, d.before a0 Z = true) (ws : List Jvm.Cond) (w_WEIGHTED w_WEIGHTED_EReason w_SVALUES w_CONTROLLER w_OWNER_OVERRIDES w_FULL_CONSENSUS_PERMIT w_MAJORITY_PERMIT w_STRONG_MAJORITY_PERMIT w_SUPER_MAJORITY_PERMIT w_SOURCE w_RESHARE_REFUSED w_UNNAMED w_NOT_VIEWER w_NO_THRESHOLD w_MAJORITY_PERMIT_EResolutionRule w_OWNER_OVERRIDES_EResolutionRule w_FULL_CONSENSUS_PERMIT_EResolutionRule w_SUPER_MAJORITY_PERMIT_EResolutionRule w_STRONG_MAJORITY_PERMIT_EResolutionRule : Addr) (kV : ClassId) (h0 : Heap) (n0 : Nat) (O0 : Old Z n0 h0) (hE : OwnEnv Z w_WEIGHTED w_WEIGHTED_EReason w_SVALUES w_CONTROLLER w_OWNER_OVERRIDES w_FULL_CONSENSUS_PERMIT w_MAJORITY_PERMIT w_STRONG_MAJORITY_PERMIT w_SUPER_MAJORITY_PERMIT w_SOURCE w_RESHARE_REFUSED w_UNNAMED w_NOT_VIEWER w_NO_THRESHOLD w_MAJORITY_PERMIT_EResolutionRule w_OWNER_OVERRIDES_EResolutionRule w_FULL_CONSENSUS_PERMIT_EResolutionRule w_SUPER_MAJORITY_PERMIT_EResolutionRule w_STRONG_MAJORITY_PERMIT_EResolutionRule kV) :
    MetFree l (⟨"com/example/kindred_consent/kindredconsent/engine/EReason", "values", "()[Lcom/example/kindred_consent/kindredconsent/engine/EReason;"⟩ : MethodName) (head1 (Jvm.Cond.code (⟨"com/example/kindred_consent/kindredconsent/engine/EReason", "values", "()[Lcom/example/kindred_consent/kindredconsent/engine/EReason;"⟩ : MethodName) prog_7_method_1_code 0 (some (.array (.object "com/example/kindred_consent/kindredconsent/engine/EReason"))) :: ws) ({ frames := 1, cells := 1, slots := 12, locals := 14 } : Room)) (fun a U => a = #[] ∧ Z.Warmed39 U.vm ∧ U.heap = h0) (fun _ _ _ _ _ => True) (fun _ U o U' => ∃ v L, o = .returned v ∧ Q_vals Z w_WEIGHTED w_WEIGHTED_EReason w_SVALUES w_CONTROLLER w_OWNER_OVERRIDES w_FULL_CONSENSUS_PERMIT w_MAJORITY_PERMIT w_STRONG_MAJORITY_PERMIT w_SUPER_MAJORITY_PERMIT w_SOURCE w_RESHARE_REFUSED w_UNNAMED w_NOT_VIEWER w_NO_THRESHOLD w_MAJORITY_PERMIT_EResolutionRule w_OWNER_OVERRIDES_EResolutionRule w_FULL_CONSENSUS_PERMIT_EResolutionRule w_SUPER_MAJORITY_PERMIT_EResolutionRule w_STRONG_MAJORITY_PERMIT_EResolutionRule kV h0 n0 v U'.heap L ∧ FrameEnd U o U' L ({ frames := 1, cells := 1, slots := 12, locals := 14 } : Room).cells ({ frames := 1, cells := 1, slots := 12, locals := 14 } : Room).slots) := by
  refine MetFree.of_bodySF (plainFor_of_name pn_com_example_kindred_consent_kindredconsent_engine_EReason) hisR ?_
  intro p e s m args below meth c s₁ Bd hml0 hP hK
  obtain ⟨rfl, hZ, hh⟩ := hP
  have hx := Bd.exec
  have hby := Bd.bytes
  have hml : c.maxLocals = 0 := hml0
  have hown : s.vm.findClass "com/example/kindred_consent/kindredconsent/engine/EReason" = some m.cls := findClass_of_methodNamed Bd.named
  have hnm := (name_of_methodNamed Bd.named Bd.method).1
  have X0 : Stand p l e ({ frames := 1, cells := 1, slots := 12, locals := 14 } : Room) s m #[] below meth c s₁ [] 0 0 := Stand.of_body Bd
  have e0 : s₁.heap = h0 := by rw [← hh, Bd.state]; rfl
  have N0 := Fr.nil n0
  have pre0 : ∀ t, Steps p.tables e below (s₁.setTop (mkF m 0 #[] [])) t → Steps p.tables e below (s₁.setTop (entryFrame m #[] 0)) t := fun t k => castTop (ef_vals m ) k
  have hE_ := hE; obtain ⟨S_w_WEIGHTED, E_w_WEIGHTED, S_w_WEIGHTED_EReason, E_w_WEIGHTED_EReason, S_w_SVALUES, E_w_SVALUES, S_w_CONTROLLER, E_w_CONTROLLER, S_w_OWNER_OVERRIDES, E_w_OWNER_OVERRIDES, S_w_FULL_CONSENSUS_PERMIT, E_w_FULL_CONSENSUS_PERMIT, S_w_MAJORITY_PERMIT, E_w_MAJORITY_PERMIT, S_w_STRONG_MAJORITY_PERMIT, E_w_STRONG_MAJORITY_PERMIT, S_w_SUPER_MAJORITY_PERMIT, E_w_SUPER_MAJORITY_PERMIT, S_w_SOURCE, E_w_SOURCE, S_w_RESHARE_REFUSED, E_w_RESHARE_REFUSED, S_w_UNNAMED, E_w_UNNAMED, S_w_NOT_VIEWER, E_w_NOT_VIEWER, S_w_NO_THRESHOLD, E_w_NO_THRESHOLD, S_w_MAJORITY_PERMIT_EResolutionRule, E_w_MAJORITY_PERMIT_EResolutionRule, S_w_OWNER_OVERRIDES_EResolutionRule, E_w_OWNER_OVERRIDES_EResolutionRule, S_w_FULL_CONSENSUS_PERMIT_EResolutionRule, E_w_FULL_CONSENSUS_PERMIT_EResolutionRule, S_w_SUPER_MAJORITY_PERMIT_EResolutionRule, E_w_SUPER_MAJORITY_PERMIT_EResolutionRule, S_w_STRONG_MAJORITY_PERMIT_EResolutionRule, E_w_STRONG_MAJORITY_PERMIT_EResolutionRule, F_m_eRule_w_CONTROLLER, F_m_eRule_w_WEIGHTED_EReason, F_ordinal_w_WEIGHTED, F_ordinal_w_MAJORITY_PERMIT_EResolutionRule, F_m_eRule_w_OWNER_OVERRIDES, F_ordinal_w_OWNER_OVERRIDES_EResolutionRule, F_m_eRule_w_FULL_CONSENSUS_PERMIT, F_ordinal_w_FULL_CONSENSUS_PERMIT_EResolutionRule, F_m_eRule_w_MAJORITY_PERMIT, F_ordinal_w_SUPER_MAJORITY_PERMIT_EResolutionRule, F_m_eRule_w_STRONG_MAJORITY_PERMIT, F_ordinal_w_STRONG_MAJORITY_PERMIT_EResolutionRule, F_m_eRule_w_SUPER_MAJORITY_PERMIT, F_m_eRule_w_SOURCE, F_m_eRule_w_RESHARE_REFUSED, F_m_eRule_w_UNNAMED, F_m_eRule_w_NOT_VIEWER, F_m_eRule_w_NO_THRESHOLD, V_w_SVALUES⟩ := hE_
  obtain ⟨T1, X1, e1, st1⟩ := getS2 X0 hx hZ hown (host := "") (Or.inl (hw _ (List.mem_of_getElem? (i := 13) rfl))) Via.refl e0 (S_w_SVALUES.ext O0.2) (g := (mkF m 0 #[] [])) rfl (hb hby d2_0)
  obtain ⟨T2, h2, X2, e2, E2, Va2, A2, st2⟩ := cloneH X1 hx hZ hown (hw _ (List.mem_of_getElem? (i := 15) rfl)) (hw _ (List.mem_of_getElem? (i := 16) rfl)) (hw _ (List.mem_of_getElem? (i := 20) rfl)) (hw _ (List.mem_of_getElem? (i := 18) rfl)) (hw _ (List.mem_of_getElem? (i := 19) rfl)) (hw _ (List.mem_of_getElem? (i := 21) rfl)) e1 ((V_w_SVALUES.ext O0.2)).arh (E_w_SVALUES.ext O0.2) (g := (mkF m 3 #[] [(.ref w_SVALUES)])) rfl (by rw [hml]; rfl) rfl (hb hby d2_3) (by decide) (W := 0) (cap := 12) (by show 2 * 0 + _ ≤ _; exact Nat.le_of_eq rfl) (by decide) (by decide) (by decide) (by decide)
  obtain ⟨b2, g2⟩ : ∃ z, z = h0.size := ⟨_, rfl⟩
  rw [← g2] at Va2 A2 st2
  have g_b2 : n0 ≤ b2 := Nat.le_trans (own_le O0) (Nat.le_of_eq g2.symm)
  have sz_b2 : h0.size ≤ b2 := Nat.le_trans (Keep.refl h0 []).1 (Nat.le_of_eq g2.symm)
  have O2 := O0.ext E2
  have K2 : Keep h0 h2 [] := (Keep.refl h0 []).ext E2
  obtain ⟨T3, X3, e3, st3⟩ := castY X2 hx hZ hown (hw _ (List.mem_of_getElem? (i := 34) rfl)) e2 (Ins.self A2) (g := (mkF m 6 #[] [(.ref b2)])) rfl rfl (hb hby d2_6)
  obtain ⟨fs, hr, hrun, hended, hW, hsame⟩ := X3.leave (v := some (.ref b2)) (fun h => by rw [Bd.returns] at h; cases h)
  refine ⟨_, _, pre0 _ ?_, hrun, hended, _, _, rfl, ?_, ⟨_, rfl⟩, hW, hsame.mono (by decide) (by decide)⟩
  · show Steps p.tables e below (s₁.setTop (mkF m 0 #[] [])) _
    refine st1 _ ?_
    show Steps p.tables e below (T1.setTop (mkF m 3 #[] [(.ref w_SVALUES)])) _
    refine st2 _ ?_
    show Steps p.tables e below (T2.setTop (mkF m 6 #[] [(.ref b2)])) _
    refine st3 _ ?_
    show Steps p.tables e below (T3.setTop (mkF m 9 #[] [(.ref b2)])) _
    jvm_step X3.here [X3.here.top, hx, (hb hby d2_9), X3.method', Bd.returns, Value.isRef, FieldType.isReference]
    first | (intro acts; rw [hr _ acts rfl rfl rfl]) | rw [hr _ _ rfl rfl rfl]
    exact Steps.refl _
  · show Q_vals Z w_WEIGHTED w_WEIGHTED_EReason w_SVALUES w_CONTROLLER w_OWNER_OVERRIDES w_FULL_CONSENSUS_PERMIT w_MAJORITY_PERMIT w_STRONG_MAJORITY_PERMIT w_SUPER_MAJORITY_PERMIT w_SOURCE w_RESHARE_REFUSED w_UNNAMED w_NOT_VIEWER w_NO_THRESHOLD w_MAJORITY_PERMIT_EResolutionRule w_OWNER_OVERRIDES_EResolutionRule w_FULL_CONSENSUS_PERMIT_EResolutionRule w_SUPER_MAJORITY_PERMIT_EResolutionRule w_STRONG_MAJORITY_PERMIT_EResolutionRule kV h0 n0 _ T3.heap _
    rw [e3]
    exact ⟨b2, rfl, N0, K2, g_b2, Va2⟩
theorem ef_fr_WEIGHTED (m : MethodId) (w_WEIGHTED : Addr) : entryFrame m #[(.ref w_WEIGHTED)] 5 = mkF m 0 #[.val (.ref w_WEIGHTED), .unset, .unset, .unset, .unset] [] := by first | (simp [entryFrame, mkF, argsToLocals, Value.category]; done) | rfl
def Q_fr_WEIGHTED (Z : State) (w_WEIGHTED w_WEIGHTED_EReason w_SVALUES w_CONTROLLER w_OWNER_OVERRIDES w_FULL_CONSENSUS_PERMIT w_MAJORITY_PERMIT w_STRONG_MAJORITY_PERMIT w_SUPER_MAJORITY_PERMIT w_SOURCE w_RESHARE_REFUSED w_UNNAMED w_NOT_VIEWER w_NO_THRESHOLD w_MAJORITY_PERMIT_EResolutionRule w_OWNER_OVERRIDES_EResolutionRule w_FULL_CONSENSUS_PERMIT_EResolutionRule w_SUPER_MAJORITY_PERMIT_EResolutionRule w_STRONG_MAJORITY_PERMIT_EResolutionRule : Addr) (kV : ClassId) (h0 : Heap) (n0 : Nat) (v : Option Value) (h : Heap) (L : List Loc) : Prop := v = some (.ref w_WEIGHTED_EReason) ∧ Fr n0 L ∧ Keep h0 h []
set_option maxRecDepth 65536 in
set_option maxHeartbeats 40000000 in
theorem fr_WEIGHTED (l : Launch) (Z : State) (a0 : Array Value) (hw : ∀ d ∈ tables_1, d.before a0 Z = true) (ws : List Jvm.Cond) (w_WEIGHTED w_WEIGHTED_EReason w_SVALUES w_CONTROLLER w_OWNER_OVERRIDES w_FULL_CONSENSUS_PERMIT w_MAJORITY_PERMIT w_STRONG_MAJORITY_PERMIT w_SUPER_MAJORITY_PERMIT w_SOURCE w_RESHARE_REFUSED w_UNNAMED w_NOT_VIEWER w_NO_THRESHOLD w_MAJORITY_PERMIT_EResolutionRule w_OWNER_OVERRIDES_EResolutionRule w_FULL_CONSENSUS_PERMIT_EResolutionRule w_SUPER_MAJORITY_PERMIT_EResolutionRule w_STRONG_MAJORITY_PERMIT_EResolutionRule : Addr) (kV : ClassId) (h0 : Heap) (n0 : Nat) (O0 : Old Z n0 h0) (hE : OwnEnv Z w_WEIGHTED w_WEIGHTED_EReason w_SVALUES w_CONTROLLER w_OWNER_OVERRIDES w_FULL_CONSENSUS_PERMIT w_MAJORITY_PERMIT w_STRONG_MAJORITY_PERMIT w_SUPER_MAJORITY_PERMIT w_SOURCE w_RESHARE_REFUSED w_UNNAMED w_NOT_VIEWER w_NO_THRESHOLD w_MAJORITY_PERMIT_EResolutionRule w_OWNER_OVERRIDES_EResolutionRule w_FULL_CONSENSUS_PERMIT_EResolutionRule w_SUPER_MAJORITY_PERMIT_EResolutionRule w_STRONG_MAJORITY_PERMIT_EResolutionRule kV) :
    MetFree l (⟨"com/example/kindred_consent/kindredconsent/engine/EReason", "forRule", "(Lcom/example/kindred_consent/kindredconsent/model/EResolutionRule;)Lcom/example/kindred_consent/kindredconsent/engine/EReason;"⟩ : MethodName) (head1 (Jvm.Cond.code (⟨"com/example/kindred_consent/kindredconsent/engine/EReason", "forRule", "(Lcom/example/kindred_consent/kindredconsent/model/EResolutionRule;)Lcom/example/kindred_consent/kindredconsent/engine/EReason;"⟩ : MethodName) prog_7_method_8_code 5 (some (.object "com/example/kindred_consent/kindredconsent/engine/EReason")) :: ws) ({ frames := 2, cells := 1, slots := 12, locals := 25 } : Room)) (fun a U => a = #[(.ref w_WEIGHTED)] ∧ Z.Warmed39 U.vm ∧ U.heap = h0) (fun _ _ _ _ _ => True) (fun _ U o U' => ∃ v L, o = .returned v ∧ Q_fr_WEIGHTED Z w_WEIGHTED w_WEIGHTED_EReason w_SVALUES w_CONTROLLER w_OWNER_OVERRIDES w_FULL_CONSENSUS_PERMIT w_MAJORITY_PERMIT w_STRONG_MAJORITY_PERMIT w_SUPER_MAJORITY_PERMIT w_SOURCE w_RESHARE_REFUSED w_UNNAMED w_NOT_VIEWER w_NO_THRESHOLD w_MAJORITY_PERMIT_EResolutionRule w_OWNER_OVERRIDES_EResolutionRule w_FULL_CONSENSUS_PERMIT_EResolutionRule w_SUPER_MAJORITY_PERMIT_EResolutionRule w_STRONG_MAJORITY_PERMIT_EResolutionRule kV h0 n0 v U'.heap L ∧ FrameEnd U o U' L ({ frames := 2, cells := 1, slots := 12, locals := 25 } : Room).cells ({ frames := 2, cells := 1, slots := 12, locals := 25 } : Room).slots) := by
  refine MetFree.of_bodySF (plainFor_of_name pn_com_example_kindred_consent_kindredconsent_engine_EReason) hisR ?_
  intro p e s m args below meth c s₁ Bd hml0 hP hK
  obtain ⟨rfl, hZ, hh⟩ := hP
  have hx := Bd.exec
  have hby := Bd.bytes
  have hml : c.maxLocals = 5 := hml0
  have hown : s.vm.findClass "com/example/kindred_consent/kindredconsent/engine/EReason" = some m.cls := findClass_of_methodNamed Bd.named
  have hnm := (name_of_methodNamed Bd.named Bd.method).1
  have X0 : Stand p l e ({ frames := 2, cells := 1, slots := 12, locals := 25 } : Room) s m #[(.ref w_WEIGHTED)] below meth c s₁ [] 0 0 := Stand.of_body Bd
  have e0 : s₁.heap = h0 := by rw [← hh, Bd.state]; rfl
  have N0 := Fr.nil n0
  have pre0 : ∀ t, Steps p.tables e below (s₁.setTop (mkF m 0 #[.val (.ref w_WEIGHTED), .unset, .unset, .unset, .unset] [])) t → Steps p.tables e below (s₁.setTop (entryFrame m #[(.ref w_WEIGHTED)] 5)) t := fun t k => castTop (ef_fr_WEIGHTED m w_WEIGHTED) k
  have hE_ := hE; obtain ⟨S_w_WEIGHTED, E_w_WEIGHTED, S_w_WEIGHTED_EReason, E_w_WEIGHTED_EReason, S_w_SVALUES, E_w_SVALUES, S_w_CONTROLLER, E_w_CONTROLLER, S_w_OWNER_OVERRIDES, E_w_OWNER_OVERRIDES, S_w_FULL_CONSENSUS_PERMIT, E_w_FULL_CONSENSUS_PERMIT, S_w_MAJORITY_PERMIT, E_w_MAJORITY_PERMIT, S_w_STRONG_MAJORITY_PERMIT, E_w_STRONG_MAJORITY_PERMIT, S_w_SUPER_MAJORITY_PERMIT, E_w_SUPER_MAJORITY_PERMIT, S_w_SOURCE, E_w_SOURCE, S_w_RESHARE_REFUSED, E_w_RESHARE_REFUSED, S_w_UNNAMED, E_w_UNNAMED, S_w_NOT_VIEWER, E_w_NOT_VIEWER, S_w_NO_THRESHOLD, E_w_NO_THRESHOLD, S_w_MAJORITY_PERMIT_EResolutionRule, E_w_MAJORITY_PERMIT_EResolutionRule, S_w_OWNER_OVERRIDES_EResolutionRule, E_w_OWNER_OVERRIDES_EResolutionRule, S_w_FULL_CONSENSUS_PERMIT_EResolutionRule, E_w_FULL_CONSENSUS_PERMIT_EResolutionRule, S_w_SUPER_MAJORITY_PERMIT_EResolutionRule, E_w_SUPER_MAJORITY_PERMIT_EResolutionRule, S_w_STRONG_MAJORITY_PERMIT_EResolutionRule, E_w_STRONG_MAJORITY_PERMIT_EResolutionRule, F_m_eRule_w_CONTROLLER, F_m_eRule_w_WEIGHTED_EReason, F_ordinal_w_WEIGHTED, F_ordinal_w_MAJORITY_PERMIT_EResolutionRule, F_m_eRule_w_OWNER_OVERRIDES, F_ordinal_w_OWNER_OVERRIDES_EResolutionRule, F_m_eRule_w_FULL_CONSENSUS_PERMIT, F_ordinal_w_FULL_CONSENSUS_PERMIT_EResolutionRule, F_m_eRule_w_MAJORITY_PERMIT, F_ordinal_w_SUPER_MAJORITY_PERMIT_EResolutionRule, F_m_eRule_w_STRONG_MAJORITY_PERMIT, F_ordinal_w_STRONG_MAJORITY_PERMIT_EResolutionRule, F_m_eRule_w_SUPER_MAJORITY_PERMIT, F_m_eRule_w_SOURCE, F_m_eRule_w_RESHARE_REFUSED, F_m_eRule_w_UNNAMED, F_m_eRule_w_NOT_VIEWER, F_m_eRule_w_NO_THRESHOLD, V_w_SVALUES⟩ := hE_
  obtain ⟨_, _, ⟨T1, L1, k1, n1⟩, -, X1, ⟨Lc1, hQ1, l1, y1, z1⟩, st1⟩ := Jvm.LawKit.callS X0 hx (y := (⟨"com/example/kindred_consent/kindredconsent/engine/EReason", "values", "()[Lcom/example/kindred_consent/kindredconsent/engine/EReason;"⟩ : MethodName)) hown (mvT hZ (hw _ (List.mem_of_getElem? (i := 10) rfl))) (mvT hZ (hw _ (List.mem_of_getElem? (i := 11) rfl))) (mvT hZ (hw _ (List.mem_of_getElem? (i := 5) rfl))) (mvT hZ (hw _ (List.mem_of_getElem? (i := 12) rfl))) (by decide) (backOf (W := 0) (vals l Z a0 hw [] w_WEIGHTED w_WEIGHTED_EReason w_SVALUES w_CONTROLLER w_OWNER_OVERRIDES w_FULL_CONSENSUS_PERMIT w_MAJORITY_PERMIT w_STRONG_MAJORITY_PERMIT w_SUPER_MAJORITY_PERMIT w_SOURCE w_RESHARE_REFUSED w_UNNAMED w_NOT_VIEWER w_NO_THRESHOLD w_MAJORITY_PERMIT_EResolutionRule w_OWNER_OVERRIDES_EResolutionRule w_FULL_CONSENSUS_PERMIT_EResolutionRule w_SUPER_MAJORITY_PERMIT_EResolutionRule w_STRONG_MAJORITY_PERMIT_EResolutionRule kV h0 n0 O0 hE) hZ (hw _ (List.mem_of_getElem? (i := 12) rfl)) (hw _ (List.mem_of_getElem? (i := 5) rfl)) (by decide) (by decide)) (g := (mkF m 0 #[.val (.ref w_WEIGHTED), .unset, .unset, .unset, .unset] [])) rfl (by rw [hml]; rfl) (argsL := []) (rest := []) (lenOf pd____Lcom_example_kindred_consent_kindredconsent_engine_EReason_ rfl) rfl (by show 2 * 0 + _ ≤ _; exact Nat.le_of_eq rfl) (hb hby d1_0) (fun _ _ => ⟨rfl, e0, (by decide : 0 + 1 ≤ _), (by decide : 0 + 12 ≤ _)⟩)
  dsimp only [Pt.U, Pt.locs, Pt.cells, Pt.slots] at X1 l1 y1 z1 st1 hQ1
  subst l1 y1 z1
  obtain ⟨bo1, rfl, Nq1, Kq1, g_1, Va1⟩ := hQ1
  have N1 := Fr.app N0 Nq1
  have O1 := O0.keep Kq1 all0
  have K1 : Keep h0 T1.heap [] := (Keep.refl h0 []).trans Kq1 all0
  have Vc2 := Va1
  obtain ⟨cl2, Ar2, qa2, Sz2, Nn2, Ha2, Ga2⟩ := Vc2
  have Vc3 := Va1
  obtain ⟨cl3, Ar3, qa3, Sz3, Nn3, Ha3, Ga3⟩ := Vc3
  have hin3 : ¬ ((0 : Int32) < 0 ∨ cl3.slots.size ≤ ((0 : Int32)).toNatClampNeg) := inb_of Sz3 ⟨by decide, by decide⟩
  have hat3 : cl3.slots[((0 : Int32)).toNatClampNeg]? = some (.ref w_CONTROLLER) := Has.at Ha3 hin3 rfl
  obtain ⟨T4, X4, e4, st4⟩ := getF X1 hx hZ hown (host := "") (Or.inl (hw _ (List.mem_of_getElem? (i := 36) rfl))) Via.refl rfl (F_m_eRule_w_CONTROLLER.ext O1.2) (g := (mkF m 21 #[.val (.ref w_WEIGHTED), .val (.ref bo1), .val (.int (12 : Int32)), .val (.int (0 : Int32)), .val (.ref w_CONTROLLER)] [(.ref w_CONTROLLER)])) rfl rfl (hb hby d1_21)
  have Vc5 := Va1
  obtain ⟨cl5, Ar5, qa5, Sz5, Nn5, Ha5, Ga5⟩ := Vc5
  have hin5 : ¬ ((1 : Int32) < 0 ∨ cl5.slots.size ≤ ((1 : Int32)).toNatClampNeg) := inb_of Sz5 ⟨by decide, by decide⟩
  have hat5 : cl5.slots[((1 : Int32)).toNatClampNeg]? = some (.ref w_WEIGHTED_EReason) := Has.at Ha5 hin5 rfl
  obtain ⟨T6, X6, e6, st6⟩ := getF X4 hx hZ hown (host := "") (Or.inl (hw _ (List.mem_of_getElem? (i := 36) rfl))) Via.refl e4 (F_m_eRule_w_WEIGHTED_EReason.ext O1.2) (g := (mkF m 21 #[.val (.ref w_WEIGHTED), .val (.ref bo1), .val (.int (12 : Int32)), .val (.int (1 : Int32)), .val (.ref w_WEIGHTED_EReason)] [(.ref w_WEIGHTED_EReason)])) rfl rfl (hb hby d1_21)
  obtain ⟨fs, hr, hrun, hended, hW, hsame⟩ := X6.leave (v := some (.ref w_WEIGHTED_EReason)) (fun h => by rw [Bd.returns] at h; cases h)
  refine ⟨_, _, pre0 _ ?_, hrun, hended, _, _, rfl, ?_, ⟨_, rfl⟩, hW, hsame.mono (by decide) (by decide)⟩
  · show Steps p.tables e below (s₁.setTop (mkF m 0 #[.val (.ref w_WEIGHTED), .unset, .unset, .unset, .unset] [])) _
    refine st1 _ ?_
    show Steps p.tables e below (T1.setTop (mkF m 3 #[.val (.ref w_WEIGHTED), .unset, .unset, .unset, .unset] [(.ref bo1)])) _
    refine XS.astoreN X1.here hx rfl (hb hby d1_3) rfl rfl (l' := #[.val (.ref w_WEIGHTED), .val (.ref bo1), .unset, .unset, .unset]) rfl ?_
    show Steps p.tables e below (T1.setTop (mkF m 4 #[.val (.ref w_WEIGHTED), .val (.ref bo1), .unset, .unset, .unset] [])) _
    refine XS.aloadN X1.here hx rfl (hb hby d1_4) rfl rfl ?_
    show Steps p.tables e below (T1.setTop (mkF m 5 #[.val (.ref w_WEIGHTED), .val (.ref bo1), .unset, .unset, .unset] [(.ref bo1)])) _
    refine X1.arraylength hx Ar2.1 (State.isArrayOf_alike hZ.alike Ar2.2.1) (g := (mkF m 5 #[.val (.ref w_WEIGHTED), .val (.ref bo1), .unset, .unset, .unset] [(.ref bo1)])) rfl rfl (hb hby d1_5) _ ?_
    rw [len_of Sz2 Nn2]
    show Steps p.tables e below (T1.setTop (mkF m 6 #[.val (.ref w_WEIGHTED), .val (.ref bo1), .unset, .unset, .unset] [(.int (12 : Int32))])) _
    refine XS.istoreN X1.here hx rfl (hb hby d1_6) rfl (l' := #[.val (.ref w_WEIGHTED), .val (.ref bo1), .val (.int (12 : Int32)), .unset, .unset]) rfl ?_
    show Steps p.tables e below (T1.setTop (mkF m 7 #[.val (.ref w_WEIGHTED), .val (.ref bo1), .val (.int (12 : Int32)), .unset, .unset] [])) _
    refine XS.iconst X1.here hx rfl (hb hby d1_7) ?_
    show Steps p.tables e below (T1.setTop (mkF m 8 #[.val (.ref w_WEIGHTED), .val (.ref bo1), .val (.int (12 : Int32)), .unset, .unset] [(.int (0 : Int32))])) _
    refine XS.istoreN X1.here hx rfl (hb hby d1_8) rfl (l' := #[.val (.ref w_WEIGHTED), .val (.ref bo1), .val (.int (12 : Int32)), .val (.int (0 : Int32)), .unset]) rfl ?_
    show Steps p.tables e below (T1.setTop (mkF m 9 #[.val (.ref w_WEIGHTED), .val (.ref bo1), .val (.int (12 : Int32)), .val (.int (0 : Int32)), .unset] [])) _
    refine XS.iloadN X1.here hx rfl (hb hby d1_9) rfl ?_
    show Steps p.tables e below (T1.setTop (mkF m 10 #[.val (.ref w_WEIGHTED), .val (.ref bo1), .val (.int (12 : Int32)), .val (.int (0 : Int32)), .unset] [(.int (0 : Int32))])) _
    refine XS.iloadN X1.here hx rfl (hb hby d1_10) rfl ?_
    show Steps p.tables e below (T1.setTop (mkF m 11 #[.val (.ref w_WEIGHTED), .val (.ref bo1), .val (.int (12 : Int32)), .val (.int (0 : Int32)), .unset] [(.int (12 : Int32)), (.int (0 : Int32))])) _
    refine XS.icmpNo X1.here hx rfl (hb hby d1_11) rfl (tlt (by decide : (0 : Int32) < (12 : Int32))).2.1 ?_
    show Steps p.tables e below (T1.setTop (mkF m 14 #[.val (.ref w_WEIGHTED), .val (.ref bo1), .val (.int (12 : Int32)), .val (.int (0 : Int32)), .unset] [])) _
    refine XS.aloadN X1.here hx rfl (hb hby d1_14) rfl rfl ?_
    show Steps p.tables e below (T1.setTop (mkF m 15 #[.val (.ref w_WEIGHTED), .val (.ref bo1), .val (.int (12 : Int32)), .val (.int (0 : Int32)), .unset] [(.ref bo1)])) _
    refine XS.iloadN X1.here hx rfl (hb hby d1_15) rfl ?_
    show Steps p.tables e below (T1.setTop (mkF m 16 #[.val (.ref w_WEIGHTED), .val (.ref bo1), .val (.int (12 : Int32)), .val (.int (0 : Int32)), .unset] [(.int (0 : Int32)), (.ref bo1)])) _
    refine X1.aaload hx (j := (0 : Int32)) (v := (.ref w_CONTROLLER)) Ar3.1 (State.isArrayOf_alike hZ.alike Ar3.2.1) rfl Ar3.2.2 hin3 hat3 (g := (mkF m 16 #[.val (.ref w_WEIGHTED), .val (.ref bo1), .val (.int (12 : Int32)), .val (.int (0 : Int32)), .unset] [(.int (0 : Int32)), (.ref bo1)])) rfl rfl (hb hby d1_16) _ ?_
    show Steps p.tables e below (T1.setTop (mkF m 17 #[.val (.ref w_WEIGHTED), .val (.ref bo1), .val (.int (12 : Int32)), .val (.int (0 : Int32)), .unset] [(.ref w_CONTROLLER)])) _
    refine XS.astore X1.here hx rfl (hb hby d1_17) rfl rfl (l' := #[.val (.ref w_WEIGHTED), .val (.ref bo1), .val (.int (12 : Int32)), .val (.int (0 : Int32)), .val (.ref w_CONTROLLER)]) rfl ?_
    show Steps p.tables e below (T1.setTop (mkF m 19 #[.val (.ref w_WEIGHTED), .val (.ref bo1), .val (.int (12 : Int32)), .val (.int (0 : Int32)), .val (.ref w_CONTROLLER)] [])) _
    refine XS.aload X1.here hx rfl (hb hby d1_19) rfl rfl ?_
    show Steps p.tables e below (T1.setTop (mkF m 21 #[.val (.ref w_WEIGHTED), .val (.ref bo1), .val (.int (12 : Int32)), .val (.int (0 : Int32)), .val (.ref w_CONTROLLER)] [(.ref w_CONTROLLER)])) _
    refine st4 _ ?_
    show Steps p.tables e below (T4.setTop (mkF m 24 #[.val (.ref w_WEIGHTED), .val (.ref bo1), .val (.int (12 : Int32)), .val (.int (0 : Int32)), .val (.ref w_CONTROLLER)] [.null])) _
    refine XS.aloadN X4.here hx rfl (hb hby d1_24) rfl rfl ?_
    show Steps p.tables e below (T4.setTop (mkF m 25 #[.val (.ref w_WEIGHTED), .val (.ref bo1), .val (.int (12 : Int32)), .val (.int (0 : Int32)), .val (.ref w_CONTROLLER)] [(.ref w_WEIGHTED), .null])) _
    refine Jvm.RoadKit.acmp (g := (mkF m 25 #[.val (.ref w_WEIGHTED), .val (.ref bo1), .val (.int (12 : Int32)), .val (.int (0 : Int32)), .val (.ref w_CONTROLLER)] [(.ref w_WEIGHTED), .null])) X4 hx rfl rfl rfl (pc0 := 25) (pc' := 31) (same := false) rfl (hb hby d1_25) rfl (decide_eq_false nofun) (by decide) (by decide) ?_
    show Steps p.tables e below (T4.setTop (mkF m 31 #[.val (.ref w_WEIGHTED), .val (.ref bo1), .val (.int (12 : Int32)), .val (.int (0 : Int32)), .val (.ref w_CONTROLLER)] [])) _
    refine XS.iinc X4.here hx rfl (hb hby d1_31) rfl (l' := #[.val (.ref w_WEIGHTED), .val (.ref bo1), .val (.int (12 : Int32)), .val (.int (1 : Int32)), .val (.ref w_CONTROLLER)]) rfl ?_
    show Steps p.tables e below (T4.setTop (mkF m 34 #[.val (.ref w_WEIGHTED), .val (.ref bo1), .val (.int (12 : Int32)), .val (.int (1 : Int32)), .val (.ref w_CONTROLLER)] [])) _
    refine XS.goto X4.here hx rfl (pc0 := 34) (pc' := 9) rfl (hb hby d1_34) (by decide) (by decide) ?_
    show Steps p.tables e below (T4.setTop (mkF m 9 #[.val (.ref w_WEIGHTED), .val (.ref bo1), .val (.int (12 : Int32)), .val (.int (1 : Int32)), .val (.ref w_CONTROLLER)] [])) _
    refine XS.iloadN X4.here hx rfl (hb hby d1_9) rfl ?_
    show Steps p.tables e below (T4.setTop (mkF m 10 #[.val (.ref w_WEIGHTED), .val (.ref bo1), .val (.int (12 : Int32)), .val (.int (1 : Int32)), .val (.ref w_CONTROLLER)] [(.int (1 : Int32))])) _
    refine XS.iloadN X4.here hx rfl (hb hby d1_10) rfl ?_
    show Steps p.tables e below (T4.setTop (mkF m 11 #[.val (.ref w_WEIGHTED), .val (.ref bo1), .val (.int (12 : Int32)), .val (.int (1 : Int32)), .val (.ref w_CONTROLLER)] [(.int (12 : Int32)), (.int (1 : Int32))])) _
    refine XS.icmpNo X4.here hx rfl (hb hby d1_11) rfl (tlt (by decide : (1 : Int32) < (12 : Int32))).2.1 ?_
    show Steps p.tables e below (T4.setTop (mkF m 14 #[.val (.ref w_WEIGHTED), .val (.ref bo1), .val (.int (12 : Int32)), .val (.int (1 : Int32)), .val (.ref w_CONTROLLER)] [])) _
    refine XS.aloadN X4.here hx rfl (hb hby d1_14) rfl rfl ?_
    show Steps p.tables e below (T4.setTop (mkF m 15 #[.val (.ref w_WEIGHTED), .val (.ref bo1), .val (.int (12 : Int32)), .val (.int (1 : Int32)), .val (.ref w_CONTROLLER)] [(.ref bo1)])) _
    refine XS.iloadN X4.here hx rfl (hb hby d1_15) rfl ?_
    show Steps p.tables e below (T4.setTop (mkF m 16 #[.val (.ref w_WEIGHTED), .val (.ref bo1), .val (.int (12 : Int32)), .val (.int (1 : Int32)), .val (.ref w_CONTROLLER)] [(.int (1 : Int32)), (.ref bo1)])) _
    refine X4.aaload hx (j := (1 : Int32)) (v := (.ref w_WEIGHTED_EReason)) (by rw [e4]; exact Ar5.1) (State.isArrayOf_alike hZ.alike Ar5.2.1) rfl Ar5.2.2 hin5 hat5 (g := (mkF m 16 #[.val (.ref w_WEIGHTED), .val (.ref bo1), .val (.int (12 : Int32)), .val (.int (1 : Int32)), .val (.ref w_CONTROLLER)] [(.int (1 : Int32)), (.ref bo1)])) rfl rfl (hb hby d1_16) _ ?_
    show Steps p.tables e below (T4.setTop (mkF m 17 #[.val (.ref w_WEIGHTED), .val (.ref bo1), .val (.int (12 : Int32)), .val (.int (1 : Int32)), .val (.ref w_CONTROLLER)] [(.ref w_WEIGHTED_EReason)])) _
    refine XS.astore X4.here hx rfl (hb hby d1_17) rfl rfl (l' := #[.val (.ref w_WEIGHTED), .val (.ref bo1), .val (.int (12 : Int32)), .val (.int (1 : Int32)), .val (.ref w_WEIGHTED_EReason)]) rfl ?_
    show Steps p.tables e below (T4.setTop (mkF m 19 #[.val (.ref w_WEIGHTED), .val (.ref bo1), .val (.int (12 : Int32)), .val (.int (1 : Int32)), .val (.ref w_WEIGHTED_EReason)] [])) _
    refine XS.aload X4.here hx rfl (hb hby d1_19) rfl rfl ?_
    show Steps p.tables e below (T4.setTop (mkF m 21 #[.val (.ref w_WEIGHTED), .val (.ref bo1), .val (.int (12 : Int32)), .val (.int (1 : Int32)), .val (.ref w_WEIGHTED_EReason)] [(.ref w_WEIGHTED_EReason)])) _
    refine st6 _ ?_
    show Steps p.tables e below (T6.setTop (mkF m 24 #[.val (.ref w_WEIGHTED), .val (.ref bo1), .val (.int (12 : Int32)), .val (.int (1 : Int32)), .val (.ref w_WEIGHTED_EReason)] [(.ref w_WEIGHTED)])) _
    refine XS.aloadN X6.here hx rfl (hb hby d1_24) rfl rfl ?_
    show Steps p.tables e below (T6.setTop (mkF m 25 #[.val (.ref w_WEIGHTED), .val (.ref bo1), .val (.int (12 : Int32)), .val (.int (1 : Int32)), .val (.ref w_WEIGHTED_EReason)] [(.ref w_WEIGHTED), (.ref w_WEIGHTED)])) _
    refine Jvm.RoadKit.acmp (g := (mkF m 25 #[.val (.ref w_WEIGHTED), .val (.ref bo1), .val (.int (12 : Int32)), .val (.int (1 : Int32)), .val (.ref w_WEIGHTED_EReason)] [(.ref w_WEIGHTED), (.ref w_WEIGHTED)])) X6 hx rfl rfl rfl (pc0 := 25) (pc' := 28) (same := true) rfl (hb hby d1_25) rfl (decide_eq_true (congrArg Value.ref (rfl : w_WEIGHTED = w_WEIGHTED))) (by decide) (by decide) ?_
    show Steps p.tables e below (T6.setTop (mkF m 28 #[.val (.ref w_WEIGHTED), .val (.ref bo1), .val (.int (12 : Int32)), .val (.int (1 : Int32)), .val (.ref w_WEIGHTED_EReason)] [])) _
    refine XS.aload X6.here hx rfl (hb hby d1_28) rfl rfl ?_
    show Steps p.tables e below (T6.setTop (mkF m 30 #[.val (.ref w_WEIGHTED), .val (.ref bo1), .val (.int (12 : Int32)), .val (.int (1 : Int32)), .val (.ref w_WEIGHTED_EReason)] [(.ref w_WEIGHTED_EReason)])) _
    jvm_step X6.here [X6.here.top, hx, (hb hby d1_30), X6.method', Bd.returns, Value.isRef, FieldType.isReference]
    first | (intro acts; rw [hr _ acts rfl rfl rfl]) | rw [hr _ _ rfl rfl rfl]
    exact Steps.refl _
  · show Q_fr_WEIGHTED Z w_WEIGHTED w_WEIGHTED_EReason w_SVALUES w_CONTROLLER w_OWNER_OVERRIDES w_FULL_CONSENSUS_PERMIT w_MAJORITY_PERMIT w_STRONG_MAJORITY_PERMIT w_SUPER_MAJORITY_PERMIT w_SOURCE w_RESHARE_REFUSED w_UNNAMED w_NOT_VIEWER w_NO_THRESHOLD w_MAJORITY_PERMIT_EResolutionRule w_OWNER_OVERRIDES_EResolutionRule w_FULL_CONSENSUS_PERMIT_EResolutionRule w_SUPER_MAJORITY_PERMIT_EResolutionRule w_STRONG_MAJORITY_PERMIT_EResolutionRule kV h0 n0 _ T6.heap _
    rw [e6]
    exact ⟨rfl, N1, K1⟩
theorem ef_gr_WEIGHTED (m : MethodId) (w_WEIGHTED_EReason : Addr) : entryFrame m #[(.ref w_WEIGHTED_EReason)] 1 = mkF m 0 #[.val (.ref w_WEIGHTED_EReason)] [] := by first | (simp [entryFrame, mkF, argsToLocals, Value.category]; done) | rfl
def Q_gr_WEIGHTED (Z : State) (w_WEIGHTED w_WEIGHTED_EReason w_SVALUES w_CONTROLLER w_OWNER_OVERRIDES w_FULL_CONSENSUS_PERMIT w_MAJORITY_PERMIT w_STRONG_MAJORITY_PERMIT w_SUPER_MAJORITY_PERMIT w_SOURCE w_RESHARE_REFUSED w_UNNAMED w_NOT_VIEWER w_NO_THRESHOLD w_MAJORITY_PERMIT_EResolutionRule w_OWNER_OVERRIDES_EResolutionRule w_FULL_CONSENSUS_PERMIT_EResolutionRule w_SUPER_MAJORITY_PERMIT_EResolutionRule w_STRONG_MAJORITY_PERMIT_EResolutionRule : Addr) (kV : ClassId) (h0 : Heap) (n0 : Nat) (v : Option Value) (h : Heap) (L : List Loc) : Prop := v = some (.ref w_WEIGHTED) ∧ Fr n0 L ∧ h = h0
set_option maxRecDepth 65536 in
set_option maxHeartbeats 40000000 in
theorem gr_WEIGHTED (l : Launch) (Z : State) (a0 : Array Value) (hw : ∀ d ∈ tables_1, d.before a0 Z = true) (ws : List Jvm.Cond) (w_WEIGHTED w_WEIGHTED_EReason w_SVALUES w_CONTROLLER w_OWNER_OVERRIDES w_FULL_CONSENSUS_PERMIT w_MAJORITY_PERMIT w_STRONG_MAJORITY_PERMIT w_SUPER_MAJORITY_PERMIT w_SOURCE w_RESHARE_REFUSED w_UNNAMED w_NOT_VIEWER w_NO_THRESHOLD w_MAJORITY_PERMIT_EResolutionRule w_OWNER_OVERRIDES_EResolutionRule w_FULL_CONSENSUS_PERMIT_EResolutionRule w_SUPER_MAJORITY_PERMIT_EResolutionRule w_STRONG_MAJORITY_PERMIT_EResolutionRule : Addr) (kV : ClassId) (h0 : Heap) (n0 : Nat) (O0 : Old Z n0 h0) (hE : OwnEnv Z w_WEIGHTED w_WEIGHTED_EReason w_SVALUES w_CONTROLLER w_OWNER_OVERRIDES w_FULL_CONSENSUS_PERMIT w_MAJORITY_PERMIT w_STRONG_MAJORITY_PERMIT w_SUPER_MAJORITY_PERMIT w_SOURCE w_RESHARE_REFUSED w_UNNAMED w_NOT_VIEWER w_NO_THRESHOLD w_MAJORITY_PERMIT_EResolutionRule w_OWNER_OVERRIDES_EResolutionRule w_FULL_CONSENSUS_PERMIT_EResolutionRule w_SUPER_MAJORITY_PERMIT_EResolutionRule w_STRONG_MAJORITY_PERMIT_EResolutionRule kV) :
    MetFree l (⟨"com/example/kindred_consent/kindredconsent/engine/EReason", "getRule", "()Lcom/example/kindred_consent/kindredconsent/model/EResolutionRule;"⟩ : MethodName) (head1 (Jvm.Cond.code (⟨"com/example/kindred_consent/kindredconsent/engine/EReason", "getRule", "()Lcom/example/kindred_consent/kindredconsent/model/EResolutionRule;"⟩ : MethodName) prog_7_method_6_code 1 (some (.object "com/example/kindred_consent/kindredconsent/model/EResolutionRule")) :: ws) ({ frames := 0, cells := 0, slots := 0, locals := 0 } : Room)) (fun a U => a = #[(.ref w_WEIGHTED_EReason)] ∧ Z.Warmed39 U.vm ∧ U.heap = h0) (fun _ _ _ _ _ => True) (fun _ U o U' => ∃ v L, o = .returned v ∧ Q_gr_WEIGHTED Z w_WEIGHTED w_WEIGHTED_EReason w_SVALUES w_CONTROLLER w_OWNER_OVERRIDES w_FULL_CONSENSUS_PERMIT w_MAJORITY_PERMIT w_STRONG_MAJORITY_PERMIT w_SUPER_MAJORITY_PERMIT w_SOURCE w_RESHARE_REFUSED w_UNNAMED w_NOT_VIEWER w_NO_THRESHOLD w_MAJORITY_PERMIT_EResolutionRule w_OWNER_OVERRIDES_EResolutionRule w_FULL_CONSENSUS_PERMIT_EResolutionRule w_SUPER_MAJORITY_PERMIT_EResolutionRule w_STRONG_MAJORITY_PERMIT_EResolutionRule kV h0 n0 v U'.heap L ∧ FrameEnd U o U' L ({ frames := 0, cells := 0, slots := 0, locals := 0 } : Room).cells ({ frames := 0, cells := 0, slots := 0, locals := 0 } : Room).slots) := by
  refine MetFree.of_bodySF (plainFor_of_name pn_com_example_kindred_consent_kindredconsent_engine_EReason) hisR ?_
  intro p e s m args below meth c s₁ Bd hml0 hP hK
  obtain ⟨rfl, hZ, hh⟩ := hP
  have hx := Bd.exec
  have hby := Bd.bytes
  have hml : c.maxLocals = 1 := hml0
  have hown : s.vm.findClass "com/example/kindred_consent/kindredconsent/engine/EReason" = some m.cls := findClass_of_methodNamed Bd.named
  have hnm := (name_of_methodNamed Bd.named Bd.method).1
  have X0 : Stand p l e ({ frames := 0, cells := 0, slots := 0, locals := 0 } : Room) s m #[(.ref w_WEIGHTED_EReason)] below meth c s₁ [] 0 0 := Stand.of_body Bd
  have e0 : s₁.heap = h0 := by rw [← hh, Bd.state]; rfl
  have N0 := Fr.nil n0
  have pre0 : ∀ t, Steps p.tables e below (s₁.setTop (mkF m 0 #[.val (.ref w_WEIGHTED_EReason)] [])) t → Steps p.tables e below (s₁.setTop (entryFrame m #[(.ref w_WEIGHTED_EReason)] 1)) t := fun t k => castTop (ef_gr_WEIGHTED m w_WEIGHTED_EReason) k
  have hE_ := hE; obtain ⟨S_w_WEIGHTED, E_w_WEIGHTED, S_w_WEIGHTED_EReason, E_w_WEIGHTED_EReason, S_w_SVALUES, E_w_SVALUES, S_w_CONTROLLER, E_w_CONTROLLER, S_w_OWNER_OVERRIDES, E_w_OWNER_OVERRIDES, S_w_FULL_CONSENSUS_PERMIT, E_w_FULL_CONSENSUS_PERMIT, S_w_MAJORITY_PERMIT, E_w_MAJORITY_PERMIT, S_w_STRONG_MAJORITY_PERMIT, E_w_STRONG_MAJORITY_PERMIT, S_w_SUPER_MAJORITY_PERMIT, E_w_SUPER_MAJORITY_PERMIT, S_w_SOURCE, E_w_SOURCE, S_w_RESHARE_REFUSED, E_w_RESHARE_REFUSED, S_w_UNNAMED, E_w_UNNAMED, S_w_NOT_VIEWER, E_w_NOT_VIEWER, S_w_NO_THRESHOLD, E_w_NO_THRESHOLD, S_w_MAJORITY_PERMIT_EResolutionRule, E_w_MAJORITY_PERMIT_EResolutionRule, S_w_OWNER_OVERRIDES_EResolutionRule, E_w_OWNER_OVERRIDES_EResolutionRule, S_w_FULL_CONSENSUS_PERMIT_EResolutionRule, E_w_FULL_CONSENSUS_PERMIT_EResolutionRule, S_w_SUPER_MAJORITY_PERMIT_EResolutionRule, E_w_SUPER_MAJORITY_PERMIT_EResolutionRule, S_w_STRONG_MAJORITY_PERMIT_EResolutionRule, E_w_STRONG_MAJORITY_PERMIT_EResolutionRule, F_m_eRule_w_CONTROLLER, F_m_eRule_w_WEIGHTED_EReason, F_ordinal_w_WEIGHTED, F_ordinal_w_MAJORITY_PERMIT_EResolutionRule, F_m_eRule_w_OWNER_OVERRIDES, F_ordinal_w_OWNER_OVERRIDES_EResolutionRule, F_m_eRule_w_FULL_CONSENSUS_PERMIT, F_ordinal_w_FULL_CONSENSUS_PERMIT_EResolutionRule, F_m_eRule_w_MAJORITY_PERMIT, F_ordinal_w_SUPER_MAJORITY_PERMIT_EResolutionRule, F_m_eRule_w_STRONG_MAJORITY_PERMIT, F_ordinal_w_STRONG_MAJORITY_PERMIT_EResolutionRule, F_m_eRule_w_SUPER_MAJORITY_PERMIT, F_m_eRule_w_SOURCE, F_m_eRule_w_RESHARE_REFUSED, F_m_eRule_w_UNNAMED, F_m_eRule_w_NOT_VIEWER, F_m_eRule_w_NO_THRESHOLD, V_w_SVALUES⟩ := hE_
  obtain ⟨T1, X1, e1, st1⟩ := getF X0 hx hZ hown (host := "") (Or.inl (hw _ (List.mem_of_getElem? (i := 36) rfl))) Via.refl e0 (F_m_eRule_w_WEIGHTED_EReason.ext O0.2) (g := (mkF m 1 #[.val (.ref w_WEIGHTED_EReason)] [(.ref w_WEIGHTED_EReason)])) rfl rfl (hb hby d3_1)
  obtain ⟨fs, hr, hrun, hended, hW, hsame⟩ := X1.leave (v := some (.ref w_WEIGHTED)) (fun h => by rw [Bd.returns] at h; cases h)
  refine ⟨_, _, pre0 _ ?_, hrun, hended, _, _, rfl, ?_, ⟨_, rfl⟩, hW, hsame.mono (by decide) (by decide)⟩
  · show Steps p.tables e below (s₁.setTop (mkF m 0 #[.val (.ref w_WEIGHTED_EReason)] [])) _
    refine XS.aloadN X0.here hx rfl (hb hby d3_0) rfl rfl ?_
    show Steps p.tables e below (s₁.setTop (mkF m 1 #[.val (.ref w_WEIGHTED_EReason)] [(.ref w_WEIGHTED_EReason)])) _
    refine st1 _ ?_
    show Steps p.tables e below (T1.setTop (mkF m 4 #[.val (.ref w_WEIGHTED_EReason)] [(.ref w_WEIGHTED)])) _
    jvm_step X1.here [X1.here.top, hx, (hb hby d3_4), X1.method', Bd.returns, Value.isRef, FieldType.isReference]
    first | (intro acts; rw [hr _ acts rfl rfl rfl]) | rw [hr _ _ rfl rfl rfl]
    exact Steps.refl _
  · show Q_gr_WEIGHTED Z w_WEIGHTED w_WEIGHTED_EReason w_SVALUES w_CONTROLLER w_OWNER_OVERRIDES w_FULL_CONSENSUS_PERMIT w_MAJORITY_PERMIT w_STRONG_MAJORITY_PERMIT w_SUPER_MAJORITY_PERMIT w_SOURCE w_RESHARE_REFUSED w_UNNAMED w_NOT_VIEWER w_NO_THRESHOLD w_MAJORITY_PERMIT_EResolutionRule w_OWNER_OVERRIDES_EResolutionRule w_FULL_CONSENSUS_PERMIT_EResolutionRule w_SUPER_MAJORITY_PERMIT_EResolutionRule w_STRONG_MAJORITY_PERMIT_EResolutionRule kV h0 n0 _ T1.heap _
    rw [e1]
    exact ⟨rfl, N0, rfl⟩
theorem ef_fr_OWNER_OVERRIDES (m : MethodId) (w_OWNER_OVERRIDES_EResolutionRule : Addr) : entryFrame m #[(.ref w_OWNER_OVERRIDES_EResolutionRule)] 5 = mkF m 0 #[.val (.ref w_OWNER_OVERRIDES_EResolutionRule), .unset, .unset, .unset, .unset] [] := by first | (simp [entryFrame, mkF, argsToLocals, Value.category]; done) | rfl
def Q_fr_OWNER_OVERRIDES (Z : State) (w_WEIGHTED w_WEIGHTED_EReason w_SVALUES w_CONTROLLER w_OWNER_OVERRIDES w_FULL_CONSENSUS_PERMIT w_MAJORITY_PERMIT w_STRONG_MAJORITY_PERMIT w_SUPER_MAJORITY_PERMIT w_SOURCE w_RESHARE_REFUSED w_UNNAMED w_NOT_VIEWER w_NO_THRESHOLD w_MAJORITY_PERMIT_EResolutionRule w_OWNER_OVERRIDES_EResolutionRule w_FULL_CONSENSUS_PERMIT_EResolutionRule w_SUPER_MAJORITY_PERMIT_EResolutionRule w_STRONG_MAJORITY_PERMIT_EResolutionRule : Addr) (kV : ClassId) (h0 : Heap) (n0 : Nat) (v : Option Value) (h : Heap) (L : List Loc) : Prop := v = some (.ref w_OWNER_OVERRIDES) ∧ Fr n0 L ∧ Keep h0 h []
set_option maxRecDepth 65536 in
set_option maxHeartbeats 40000000 in
theorem fr_OWNER_OVERRIDES (l : Launch) (Z : State) (a0 : Array Value) (hw : ∀ d ∈ tables_1, d.before a0 Z = true) (ws : List Jvm.Cond) (w_WEIGHTED w_WEIGHTED_EReason w_SVALUES w_CONTROLLER w_OWNER_OVERRIDES w_FULL_CONSENSUS_PERMIT w_MAJORITY_PERMIT w_STRONG_MAJORITY_PERMIT w_SUPER_MAJORITY_PERMIT w_SOURCE w_RESHARE_REFUSED w_UNNAMED w_NOT_VIEWER w_NO_THRESHOLD w_MAJORITY_PERMIT_EResolutionRule w_OWNER_OVERRIDES_EResolutionRule w_FULL_CONSENSUS_PERMIT_EResolutionRule w_SUPER_MAJORITY_PERMIT_EResolutionRule w_STRONG_MAJORITY_PERMIT_EResolutionRule : Addr) (kV : ClassId) (h0 : Heap) (n0 : Nat) (O0 : Old Z n0 h0) (hE : OwnEnv Z w_WEIGHTED w_WEIGHTED_EReason w_SVALUES w_CONTROLLER w_OWNER_OVERRIDES w_FULL_CONSENSUS_PERMIT w_MAJORITY_PERMIT w_STRONG_MAJORITY_PERMIT w_SUPER_MAJORITY_PERMIT w_SOURCE w_RESHARE_REFUSED w_UNNAMED w_NOT_VIEWER w_NO_THRESHOLD w_MAJORITY_PERMIT_EResolutionRule w_OWNER_OVERRIDES_EResolutionRule w_FULL_CONSENSUS_PERMIT_EResolutionRule w_SUPER_MAJORITY_PERMIT_EResolutionRule w_STRONG_MAJORITY_PERMIT_EResolutionRule kV) :
    MetFree l (⟨"com/example/kindred_consent/kindredconsent/engine/EReason", "forRule", "(Lcom/example/kindred_consent/kindredconsent/model/EResolutionRule;)Lcom/example/kindred_consent/kindredconsent/engine/EReason;"⟩ : MethodName) (head1 (Jvm.Cond.code (⟨"com/example/kindred_consent/kindredconsent/engine/EReason", "forRule", "(Lcom/example/kindred_consent/kindredconsent/model/EResolutionRule;)Lcom/example/kindred_consent/kindredconsent/engine/EReason;"⟩ : MethodName) prog_7_method_8_code 5 (some (.object "com/example/kindred_consent/kindredconsent/engine/EReason")) :: ws) ({ frames := 2, cells := 1, slots := 12, locals := 25 } : Room)) (fun a U => a = #[(.ref w_OWNER_OVERRIDES_EResolutionRule)] ∧ Z.Warmed39 U.vm ∧ U.heap = h0) (fun _ _ _ _ _ => True) (fun _ U o U' => ∃ v L, o = .returned v ∧ Q_fr_OWNER_OVERRIDES Z w_WEIGHTED w_WEIGHTED_EReason w_SVALUES w_CONTROLLER w_OWNER_OVERRIDES w_FULL_CONSENSUS_PERMIT w_MAJORITY_PERMIT w_STRONG_MAJORITY_PERMIT w_SUPER_MAJORITY_PERMIT w_SOURCE w_RESHARE_REFUSED w_UNNAMED w_NOT_VIEWER w_NO_THRESHOLD w_MAJORITY_PERMIT_EResolutionRule w_OWNER_OVERRIDES_EResolutionRule w_FULL_CONSENSUS_PERMIT_EResolutionRule w_SUPER_MAJORITY_PERMIT_EResolutionRule w_STRONG_MAJORITY_PERMIT_EResolutionRule kV h0 n0 v U'.heap L ∧ FrameEnd U o U' L ({ frames := 2, cells := 1, slots := 12, locals := 25 } : Room).cells ({ frames := 2, cells := 1, slots := 12, locals := 25 } : Room).slots) := by
  refine MetFree.of_bodySF (plainFor_of_name pn_com_example_kindred_consent_kindredconsent_engine_EReason) hisR ?_
  intro p e s m args below meth c s₁ Bd hml0 hP hK
  obtain ⟨rfl, hZ, hh⟩ := hP
  have hx := Bd.exec
  have hby := Bd.bytes
  have hml : c.maxLocals = 5 := hml0
  have hown : s.vm.findClass "com/example/kindred_consent/kindredconsent/engine/EReason" = some m.cls := findClass_of_methodNamed Bd.named
  have hnm := (name_of_methodNamed Bd.named Bd.method).1
  have X0 : Stand p l e ({ frames := 2, cells := 1, slots := 12, locals := 25 } : Room) s m #[(.ref w_OWNER_OVERRIDES_EResolutionRule)] below meth c s₁ [] 0 0 := Stand.of_body Bd
  have e0 : s₁.heap = h0 := by rw [← hh, Bd.state]; rfl
  have N0 := Fr.nil n0
  have pre0 : ∀ t, Steps p.tables e below (s₁.setTop (mkF m 0 #[.val (.ref w_OWNER_OVERRIDES_EResolutionRule), .unset, .unset, .unset, .unset] [])) t → Steps p.tables e below (s₁.setTop (entryFrame m #[(.ref w_OWNER_OVERRIDES_EResolutionRule)] 5)) t := fun t k => castTop (ef_fr_OWNER_OVERRIDES m w_OWNER_OVERRIDES_EResolutionRule) k
  have hE_ := hE; obtain ⟨S_w_WEIGHTED, E_w_WEIGHTED, S_w_WEIGHTED_EReason, E_w_WEIGHTED_EReason, S_w_SVALUES, E_w_SVALUES, S_w_CONTROLLER, E_w_CONTROLLER, S_w_OWNER_OVERRIDES, E_w_OWNER_OVERRIDES, S_w_FULL_CONSENSUS_PERMIT, E_w_FULL_CONSENSUS_PERMIT, S_w_MAJORITY_PERMIT, E_w_MAJORITY_PERMIT, S_w_STRONG_MAJORITY_PERMIT, E_w_STRONG_MAJORITY_PERMIT, S_w_SUPER_MAJORITY_PERMIT, E_w_SUPER_MAJORITY_PERMIT, S_w_SOURCE, E_w_SOURCE, S_w_RESHARE_REFUSED, E_w_RESHARE_REFUSED, S_w_UNNAMED, E_w_UNNAMED, S_w_NOT_VIEWER, E_w_NOT_VIEWER, S_w_NO_THRESHOLD, E_w_NO_THRESHOLD, S_w_MAJORITY_PERMIT_EResolutionRule, E_w_MAJORITY_PERMIT_EResolutionRule, S_w_OWNER_OVERRIDES_EResolutionRule, E_w_OWNER_OVERRIDES_EResolutionRule, S_w_FULL_CONSENSUS_PERMIT_EResolutionRule, E_w_FULL_CONSENSUS_PERMIT_EResolutionRule, S_w_SUPER_MAJORITY_PERMIT_EResolutionRule, E_w_SUPER_MAJORITY_PERMIT_EResolutionRule, S_w_STRONG_MAJORITY_PERMIT_EResolutionRule, E_w_STRONG_MAJORITY_PERMIT_EResolutionRule, F_m_eRule_w_CONTROLLER, F_m_eRule_w_WEIGHTED_EReason, F_ordinal_w_WEIGHTED, F_ordinal_w_MAJORITY_PERMIT_EResolutionRule, F_m_eRule_w_OWNER_OVERRIDES, F_ordinal_w_OWNER_OVERRIDES_EResolutionRule, F_m_eRule_w_FULL_CONSENSUS_PERMIT, F_ordinal_w_FULL_CONSENSUS_PERMIT_EResolutionRule, F_m_eRule_w_MAJORITY_PERMIT, F_ordinal_w_SUPER_MAJORITY_PERMIT_EResolutionRule, F_m_eRule_w_STRONG_MAJORITY_PERMIT, F_ordinal_w_STRONG_MAJORITY_PERMIT_EResolutionRule, F_m_eRule_w_SUPER_MAJORITY_PERMIT, F_m_eRule_w_SOURCE, F_m_eRule_w_RESHARE_REFUSED, F_m_eRule_w_UNNAMED, F_m_eRule_w_NOT_VIEWER, F_m_eRule_w_NO_THRESHOLD, V_w_SVALUES⟩ := hE_
  obtain ⟨_, _, ⟨T1, L1, k1, n1⟩, -, X1, ⟨Lc1, hQ1, l1, y1, z1⟩, st1⟩ := Jvm.LawKit.callS X0 hx (y := (⟨"com/example/kindred_consent/kindredconsent/engine/EReason", "values", "()[Lcom/example/kindred_consent/kindredconsent/engine/EReason;"⟩ : MethodName)) hown (mvT hZ (hw _ (List.mem_of_getElem? (i := 10) rfl))) (mvT hZ (hw _ (List.mem_of_getElem? (i := 11) rfl))) (mvT hZ (hw _ (List.mem_of_getElem? (i := 5) rfl))) (mvT hZ (hw _ (List.mem_of_getElem? (i := 12) rfl))) (by decide) (backOf (W := 0) (vals l Z a0 hw [] w_WEIGHTED w_WEIGHTED_EReason w_SVALUES w_CONTROLLER w_OWNER_OVERRIDES w_FULL_CONSENSUS_PERMIT w_MAJORITY_PERMIT w_STRONG_MAJORITY_PERMIT w_SUPER_MAJORITY_PERMIT w_SOURCE w_RESHARE_REFUSED w_UNNAMED w_NOT_VIEWER w_NO_THRESHOLD w_MAJORITY_PERMIT_EResolutionRule w_OWNER_OVERRIDES_EResolutionRule w_FULL_CONSENSUS_PERMIT_EResolutionRule w_SUPER_MAJORITY_PERMIT_EResolutionRule w_STRONG_MAJORITY_PERMIT_EResolutionRule kV h0 n0 O0 hE) hZ (hw _ (List.mem_of_getElem? (i := 12) rfl)) (hw _ (List.mem_of_getElem? (i := 5) rfl)) (by decide) (by decide)) (g := (mkF m 0 #[.val (.ref w_OWNER_OVERRIDES_EResolutionRule), .unset, .unset, .unset, .unset] [])) rfl (by rw [hml]; rfl) (argsL := []) (rest := []) (lenOf pd____Lcom_example_kindred_consent_kindredconsent_engine_EReason_ rfl) rfl (by show 2 * 0 + _ ≤ _; exact Nat.le_of_eq rfl) (hb hby d1_0) (fun _ _ => ⟨rfl, e0, (by decide : 0 + 1 ≤ _), (by decide : 0 + 12 ≤ _)⟩)
  dsimp only [Pt.U, Pt.locs, Pt.cells, Pt.slots] at X1 l1 y1 z1 st1 hQ1
  subst l1 y1 z1
  obtain ⟨bo1, rfl, Nq1, Kq1, g_1, Va1⟩ := hQ1
  have N1 := Fr.app N0 Nq1
  have O1 := O0.keep Kq1 all0
  have K1 : Keep h0 T1.heap [] := (Keep.refl h0 []).trans Kq1 all0
  have Vc2 := Va1
  obtain ⟨cl2, Ar2, qa2, Sz2, Nn2, Ha2, Ga2⟩ := Vc2
  have Vc3 := Va1
  obtain ⟨cl3, Ar3, qa3, Sz3, Nn3, Ha3, Ga3⟩ := Vc3
  have hin3 : ¬ ((0 : Int32) < 0 ∨ cl3.slots.size ≤ ((0 : Int32)).toNatClampNeg) := inb_of Sz3 ⟨by decide, by decide⟩
  have hat3 : cl3.slots[((0 : Int32)).toNatClampNeg]? = some (.ref w_CONTROLLER) := Has.at Ha3 hin3 rfl
  obtain ⟨T4, X4, e4, st4⟩ := getF X1 hx hZ hown (host := "") (Or.inl (hw _ (List.mem_of_getElem? (i := 36) rfl))) Via.refl rfl (F_m_eRule_w_CONTROLLER.ext O1.2) (g := (mkF m 21 #[.val (.ref w_OWNER_OVERRIDES_EResolutionRule), .val (.ref bo1), .val (.int (12 : Int32)), .val (.int (0 : Int32)), .val (.ref w_CONTROLLER)] [(.ref w_CONTROLLER)])) rfl rfl (hb hby d1_21)
  have Vc5 := Va1
  obtain ⟨cl5, Ar5, qa5, Sz5, Nn5, Ha5, Ga5⟩ := Vc5
  have hin5 : ¬ ((1 : Int32) < 0 ∨ cl5.slots.size ≤ ((1 : Int32)).toNatClampNeg) := inb_of Sz5 ⟨by decide, by decide⟩
  have hat5 : cl5.slots[((1 : Int32)).toNatClampNeg]? = some (.ref w_WEIGHTED_EReason) := Has.at Ha5 hin5 rfl
  obtain ⟨T6, X6, e6, st6⟩ := getF X4 hx hZ hown (host := "") (Or.inl (hw _ (List.mem_of_getElem? (i := 36) rfl))) Via.refl e4 (F_m_eRule_w_WEIGHTED_EReason.ext O1.2) (g := (mkF m 21 #[.val (.ref w_OWNER_OVERRIDES_EResolutionRule), .val (.ref bo1), .val (.int (12 : Int32)), .val (.int (1 : Int32)), .val (.ref w_WEIGHTED_EReason)] [(.ref w_WEIGHTED_EReason)])) rfl rfl (hb hby d1_21)
  have Vc7 := Va1
  obtain ⟨cl7, Ar7, qa7, Sz7, Nn7, Ha7, Ga7⟩ := Vc7
  have hin7 : ¬ ((2 : Int32) < 0 ∨ cl7.slots.size ≤ ((2 : Int32)).toNatClampNeg) := inb_of Sz7 ⟨by decide, by decide⟩
  have hat7 : cl7.slots[((2 : Int32)).toNatClampNeg]? = some (.ref w_OWNER_OVERRIDES) := Has.at Ha7 hin7 rfl
  obtain ⟨T8, X8, e8, st8⟩ := getF X6 hx hZ hown (host := "") (Or.inl (hw _ (List.mem_of_getElem? (i := 36) rfl))) Via.refl e6 (F_m_eRule_w_OWNER_OVERRIDES.ext O1.2) (g := (mkF m 21 #[.val (.ref w_OWNER_OVERRIDES_EResolutionRule), .val (.ref bo1), .val (.int (12 : Int32)), .val (.int (2 : Int32)), .val (.ref w_OWNER_OVERRIDES)] [(.ref w_OWNER_OVERRIDES)])) rfl rfl (hb hby d1_21)
  obtain ⟨fs, hr, hrun, hended, hW, hsame⟩ := X8.leave (v := some (.ref w_OWNER_OVERRIDES)) (fun h => by rw [Bd.returns] at h; cases h)
  refine ⟨_, _, pre0 _ ?_, hrun, hended, _, _, rfl, ?_, ⟨_, rfl⟩, hW, hsame.mono (by decide) (by decide)⟩
  · show Steps p.tables e below (s₁.setTop (mkF m 0 #[.val (.ref w_OWNER_OVERRIDES_EResolutionRule), .unset, .unset, .unset, .unset] [])) _
    refine st1 _ ?_
    show Steps p.tables e below (T1.setTop (mkF m 3 #[.val (.ref w_OWNER_OVERRIDES_EResolutionRule), .unset, .unset, .unset, .unset] [(.ref bo1)])) _
    refine XS.astoreN X1.here hx rfl (hb hby d1_3) rfl rfl (l' := #[.val (.ref w_OWNER_OVERRIDES_EResolutionRule), .val (.ref bo1), .unset, .unset, .unset]) rfl ?_
    show Steps p.tables e below (T1.setTop (mkF m 4 #[.val (.ref w_OWNER_OVERRIDES_EResolutionRule), .val (.ref bo1), .unset, .unset, .unset] [])) _
    refine XS.aloadN X1.here hx rfl (hb hby d1_4) rfl rfl ?_
    show Steps p.tables e below (T1.setTop (mkF m 5 #[.val (.ref w_OWNER_OVERRIDES_EResolutionRule), .val (.ref bo1), .unset, .unset, .unset] [(.ref bo1)])) _
    refine X1.arraylength hx Ar2.1 (State.isArrayOf_alike hZ.alike Ar2.2.1) (g := (mkF m 5 #[.val (.ref w_OWNER_OVERRIDES_EResolutionRule), .val (.ref bo1), .unset, .unset, .unset] [(.ref bo1)])) rfl rfl (hb hby d1_5) _ ?_
    rw [len_of Sz2 Nn2]
    show Steps p.tables e below (T1.setTop (mkF m 6 #[.val (.ref w_OWNER_OVERRIDES_EResolutionRule), .val (.ref bo1), .unset, .unset, .unset] [(.int (12 : Int32))])) _
    refine XS.istoreN X1.here hx rfl (hb hby d1_6) rfl (l' := #[.val (.ref w_OWNER_OVERRIDES_EResolutionRule), .val (.ref bo1), .val (.int (12 : Int32)), .unset, .unset]) rfl ?_
    show Steps p.tables e below (T1.setTop (mkF m 7 #[.val (.ref w_OWNER_OVERRIDES_EResolutionRule), .val (.ref bo1), .val (.int (12 : Int32)), .unset, .unset] [])) _
    refine XS.iconst X1.here hx rfl (hb hby d1_7) ?_
    show Steps p.tables e below (T1.setTop (mkF m 8 #[.val (.ref w_OWNER_OVERRIDES_EResolutionRule), .val (.ref bo1), .val (.int (12 : Int32)), .unset, .unset] [(.int (0 : Int32))])) _
    refine XS.istoreN X1.here hx rfl (hb hby d1_8) rfl (l' := #[.val (.ref w_OWNER_OVERRIDES_EResolutionRule), .val (.ref bo1), .val (.int (12 : Int32)), .val (.int (0 : Int32)), .unset]) rfl ?_
    show Steps p.tables e below (T1.setTop (mkF m 9 #[.val (.ref w_OWNER_OVERRIDES_EResolutionRule), .val (.ref bo1), .val (.int (12 : Int32)), .val (.int (0 : Int32)), .unset] [])) _
    refine XS.iloadN X1.here hx rfl (hb hby d1_9) rfl ?_
    show Steps p.tables e below (T1.setTop (mkF m 10 #[.val (.ref w_OWNER_OVERRIDES_EResolutionRule), .val (.ref bo1), .val (.int (12 : Int32)), .val (.int (0 : Int32)), .unset] [(.int (0 : Int32))])) _
    refine XS.iloadN X1.here hx rfl (hb hby d1_10) rfl ?_
    show Steps p.tables e below (T1.setTop (mkF m 11 #[.val (.ref w_OWNER_OVERRIDES_EResolutionRule), .val (.ref bo1), .val (.int (12 : Int32)), .val (.int (0 : Int32)), .unset] [(.int (12 : Int32)), (.int (0 : Int32))])) _
    refine XS.icmpNo X1.here hx rfl (hb hby d1_11) rfl (tlt (by decide : (0 : Int32) < (12 : Int32))).2.1 ?_
    show Steps p.tables e below (T1.setTop (mkF m 14 #[.val (.ref w_OWNER_OVERRIDES_EResolutionRule), .val (.ref bo1), .val (.int (12 : Int32)), .val (.int (0 : Int32)), .unset] [])) _
    refine XS.aloadN X1.here hx rfl (hb hby d1_14) rfl rfl ?_
    show Steps p.tables e below (T1.setTop (mkF m 15 #[.val (.ref w_OWNER_OVERRIDES_EResolutionRule), .val (.ref bo1), .val (.int (12 : Int32)), .val (.int (0 : Int32)), .unset] [(.ref bo1)])) _
    refine XS.iloadN X1.here hx rfl (hb hby d1_15) rfl ?_
    show Steps p.tables e below (T1.setTop (mkF m 16 #[.val (.ref w_OWNER_OVERRIDES_EResolutionRule), .val (.ref bo1), .val (.int (12 : Int32)), .val (.int (0 : Int32)), .unset] [(.int (0 : Int32)), (.ref bo1)])) _
    refine X1.aaload hx (j := (0 : Int32)) (v := (.ref w_CONTROLLER)) Ar3.1 (State.isArrayOf_alike hZ.alike Ar3.2.1) rfl Ar3.2.2 hin3 hat3 (g := (mkF m 16 #[.val (.ref w_OWNER_OVERRIDES_EResolutionRule), .val (.ref bo1), .val (.int (12 : Int32)), .val (.int (0 : Int32)), .unset] [(.int (0 : Int32)), (.ref bo1)])) rfl rfl (hb hby d1_16) _ ?_
    show Steps p.tables e below (T1.setTop (mkF m 17 #[.val (.ref w_OWNER_OVERRIDES_EResolutionRule), .val (.ref bo1), .val (.int (12 : Int32)), .val (.int (0 : Int32)), .unset] [(.ref w_CONTROLLER)])) _
    refine XS.astore X1.here hx rfl (hb hby d1_17) rfl rfl (l' := #[.val (.ref w_OWNER_OVERRIDES_EResolutionRule), .val (.ref bo1), .val (.int (12 : Int32)), .val (.int (0 : Int32)), .val (.ref w_CONTROLLER)]) rfl ?_
    show Steps p.tables e below (T1.setTop (mkF m 19 #[.val (.ref w_OWNER_OVERRIDES_EResolutionRule), .val (.ref bo1), .val (.int (12 : Int32)), .val (.int (0 : Int32)), .val (.ref w_CONTROLLER)] [])) _
    refine XS.aload X1.here hx rfl (hb hby d1_19) rfl rfl ?_
    show Steps p.tables e below (T1.setTop (mkF m 21 #[.val (.ref w_OWNER_OVERRIDES_EResolutionRule), .val (.ref bo1), .val (.int (12 : Int32)), .val (.int (0 : Int32)), .val (.ref w_CONTROLLER)] [(.ref w_CONTROLLER)])) _
    refine st4 _ ?_
    show Steps p.tables e below (T4.setTop (mkF m 24 #[.val (.ref w_OWNER_OVERRIDES_EResolutionRule), .val (.ref bo1), .val (.int (12 : Int32)), .val (.int (0 : Int32)), .val (.ref w_CONTROLLER)] [.null])) _
    refine XS.aloadN X4.here hx rfl (hb hby d1_24) rfl rfl ?_
    show Steps p.tables e below (T4.setTop (mkF m 25 #[.val (.ref w_OWNER_OVERRIDES_EResolutionRule), .val (.ref bo1), .val (.int (12 : Int32)), .val (.int (0 : Int32)), .val (.ref w_CONTROLLER)] [(.ref w_OWNER_OVERRIDES_EResolutionRule), .null])) _
    refine Jvm.RoadKit.acmp (g := (mkF m 25 #[.val (.ref w_OWNER_OVERRIDES_EResolutionRule), .val (.ref bo1), .val (.int (12 : Int32)), .val (.int (0 : Int32)), .val (.ref w_CONTROLLER)] [(.ref w_OWNER_OVERRIDES_EResolutionRule), .null])) X4 hx rfl rfl rfl (pc0 := 25) (pc' := 31) (same := false) rfl (hb hby d1_25) rfl (decide_eq_false nofun) (by decide) (by decide) ?_
    show Steps p.tables e below (T4.setTop (mkF m 31 #[.val (.ref w_OWNER_OVERRIDES_EResolutionRule), .val (.ref bo1), .val (.int (12 : Int32)), .val (.int (0 : Int32)), .val (.ref w_CONTROLLER)] [])) _
    refine XS.iinc X4.here hx rfl (hb hby d1_31) rfl (l' := #[.val (.ref w_OWNER_OVERRIDES_EResolutionRule), .val (.ref bo1), .val (.int (12 : Int32)), .val (.int (1 : Int32)), .val (.ref w_CONTROLLER)]) rfl ?_
    show Steps p.tables e below (T4.setTop (mkF m 34 #[.val (.ref w_OWNER_OVERRIDES_EResolutionRule), .val (.ref bo1), .val (.int (12 : Int32)), .val (.int (1 : Int32)), .val (.ref w_CONTROLLER)] [])) _
    refine XS.goto X4.here hx rfl (pc0 := 34) (pc' := 9) rfl (hb hby d1_34) (by decide) (by decide) ?_
    show Steps p.tables e below (T4.setTop (mkF m 9 #[.val (.ref w_OWNER_OVERRIDES_EResolutionRule), .val (.ref bo1), .val (.int (12 : Int32)), .val (.int (1 : Int32)), .val (.ref w_CONTROLLER)] [])) _
    refine XS.iloadN X4.here hx rfl (hb hby d1_9) rfl ?_
    show Steps p.tables e below (T4.setTop (mkF m 10 #[.val (.ref w_OWNER_OVERRIDES_EResolutionRule), .val (.ref bo1), .val (.int (12 : Int32)), .val (.int (1 : Int32)), .val (.ref w_CONTROLLER)] [(.int (1 : Int32))])) _
    refine XS.iloadN X4.here hx rfl (hb hby d1_10) rfl ?_
    show Steps p.tables e below (T4.setTop (mkF m 11 #[.val (.ref w_OWNER_OVERRIDES_EResolutionRule), .val (.ref bo1), .val (.int (12 : Int32)), .val (.int (1 : Int32)), .val (.ref w_CONTROLLER)] [(.int (12 : Int32)), (.int (1 : Int32))])) _
    refine XS.icmpNo X4.here hx rfl (hb hby d1_11) rfl (tlt (by decide : (1 : Int32) < (12 : Int32))).2.1 ?_
    show Steps p.tables e below (T4.setTop (mkF m 14 #[.val (.ref w_OWNER_OVERRIDES_EResolutionRule), .val (.ref bo1), .val (.int (12 : Int32)), .val (.int (1 : Int32)), .val (.ref w_CONTROLLER)] [])) _
    refine XS.aloadN X4.here hx rfl (hb hby d1_14) rfl rfl ?_
    show Steps p.tables e below (T4.setTop (mkF m 15 #[.val (.ref w_OWNER_OVERRIDES_EResolutionRule), .val (.ref bo1), .val (.int (12 : Int32)), .val (.int (1 : Int32)), .val (.ref w_CONTROLLER)] [(.ref bo1)])) _
    refine XS.iloadN X4.here hx rfl (hb hby d1_15) rfl ?_
    show Steps p.tables e below (T4.setTop (mkF m 16 #[.val (.ref w_OWNER_OVERRIDES_EResolutionRule), .val (.ref bo1), .val (.int (12 : Int32)), .val (.int (1 : Int32)), .val (.ref w_CONTROLLER)] [(.int (1 : Int32)), (.ref bo1)])) _
    refine X4.aaload hx (j := (1 : Int32)) (v := (.ref w_WEIGHTED_EReason)) (by rw [e4]; exact Ar5.1) (State.isArrayOf_alike hZ.alike Ar5.2.1) rfl Ar5.2.2 hin5 hat5 (g := (mkF m 16 #[.val (.ref w_OWNER_OVERRIDES_EResolutionRule), .val (.ref bo1), .val (.int (12 : Int32)), .val (.int (1 : Int32)), .val (.ref w_CONTROLLER)] [(.int (1 : Int32)), (.ref bo1)])) rfl rfl (hb hby d1_16) _ ?_
    show Steps p.tables e below (T4.setTop (mkF m 17 #[.val (.ref w_OWNER_OVERRIDES_EResolutionRule), .val (.ref bo1), .val (.int (12 : Int32)), .val (.int (1 : Int32)), .val (.ref w_CONTROLLER)] [(.ref w_WEIGHTED_EReason)])) _
    refine XS.astore X4.here hx rfl (hb hby d1_17) rfl rfl (l' := #[.val (.ref w_OWNER_OVERRIDES_EResolutionRule), .val (.ref bo1), .val (.int (12 : Int32)), .val (.int (1 : Int32)), .val (.ref w_WEIGHTED_EReason)]) rfl ?_
    show Steps p.tables e below (T4.setTop (mkF m 19 #[.val (.ref w_OWNER_OVERRIDES_EResolutionRule), .val (.ref bo1), .val (.int (12 : Int32)), .val (.int (1 : Int32)), .val (.ref w_WEIGHTED_EReason)] [])) _
    refine XS.aload X4.here hx rfl (hb hby d1_19) rfl rfl ?_
    show Steps p.tables e below (T4.setTop (mkF m 21 #[.val (.ref w_OWNER_OVERRIDES_EResolutionRule), .val (.ref bo1), .val (.int (12 : Int32)), .val (.int (1 : Int32)), .val (.ref w_WEIGHTED_EReason)] [(.ref w_WEIGHTED_EReason)])) _
    refine st6 _ ?_
    show Steps p.tables e below (T6.setTop (mkF m 24 #[.val (.ref w_OWNER_OVERRIDES_EResolutionRule), .val (.ref bo1), .val (.int (12 : Int32)), .val (.int (1 : Int32)), .val (.ref w_WEIGHTED_EReason)] [(.ref w_WEIGHTED)])) _
    refine XS.aloadN X6.here hx rfl (hb hby d1_24) rfl rfl ?_
    show Steps p.tables e below (T6.setTop (mkF m 25 #[.val (.ref w_OWNER_OVERRIDES_EResolutionRule), .val (.ref bo1), .val (.int (12 : Int32)), .val (.int (1 : Int32)), .val (.ref w_WEIGHTED_EReason)] [(.ref w_OWNER_OVERRIDES_EResolutionRule), (.ref w_WEIGHTED)])) _
    refine Jvm.RoadKit.acmp (g := (mkF m 25 #[.val (.ref w_OWNER_OVERRIDES_EResolutionRule), .val (.ref bo1), .val (.int (12 : Int32)), .val (.int (1 : Int32)), .val (.ref w_WEIGHTED_EReason)] [(.ref w_OWNER_OVERRIDES_EResolutionRule), (.ref w_WEIGHTED)])) X6 hx rfl rfl rfl (pc0 := 25) (pc' := 31) (same := false) rfl (hb hby d1_25) rfl (decide_eq_false fun q => (Fld.ne F_ordinal_w_WEIGHTED F_ordinal_w_OWNER_OVERRIDES_EResolutionRule (by decide)) (Value.ref.inj q)) (by decide) (by decide) ?_
    show Steps p.tables e below (T6.setTop (mkF m 31 #[.val (.ref w_OWNER_OVERRIDES_EResolutionRule), .val (.ref bo1), .val (.int (12 : Int32)), .val (.int (1 : Int32)), .val (.ref w_WEIGHTED_EReason)] [])) _
    refine XS.iinc X6.here hx rfl (hb hby d1_31) rfl (l' := #[.val (.ref w_OWNER_OVERRIDES_EResolutionRule), .val (.ref bo1), .val (.int (12 : Int32)), .val (.int (2 : Int32)), .val (.ref w_WEIGHTED_EReason)]) rfl ?_
    show Steps p.tables e below (T6.setTop (mkF m 34 #[.val (.ref w_OWNER_OVERRIDES_EResolutionRule), .val (.ref bo1), .val (.int (12 : Int32)), .val (.int (2 : Int32)), .val (.ref w_WEIGHTED_EReason)] [])) _
    refine XS.goto X6.here hx rfl (pc0 := 34) (pc' := 9) rfl (hb hby d1_34) (by decide) (by decide) ?_
    show Steps p.tables e below (T6.setTop (mkF m 9 #[.val (.ref w_OWNER_OVERRIDES_EResolutionRule), .val (.ref bo1), .val (.int (12 : Int32)), .val (.int (2 : Int32)), .val (.ref w_WEIGHTED_EReason)] [])) _
    refine XS.iloadN X6.here hx rfl (hb hby d1_9) rfl ?_
    show Steps p.tables e below (T6.setTop (mkF m 10 #[.val (.ref w_OWNER_OVERRIDES_EResolutionRule), .val (.ref bo1), .val (.int (12 : Int32)), .val (.int (2 : Int32)), .val (.ref w_WEIGHTED_EReason)] [(.int (2 : Int32))])) _
    refine XS.iloadN X6.here hx rfl (hb hby d1_10) rfl ?_
    show Steps p.tables e below (T6.setTop (mkF m 11 #[.val (.ref w_OWNER_OVERRIDES_EResolutionRule), .val (.ref bo1), .val (.int (12 : Int32)), .val (.int (2 : Int32)), .val (.ref w_WEIGHTED_EReason)] [(.int (12 : Int32)), (.int (2 : Int32))])) _
    refine XS.icmpNo X6.here hx rfl (hb hby d1_11) rfl (tlt (by decide : (2 : Int32) < (12 : Int32))).2.1 ?_
    show Steps p.tables e below (T6.setTop (mkF m 14 #[.val (.ref w_OWNER_OVERRIDES_EResolutionRule), .val (.ref bo1), .val (.int (12 : Int32)), .val (.int (2 : Int32)), .val (.ref w_WEIGHTED_EReason)] [])) _
    refine XS.aloadN X6.here hx rfl (hb hby d1_14) rfl rfl ?_
    show Steps p.tables e below (T6.setTop (mkF m 15 #[.val (.ref w_OWNER_OVERRIDES_EResolutionRule), .val (.ref bo1), .val (.int (12 : Int32)), .val (.int (2 : Int32)), .val (.ref w_WEIGHTED_EReason)] [(.ref bo1)])) _
    refine XS.iloadN X6.here hx rfl (hb hby d1_15) rfl ?_
    show Steps p.tables e below (T6.setTop (mkF m 16 #[.val (.ref w_OWNER_OVERRIDES_EResolutionRule), .val (.ref bo1), .val (.int (12 : Int32)), .val (.int (2 : Int32)), .val (.ref w_WEIGHTED_EReason)] [(.int (2 : Int32)), (.ref bo1)])) _
    refine X6.aaload hx (j := (2 : Int32)) (v := (.ref w_OWNER_OVERRIDES)) (by rw [e6]; exact Ar7.1) (State.isArrayOf_alike hZ.alike Ar7.2.1) rfl Ar7.2.2 hin7 hat7 (g := (mkF m 16 #[.val (.ref w_OWNER_OVERRIDES_EResolutionRule), .val (.ref bo1), .val (.int (12 : Int32)), .val (.int (2 : Int32)), .val (.ref w_WEIGHTED_EReason)] [(.int (2 : Int32)), (.ref bo1)])) rfl rfl (hb hby d1_16) _ ?_
    show Steps p.tables e below (T6.setTop (mkF m 17 #[.val (.ref w_OWNER_OVERRIDES_EResolutionRule), .val (.ref bo1), .val (.int (12 : Int32)), .val (.int (2 : Int32)), .val (.ref w_WEIGHTED_EReason)] [(.ref w_OWNER_OVERRIDES)])) _
    refine XS.astore X6.here hx rfl (hb hby d1_17) rfl rfl (l' := #[.val (.ref w_OWNER_OVERRIDES_EResolutionRule), .val (.ref bo1), .val (.int (12 : Int32)), .val (.int (2 : Int32)), .val (.ref w_OWNER_OVERRIDES)]) rfl ?_
    show Steps p.tables e below (T6.setTop (mkF m 19 #[.val (.ref w_OWNER_OVERRIDES_EResolutionRule), .val (.ref bo1), .val (.int (12 : Int32)), .val (.int (2 : Int32)), .val (.ref w_OWNER_OVERRIDES)] [])) _
    refine XS.aload X6.here hx rfl (hb hby d1_19) rfl rfl ?_
    show Steps p.tables e below (T6.setTop (mkF m 21 #[.val (.ref w_OWNER_OVERRIDES_EResolutionRule), .val (.ref bo1), .val (.int (12 : Int32)), .val (.int (2 : Int32)), .val (.ref w_OWNER_OVERRIDES)] [(.ref w_OWNER_OVERRIDES)])) _
    refine st8 _ ?_
    show Steps p.tables e below (T8.setTop (mkF m 24 #[.val (.ref w_OWNER_OVERRIDES_EResolutionRule), .val (.ref bo1), .val (.int (12 : Int32)), .val (.int (2 : Int32)), .val (.ref w_OWNER_OVERRIDES)] [(.ref w_OWNER_OVERRIDES_EResolutionRule)])) _
    refine XS.aloadN X8.here hx rfl (hb hby d1_24) rfl rfl ?_
    show Steps p.tables e below (T8.setTop (mkF m 25 #[.val (.ref w_OWNER_OVERRIDES_EResolutionRule), .val (.ref bo1), .val (.int (12 : Int32)), .val (.int (2 : Int32)), .val (.ref w_OWNER_OVERRIDES)] [(.ref w_OWNER_OVERRIDES_EResolutionRule), (.ref w_OWNER_OVERRIDES_EResolutionRule)])) _
    refine Jvm.RoadKit.acmp (g := (mkF m 25 #[.val (.ref w_OWNER_OVERRIDES_EResolutionRule), .val (.ref bo1), .val (.int (12 : Int32)), .val (.int (2 : Int32)), .val (.ref w_OWNER_OVERRIDES)] [(.ref w_OWNER_OVERRIDES_EResolutionRule), (.ref w_OWNER_OVERRIDES_EResolutionRule)])) X8 hx rfl rfl rfl (pc0 := 25) (pc' := 28) (same := true) rfl (hb hby d1_25) rfl (decide_eq_true (congrArg Value.ref (rfl : w_OWNER_OVERRIDES_EResolutionRule = w_OWNER_OVERRIDES_EResolutionRule))) (by decide) (by decide) ?_
    show Steps p.tables e below (T8.setTop (mkF m 28 #[.val (.ref w_OWNER_OVERRIDES_EResolutionRule), .val (.ref bo1), .val (.int (12 : Int32)), .val (.int (2 : Int32)), .val (.ref w_OWNER_OVERRIDES)] [])) _
    refine XS.aload X8.here hx rfl (hb hby d1_28) rfl rfl ?_
    show Steps p.tables e below (T8.setTop (mkF m 30 #[.val (.ref w_OWNER_OVERRIDES_EResolutionRule), .val (.ref bo1), .val (.int (12 : Int32)), .val (.int (2 : Int32)), .val (.ref w_OWNER_OVERRIDES)] [(.ref w_OWNER_OVERRIDES)])) _
    jvm_step X8.here [X8.here.top, hx, (hb hby d1_30), X8.method', Bd.returns, Value.isRef, FieldType.isReference]
    first | (intro acts; rw [hr _ acts rfl rfl rfl]) | rw [hr _ _ rfl rfl rfl]
    exact Steps.refl _
  · show Q_fr_OWNER_OVERRIDES Z w_WEIGHTED w_WEIGHTED_EReason w_SVALUES w_CONTROLLER w_OWNER_OVERRIDES w_FULL_CONSENSUS_PERMIT w_MAJORITY_PERMIT w_STRONG_MAJORITY_PERMIT w_SUPER_MAJORITY_PERMIT w_SOURCE w_RESHARE_REFUSED w_UNNAMED w_NOT_VIEWER w_NO_THRESHOLD w_MAJORITY_PERMIT_EResolutionRule w_OWNER_OVERRIDES_EResolutionRule w_FULL_CONSENSUS_PERMIT_EResolutionRule w_SUPER_MAJORITY_PERMIT_EResolutionRule w_STRONG_MAJORITY_PERMIT_EResolutionRule kV h0 n0 _ T8.heap _
    rw [e8]
    exact ⟨rfl, N1, K1⟩
theorem ef_gr_OWNER_OVERRIDES (m : MethodId) (w_OWNER_OVERRIDES : Addr) : entryFrame m #[(.ref w_OWNER_OVERRIDES)] 1 = mkF m 0 #[.val (.ref w_OWNER_OVERRIDES)] [] := by first | (simp [entryFrame, mkF, argsToLocals, Value.category]; done) | rfl
def Q_gr_OWNER_OVERRIDES (Z : State) (w_WEIGHTED w_WEIGHTED_EReason w_SVALUES w_CONTROLLER w_OWNER_OVERRIDES w_FULL_CONSENSUS_PERMIT w_MAJORITY_PERMIT w_STRONG_MAJORITY_PERMIT w_SUPER_MAJORITY_PERMIT w_SOURCE w_RESHARE_REFUSED w_UNNAMED w_NOT_VIEWER w_NO_THRESHOLD w_MAJORITY_PERMIT_EResolutionRule w_OWNER_OVERRIDES_EResolutionRule w_FULL_CONSENSUS_PERMIT_EResolutionRule w_SUPER_MAJORITY_PERMIT_EResolutionRule w_STRONG_MAJORITY_PERMIT_EResolutionRule : Addr) (kV : ClassId) (h0 : Heap) (n0 : Nat) (v : Option Value) (h : Heap) (L : List Loc) : Prop := v = some (.ref w_OWNER_OVERRIDES_EResolutionRule) ∧ Fr n0 L ∧ h = h0
set_option maxRecDepth 65536 in
set_option maxHeartbeats 40000000 in
theorem gr_OWNER_OVERRIDES (l : Launch) (Z : State) (a0 : Array Value) (hw : ∀ d ∈ tables_1, d.before a0 Z = true) (ws : List Jvm.Cond) (w_WEIGHTED w_WEIGHTED_EReason w_SVALUES w_CONTROLLER w_OWNER_OVERRIDES w_FULL_CONSENSUS_PERMIT w_MAJORITY_PERMIT w_STRONG_MAJORITY_PERMIT w_SUPER_MAJORITY_PERMIT w_SOURCE w_RESHARE_REFUSED w_UNNAMED w_NOT_VIEWER w_NO_THRESHOLD w_MAJORITY_PERMIT_EResolutionRule w_OWNER_OVERRIDES_EResolutionRule w_FULL_CONSENSUS_PERMIT_EResolutionRule w_SUPER_MAJORITY_PERMIT_EResolutionRule w_STRONG_MAJORITY_PERMIT_EResolutionRule : Addr) (kV : ClassId) (h0 : Heap) (n0 : Nat) (O0 : Old Z n0 h0) (hE : OwnEnv Z w_WEIGHTED w_WEIGHTED_EReason w_SVALUES w_CONTROLLER w_OWNER_OVERRIDES w_FULL_CONSENSUS_PERMIT w_MAJORITY_PERMIT w_STRONG_MAJORITY_PERMIT w_SUPER_MAJORITY_PERMIT w_SOURCE w_RESHARE_REFUSED w_UNNAMED w_NOT_VIEWER w_NO_THRESHOLD w_MAJORITY_PERMIT_EResolutionRule w_OWNER_OVERRIDES_EResolutionRule w_FULL_CONSENSUS_PERMIT_EResolutionRule w_SUPER_MAJORITY_PERMIT_EResolutionRule w_STRONG_MAJORITY_PERMIT_EResolutionRule kV) :
    MetFree l (⟨"com/example/kindred_consent/kindredconsent/engine/EReason", "getRule", "()Lcom/example/kindred_consent/kindredconsent/model/EResolutionRule;"⟩ : MethodName) (head1 (Jvm.Cond.code (⟨"com/example/kindred_consent/kindredconsent/engine/EReason", "getRule", "()Lcom/example/kindred_consent/kindredconsent/model/EResolutionRule;"⟩ : MethodName) prog_7_method_6_code 1 (some (.object "com/example/kindred_consent/kindredconsent/model/EResolutionRule")) :: ws) ({ frames := 0, cells := 0, slots := 0, locals := 0 } : Room)) (fun a U => a = #[(.ref w_OWNER_OVERRIDES)] ∧ Z.Warmed39 U.vm ∧ U.heap = h0) (fun _ _ _ _ _ => True) (fun _ U o U' => ∃ v L, o = .returned v ∧ Q_gr_OWNER_OVERRIDES Z w_WEIGHTED w_WEIGHTED_EReason w_SVALUES w_CONTROLLER w_OWNER_OVERRIDES w_FULL_CONSENSUS_PERMIT w_MAJORITY_PERMIT w_STRONG_MAJORITY_PERMIT w_SUPER_MAJORITY_PERMIT w_SOURCE w_RESHARE_REFUSED w_UNNAMED w_NOT_VIEWER w_NO_THRESHOLD w_MAJORITY_PERMIT_EResolutionRule w_OWNER_OVERRIDES_EResolutionRule w_FULL_CONSENSUS_PERMIT_EResolutionRule w_SUPER_MAJORITY_PERMIT_EResolutionRule w_STRONG_MAJORITY_PERMIT_EResolutionRule kV h0 n0 v U'.heap L ∧ FrameEnd U o U' L ({ frames := 0, cells := 0, slots := 0, locals := 0 } : Room).cells ({ frames := 0, cells := 0, slots := 0, locals := 0 } : Room).slots) := by
  refine MetFree.of_bodySF (plainFor_of_name pn_com_example_kindred_consent_kindredconsent_engine_EReason) hisR ?_
  intro p e s m args below meth c s₁ Bd hml0 hP hK
  obtain ⟨rfl, hZ, hh⟩ := hP
  have hx := Bd.exec
  have hby := Bd.bytes
  have hml : c.maxLocals = 1 := hml0
  have hown : s.vm.findClass "com/example/kindred_consent/kindredconsent/engine/EReason" = some m.cls := findClass_of_methodNamed Bd.named
  have hnm := (name_of_methodNamed Bd.named Bd.method).1
  have X0 : Stand p l e ({ frames := 0, cells := 0, slots := 0, locals := 0 } : Room) s m #[(.ref w_OWNER_OVERRIDES)] below meth c s₁ [] 0 0 := Stand.of_body Bd
  have e0 : s₁.heap = h0 := by rw [← hh, Bd.state]; rfl
  have N0 := Fr.nil n0
  have pre0 : ∀ t, Steps p.tables e below (s₁.setTop (mkF m 0 #[.val (.ref w_OWNER_OVERRIDES)] [])) t → Steps p.tables e below (s₁.setTop (entryFrame m #[(.ref w_OWNER_OVERRIDES)] 1)) t := fun t k => castTop (ef_gr_OWNER_OVERRIDES m w_OWNER_OVERRIDES) k
  have hE_ := hE; obtain ⟨S_w_WEIGHTED, E_w_WEIGHTED, S_w_WEIGHTED_EReason, E_w_WEIGHTED_EReason, S_w_SVALUES, E_w_SVALUES, S_w_CONTROLLER, E_w_CONTROLLER, S_w_OWNER_OVERRIDES, E_w_OWNER_OVERRIDES, S_w_FULL_CONSENSUS_PERMIT, E_w_FULL_CONSENSUS_PERMIT, S_w_MAJORITY_PERMIT, E_w_MAJORITY_PERMIT, S_w_STRONG_MAJORITY_PERMIT, E_w_STRONG_MAJORITY_PERMIT, S_w_SUPER_MAJORITY_PERMIT, E_w_SUPER_MAJORITY_PERMIT, S_w_SOURCE, E_w_SOURCE, S_w_RESHARE_REFUSED, E_w_RESHARE_REFUSED, S_w_UNNAMED, E_w_UNNAMED, S_w_NOT_VIEWER, E_w_NOT_VIEWER, S_w_NO_THRESHOLD, E_w_NO_THRESHOLD, S_w_MAJORITY_PERMIT_EResolutionRule, E_w_MAJORITY_PERMIT_EResolutionRule, S_w_OWNER_OVERRIDES_EResolutionRule, E_w_OWNER_OVERRIDES_EResolutionRule, S_w_FULL_CONSENSUS_PERMIT_EResolutionRule, E_w_FULL_CONSENSUS_PERMIT_EResolutionRule, S_w_SUPER_MAJORITY_PERMIT_EResolutionRule, E_w_SUPER_MAJORITY_PERMIT_EResolutionRule, S_w_STRONG_MAJORITY_PERMIT_EResolutionRule, E_w_STRONG_MAJORITY_PERMIT_EResolutionRule, F_m_eRule_w_CONTROLLER, F_m_eRule_w_WEIGHTED_EReason, F_ordinal_w_WEIGHTED, F_ordinal_w_MAJORITY_PERMIT_EResolutionRule, F_m_eRule_w_OWNER_OVERRIDES, F_ordinal_w_OWNER_OVERRIDES_EResolutionRule, F_m_eRule_w_FULL_CONSENSUS_PERMIT, F_ordinal_w_FULL_CONSENSUS_PERMIT_EResolutionRule, F_m_eRule_w_MAJORITY_PERMIT, F_ordinal_w_SUPER_MAJORITY_PERMIT_EResolutionRule, F_m_eRule_w_STRONG_MAJORITY_PERMIT, F_ordinal_w_STRONG_MAJORITY_PERMIT_EResolutionRule, F_m_eRule_w_SUPER_MAJORITY_PERMIT, F_m_eRule_w_SOURCE, F_m_eRule_w_RESHARE_REFUSED, F_m_eRule_w_UNNAMED, F_m_eRule_w_NOT_VIEWER, F_m_eRule_w_NO_THRESHOLD, V_w_SVALUES⟩ := hE_
  obtain ⟨T1, X1, e1, st1⟩ := getF X0 hx hZ hown (host := "") (Or.inl (hw _ (List.mem_of_getElem? (i := 36) rfl))) Via.refl e0 (F_m_eRule_w_OWNER_OVERRIDES.ext O0.2) (g := (mkF m 1 #[.val (.ref w_OWNER_OVERRIDES)] [(.ref w_OWNER_OVERRIDES)])) rfl rfl (hb hby d3_1)
  obtain ⟨fs, hr, hrun, hended, hW, hsame⟩ := X1.leave (v := some (.ref w_OWNER_OVERRIDES_EResolutionRule)) (fun h => by rw [Bd.returns] at h; cases h)
  refine ⟨_, _, pre0 _ ?_, hrun, hended, _, _, rfl, ?_, ⟨_, rfl⟩, hW, hsame.mono (by decide) (by decide)⟩
  · show Steps p.tables e below (s₁.setTop (mkF m 0 #[.val (.ref w_OWNER_OVERRIDES)] [])) _
    refine XS.aloadN X0.here hx rfl (hb hby d3_0) rfl rfl ?_
    show Steps p.tables e below (s₁.setTop (mkF m 1 #[.val (.ref w_OWNER_OVERRIDES)] [(.ref w_OWNER_OVERRIDES)])) _
    refine st1 _ ?_
    show Steps p.tables e below (T1.setTop (mkF m 4 #[.val (.ref w_OWNER_OVERRIDES)] [(.ref w_OWNER_OVERRIDES_EResolutionRule)])) _
    jvm_step X1.here [X1.here.top, hx, (hb hby d3_4), X1.method', Bd.returns, Value.isRef, FieldType.isReference]
    first | (intro acts; rw [hr _ acts rfl rfl rfl]) | rw [hr _ _ rfl rfl rfl]
    exact Steps.refl _
  · show Q_gr_OWNER_OVERRIDES Z w_WEIGHTED w_WEIGHTED_EReason w_SVALUES w_CONTROLLER w_OWNER_OVERRIDES w_FULL_CONSENSUS_PERMIT w_MAJORITY_PERMIT w_STRONG_MAJORITY_PERMIT w_SUPER_MAJORITY_PERMIT w_SOURCE w_RESHARE_REFUSED w_UNNAMED w_NOT_VIEWER w_NO_THRESHOLD w_MAJORITY_PERMIT_EResolutionRule w_OWNER_OVERRIDES_EResolutionRule w_FULL_CONSENSUS_PERMIT_EResolutionRule w_SUPER_MAJORITY_PERMIT_EResolutionRule w_STRONG_MAJORITY_PERMIT_EResolutionRule kV h0 n0 _ T1.heap _
    rw [e1]
    exact ⟨rfl, N0, rfl⟩
theorem ef_fr_FULL_CONSENSUS_PERMIT (m : MethodId) (w_FULL_CONSENSUS_PERMIT_EResolutionRule : Addr) : entryFrame m #[(.ref w_FULL_CONSENSUS_PERMIT_EResolutionRule)] 5 = mkF m 0 #[.val (.ref w_FULL_CONSENSUS_PERMIT_EResolutionRule), .unset, .unset, .unset, .unset] [] := by first | (simp [entryFrame, mkF, argsToLocals, Value.category]; done) | rfl
def Q_fr_FULL_CONSENSUS_PERMIT (Z : State) (w_WEIGHTED w_WEIGHTED_EReason w_SVALUES w_CONTROLLER w_OWNER_OVERRIDES w_FULL_CONSENSUS_PERMIT w_MAJORITY_PERMIT w_STRONG_MAJORITY_PERMIT w_SUPER_MAJORITY_PERMIT w_SOURCE w_RESHARE_REFUSED w_UNNAMED w_NOT_VIEWER w_NO_THRESHOLD w_MAJORITY_PERMIT_EResolutionRule w_OWNER_OVERRIDES_EResolutionRule w_FULL_CONSENSUS_PERMIT_EResolutionRule w_SUPER_MAJORITY_PERMIT_EResolutionRule w_STRONG_MAJORITY_PERMIT_EResolutionRule : Addr) (kV : ClassId) (h0 : Heap) (n0 : Nat) (v : Option Value) (h : Heap) (L : List Loc) : Prop := v = some (.ref w_FULL_CONSENSUS_PERMIT) ∧ Fr n0 L ∧ Keep h0 h []
set_option maxRecDepth 65536 in
set_option maxHeartbeats 40000000 in
theorem fr_FULL_CONSENSUS_PERMIT (l : Launch) (Z : State) (a0 : Array Value) (hw : ∀ d ∈ tables_1, d.before a0 Z = true) (ws : List Jvm.Cond) (w_WEIGHTED w_WEIGHTED_EReason w_SVALUES w_CONTROLLER w_OWNER_OVERRIDES w_FULL_CONSENSUS_PERMIT w_MAJORITY_PERMIT w_STRONG_MAJORITY_PERMIT w_SUPER_MAJORITY_PERMIT w_SOURCE w_RESHARE_REFUSED w_UNNAMED w_NOT_VIEWER w_NO_THRESHOLD w_MAJORITY_PERMIT_EResolutionRule w_OWNER_OVERRIDES_EResolutionRule w_FULL_CONSENSUS_PERMIT_EResolutionRule w_SUPER_MAJORITY_PERMIT_EResolutionRule w_STRONG_MAJORITY_PERMIT_EResolutionRule : Addr) (kV : ClassId) (h0 : Heap) (n0 : Nat) (O0 : Old Z n0 h0) (hE : OwnEnv Z w_WEIGHTED w_WEIGHTED_EReason w_SVALUES w_CONTROLLER w_OWNER_OVERRIDES w_FULL_CONSENSUS_PERMIT w_MAJORITY_PERMIT w_STRONG_MAJORITY_PERMIT w_SUPER_MAJORITY_PERMIT w_SOURCE w_RESHARE_REFUSED w_UNNAMED w_NOT_VIEWER w_NO_THRESHOLD w_MAJORITY_PERMIT_EResolutionRule w_OWNER_OVERRIDES_EResolutionRule w_FULL_CONSENSUS_PERMIT_EResolutionRule w_SUPER_MAJORITY_PERMIT_EResolutionRule w_STRONG_MAJORITY_PERMIT_EResolutionRule kV) :
    MetFree l (⟨"com/example/kindred_consent/kindredconsent/engine/EReason", "forRule", "(Lcom/example/kindred_consent/kindredconsent/model/EResolutionRule;)Lcom/example/kindred_consent/kindredconsent/engine/EReason;"⟩ : MethodName) (head1 (Jvm.Cond.code (⟨"com/example/kindred_consent/kindredconsent/engine/EReason", "forRule", "(Lcom/example/kindred_consent/kindredconsent/model/EResolutionRule;)Lcom/example/kindred_consent/kindredconsent/engine/EReason;"⟩ : MethodName) prog_7_method_8_code 5 (some (.object "com/example/kindred_consent/kindredconsent/engine/EReason")) :: ws) ({ frames := 2, cells := 1, slots := 12, locals := 25 } : Room)) (fun a U => a = #[(.ref w_FULL_CONSENSUS_PERMIT_EResolutionRule)] ∧ Z.Warmed39 U.vm ∧ U.heap = h0) (fun _ _ _ _ _ => True) (fun _ U o U' => ∃ v L, o = .returned v ∧ Q_fr_FULL_CONSENSUS_PERMIT Z w_WEIGHTED w_WEIGHTED_EReason w_SVALUES w_CONTROLLER w_OWNER_OVERRIDES w_FULL_CONSENSUS_PERMIT w_MAJORITY_PERMIT w_STRONG_MAJORITY_PERMIT w_SUPER_MAJORITY_PERMIT w_SOURCE w_RESHARE_REFUSED w_UNNAMED w_NOT_VIEWER w_NO_THRESHOLD w_MAJORITY_PERMIT_EResolutionRule w_OWNER_OVERRIDES_EResolutionRule w_FULL_CONSENSUS_PERMIT_EResolutionRule w_SUPER_MAJORITY_PERMIT_EResolutionRule w_STRONG_MAJORITY_PERMIT_EResolutionRule kV h0 n0 v U'.heap L ∧ FrameEnd U o U' L ({ frames := 2, cells := 1, slots := 12, locals := 25 } : Room).cells ({ frames := 2, cells := 1, slots := 12, locals := 25 } : Room).slots) := by
  refine MetFree.of_bodySF (plainFor_of_name pn_com_example_kindred_consent_kindredconsent_engine_EReason) hisR ?_
  intro p e s m args below meth c s₁ Bd hml0 hP hK
  obtain ⟨rfl, hZ, hh⟩ := hP
  have hx := Bd.exec
  have hby := Bd.bytes
  have hml : c.maxLocals = 5 := hml0
  have hown : s.vm.findClass "com/example/kindred_consent/kindredconsent/engine/EReason" = some m.cls := findClass_of_methodNamed Bd.named
  have hnm := (name_of_methodNamed Bd.named Bd.method).1
  have X0 : Stand p l e ({ frames := 2, cells := 1, slots := 12, locals := 25 } : Room) s m #[(.ref w_FULL_CONSENSUS_PERMIT_EResolutionRule)] below meth c s₁ [] 0 0 := Stand.of_body Bd
  have e0 : s₁.heap = h0 := by rw [← hh, Bd.state]; rfl
  have N0 := Fr.nil n0
  have pre0 : ∀ t, Steps p.tables e below (s₁.setTop (mkF m 0 #[.val (.ref w_FULL_CONSENSUS_PERMIT_EResolutionRule), .unset, .unset, .unset, .unset] [])) t → Steps p.tables e below (s₁.setTop (entryFrame m #[(.ref w_FULL_CONSENSUS_PERMIT_EResolutionRule)] 5)) t := fun t k => castTop (ef_fr_FULL_CONSENSUS_PERMIT m w_FULL_CONSENSUS_PERMIT_EResolutionRule) k
  have hE_ := hE; obtain ⟨S_w_WEIGHTED, E_w_WEIGHTED, S_w_WEIGHTED_EReason, E_w_WEIGHTED_EReason, S_w_SVALUES, E_w_SVALUES, S_w_CONTROLLER, E_w_CONTROLLER, S_w_OWNER_OVERRIDES, E_w_OWNER_OVERRIDES, S_w_FULL_CONSENSUS_PERMIT, E_w_FULL_CONSENSUS_PERMIT, S_w_MAJORITY_PERMIT, E_w_MAJORITY_PERMIT, S_w_STRONG_MAJORITY_PERMIT, E_w_STRONG_MAJORITY_PERMIT, S_w_SUPER_MAJORITY_PERMIT, E_w_SUPER_MAJORITY_PERMIT, S_w_SOURCE, E_w_SOURCE, S_w_RESHARE_REFUSED, E_w_RESHARE_REFUSED, S_w_UNNAMED, E_w_UNNAMED, S_w_NOT_VIEWER, E_w_NOT_VIEWER, S_w_NO_THRESHOLD, E_w_NO_THRESHOLD, S_w_MAJORITY_PERMIT_EResolutionRule, E_w_MAJORITY_PERMIT_EResolutionRule, S_w_OWNER_OVERRIDES_EResolutionRule, E_w_OWNER_OVERRIDES_EResolutionRule, S_w_FULL_CONSENSUS_PERMIT_EResolutionRule, E_w_FULL_CONSENSUS_PERMIT_EResolutionRule, S_w_SUPER_MAJORITY_PERMIT_EResolutionRule, E_w_SUPER_MAJORITY_PERMIT_EResolutionRule, S_w_STRONG_MAJORITY_PERMIT_EResolutionRule, E_w_STRONG_MAJORITY_PERMIT_EResolutionRule, F_m_eRule_w_CONTROLLER, F_m_eRule_w_WEIGHTED_EReason, F_ordinal_w_WEIGHTED, F_ordinal_w_MAJORITY_PERMIT_EResolutionRule, F_m_eRule_w_OWNER_OVERRIDES, F_ordinal_w_OWNER_OVERRIDES_EResolutionRule, F_m_eRule_w_FULL_CONSENSUS_PERMIT, F_ordinal_w_FULL_CONSENSUS_PERMIT_EResolutionRule, F_m_eRule_w_MAJORITY_PERMIT, F_ordinal_w_SUPER_MAJORITY_PERMIT_EResolutionRule, F_m_eRule_w_STRONG_MAJORITY_PERMIT, F_ordinal_w_STRONG_MAJORITY_PERMIT_EResolutionRule, F_m_eRule_w_SUPER_MAJORITY_PERMIT, F_m_eRule_w_SOURCE, F_m_eRule_w_RESHARE_REFUSED, F_m_eRule_w_UNNAMED, F_m_eRule_w_NOT_VIEWER, F_m_eRule_w_NO_THRESHOLD, V_w_SVALUES⟩ := hE_
  obtain ⟨_, _, ⟨T1, L1, k1, n1⟩, -, X1, ⟨Lc1, hQ1, l1, y1, z1⟩, st1⟩ := Jvm.LawKit.callS X0 hx (y := (⟨"com/example/kindred_consent/kindredconsent/engine/EReason", "values", "()[Lcom/example/kindred_consent/kindredconsent/engine/EReason;"⟩ : MethodName)) hown (mvT hZ (hw _ (List.mem_of_getElem? (i := 10) rfl))) (mvT hZ (hw _ (List.mem_of_getElem? (i := 11) rfl))) (mvT hZ (hw _ (List.mem_of_getElem? (i := 5) rfl))) (mvT hZ (hw _ (List.mem_of_getElem? (i := 12) rfl))) (by decide) (backOf (W := 0) (vals l Z a0 hw [] w_WEIGHTED w_WEIGHTED_EReason w_SVALUES w_CONTROLLER w_OWNER_OVERRIDES w_FULL_CONSENSUS_PERMIT w_MAJORITY_PERMIT w_STRONG_MAJORITY_PERMIT w_SUPER_MAJORITY_PERMIT w_SOURCE w_RESHARE_REFUSED w_UNNAMED w_NOT_VIEWER w_NO_THRESHOLD w_MAJORITY_PERMIT_EResolutionRule w_OWNER_OVERRIDES_EResolutionRule w_FULL_CONSENSUS_PERMIT_EResolutionRule w_SUPER_MAJORITY_PERMIT_EResolutionRule w_STRONG_MAJORITY_PERMIT_EResolutionRule kV h0 n0 O0 hE) hZ (hw _ (List.mem_of_getElem? (i := 12) rfl)) (hw _ (List.mem_of_getElem? (i := 5) rfl)) (by decide) (by decide)) (g := (mkF m 0 #[.val (.ref w_FULL_CONSENSUS_PERMIT_EResolutionRule), .unset, .unset, .unset, .unset] [])) rfl (by rw [hml]; rfl) (argsL := []) (rest := []) (lenOf pd____Lcom_example_kindred_consent_kindredconsent_engine_EReason_ rfl) rfl (by show 2 * 0 + _ ≤ _; exact Nat.le_of_eq rfl) (hb hby d1_0) (fun _ _ => ⟨rfl, e0, (by decide : 0 + 1 ≤ _), (by decide : 0 + 12 ≤ _)⟩)
  dsimp only [Pt.U, Pt.locs, Pt.cells, Pt.slots] at X1 l1 y1 z1 st1 hQ1
  subst l1 y1 z1
  obtain ⟨bo1, rfl, Nq1, Kq1, g_1, Va1⟩ := hQ1
  have N1 := Fr.app N0 Nq1
  have O1 := O0.keep Kq1 all0
  have K1 : Keep h0 T1.heap [] := (Keep.refl h0 []).trans Kq1 all0
  have Vc2 := Va1
  obtain ⟨cl2, Ar2, qa2, Sz2, Nn2, Ha2, Ga2⟩ := Vc2
  have Vc3 := Va1
  obtain ⟨cl3, Ar3, qa3, Sz3, Nn3, Ha3, Ga3⟩ := Vc3
  have hin3 : ¬ ((0 : Int32) < 0 ∨ cl3.slots.size ≤ ((0 : Int32)).toNatClampNeg) := inb_of Sz3 ⟨by decide, by decide⟩
  have hat3 : cl3.slots[((0 : Int32)).toNatClampNeg]? = some (.ref w_CONTROLLER) := Has.at Ha3 hin3 rfl
  obtain ⟨T4, X4, e4, st4⟩ := getF X1 hx hZ hown (host := "") (Or.inl (hw _ (List.mem_of_getElem? (i := 36) rfl))) Via.refl rfl (F_m_eRule_w_CONTROLLER.ext O1.2) (g := (mkF m 21 #[.val (.ref w_FULL_CONSENSUS_PERMIT_EResolutionRule), .val (.ref bo1), .val (.int (12 : Int32)), .val (.int (0 : Int32)), .val (.ref w_CONTROLLER)] [(.ref w_CONTROLLER)])) rfl rfl (hb hby d1_21)
  have Vc5 := Va1
  obtain ⟨cl5, Ar5, qa5, Sz5, Nn5, Ha5, Ga5⟩ := Vc5
  have hin5 : ¬ ((1 : Int32) < 0 ∨ cl5.slots.size ≤ ((1 : Int32)).toNatClampNeg) := inb_of Sz5 ⟨by decide, by decide⟩
  have hat5 : cl5.slots[((1 : Int32)).toNatClampNeg]? = some (.ref w_WEIGHTED_EReason) := Has.at Ha5 hin5 rfl
  obtain ⟨T6, X6, e6, st6⟩ := getF X4 hx hZ hown (host := "") (Or.inl (hw _ (List.mem_of_getElem? (i := 36) rfl))) Via.refl e4 (F_m_eRule_w_WEIGHTED_EReason.ext O1.2) (g := (mkF m 21 #[.val (.ref w_FULL_CONSENSUS_PERMIT_EResolutionRule), .val (.ref bo1), .val (.int (12 : Int32)), .val (.int (1 : Int32)), .val (.ref w_WEIGHTED_EReason)] [(.ref w_WEIGHTED_EReason)])) rfl rfl (hb hby d1_21)
  have Vc7 := Va1
  obtain ⟨cl7, Ar7, qa7, Sz7, Nn7, Ha7, Ga7⟩ := Vc7
  have hin7 : ¬ ((2 : Int32) < 0 ∨ cl7.slots.size ≤ ((2 : Int32)).toNatClampNeg) := inb_of Sz7 ⟨by decide, by decide⟩
  have hat7 : cl7.slots[((2 : Int32)).toNatClampNeg]? = some (.ref w_OWNER_OVERRIDES) := Has.at Ha7 hin7 rfl
  obtain ⟨T8, X8, e8, st8⟩ := getF X6 hx hZ hown (host := "") (Or.inl (hw _ (List.mem_of_getElem? (i := 36) rfl))) Via.refl e6 (F_m_eRule_w_OWNER_OVERRIDES.ext O1.2) (g := (mkF m 21 #[.val (.ref w_FULL_CONSENSUS_PERMIT_EResolutionRule), .val (.ref bo1), .val (.int (12 : Int32)), .val (.int (2 : Int32)), .val (.ref w_OWNER_OVERRIDES)] [(.ref w_OWNER_OVERRIDES)])) rfl rfl (hb hby d1_21)
  have Vc9 := Va1
  obtain ⟨cl9, Ar9, qa9, Sz9, Nn9, Ha9, Ga9⟩ := Vc9
  have hin9 : ¬ ((3 : Int32) < 0 ∨ cl9.slots.size ≤ ((3 : Int32)).toNatClampNeg) := inb_of Sz9 ⟨by decide, by decide⟩
  have hat9 : cl9.slots[((3 : Int32)).toNatClampNeg]? = some (.ref w_FULL_CONSENSUS_PERMIT) := Has.at Ha9 hin9 rfl
  obtain ⟨T10, X10, e10, st10⟩ := getF X8 hx hZ hown (host := "") (Or.inl (hw _ (List.mem_of_getElem? (i := 36) rfl))) Via.refl e8 (F_m_eRule_w_FULL_CONSENSUS_PERMIT.ext O1.2) (g := (mkF m 21 #[.val (.ref w_FULL_CONSENSUS_PERMIT_EResolutionRule), .val (.ref bo1), .val (.int (12 : Int32)), .val (.int (3 : Int32)), .val (.ref w_FULL_CONSENSUS_PERMIT)] [(.ref w_FULL_CONSENSUS_PERMIT)])) rfl rfl (hb hby d1_21)
  obtain ⟨fs, hr, hrun, hended, hW, hsame⟩ := X10.leave (v := some (.ref w_FULL_CONSENSUS_PERMIT)) (fun h => by rw [Bd.returns] at h; cases h)
  refine ⟨_, _, pre0 _ ?_, hrun, hended, _, _, rfl, ?_, ⟨_, rfl⟩, hW, hsame.mono (by decide) (by decide)⟩
  · show Steps p.tables e below (s₁.setTop (mkF m 0 #[.val (.ref w_FULL_CONSENSUS_PERMIT_EResolutionRule), .unset, .unset, .unset, .unset] [])) _
    refine st1 _ ?_
    show Steps p.tables e below (T1.setTop (mkF m 3 #[.val (.ref w_FULL_CONSENSUS_PERMIT_EResolutionRule), .unset, .unset, .unset, .unset] [(.ref bo1)])) _
    refine XS.astoreN X1.here hx rfl (hb hby d1_3) rfl rfl (l' := #[.val (.ref w_FULL_CONSENSUS_PERMIT_EResolutionRule), .val (.ref bo1), .unset, .unset, .unset]) rfl ?_
    show Steps p.tables e below (T1.setTop (mkF m 4 #[.val (.ref w_FULL_CONSENSUS_PERMIT_EResolutionRule), .val (.ref bo1), .unset, .unset, .unset] [])) _
    refine XS.aloadN X1.here hx rfl (hb hby d1_4) rfl rfl ?_
    show Steps p.tables e below (T1.setTop (mkF m 5 #[.val (.ref w_FULL_CONSENSUS_PERMIT_EResolutionRule), .val (.ref bo1), .unset, .unset, .unset] [(.ref bo1)])) _
    refine X1.arraylength hx Ar2.1 (State.isArrayOf_alike hZ.alike Ar2.2.1) (g := (mkF m 5 #[.val (.ref w_FULL_CONSENSUS_PERMIT_EResolutionRule), .val (.ref bo1), .unset, .unset, .unset] [(.ref bo1)])) rfl rfl (hb hby d1_5) _ ?_
    rw [len_of Sz2 Nn2]
    show Steps p.tables e below (T1.setTop (mkF m 6 #[.val (.ref w_FULL_CONSENSUS_PERMIT_EResolutionRule), .val (.ref bo1), .unset, .unset, .unset] [(.int (12 : Int32))])) _
    refine XS.istoreN X1.here hx rfl (hb hby d1_6) rfl (l' := #[.val (.ref w_FULL_CONSENSUS_PERMIT_EResolutionRule), .val (.ref bo1), .val (.int (12 : Int32)), .unset, .unset]) rfl ?_
    show Steps p.tables e below (T1.setTop (mkF m 7 #[.val (.ref w_FULL_CONSENSUS_PERMIT_EResolutionRule), .val (.ref bo1), .val (.int (12 : Int32)), .unset, .unset] [])) _
    refine XS.iconst X1.here hx rfl (hb hby d1_7) ?_
    show Steps p.tables e below (T1.setTop (mkF m 8 #[.val (.ref w_FULL_CONSENSUS_PERMIT_EResolutionRule), .val (.ref bo1), .val (.int (12 : Int32)), .unset, .unset] [(.int (0 : Int32))])) _
    refine XS.istoreN X1.here hx rfl (hb hby d1_8) rfl (l' := #[.val (.ref w_FULL_CONSENSUS_PERMIT_EResolutionRule), .val (.ref bo1), .val (.int (12 : Int32)), .val (.int (0 : Int32)), .unset]) rfl ?_
    show Steps p.tables e below (T1.setTop (mkF m 9 #[.val (.ref w_FULL_CONSENSUS_PERMIT_EResolutionRule), .val (.ref bo1), .val (.int (12 : Int32)), .val (.int (0 : Int32)), .unset] [])) _
    refine XS.iloadN X1.here hx rfl (hb hby d1_9) rfl ?_
    show Steps p.tables e below (T1.setTop (mkF m 10 #[.val (.ref w_FULL_CONSENSUS_PERMIT_EResolutionRule), .val (.ref bo1), .val (.int (12 : Int32)), .val (.int (0 : Int32)), .unset] [(.int (0 : Int32))])) _
    refine XS.iloadN X1.here hx rfl (hb hby d1_10) rfl ?_
    show Steps p.tables e below (T1.setTop (mkF m 11 #[.val (.ref w_FULL_CONSENSUS_PERMIT_EResolutionRule), .val (.ref bo1), .val (.int (12 : Int32)), .val (.int (0 : Int32)), .unset] [(.int (12 : Int32)), (.int (0 : Int32))])) _
    refine XS.icmpNo X1.here hx rfl (hb hby d1_11) rfl (tlt (by decide : (0 : Int32) < (12 : Int32))).2.1 ?_
    show Steps p.tables e below (T1.setTop (mkF m 14 #[.val (.ref w_FULL_CONSENSUS_PERMIT_EResolutionRule), .val (.ref bo1), .val (.int (12 : Int32)), .val (.int (0 : Int32)), .unset] [])) _
    refine XS.aloadN X1.here hx rfl (hb hby d1_14) rfl rfl ?_
    show Steps p.tables e below (T1.setTop (mkF m 15 #[.val (.ref w_FULL_CONSENSUS_PERMIT_EResolutionRule), .val (.ref bo1), .val (.int (12 : Int32)), .val (.int (0 : Int32)), .unset] [(.ref bo1)])) _
    refine XS.iloadN X1.here hx rfl (hb hby d1_15) rfl ?_
    show Steps p.tables e below (T1.setTop (mkF m 16 #[.val (.ref w_FULL_CONSENSUS_PERMIT_EResolutionRule), .val (.ref bo1), .val (.int (12 : Int32)), .val (.int (0 : Int32)), .unset] [(.int (0 : Int32)), (.ref bo1)])) _
    refine X1.aaload hx (j := (0 : Int32)) (v := (.ref w_CONTROLLER)) Ar3.1 (State.isArrayOf_alike hZ.alike Ar3.2.1) rfl Ar3.2.2 hin3 hat3 (g := (mkF m 16 #[.val (.ref w_FULL_CONSENSUS_PERMIT_EResolutionRule), .val (.ref bo1), .val (.int (12 : Int32)), .val (.int (0 : Int32)), .unset] [(.int (0 : Int32)), (.ref bo1)])) rfl rfl (hb hby d1_16) _ ?_
    show Steps p.tables e below (T1.setTop (mkF m 17 #[.val (.ref w_FULL_CONSENSUS_PERMIT_EResolutionRule), .val (.ref bo1), .val (.int (12 : Int32)), .val (.int (0 : Int32)), .unset] [(.ref w_CONTROLLER)])) _
    refine XS.astore X1.here hx rfl (hb hby d1_17) rfl rfl (l' := #[.val (.ref w_FULL_CONSENSUS_PERMIT_EResolutionRule), .val (.ref bo1), .val (.int (12 : Int32)), .val (.int (0 : Int32)), .val (.ref w_CONTROLLER)]) rfl ?_
    show Steps p.tables e below (T1.setTop (mkF m 19 #[.val (.ref w_FULL_CONSENSUS_PERMIT_EResolutionRule), .val (.ref bo1), .val (.int (12 : Int32)), .val (.int (0 : Int32)), .val (.ref w_CONTROLLER)] [])) _
    refine XS.aload X1.here hx rfl (hb hby d1_19) rfl rfl ?_
    show Steps p.tables e below (T1.setTop (mkF m 21 #[.val (.ref w_FULL_CONSENSUS_PERMIT_EResolutionRule), .val (.ref bo1), .val (.int (12 : Int32)), .val (.int (0 : Int32)), .val (.ref w_CONTROLLER)] [(.ref w_CONTROLLER)])) _
    refine st4 _ ?_
    show Steps p.tables e below (T4.setTop (mkF m 24 #[.val (.ref w_FULL_CONSENSUS_PERMIT_EResolutionRule), .val (.ref bo1), .val (.int (12 : Int32)), .val (.int (0 : Int32)), .val (.ref w_CONTROLLER)] [.null])) _
    refine XS.aloadN X4.here hx rfl (hb hby d1_24) rfl rfl ?_
    show Steps p.tables e below (T4.setTop (mkF m 25 #[.val (.ref w_FULL_CONSENSUS_PERMIT_EResolutionRule), .val (.ref bo1), .val (.int (12 : Int32)), .val (.int (0 : Int32)), .val (.ref w_CONTROLLER)] [(.ref w_FULL_CONSENSUS_PERMIT_EResolutionRule), .null])) _
    refine Jvm.RoadKit.acmp (g := (mkF m 25 #[.val (.ref w_FULL_CONSENSUS_PERMIT_EResolutionRule), .val (.ref bo1), .val (.int (12 : Int32)), .val (.int (0 : Int32)), .val (.ref w_CONTROLLER)] [(.ref w_FULL_CONSENSUS_PERMIT_EResolutionRule), .null])) X4 hx rfl rfl rfl (pc0 := 25) (pc' := 31) (same := false) rfl (hb hby d1_25) rfl (decide_eq_false nofun) (by decide) (by decide) ?_
    show Steps p.tables e below (T4.setTop (mkF m 31 #[.val (.ref w_FULL_CONSENSUS_PERMIT_EResolutionRule), .val (.ref bo1), .val (.int (12 : Int32)), .val (.int (0 : Int32)), .val (.ref w_CONTROLLER)] [])) _
    refine XS.iinc X4.here hx rfl (hb hby d1_31) rfl (l' := #[.val (.ref w_FULL_CONSENSUS_PERMIT_EResolutionRule), .val (.ref bo1), .val (.int (12 : Int32)), .val (.int (1 : Int32)), .val (.ref w_CONTROLLER)]) rfl ?_
    show Steps p.tables e below (T4.setTop (mkF m 34 #[.val (.ref w_FULL_CONSENSUS_PERMIT_EResolutionRule), .val (.ref bo1), .val (.int (12 : Int32)), .val (.int (1 : Int32)), .val (.ref w_CONTROLLER)] [])) _
    refine XS.goto X4.here hx rfl (pc0 := 34) (pc' := 9) rfl (hb hby d1_34) (by decide) (by decide) ?_
    show Steps p.tables e below (T4.setTop (mkF m 9 #[.val (.ref w_FULL_CONSENSUS_PERMIT_EResolutionRule), .val (.ref bo1), .val (.int (12 : Int32)), .val (.int (1 : Int32)), .val (.ref w_CONTROLLER)] [])) _
    refine XS.iloadN X4.here hx rfl (hb hby d1_9) rfl ?_
    show Steps p.tables e below (T4.setTop (mkF m 10 #[.val (.ref w_FULL_CONSENSUS_PERMIT_EResolutionRule), .val (.ref bo1), .val (.int (12 : Int32)), .val (.int (1 : Int32)), .val (.ref w_CONTROLLER)] [(.int (1 : Int32))])) _
    refine XS.iloadN X4.here hx rfl (hb hby d1_10) rfl ?_
    show Steps p.tables e below (T4.setTop (mkF m 11 #[.val (.ref w_FULL_CONSENSUS_PERMIT_EResolutionRule), .val (.ref bo1), .val (.int (12 : Int32)), .val (.int (1 : Int32)), .val (.ref w_CONTROLLER)] [(.int (12 : Int32)), (.int (1 : Int32))])) _
    refine XS.icmpNo X4.here hx rfl (hb hby d1_11) rfl (tlt (by decide : (1 : Int32) < (12 : Int32))).2.1 ?_
    show Steps p.tables e below (T4.setTop (mkF m 14 #[.val (.ref w_FULL_CONSENSUS_PERMIT_EResolutionRule), .val (.ref bo1), .val (.int (12 : Int32)), .val (.int (1 : Int32)), .val (.ref w_CONTROLLER)] [])) _
    refine XS.aloadN X4.here hx rfl (hb hby d1_14) rfl rfl ?_
    show Steps p.tables e below (T4.setTop (mkF m 15 #[.val (.ref w_FULL_CONSENSUS_PERMIT_EResolutionRule), .val (.ref bo1), .val (.int (12 : Int32)), .val (.int (1 : Int32)), .val (.ref w_CONTROLLER)] [(.ref bo1)])) _
    refine XS.iloadN X4.here hx rfl (hb hby d1_15) rfl ?_
    show Steps p.tables e below (T4.setTop (mkF m 16 #[.val (.ref w_FULL_CONSENSUS_PERMIT_EResolutionRule), .val (.ref bo1), .val (.int (12 : Int32)), .val (.int (1 : Int32)), .val (.ref w_CONTROLLER)] [(.int (1 : Int32)), (.ref bo1)])) _
    refine X4.aaload hx (j := (1 : Int32)) (v := (.ref w_WEIGHTED_EReason)) (by rw [e4]; exact Ar5.1) (State.isArrayOf_alike hZ.alike Ar5.2.1) rfl Ar5.2.2 hin5 hat5 (g := (mkF m 16 #[.val (.ref w_FULL_CONSENSUS_PERMIT_EResolutionRule), .val (.ref bo1), .val (.int (12 : Int32)), .val (.int (1 : Int32)), .val (.ref w_CONTROLLER)] [(.int (1 : Int32)), (.ref bo1)])) rfl rfl (hb hby d1_16) _ ?_
    show Steps p.tables e below (T4.setTop (mkF m 17 #[.val (.ref w_FULL_CONSENSUS_PERMIT_EResolutionRule), .val (.ref bo1), .val (.int (12 : Int32)), .val (.int (1 : Int32)), .val (.ref w_CONTROLLER)] [(.ref w_WEIGHTED_EReason)])) _
    refine XS.astore X4.here hx rfl (hb hby d1_17) rfl rfl (l' := #[.val (.ref w_FULL_CONSENSUS_PERMIT_EResolutionRule), .val (.ref bo1), .val (.int (12 : Int32)), .val (.int (1 : Int32)), .val (.ref w_WEIGHTED_EReason)]) rfl ?_
    show Steps p.tables e below (T4.setTop (mkF m 19 #[.val (.ref w_FULL_CONSENSUS_PERMIT_EResolutionRule), .val (.ref bo1), .val (.int (12 : Int32)), .val (.int (1 : Int32)), .val (.ref w_WEIGHTED_EReason)] [])) _
    refine XS.aload X4.here hx rfl (hb hby d1_19) rfl rfl ?_
    show Steps p.tables e below (T4.setTop (mkF m 21 #[.val (.ref w_FULL_CONSENSUS_PERMIT_EResolutionRule), .val (.ref bo1), .val (.int (12 : Int32)), .val (.int (1 : Int32)), .val (.ref w_WEIGHTED_EReason)] [(.ref w_WEIGHTED_EReason)])) _
    refine st6 _ ?_
    show Steps p.tables e below (T6.setTop (mkF m 24 #[.val (.ref w_FULL_CONSENSUS_PERMIT_EResolutionRule), .val (.ref bo1), .val (.int (12 : Int32)), .val (.int (1 : Int32)), .val (.ref w_WEIGHTED_EReason)] [(.ref w_WEIGHTED)])) _
    refine XS.aloadN X6.here hx rfl (hb hby d1_24) rfl rfl ?_
    show Steps p.tables e below (T6.setTop (mkF m 25 #[.val (.ref w_FULL_CONSENSUS_PERMIT_EResolutionRule), .val (.ref bo1), .val (.int (12 : Int32)), .val (.int (1 : Int32)), .val (.ref w_WEIGHTED_EReason)] [(.ref w_FULL_CONSENSUS_PERMIT_EResolutionRule), (.ref w_WEIGHTED)])) _
    refine Jvm.RoadKit.acmp (g := (mkF m 25 #[.val (.ref w_FULL_CONSENSUS_PERMIT_EResolutionRule), .val (.ref bo1), .val (.int (12 : Int32)), .val (.int (1 : Int32)), .val (.ref w_WEIGHTED_EReason)] [(.ref w_FULL_CONSENSUS_PERMIT_EResolutionRule), (.ref w_WEIGHTED)])) X6 hx rfl rfl rfl (pc0 := 25) (pc' := 31) (same := false) rfl (hb hby d1_25) rfl (decide_eq_false fun q => (Fld.ne F_ordinal_w_WEIGHTED F_ordinal_w_FULL_CONSENSUS_PERMIT_EResolutionRule (by decide)) (Value.ref.inj q)) (by decide) (by decide) ?_
    show Steps p.tables e below (T6.setTop (mkF m 31 #[.val (.ref w_FULL_CONSENSUS_PERMIT_EResolutionRule), .val (.ref bo1), .val (.int (12 : Int32)), .val (.int (1 : Int32)), .val (.ref w_WEIGHTED_EReason)] [])) _
    refine XS.iinc X6.here hx rfl (hb hby d1_31) rfl (l' := #[.val (.ref w_FULL_CONSENSUS_PERMIT_EResolutionRule), .val (.ref bo1), .val (.int (12 : Int32)), .val (.int (2 : Int32)), .val (.ref w_WEIGHTED_EReason)]) rfl ?_
    show Steps p.tables e below (T6.setTop (mkF m 34 #[.val (.ref w_FULL_CONSENSUS_PERMIT_EResolutionRule), .val (.ref bo1), .val (.int (12 : Int32)), .val (.int (2 : Int32)), .val (.ref w_WEIGHTED_EReason)] [])) _
    refine XS.goto X6.here hx rfl (pc0 := 34) (pc' := 9) rfl (hb hby d1_34) (by decide) (by decide) ?_
    show Steps p.tables e below (T6.setTop (mkF m 9 #[.val (.ref w_FULL_CONSENSUS_PERMIT_EResolutionRule), .val (.ref bo1), .val (.int (12 : Int32)), .val (.int (2 : Int32)), .val (.ref w_WEIGHTED_EReason)] [])) _
    refine XS.iloadN X6.here hx rfl (hb hby d1_9) rfl ?_
    show Steps p.tables e below (T6.setTop (mkF m 10 #[.val (.ref w_FULL_CONSENSUS_PERMIT_EResolutionRule), .val (.ref bo1), .val (.int (12 : Int32)), .val (.int (2 : Int32)), .val (.ref w_WEIGHTED_EReason)] [(.int (2 : Int32))])) _
    refine XS.iloadN X6.here hx rfl (hb hby d1_10) rfl ?_
    show Steps p.tables e below (T6.setTop (mkF m 11 #[.val (.ref w_FULL_CONSENSUS_PERMIT_EResolutionRule), .val (.ref bo1), .val (.int (12 : Int32)), .val (.int (2 : Int32)), .val (.ref w_WEIGHTED_EReason)] [(.int (12 : Int32)), (.int (2 : Int32))])) _
    refine XS.icmpNo X6.here hx rfl (hb hby d1_11) rfl (tlt (by decide : (2 : Int32) < (12 : Int32))).2.1 ?_
    show Steps p.tables e below (T6.setTop (mkF m 14 #[.val (.ref w_FULL_CONSENSUS_PERMIT_EResolutionRule), .val (.ref bo1), .val (.int (12 : Int32)), .val (.int (2 : Int32)), .val (.ref w_WEIGHTED_EReason)] [])) _
    refine XS.aloadN X6.here hx rfl (hb hby d1_14) rfl rfl ?_
    show Steps p.tables e below (T6.setTop (mkF m 15 #[.val (.ref w_FULL_CONSENSUS_PERMIT_EResolutionRule), .val (.ref bo1), .val (.int (12 : Int32)), .val (.int (2 : Int32)), .val (.ref w_WEIGHTED_EReason)] [(.ref bo1)])) _
    refine XS.iloadN X6.here hx rfl (hb hby d1_15) rfl ?_
    show Steps p.tables e below (T6.setTop (mkF m 16 #[.val (.ref w_FULL_CONSENSUS_PERMIT_EResolutionRule), .val (.ref bo1), .val (.int (12 : Int32)), .val (.int (2 : Int32)), .val (.ref w_WEIGHTED_EReason)] [(.int (2 : Int32)), (.ref bo1)])) _
    refine X6.aaload hx (j := (2 : Int32)) (v := (.ref w_OWNER_OVERRIDES)) (by rw [e6]; exact Ar7.1) (State.isArrayOf_alike hZ.alike Ar7.2.1) rfl Ar7.2.2 hin7 hat7 (g := (mkF m 16 #[.val (.ref w_FULL_CONSENSUS_PERMIT_EResolutionRule), .val (.ref bo1), .val (.int (12 : Int32)), .val (.int (2 : Int32)), .val (.ref w_WEIGHTED_EReason)] [(.int (2 : Int32)), (.ref bo1)])) rfl rfl (hb hby d1_16) _ ?_
    show Steps p.tables e below (T6.setTop (mkF m 17 #[.val (.ref w_FULL_CONSENSUS_PERMIT_EResolutionRule), .val (.ref bo1), .val (.int (12 : Int32)), .val (.int (2 : Int32)), .val (.ref w_WEIGHTED_EReason)] [(.ref w_OWNER_OVERRIDES)])) _
    refine XS.astore X6.here hx rfl (hb hby d1_17) rfl rfl (l' := #[.val (.ref w_FULL_CONSENSUS_PERMIT_EResolutionRule), .val (.ref bo1), .val (.int (12 : Int32)), .val (.int (2 : Int32)), .val (.ref w_OWNER_OVERRIDES)]) rfl ?_
    show Steps p.tables e below (T6.setTop (mkF m 19 #[.val (.ref w_FULL_CONSENSUS_PERMIT_EResolutionRule), .val (.ref bo1), .val (.int (12 : Int32)), .val (.int (2 : Int32)), .val (.ref w_OWNER_OVERRIDES)] [])) _
    refine XS.aload X6.here hx rfl (hb hby d1_19) rfl rfl ?_
    show Steps p.tables e below (T6.setTop (mkF m 21 #[.val (.ref w_FULL_CONSENSUS_PERMIT_EResolutionRule), .val (.ref bo1), .val (.int (12 : Int32)), .val (.int (2 : Int32)), .val (.ref w_OWNER_OVERRIDES)] [(.ref w_OWNER_OVERRIDES)])) _
    refine st8 _ ?_
    show Steps p.tables e below (T8.setTop (mkF m 24 #[.val (.ref w_FULL_CONSENSUS_PERMIT_EResolutionRule), .val (.ref bo1), .val (.int (12 : Int32)), .val (.int (2 : Int32)), .val (.ref w_OWNER_OVERRIDES)] [(.ref w_OWNER_OVERRIDES_EResolutionRule)])) _
    refine XS.aloadN X8.here hx rfl (hb hby d1_24) rfl rfl ?_
    show Steps p.tables e below (T8.setTop (mkF m 25 #[.val (.ref w_FULL_CONSENSUS_PERMIT_EResolutionRule), .val (.ref bo1), .val (.int (12 : Int32)), .val (.int (2 : Int32)), .val (.ref w_OWNER_OVERRIDES)] [(.ref w_FULL_CONSENSUS_PERMIT_EResolutionRule), (.ref w_OWNER_OVERRIDES_EResolutionRule)])) _
    refine Jvm.RoadKit.acmp (g := (mkF m 25 #[.val (.ref w_FULL_CONSENSUS_PERMIT_EResolutionRule), .val (.ref bo1), .val (.int (12 : Int32)), .val (.int (2 : Int32)), .val (.ref w_OWNER_OVERRIDES)] [(.ref w_FULL_CONSENSUS_PERMIT_EResolutionRule), (.ref w_OWNER_OVERRIDES_EResolutionRule)])) X8 hx rfl rfl rfl (pc0 := 25) (pc' := 31) (same := false) rfl (hb hby d1_25) rfl (decide_eq_false fun q => (Fld.ne F_ordinal_w_OWNER_OVERRIDES_EResolutionRule F_ordinal_w_FULL_CONSENSUS_PERMIT_EResolutionRule (by decide)) (Value.ref.inj q)) (by decide) (by decide) ?_
    show Steps p.tables e below (T8.setTop (mkF m 31 #[.val (.ref w_FULL_CONSENSUS_PERMIT_EResolutionRule), .val (.ref bo1), .val (.int (12 : Int32)), .val (.int (2 : Int32)), .val (.ref w_OWNER_OVERRIDES)] [])) _
    refine XS.iinc X8.here hx rfl (hb hby d1_31) rfl (l' := #[.val (.ref w_FULL_CONSENSUS_PERMIT_EResolutionRule), .val (.ref bo1), .val (.int (12 : Int32)), .val (.int (3 : Int32)), .val (.ref w_OWNER_OVERRIDES)]) rfl ?_
    show Steps p.tables e below (T8.setTop (mkF m 34 #[.val (.ref w_FULL_CONSENSUS_PERMIT_EResolutionRule), .val (.ref bo1), .val (.int (12 : Int32)), .val (.int (3 : Int32)), .val (.ref w_OWNER_OVERRIDES)] [])) _
    refine XS.goto X8.here hx rfl (pc0 := 34) (pc' := 9) rfl (hb hby d1_34) (by decide) (by decide) ?_
    show Steps p.tables e below (T8.setTop (mkF m 9 #[.val (.ref w_FULL_CONSENSUS_PERMIT_EResolutionRule), .val (.ref bo1), .val (.int (12 : Int32)), .val (.int (3 : Int32)), .val (.ref w_OWNER_OVERRIDES)] [])) _
    refine XS.iloadN X8.here hx rfl (hb hby d1_9) rfl ?_
    show Steps p.tables e below (T8.setTop (mkF m 10 #[.val (.ref w_FULL_CONSENSUS_PERMIT_EResolutionRule), .val (.ref bo1), .val (.int (12 : Int32)), .val (.int (3 : Int32)), .val (.ref w_OWNER_OVERRIDES)] [(.int (3 : Int32))])) _
    refine XS.iloadN X8.here hx rfl (hb hby d1_10) rfl ?_
    show Steps p.tables e below (T8.setTop (mkF m 11 #[.val (.ref w_FULL_CONSENSUS_PERMIT_EResolutionRule), .val (.ref bo1), .val (.int (12 : Int32)), .val (.int (3 : Int32)), .val (.ref w_OWNER_OVERRIDES)] [(.int (12 : Int32)), (.int (3 : Int32))])) _
    refine XS.icmpNo X8.here hx rfl (hb hby d1_11) rfl (tlt (by decide : (3 : Int32) < (12 : Int32))).2.1 ?_
    show Steps p.tables e below (T8.setTop (mkF m 14 #[.val (.ref w_FULL_CONSENSUS_PERMIT_EResolutionRule), .val (.ref bo1), .val (.int (12 : Int32)), .val (.int (3 : Int32)), .val (.ref w_OWNER_OVERRIDES)] [])) _
    refine XS.aloadN X8.here hx rfl (hb hby d1_14) rfl rfl ?_
    show Steps p.tables e below (T8.setTop (mkF m 15 #[.val (.ref w_FULL_CONSENSUS_PERMIT_EResolutionRule), .val (.ref bo1), .val (.int (12 : Int32)), .val (.int (3 : Int32)), .val (.ref w_OWNER_OVERRIDES)] [(.ref bo1)])) _
    refine XS.iloadN X8.here hx rfl (hb hby d1_15) rfl ?_
    show Steps p.tables e below (T8.setTop (mkF m 16 #[.val (.ref w_FULL_CONSENSUS_PERMIT_EResolutionRule), .val (.ref bo1), .val (.int (12 : Int32)), .val (.int (3 : Int32)), .val (.ref w_OWNER_OVERRIDES)] [(.int (3 : Int32)), (.ref bo1)])) _
    refine X8.aaload hx (j := (3 : Int32)) (v := (.ref w_FULL_CONSENSUS_PERMIT)) (by rw [e8]; exact Ar9.1) (State.isArrayOf_alike hZ.alike Ar9.2.1) rfl Ar9.2.2 hin9 hat9 (g := (mkF m 16 #[.val (.ref w_FULL_CONSENSUS_PERMIT_EResolutionRule), .val (.ref bo1), .val (.int (12 : Int32)), .val (.int (3 : Int32)), .val (.ref w_OWNER_OVERRIDES)] [(.int (3 : Int32)), (.ref bo1)])) rfl rfl (hb hby d1_16) _ ?_
    show Steps p.tables e below (T8.setTop (mkF m 17 #[.val (.ref w_FULL_CONSENSUS_PERMIT_EResolutionRule), .val (.ref bo1), .val (.int (12 : Int32)), .val (.int (3 : Int32)), .val (.ref w_OWNER_OVERRIDES)] [(.ref w_FULL_CONSENSUS_PERMIT)])) _
    refine XS.astore X8.here hx rfl (hb hby d1_17) rfl rfl (l' := #[.val (.ref w_FULL_CONSENSUS_PERMIT_EResolutionRule), .val (.ref bo1), .val (.int (12 : Int32)), .val (.int (3 : Int32)), .val (.ref w_FULL_CONSENSUS_PERMIT)]) rfl ?_
    show Steps p.tables e below (T8.setTop (mkF m 19 #[.val (.ref w_FULL_CONSENSUS_PERMIT_EResolutionRule), .val (.ref bo1), .val (.int (12 : Int32)), .val (.int (3 : Int32)), .val (.ref w_FULL_CONSENSUS_PERMIT)] [])) _
    refine XS.aload X8.here hx rfl (hb hby d1_19) rfl rfl ?_
    show Steps p.tables e below (T8.setTop (mkF m 21 #[.val (.ref w_FULL_CONSENSUS_PERMIT_EResolutionRule), .val (.ref bo1), .val (.int (12 : Int32)), .val (.int (3 : Int32)), .val (.ref w_FULL_CONSENSUS_PERMIT)] [(.ref w_FULL_CONSENSUS_PERMIT)])) _
    refine st10 _ ?_
    show Steps p.tables e below (T10.setTop (mkF m 24 #[.val (.ref w_FULL_CONSENSUS_PERMIT_EResolutionRule), .val (.ref bo1), .val (.int (12 : Int32)), .val (.int (3 : Int32)), .val (.ref w_FULL_CONSENSUS_PERMIT)] [(.ref w_FULL_CONSENSUS_PERMIT_EResolutionRule)])) _
    refine XS.aloadN X10.here hx rfl (hb hby d1_24) rfl rfl ?_
    show Steps p.tables e below (T10.setTop (mkF m 25 #[.val (.ref w_FULL_CONSENSUS_PERMIT_EResolutionRule), .val (.ref bo1), .val (.int (12 : Int32)), .val (.int (3 : Int32)), .val (.ref w_FULL_CONSENSUS_PERMIT)] [(.ref w_FULL_CONSENSUS_PERMIT_EResolutionRule), (.ref w_FULL_CONSENSUS_PERMIT_EResolutionRule)])) _
    refine Jvm.RoadKit.acmp (g := (mkF m 25 #[.val (.ref w_FULL_CONSENSUS_PERMIT_EResolutionRule), .val (.ref bo1), .val (.int (12 : Int32)), .val (.int (3 : Int32)), .val (.ref w_FULL_CONSENSUS_PERMIT)] [(.ref w_FULL_CONSENSUS_PERMIT_EResolutionRule), (.ref w_FULL_CONSENSUS_PERMIT_EResolutionRule)])) X10 hx rfl rfl rfl (pc0 := 25) (pc' := 28) (same := true) rfl (hb hby d1_25) rfl (decide_eq_true (congrArg Value.ref (rfl : w_FULL_CONSENSUS_PERMIT_EResolutionRule = w_FULL_CONSENSUS_PERMIT_EResolutionRule))) (by decide) (by decide) ?_
    show Steps p.tables e below (T10.setTop (mkF m 28 #[.val (.ref w_FULL_CONSENSUS_PERMIT_EResolutionRule), .val (.ref bo1), .val (.int (12 : Int32)), .val (.int (3 : Int32)), .val (.ref w_FULL_CONSENSUS_PERMIT)] [])) _
    refine XS.aload X10.here hx rfl (hb hby d1_28) rfl rfl ?_
    show Steps p.tables e below (T10.setTop (mkF m 30 #[.val (.ref w_FULL_CONSENSUS_PERMIT_EResolutionRule), .val (.ref bo1), .val (.int (12 : Int32)), .val (.int (3 : Int32)), .val (.ref w_FULL_CONSENSUS_PERMIT)] [(.ref w_FULL_CONSENSUS_PERMIT)])) _
    jvm_step X10.here [X10.here.top, hx, (hb hby d1_30), X10.method', Bd.returns, Value.isRef, FieldType.isReference]
    first | (intro acts; rw [hr _ acts rfl rfl rfl]) | rw [hr _ _ rfl rfl rfl]
    exact Steps.refl _
  · show Q_fr_FULL_CONSENSUS_PERMIT Z w_WEIGHTED w_WEIGHTED_EReason w_SVALUES w_CONTROLLER w_OWNER_OVERRIDES w_FULL_CONSENSUS_PERMIT w_MAJORITY_PERMIT w_STRONG_MAJORITY_PERMIT w_SUPER_MAJORITY_PERMIT w_SOURCE w_RESHARE_REFUSED w_UNNAMED w_NOT_VIEWER w_NO_THRESHOLD w_MAJORITY_PERMIT_EResolutionRule w_OWNER_OVERRIDES_EResolutionRule w_FULL_CONSENSUS_PERMIT_EResolutionRule w_SUPER_MAJORITY_PERMIT_EResolutionRule w_STRONG_MAJORITY_PERMIT_EResolutionRule kV h0 n0 _ T10.heap _
    rw [e10]
    exact ⟨rfl, N1, K1⟩
theorem ef_gr_FULL_CONSENSUS_PERMIT (m : MethodId) (w_FULL_CONSENSUS_PERMIT : Addr) : entryFrame m #[(.ref w_FULL_CONSENSUS_PERMIT)] 1 = mkF m 0 #[.val (.ref w_FULL_CONSENSUS_PERMIT)] [] := by first | (simp [entryFrame, mkF, argsToLocals, Value.category]; done) | rfl
def Q_gr_FULL_CONSENSUS_PERMIT (Z : State) (w_WEIGHTED w_WEIGHTED_EReason w_SVALUES w_CONTROLLER w_OWNER_OVERRIDES w_FULL_CONSENSUS_PERMIT w_MAJORITY_PERMIT w_STRONG_MAJORITY_PERMIT w_SUPER_MAJORITY_PERMIT w_SOURCE w_RESHARE_REFUSED w_UNNAMED w_NOT_VIEWER w_NO_THRESHOLD w_MAJORITY_PERMIT_EResolutionRule w_OWNER_OVERRIDES_EResolutionRule w_FULL_CONSENSUS_PERMIT_EResolutionRule w_SUPER_MAJORITY_PERMIT_EResolutionRule w_STRONG_MAJORITY_PERMIT_EResolutionRule : Addr) (kV : ClassId) (h0 : Heap) (n0 : Nat) (v : Option Value) (h : Heap) (L : List Loc) : Prop := v = some (.ref w_FULL_CONSENSUS_PERMIT_EResolutionRule) ∧ Fr n0 L ∧ h = h0
set_option maxRecDepth 65536 in
set_option maxHeartbeats 40000000 in
theorem gr_FULL_CONSENSUS_PERMIT (l : Launch) (Z : State) (a0 : Array Value) (hw : ∀ d ∈ tables_1, d.before a0 Z = true) (ws : List Jvm.Cond) (w_WEIGHTED w_WEIGHTED_EReason w_SVALUES w_CONTROLLER w_OWNER_OVERRIDES w_FULL_CONSENSUS_PERMIT w_MAJORITY_PERMIT w_STRONG_MAJORITY_PERMIT w_SUPER_MAJORITY_PERMIT w_SOURCE w_RESHARE_REFUSED w_UNNAMED w_NOT_VIEWER w_NO_THRESHOLD w_MAJORITY_PERMIT_EResolutionRule w_OWNER_OVERRIDES_EResolutionRule w_FULL_CONSENSUS_PERMIT_EResolutionRule w_SUPER_MAJORITY_PERMIT_EResolutionRule w_STRONG_MAJORITY_PERMIT_EResolutionRule : Addr) (kV : ClassId) (h0 : Heap) (n0 : Nat) (O0 : Old Z n0 h0) (hE : OwnEnv Z w_WEIGHTED w_WEIGHTED_EReason w_SVALUES w_CONTROLLER w_OWNER_OVERRIDES w_FULL_CONSENSUS_PERMIT w_MAJORITY_PERMIT w_STRONG_MAJORITY_PERMIT w_SUPER_MAJORITY_PERMIT w_SOURCE w_RESHARE_REFUSED w_UNNAMED w_NOT_VIEWER w_NO_THRESHOLD w_MAJORITY_PERMIT_EResolutionRule w_OWNER_OVERRIDES_EResolutionRule w_FULL_CONSENSUS_PERMIT_EResolutionRule w_SUPER_MAJORITY_PERMIT_EResolutionRule w_STRONG_MAJORITY_PERMIT_EResolutionRule kV) :
    MetFree l (⟨"com/example/kindred_consent/kindredconsent/engine/EReason", "getRule", "()Lcom/example/kindred_consent/kindredconsent/model/EResolutionRule;"⟩ : MethodName) (head1 (Jvm.Cond.code (⟨"com/example/kindred_consent/kindredconsent/engine/EReason", "getRule", "()Lcom/example/kindred_consent/kindredconsent/model/EResolutionRule;"⟩ : MethodName) prog_7_method_6_code 1 (some (.object "com/example/kindred_consent/kindredconsent/model/EResolutionRule")) :: ws) ({ frames := 0, cells := 0, slots := 0, locals := 0 } : Room)) (fun a U => a = #[(.ref w_FULL_CONSENSUS_PERMIT)] ∧ Z.Warmed39 U.vm ∧ U.heap = h0) (fun _ _ _ _ _ => True) (fun _ U o U' => ∃ v L, o = .returned v ∧ Q_gr_FULL_CONSENSUS_PERMIT Z w_WEIGHTED w_WEIGHTED_EReason w_SVALUES w_CONTROLLER w_OWNER_OVERRIDES w_FULL_CONSENSUS_PERMIT w_MAJORITY_PERMIT w_STRONG_MAJORITY_PERMIT w_SUPER_MAJORITY_PERMIT w_SOURCE w_RESHARE_REFUSED w_UNNAMED w_NOT_VIEWER w_NO_THRESHOLD w_MAJORITY_PERMIT_EResolutionRule w_OWNER_OVERRIDES_EResolutionRule w_FULL_CONSENSUS_PERMIT_EResolutionRule w_SUPER_MAJORITY_PERMIT_EResolutionRule w_STRONG_MAJORITY_PERMIT_EResolutionRule kV h0 n0 v U'.heap L ∧ FrameEnd U o U' L ({ frames := 0, cells := 0, slots := 0, locals := 0 } : Room).cells ({ frames := 0, cells := 0, slots := 0, locals := 0 } : Room).slots) := by
  refine MetFree.of_bodySF (plainFor_of_name pn_com_example_kindred_consent_kindredconsent_engine_EReason) hisR ?_
  intro p e s m args below meth c s₁ Bd hml0 hP hK
  obtain ⟨rfl, hZ, hh⟩ := hP
  have hx := Bd.exec
  have hby := Bd.bytes
  have hml : c.maxLocals = 1 := hml0
  have hown : s.vm.findClass "com/example/kindred_consent/kindredconsent/engine/EReason" = some m.cls := findClass_of_methodNamed Bd.named
  have hnm := (name_of_methodNamed Bd.named Bd.method).1
  have X0 : Stand p l e ({ frames := 0, cells := 0, slots := 0, locals := 0 } : Room) s m #[(.ref w_FULL_CONSENSUS_PERMIT)] below meth c s₁ [] 0 0 := Stand.of_body Bd
  have e0 : s₁.heap = h0 := by rw [← hh, Bd.state]; rfl
  have N0 := Fr.nil n0
  have pre0 : ∀ t, Steps p.tables e below (s₁.setTop (mkF m 0 #[.val (.ref w_FULL_CONSENSUS_PERMIT)] [])) t → Steps p.tables e below (s₁.setTop (entryFrame m #[(.ref w_FULL_CONSENSUS_PERMIT)] 1)) t := fun t k => castTop (ef_gr_FULL_CONSENSUS_PERMIT m w_FULL_CONSENSUS_PERMIT) k
  have hE_ := hE; obtain ⟨S_w_WEIGHTED, E_w_WEIGHTED, S_w_WEIGHTED_EReason, E_w_WEIGHTED_EReason, S_w_SVALUES, E_w_SVALUES, S_w_CONTROLLER, E_w_CONTROLLER, S_w_OWNER_OVERRIDES, E_w_OWNER_OVERRIDES, S_w_FULL_CONSENSUS_PERMIT, E_w_FULL_CONSENSUS_PERMIT, S_w_MAJORITY_PERMIT, E_w_MAJORITY_PERMIT, S_w_STRONG_MAJORITY_PERMIT, E_w_STRONG_MAJORITY_PERMIT, S_w_SUPER_MAJORITY_PERMIT, E_w_SUPER_MAJORITY_PERMIT, S_w_SOURCE, E_w_SOURCE, S_w_RESHARE_REFUSED, E_w_RESHARE_REFUSED, S_w_UNNAMED, E_w_UNNAMED, S_w_NOT_VIEWER, E_w_NOT_VIEWER, S_w_NO_THRESHOLD, E_w_NO_THRESHOLD, S_w_MAJORITY_PERMIT_EResolutionRule, E_w_MAJORITY_PERMIT_EResolutionRule, S_w_OWNER_OVERRIDES_EResolutionRule, E_w_OWNER_OVERRIDES_EResolutionRule, S_w_FULL_CONSENSUS_PERMIT_EResolutionRule, E_w_FULL_CONSENSUS_PERMIT_EResolutionRule, S_w_SUPER_MAJORITY_PERMIT_EResolutionRule, E_w_SUPER_MAJORITY_PERMIT_EResolutionRule, S_w_STRONG_MAJORITY_PERMIT_EResolutionRule, E_w_STRONG_MAJORITY_PERMIT_EResolutionRule, F_m_eRule_w_CONTROLLER, F_m_eRule_w_WEIGHTED_EReason, F_ordinal_w_WEIGHTED, F_ordinal_w_MAJORITY_PERMIT_EResolutionRule, F_m_eRule_w_OWNER_OVERRIDES, F_ordinal_w_OWNER_OVERRIDES_EResolutionRule, F_m_eRule_w_FULL_CONSENSUS_PERMIT, F_ordinal_w_FULL_CONSENSUS_PERMIT_EResolutionRule, F_m_eRule_w_MAJORITY_PERMIT, F_ordinal_w_SUPER_MAJORITY_PERMIT_EResolutionRule, F_m_eRule_w_STRONG_MAJORITY_PERMIT, F_ordinal_w_STRONG_MAJORITY_PERMIT_EResolutionRule, F_m_eRule_w_SUPER_MAJORITY_PERMIT, F_m_eRule_w_SOURCE, F_m_eRule_w_RESHARE_REFUSED, F_m_eRule_w_UNNAMED, F_m_eRule_w_NOT_VIEWER, F_m_eRule_w_NO_THRESHOLD, V_w_SVALUES⟩ := hE_
  obtain ⟨T1, X1, e1, st1⟩ := getF X0 hx hZ hown (host := "") (Or.inl (hw _ (List.mem_of_getElem? (i := 36) rfl))) Via.refl e0 (F_m_eRule_w_FULL_CONSENSUS_PERMIT.ext O0.2) (g := (mkF m 1 #[.val (.ref w_FULL_CONSENSUS_PERMIT)] [(.ref w_FULL_CONSENSUS_PERMIT)])) rfl rfl (hb hby d3_1)
  obtain ⟨fs, hr, hrun, hended, hW, hsame⟩ := X1.leave (v := some (.ref w_FULL_CONSENSUS_PERMIT_EResolutionRule)) (fun h => by rw [Bd.returns] at h; cases h)
  refine ⟨_, _, pre0 _ ?_, hrun, hended, _, _, rfl, ?_, ⟨_, rfl⟩, hW, hsame.mono (by decide) (by decide)⟩
  · show Steps p.tables e below (s₁.setTop (mkF m 0 #[.val (.ref w_FULL_CONSENSUS_PERMIT)] [])) _
    refine XS.aloadN X0.here hx rfl (hb hby d3_0) rfl rfl ?_
    show Steps p.tables e below (s₁.setTop (mkF m 1 #[.val (.ref w_FULL_CONSENSUS_PERMIT)] [(.ref w_FULL_CONSENSUS_PERMIT)])) _
    refine st1 _ ?_
    show Steps p.tables e below (T1.setTop (mkF m 4 #[.val (.ref w_FULL_CONSENSUS_PERMIT)] [(.ref w_FULL_CONSENSUS_PERMIT_EResolutionRule)])) _
    jvm_step X1.here [X1.here.top, hx, (hb hby d3_4), X1.method', Bd.returns, Value.isRef, FieldType.isReference]
    first | (intro acts; rw [hr _ acts rfl rfl rfl]) | rw [hr _ _ rfl rfl rfl]
    exact Steps.refl _
  · show Q_gr_FULL_CONSENSUS_PERMIT Z w_WEIGHTED w_WEIGHTED_EReason w_SVALUES w_CONTROLLER w_OWNER_OVERRIDES w_FULL_CONSENSUS_PERMIT w_MAJORITY_PERMIT w_STRONG_MAJORITY_PERMIT w_SUPER_MAJORITY_PERMIT w_SOURCE w_RESHARE_REFUSED w_UNNAMED w_NOT_VIEWER w_NO_THRESHOLD w_MAJORITY_PERMIT_EResolutionRule w_OWNER_OVERRIDES_EResolutionRule w_FULL_CONSENSUS_PERMIT_EResolutionRule w_SUPER_MAJORITY_PERMIT_EResolutionRule w_STRONG_MAJORITY_PERMIT_EResolutionRule kV h0 n0 _ T1.heap _
    rw [e1]
    exact ⟨rfl, N0, rfl⟩
theorem ef_fr_MAJORITY_PERMIT (m : MethodId) (w_MAJORITY_PERMIT_EResolutionRule : Addr) : entryFrame m #[(.ref w_MAJORITY_PERMIT_EResolutionRule)] 5 = mkF m 0 #[.val (.ref w_MAJORITY_PERMIT_EResolutionRule), .unset, .unset, .unset, .unset] [] := by first | (simp [entryFrame, mkF, argsToLocals, Value.category]; done) | rfl
def Q_fr_MAJORITY_PERMIT (Z : State) (w_WEIGHTED w_WEIGHTED_EReason w_SVALUES w_CONTROLLER w_OWNER_OVERRIDES w_FULL_CONSENSUS_PERMIT w_MAJORITY_PERMIT w_STRONG_MAJORITY_PERMIT w_SUPER_MAJORITY_PERMIT w_SOURCE w_RESHARE_REFUSED w_UNNAMED w_NOT_VIEWER w_NO_THRESHOLD w_MAJORITY_PERMIT_EResolutionRule w_OWNER_OVERRIDES_EResolutionRule w_FULL_CONSENSUS_PERMIT_EResolutionRule w_SUPER_MAJORITY_PERMIT_EResolutionRule w_STRONG_MAJORITY_PERMIT_EResolutionRule : Addr) (kV : ClassId) (h0 : Heap) (n0 : Nat) (v : Option Value) (h : Heap) (L : List Loc) : Prop := v = some (.ref w_MAJORITY_PERMIT) ∧ Fr n0 L ∧ Keep h0 h []
set_option maxRecDepth 65536 in
set_option maxHeartbeats 40000000 in
theorem fr_MAJORITY_PERMIT (l : Launch) (Z : State) (a0 : Array Value) (hw : ∀ d ∈ tables_1, d.before a0 Z = true) (ws : List Jvm.Cond) (w_WEIGHTED w_WEIGHTED_EReason w_SVALUES w_CONTROLLER w_OWNER_OVERRIDES w_FULL_CONSENSUS_PERMIT w_MAJORITY_PERMIT w_STRONG_MAJORITY_PERMIT w_SUPER_MAJORITY_PERMIT w_SOURCE w_RESHARE_REFUSED w_UNNAMED w_NOT_VIEWER w_NO_THRESHOLD w_MAJORITY_PERMIT_EResolutionRule w_OWNER_OVERRIDES_EResolutionRule w_FULL_CONSENSUS_PERMIT_EResolutionRule w_SUPER_MAJORITY_PERMIT_EResolutionRule w_STRONG_MAJORITY_PERMIT_EResolutionRule : Addr) (kV : ClassId) (h0 : Heap) (n0 : Nat) (O0 : Old Z n0 h0) (hE : OwnEnv Z w_WEIGHTED w_WEIGHTED_EReason w_SVALUES w_CONTROLLER w_OWNER_OVERRIDES w_FULL_CONSENSUS_PERMIT w_MAJORITY_PERMIT w_STRONG_MAJORITY_PERMIT w_SUPER_MAJORITY_PERMIT w_SOURCE w_RESHARE_REFUSED w_UNNAMED w_NOT_VIEWER w_NO_THRESHOLD w_MAJORITY_PERMIT_EResolutionRule w_OWNER_OVERRIDES_EResolutionRule w_FULL_CONSENSUS_PERMIT_EResolutionRule w_SUPER_MAJORITY_PERMIT_EResolutionRule w_STRONG_MAJORITY_PERMIT_EResolutionRule kV) :
    MetFree l (⟨"com/example/kindred_consent/kindredconsent/engine/EReason", "forRule", "(Lcom/example/kindred_consent/kindredconsent/model/EResolutionRule;)Lcom/example/kindred_consent/kindredconsent/engine/EReason;"⟩ : MethodName) (head1 (Jvm.Cond.code (⟨"com/example/kindred_consent/kindredconsent/engine/EReason", "forRule", "(Lcom/example/kindred_consent/kindredconsent/model/EResolutionRule;)Lcom/example/kindred_consent/kindredconsent/engine/EReason;"⟩ : MethodName) prog_7_method_8_code 5 (some (.object "com/example/kindred_consent/kindredconsent/engine/EReason")) :: ws) ({ frames := 2, cells := 1, slots := 12, locals := 25 } : Room)) (fun a U => a = #[(.ref w_MAJORITY_PERMIT_EResolutionRule)] ∧ Z.Warmed39 U.vm ∧ U.heap = h0) (fun _ _ _ _ _ => True) (fun _ U o U' => ∃ v L, o = .returned v ∧ Q_fr_MAJORITY_PERMIT Z w_WEIGHTED w_WEIGHTED_EReason w_SVALUES w_CONTROLLER w_OWNER_OVERRIDES w_FULL_CONSENSUS_PERMIT w_MAJORITY_PERMIT w_STRONG_MAJORITY_PERMIT w_SUPER_MAJORITY_PERMIT w_SOURCE w_RESHARE_REFUSED w_UNNAMED w_NOT_VIEWER w_NO_THRESHOLD w_MAJORITY_PERMIT_EResolutionRule w_OWNER_OVERRIDES_EResolutionRule w_FULL_CONSENSUS_PERMIT_EResolutionRule w_SUPER_MAJORITY_PERMIT_EResolutionRule w_STRONG_MAJORITY_PERMIT_EResolutionRule kV h0 n0 v U'.heap L ∧ FrameEnd U o U' L ({ frames := 2, cells := 1, slots := 12, locals := 25 } : Room).cells ({ frames := 2, cells := 1, slots := 12, locals := 25 } : Room).slots) := by
  refine MetFree.of_bodySF (plainFor_of_name pn_com_example_kindred_consent_kindredconsent_engine_EReason) hisR ?_
  intro p e s m args below meth c s₁ Bd hml0 hP hK
  obtain ⟨rfl, hZ, hh⟩ := hP
  have hx := Bd.exec
  have hby := Bd.bytes
  have hml : c.maxLocals = 5 := hml0
  have hown : s.vm.findClass "com/example/kindred_consent/kindredconsent/engine/EReason" = some m.cls := findClass_of_methodNamed Bd.named
  have hnm := (name_of_methodNamed Bd.named Bd.method).1
  have X0 : Stand p l e ({ frames := 2, cells := 1, slots := 12, locals := 25 } : Room) s m #[(.ref w_MAJORITY_PERMIT_EResolutionRule)] below meth c s₁ [] 0 0 := Stand.of_body Bd
  have e0 : s₁.heap = h0 := by rw [← hh, Bd.state]; rfl
  have N0 := Fr.nil n0
  have pre0 : ∀ t, Steps p.tables e below (s₁.setTop (mkF m 0 #[.val (.ref w_MAJORITY_PERMIT_EResolutionRule), .unset, .unset, .unset, .unset] [])) t → Steps p.tables e below (s₁.setTop (entryFrame m #[(.ref w_MAJORITY_PERMIT_EResolutionRule)] 5)) t := fun t k => castTop (ef_fr_MAJORITY_PERMIT m w_MAJORITY_PERMIT_EResolutionRule) k
  have hE_ := hE; obtain ⟨S_w_WEIGHTED, E_w_WEIGHTED, S_w_WEIGHTED_EReason, E_w_WEIGHTED_EReason, S_w_SVALUES, E_w_SVALUES, S_w_CONTROLLER, E_w_CONTROLLER, S_w_OWNER_OVERRIDES, E_w_OWNER_OVERRIDES, S_w_FULL_CONSENSUS_PERMIT, E_w_FULL_CONSENSUS_PERMIT, S_w_MAJORITY_PERMIT, E_w_MAJORITY_PERMIT, S_w_STRONG_MAJORITY_PERMIT, E_w_STRONG_MAJORITY_PERMIT, S_w_SUPER_MAJORITY_PERMIT, E_w_SUPER_MAJORITY_PERMIT, S_w_SOURCE, E_w_SOURCE, S_w_RESHARE_REFUSED, E_w_RESHARE_REFUSED, S_w_UNNAMED, E_w_UNNAMED, S_w_NOT_VIEWER, E_w_NOT_VIEWER, S_w_NO_THRESHOLD, E_w_NO_THRESHOLD, S_w_MAJORITY_PERMIT_EResolutionRule, E_w_MAJORITY_PERMIT_EResolutionRule, S_w_OWNER_OVERRIDES_EResolutionRule, E_w_OWNER_OVERRIDES_EResolutionRule, S_w_FULL_CONSENSUS_PERMIT_EResolutionRule, E_w_FULL_CONSENSUS_PERMIT_EResolutionRule, S_w_SUPER_MAJORITY_PERMIT_EResolutionRule, E_w_SUPER_MAJORITY_PERMIT_EResolutionRule, S_w_STRONG_MAJORITY_PERMIT_EResolutionRule, E_w_STRONG_MAJORITY_PERMIT_EResolutionRule, F_m_eRule_w_CONTROLLER, F_m_eRule_w_WEIGHTED_EReason, F_ordinal_w_WEIGHTED, F_ordinal_w_MAJORITY_PERMIT_EResolutionRule, F_m_eRule_w_OWNER_OVERRIDES, F_ordinal_w_OWNER_OVERRIDES_EResolutionRule, F_m_eRule_w_FULL_CONSENSUS_PERMIT, F_ordinal_w_FULL_CONSENSUS_PERMIT_EResolutionRule, F_m_eRule_w_MAJORITY_PERMIT, F_ordinal_w_SUPER_MAJORITY_PERMIT_EResolutionRule, F_m_eRule_w_STRONG_MAJORITY_PERMIT, F_ordinal_w_STRONG_MAJORITY_PERMIT_EResolutionRule, F_m_eRule_w_SUPER_MAJORITY_PERMIT, F_m_eRule_w_SOURCE, F_m_eRule_w_RESHARE_REFUSED, F_m_eRule_w_UNNAMED, F_m_eRule_w_NOT_VIEWER, F_m_eRule_w_NO_THRESHOLD, V_w_SVALUES⟩ := hE_
  obtain ⟨_, _, ⟨T1, L1, k1, n1⟩, -, X1, ⟨Lc1, hQ1, l1, y1, z1⟩, st1⟩ := Jvm.LawKit.callS X0 hx (y := (⟨"com/example/kindred_consent/kindredconsent/engine/EReason", "values", "()[Lcom/example/kindred_consent/kindredconsent/engine/EReason;"⟩ : MethodName)) hown (mvT hZ (hw _ (List.mem_of_getElem? (i := 10) rfl))) (mvT hZ (hw _ (List.mem_of_getElem? (i := 11) rfl))) (mvT hZ (hw _ (List.mem_of_getElem? (i := 5) rfl))) (mvT hZ (hw _ (List.mem_of_getElem? (i := 12) rfl))) (by decide) (backOf (W := 0) (vals l Z a0 hw [] w_WEIGHTED w_WEIGHTED_EReason w_SVALUES w_CONTROLLER w_OWNER_OVERRIDES w_FULL_CONSENSUS_PERMIT w_MAJORITY_PERMIT w_STRONG_MAJORITY_PERMIT w_SUPER_MAJORITY_PERMIT w_SOURCE w_RESHARE_REFUSED w_UNNAMED w_NOT_VIEWER w_NO_THRESHOLD w_MAJORITY_PERMIT_EResolutionRule w_OWNER_OVERRIDES_EResolutionRule w_FULL_CONSENSUS_PERMIT_EResolutionRule w_SUPER_MAJORITY_PERMIT_EResolutionRule w_STRONG_MAJORITY_PERMIT_EResolutionRule kV h0 n0 O0 hE) hZ (hw _ (List.mem_of_getElem? (i := 12) rfl)) (hw _ (List.mem_of_getElem? (i := 5) rfl)) (by decide) (by decide)) (g := (mkF m 0 #[.val (.ref w_MAJORITY_PERMIT_EResolutionRule), .unset, .unset, .unset, .unset] [])) rfl (by rw [hml]; rfl) (argsL := []) (rest := []) (lenOf pd____Lcom_example_kindred_consent_kindredconsent_engine_EReason_ rfl) rfl (by show 2 * 0 + _ ≤ _; exact Nat.le_of_eq rfl) (hb hby d1_0) (fun _ _ => ⟨rfl, e0, (by decide : 0 + 1 ≤ _), (by decide : 0 + 12 ≤ _)⟩)
  dsimp only [Pt.U, Pt.locs, Pt.cells, Pt.slots] at X1 l1 y1 z1 st1 hQ1
  subst l1 y1 z1
  obtain ⟨bo1, rfl, Nq1, Kq1, g_1, Va1⟩ := hQ1
  have N1 := Fr.app N0 Nq1
  have O1 := O0.keep Kq1 all0
  have K1 : Keep h0 T1.heap [] := (Keep.refl h0 []).trans Kq1 all0
  have Vc2 := Va1
  obtain ⟨cl2, Ar2, qa2, Sz2, Nn2, Ha2, Ga2⟩ := Vc2
  have Vc3 := Va1
  obtain ⟨cl3, Ar3, qa3, Sz3, Nn3, Ha3, Ga3⟩ := Vc3
  have hin3 : ¬ ((0 : Int32) < 0 ∨ cl3.slots.size ≤ ((0 : Int32)).toNatClampNeg) := inb_of Sz3 ⟨by decide, by decide⟩
  have hat3 : cl3.slots[((0 : Int32)).toNatClampNeg]? = some (.ref w_CONTROLLER) := Has.at Ha3 hin3 rfl
  obtain ⟨T4, X4, e4, st4⟩ := getF X1 hx hZ hown (host := "") (Or.inl (hw _ (List.mem_of_getElem? (i := 36) rfl))) Via.refl rfl (F_m_eRule_w_CONTROLLER.ext O1.2) (g := (mkF m 21 #[.val (.ref w_MAJORITY_PERMIT_EResolutionRule), .val (.ref bo1), .val (.int (12 : Int32)), .val (.int (0 : Int32)), .val (.ref w_CONTROLLER)] [(.ref w_CONTROLLER)])) rfl rfl (hb hby d1_21)
  have Vc5 := Va1
  obtain ⟨cl5, Ar5, qa5, Sz5, Nn5, Ha5, Ga5⟩ := Vc5
  have hin5 : ¬ ((1 : Int32) < 0 ∨ cl5.slots.size ≤ ((1 : Int32)).toNatClampNeg) := inb_of Sz5 ⟨by decide, by decide⟩
  have hat5 : cl5.slots[((1 : Int32)).toNatClampNeg]? = some (.ref w_WEIGHTED_EReason) := Has.at Ha5 hin5 rfl
  obtain ⟨T6, X6, e6, st6⟩ := getF X4 hx hZ hown (host := "") (Or.inl (hw _ (List.mem_of_getElem? (i := 36) rfl))) Via.refl e4 (F_m_eRule_w_WEIGHTED_EReason.ext O1.2) (g := (mkF m 21 #[.val (.ref w_MAJORITY_PERMIT_EResolutionRule), .val (.ref bo1), .val (.int (12 : Int32)), .val (.int (1 : Int32)), .val (.ref w_WEIGHTED_EReason)] [(.ref w_WEIGHTED_EReason)])) rfl rfl (hb hby d1_21)
  have Vc7 := Va1
  obtain ⟨cl7, Ar7, qa7, Sz7, Nn7, Ha7, Ga7⟩ := Vc7
  have hin7 : ¬ ((2 : Int32) < 0 ∨ cl7.slots.size ≤ ((2 : Int32)).toNatClampNeg) := inb_of Sz7 ⟨by decide, by decide⟩
  have hat7 : cl7.slots[((2 : Int32)).toNatClampNeg]? = some (.ref w_OWNER_OVERRIDES) := Has.at Ha7 hin7 rfl
  obtain ⟨T8, X8, e8, st8⟩ := getF X6 hx hZ hown (host := "") (Or.inl (hw _ (List.mem_of_getElem? (i := 36) rfl))) Via.refl e6 (F_m_eRule_w_OWNER_OVERRIDES.ext O1.2) (g := (mkF m 21 #[.val (.ref w_MAJORITY_PERMIT_EResolutionRule), .val (.ref bo1), .val (.int (12 : Int32)), .val (.int (2 : Int32)), .val (.ref w_OWNER_OVERRIDES)] [(.ref w_OWNER_OVERRIDES)])) rfl rfl (hb hby d1_21)
  have Vc9 := Va1
  obtain ⟨cl9, Ar9, qa9, Sz9, Nn9, Ha9, Ga9⟩ := Vc9
  have hin9 : ¬ ((3 : Int32) < 0 ∨ cl9.slots.size ≤ ((3 : Int32)).toNatClampNeg) := inb_of Sz9 ⟨by decide, by decide⟩
  have hat9 : cl9.slots[((3 : Int32)).toNatClampNeg]? = some (.ref w_FULL_CONSENSUS_PERMIT) := Has.at Ha9 hin9 rfl
  obtain ⟨T10, X10, e10, st10⟩ := getF X8 hx hZ hown (host := "") (Or.inl (hw _ (List.mem_of_getElem? (i := 36) rfl))) Via.refl e8 (F_m_eRule_w_FULL_CONSENSUS_PERMIT.ext O1.2) (g := (mkF m 21 #[.val (.ref w_MAJORITY_PERMIT_EResolutionRule), .val (.ref bo1), .val (.int (12 : Int32)), .val (.int (3 : Int32)), .val (.ref w_FULL_CONSENSUS_PERMIT)] [(.ref w_FULL_CONSENSUS_PERMIT)])) rfl rfl (hb hby d1_21)
  have Vc11 := Va1
  obtain ⟨cl11, Ar11, qa11, Sz11, Nn11, Ha11, Ga11⟩ := Vc11
  have hin11 : ¬ ((4 : Int32) < 0 ∨ cl11.slots.size ≤ ((4 : Int32)).toNatClampNeg) := inb_of Sz11 ⟨by decide, by decide⟩
  have hat11 : cl11.slots[((4 : Int32)).toNatClampNeg]? = some (.ref w_MAJORITY_PERMIT) := Has.at Ha11 hin11 rfl
  obtain ⟨T12, X12, e12, st12⟩ := getF X10 hx hZ hown (host := "") (Or.inl (hw _ (List.mem_of_getElem? (i := 36) rfl))) Via.refl e10 (F_m_eRule_w_MAJORITY_PERMIT.ext O1.2) (g := (mkF m 21 #[.val (.ref w_MAJORITY_PERMIT_EResolutionRule), .val (.ref bo1), .val (.int (12 : Int32)), .val (.int (4 : Int32)), .val (.ref w_MAJORITY_PERMIT)] [(.ref w_MAJORITY_PERMIT)])) rfl rfl (hb hby d1_21)
  obtain ⟨fs, hr, hrun, hended, hW, hsame⟩ := X12.leave (v := some (.ref w_MAJORITY_PERMIT)) (fun h => by rw [Bd.returns] at h; cases h)
  refine ⟨_, _, pre0 _ ?_, hrun, hended, _, _, rfl, ?_, ⟨_, rfl⟩, hW, hsame.mono (by decide) (by decide)⟩
  · show Steps p.tables e below (s₁.setTop (mkF m 0 #[.val (.ref w_MAJORITY_PERMIT_EResolutionRule), .unset, .unset, .unset, .unset] [])) _
    refine st1 _ ?_
    show Steps p.tables e below (T1.setTop (mkF m 3 #[.val (.ref w_MAJORITY_PERMIT_EResolutionRule), .unset, .unset, .unset, .unset] [(.ref bo1)])) _
    refine XS.astoreN X1.here hx rfl (hb hby d1_3) rfl rfl (l' := #[.val (.ref w_MAJORITY_PERMIT_EResolutionRule), .val (.ref bo1), .unset, .unset, .unset]) rfl ?_
    show Steps p.tables e below (T1.setTop (mkF m 4 #[.val (.ref w_MAJORITY_PERMIT_EResolutionRule), .val (.ref bo1), .unset, .unset, .unset] [])) _
    refine XS.aloadN X1.here hx rfl (hb hby d1_4) rfl rfl ?_
    show Steps p.tables e below (T1.setTop (mkF m 5 #[.val (.ref w_MAJORITY_PERMIT_EResolutionRule), .val (.ref bo1), .unset, .unset, .unset] [(.ref bo1)])) _
    refine X1.arraylength hx Ar2.1 (State.isArrayOf_alike hZ.alike Ar2.2.1) (g := (mkF m 5 #[.val (.ref w_MAJORITY_PERMIT_EResolutionRule), .val (.ref bo1), .unset, .unset, .unset] [(.ref bo1)])) rfl rfl (hb hby d1_5) _ ?_
    rw [len_of Sz2 Nn2]
    show Steps p.tables e below (T1.setTop (mkF m 6 #[.val (.ref w_MAJORITY_PERMIT_EResolutionRule), .val (.ref bo1), .unset, .unset, .unset] [(.int (12 : Int32))])) _
    refine XS.istoreN X1.here hx rfl (hb hby d1_6) rfl (l' := #[.val (.ref w_MAJORITY_PERMIT_EResolutionRule), .val (.ref bo1), .val (.int (12 : Int32)), .unset, .unset]) rfl ?_
    show Steps p.tables e below (T1.setTop (mkF m 7 #[.val (.ref w_MAJORITY_PERMIT_EResolutionRule), .val (.ref bo1), .val (.int (12 : Int32)), .unset, .unset] [])) _
    refine XS.iconst X1.here hx rfl (hb hby d1_7) ?_
    show Steps p.tables e below (T1.setTop (mkF m 8 #[.val (.ref w_MAJORITY_PERMIT_EResolutionRule), .val (.ref bo1), .val (.int (12 : Int32)), .unset, .unset] [(.int (0 : Int32))])) _
    refine XS.istoreN X1.here hx rfl (hb hby d1_8) rfl (l' := #[.val (.ref w_MAJORITY_PERMIT_EResolutionRule), .val (.ref bo1), .val (.int (12 : Int32)), .val (.int (0 : Int32)), .unset]) rfl ?_
    show Steps p.tables e below (T1.setTop (mkF m 9 #[.val (.ref w_MAJORITY_PERMIT_EResolutionRule), .val (.ref bo1), .val (.int (12 : Int32)), .val (.int (0 : Int32)), .unset] [])) _
    refine XS.iloadN X1.here hx rfl (hb hby d1_9) rfl ?_
    show Steps p.tables e below (T1.setTop (mkF m 10 #[.val (.ref w_MAJORITY_PERMIT_EResolutionRule), .val (.ref bo1), .val (.int (12 : Int32)), .val (.int (0 : Int32)), .unset] [(.int (0 : Int32))])) _
    refine XS.iloadN X1.here hx rfl (hb hby d1_10) rfl ?_
    show Steps p.tables e below (T1.setTop (mkF m 11 #[.val (.ref w_MAJORITY_PERMIT_EResolutionRule), .val (.ref bo1), .val (.int (12 : Int32)), .val (.int (0 : Int32)), .unset] [(.int (12 : Int32)), (.int (0 : Int32))])) _
    refine XS.icmpNo X1.here hx rfl (hb hby d1_11) rfl (tlt (by decide : (0 : Int32) < (12 : Int32))).2.1 ?_
    show Steps p.tables e below (T1.setTop (mkF m 14 #[.val (.ref w_MAJORITY_PERMIT_EResolutionRule), .val (.ref bo1), .val (.int (12 : Int32)), .val (.int (0 : Int32)), .unset] [])) _
    refine XS.aloadN X1.here hx rfl (hb hby d1_14) rfl rfl ?_
    show Steps p.tables e below (T1.setTop (mkF m 15 #[.val (.ref w_MAJORITY_PERMIT_EResolutionRule), .val (.ref bo1), .val (.int (12 : Int32)), .val (.int (0 : Int32)), .unset] [(.ref bo1)])) _
    refine XS.iloadN X1.here hx rfl (hb hby d1_15) rfl ?_
    show Steps p.tables e below (T1.setTop (mkF m 16 #[.val (.ref w_MAJORITY_PERMIT_EResolutionRule), .val (.ref bo1), .val (.int (12 : Int32)), .val (.int (0 : Int32)), .unset] [(.int (0 : Int32)), (.ref bo1)])) _
    refine X1.aaload hx (j := (0 : Int32)) (v := (.ref w_CONTROLLER)) Ar3.1 (State.isArrayOf_alike hZ.alike Ar3.2.1) rfl Ar3.2.2 hin3 hat3 (g := (mkF m 16 #[.val (.ref w_MAJORITY_PERMIT_EResolutionRule), .val (.ref bo1), .val (.int (12 : Int32)), .val (.int (0 : Int32)), .unset] [(.int (0 : Int32)), (.ref bo1)])) rfl rfl (hb hby d1_16) _ ?_
    show Steps p.tables e below (T1.setTop (mkF m 17 #[.val (.ref w_MAJORITY_PERMIT_EResolutionRule), .val (.ref bo1), .val (.int (12 : Int32)), .val (.int (0 : Int32)), .unset] [(.ref w_CONTROLLER)])) _
    refine XS.astore X1.here hx rfl (hb hby d1_17) rfl rfl (l' := #[.val (.ref w_MAJORITY_PERMIT_EResolutionRule), .val (.ref bo1), .val (.int (12 : Int32)), .val (.int (0 : Int32)), .val (.ref w_CONTROLLER)]) rfl ?_
    show Steps p.tables e below (T1.setTop (mkF m 19 #[.val (.ref w_MAJORITY_PERMIT_EResolutionRule), .val (.ref bo1), .val (.int (12 : Int32)), .val (.int (0 : Int32)), .val (.ref w_CONTROLLER)] [])) _
    refine XS.aload X1.here hx rfl (hb hby d1_19) rfl rfl ?_
    show Steps p.tables e below (T1.setTop (mkF m 21 #[.val (.ref w_MAJORITY_PERMIT_EResolutionRule), .val (.ref bo1), .val (.int (12 : Int32)), .val (.int (0 : Int32)), .val (.ref w_CONTROLLER)] [(.ref w_CONTROLLER)])) _
    refine st4 _ ?_
    show Steps p.tables e below (T4.setTop (mkF m 24 #[.val (.ref w_MAJORITY_PERMIT_EResolutionRule), .val (.ref bo1), .val (.int (12 : Int32)), .val (.int (0 : Int32)), .val (.ref w_CONTROLLER)] [.null])) _
    refine XS.aloadN X4.here hx rfl (hb hby d1_24) rfl rfl ?_
    show Steps p.tables e below (T4.setTop (mkF m 25 #[.val (.ref w_MAJORITY_PERMIT_EResolutionRule), .val (.ref bo1), .val (.int (12 : Int32)), .val (.int (0 : Int32)), .val (.ref w_CONTROLLER)] [(.ref w_MAJORITY_PERMIT_EResolutionRule), .null])) _
    refine Jvm.RoadKit.acmp (g := (mkF m 25 #[.val (.ref w_MAJORITY_PERMIT_EResolutionRule), .val (.ref bo1), .val (.int (12 : Int32)), .val (.int (0 : Int32)), .val (.ref w_CONTROLLER)] [(.ref w_MAJORITY_PERMIT_EResolutionRule), .null])) X4 hx rfl rfl rfl (pc0 := 25) (pc' := 31) (same := false) rfl (hb hby d1_25) rfl (decide_eq_false nofun) (by decide) (by decide) ?_
    show Steps p.tables e below (T4.setTop (mkF m 31 #[.val (.ref w_MAJORITY_PERMIT_EResolutionRule), .val (.ref bo1), .val (.int (12 : Int32)), .val (.int (0 : Int32)), .val (.ref w_CONTROLLER)] [])) _
    refine XS.iinc X4.here hx rfl (hb hby d1_31) rfl (l' := #[.val (.ref w_MAJORITY_PERMIT_EResolutionRule), .val (.ref bo1), .val (.int (12 : Int32)), .val (.int (1 : Int32)), .val (.ref w_CONTROLLER)]) rfl ?_
    show Steps p.tables e below (T4.setTop (mkF m 34 #[.val (.ref w_MAJORITY_PERMIT_EResolutionRule), .val (.ref bo1), .val (.int (12 : Int32)), .val (.int (1 : Int32)), .val (.ref w_CONTROLLER)] [])) _
    refine XS.goto X4.here hx rfl (pc0 := 34) (pc' := 9) rfl (hb hby d1_34) (by decide) (by decide) ?_
    show Steps p.tables e below (T4.setTop (mkF m 9 #[.val (.ref w_MAJORITY_PERMIT_EResolutionRule), .val (.ref bo1), .val (.int (12 : Int32)), .val (.int (1 : Int32)), .val (.ref w_CONTROLLER)] [])) _
    refine XS.iloadN X4.here hx rfl (hb hby d1_9) rfl ?_
    show Steps p.tables e below (T4.setTop (mkF m 10 #[.val (.ref w_MAJORITY_PERMIT_EResolutionRule), .val (.ref bo1), .val (.int (12 : Int32)), .val (.int (1 : Int32)), .val (.ref w_CONTROLLER)] [(.int (1 : Int32))])) _
    refine XS.iloadN X4.here hx rfl (hb hby d1_10) rfl ?_
    show Steps p.tables e below (T4.setTop (mkF m 11 #[.val (.ref w_MAJORITY_PERMIT_EResolutionRule), .val (.ref bo1), .val (.int (12 : Int32)), .val (.int (1 : Int32)), .val (.ref w_CONTROLLER)] [(.int (12 : Int32)), (.int (1 : Int32))])) _
    refine XS.icmpNo X4.here hx rfl (hb hby d1_11) rfl (tlt (by decide : (1 : Int32) < (12 : Int32))).2.1 ?_
    show Steps p.tables e below (T4.setTop (mkF m 14 #[.val (.ref w_MAJORITY_PERMIT_EResolutionRule), .val (.ref bo1), .val (.int (12 : Int32)), .val (.int (1 : Int32)), .val (.ref w_CONTROLLER)] [])) _
    refine XS.aloadN X4.here hx rfl (hb hby d1_14) rfl rfl ?_
    show Steps p.tables e below (T4.setTop (mkF m 15 #[.val (.ref w_MAJORITY_PERMIT_EResolutionRule), .val (.ref bo1), .val (.int (12 : Int32)), .val (.int (1 : Int32)), .val (.ref w_CONTROLLER)] [(.ref bo1)])) _
    refine XS.iloadN X4.here hx rfl (hb hby d1_15) rfl ?_
    show Steps p.tables e below (T4.setTop (mkF m 16 #[.val (.ref w_MAJORITY_PERMIT_EResolutionRule), .val (.ref bo1), .val (.int (12 : Int32)), .val (.int (1 : Int32)), .val (.ref w_CONTROLLER)] [(.int (1 : Int32)), (.ref bo1)])) _
    refine X4.aaload hx (j := (1 : Int32)) (v := (.ref w_WEIGHTED_EReason)) (by rw [e4]; exact Ar5.1) (State.isArrayOf_alike hZ.alike Ar5.2.1) rfl Ar5.2.2 hin5 hat5 (g := (mkF m 16 #[.val (.ref w_MAJORITY_PERMIT_EResolutionRule), .val (.ref bo1), .val (.int (12 : Int32)), .val (.int (1 : Int32)), .val (.ref w_CONTROLLER)] [(.int (1 : Int32)), (.ref bo1)])) rfl rfl (hb hby d1_16) _ ?_
    show Steps p.tables e below (T4.setTop (mkF m 17 #[.val (.ref w_MAJORITY_PERMIT_EResolutionRule), .val (.ref bo1), .val (.int (12 : Int32)), .val (.int (1 : Int32)), .val (.ref w_CONTROLLER)] [(.ref w_WEIGHTED_EReason)])) _
    refine XS.astore X4.here hx rfl (hb hby d1_17) rfl rfl (l' := #[.val (.ref w_MAJORITY_PERMIT_EResolutionRule), .val (.ref bo1), .val (.int (12 : Int32)), .val (.int (1 : Int32)), .val (.ref w_WEIGHTED_EReason)]) rfl ?_
    show Steps p.tables e below (T4.setTop (mkF m 19 #[.val (.ref w_MAJORITY_PERMIT_EResolutionRule), .val (.ref bo1), .val (.int (12 : Int32)), .val (.int (1 : Int32)), .val (.ref w_WEIGHTED_EReason)] [])) _
    refine XS.aload X4.here hx rfl (hb hby d1_19) rfl rfl ?_
    show Steps p.tables e below (T4.setTop (mkF m 21 #[.val (.ref w_MAJORITY_PERMIT_EResolutionRule), .val (.ref bo1), .val (.int (12 : Int32)), .val (.int (1 : Int32)), .val (.ref w_WEIGHTED_EReason)] [(.ref w_WEIGHTED_EReason)])) _
    refine st6 _ ?_
    show Steps p.tables e below (T6.setTop (mkF m 24 #[.val (.ref w_MAJORITY_PERMIT_EResolutionRule), .val (.ref bo1), .val (.int (12 : Int32)), .val (.int (1 : Int32)), .val (.ref w_WEIGHTED_EReason)] [(.ref w_WEIGHTED)])) _
    refine XS.aloadN X6.here hx rfl (hb hby d1_24) rfl rfl ?_
    show Steps p.tables e below (T6.setTop (mkF m 25 #[.val (.ref w_MAJORITY_PERMIT_EResolutionRule), .val (.ref bo1), .val (.int (12 : Int32)), .val (.int (1 : Int32)), .val (.ref w_WEIGHTED_EReason)] [(.ref w_MAJORITY_PERMIT_EResolutionRule), (.ref w_WEIGHTED)])) _
    refine Jvm.RoadKit.acmp (g := (mkF m 25 #[.val (.ref w_MAJORITY_PERMIT_EResolutionRule), .val (.ref bo1), .val (.int (12 : Int32)), .val (.int (1 : Int32)), .val (.ref w_WEIGHTED_EReason)] [(.ref w_MAJORITY_PERMIT_EResolutionRule), (.ref w_WEIGHTED)])) X6 hx rfl rfl rfl (pc0 := 25) (pc' := 31) (same := false) rfl (hb hby d1_25) rfl (decide_eq_false fun q => (Fld.ne F_ordinal_w_WEIGHTED F_ordinal_w_MAJORITY_PERMIT_EResolutionRule (by decide)) (Value.ref.inj q)) (by decide) (by decide) ?_
    show Steps p.tables e below (T6.setTop (mkF m 31 #[.val (.ref w_MAJORITY_PERMIT_EResolutionRule), .val (.ref bo1), .val (.int (12 : Int32)), .val (.int (1 : Int32)), .val (.ref w_WEIGHTED_EReason)] [])) _
    refine XS.iinc X6.here hx rfl (hb hby d1_31) rfl (l' := #[.val (.ref w_MAJORITY_PERMIT_EResolutionRule), .val (.ref bo1), .val (.int (12 : Int32)), .val (.int (2 : Int32)), .val (.ref w_WEIGHTED_EReason)]) rfl ?_
    show Steps p.tables e below (T6.setTop (mkF m 34 #[.val (.ref w_MAJORITY_PERMIT_EResolutionRule), .val (.ref bo1), .val (.int (12 : Int32)), .val (.int (2 : Int32)), .val (.ref w_WEIGHTED_EReason)] [])) _
    refine XS.goto X6.here hx rfl (pc0 := 34) (pc' := 9) rfl (hb hby d1_34) (by decide) (by decide) ?_
    show Steps p.tables e below (T6.setTop (mkF m 9 #[.val (.ref w_MAJORITY_PERMIT_EResolutionRule), .val (.ref bo1), .val (.int (12 : Int32)), .val (.int (2 : Int32)), .val (.ref w_WEIGHTED_EReason)] [])) _
    refine XS.iloadN X6.here hx rfl (hb hby d1_9) rfl ?_
    show Steps p.tables e below (T6.setTop (mkF m 10 #[.val (.ref w_MAJORITY_PERMIT_EResolutionRule), .val (.ref bo1), .val (.int (12 : Int32)), .val (.int (2 : Int32)), .val (.ref w_WEIGHTED_EReason)] [(.int (2 : Int32))])) _
    refine XS.iloadN X6.here hx rfl (hb hby d1_10) rfl ?_
    show Steps p.tables e below (T6.setTop (mkF m 11 #[.val (.ref w_MAJORITY_PERMIT_EResolutionRule), .val (.ref bo1), .val (.int (12 : Int32)), .val (.int (2 : Int32)), .val (.ref w_WEIGHTED_EReason)] [(.int (12 : Int32)), (.int (2 : Int32))])) _
    refine XS.icmpNo X6.here hx rfl (hb hby d1_11) rfl (tlt (by decide : (2 : Int32) < (12 : Int32))).2.1 ?_
    show Steps p.tables e below (T6.setTop (mkF m 14 #[.val (.ref w_MAJORITY_PERMIT_EResolutionRule), .val (.ref bo1), .val (.int (12 : Int32)), .val (.int (2 : Int32)), .val (.ref w_WEIGHTED_EReason)] [])) _
    refine XS.aloadN X6.here hx rfl (hb hby d1_14) rfl rfl ?_
    show Steps p.tables e below (T6.setTop (mkF m 15 #[.val (.ref w_MAJORITY_PERMIT_EResolutionRule), .val (.ref bo1), .val (.int (12 : Int32)), .val (.int (2 : Int32)), .val (.ref w_WEIGHTED_EReason)] [(.ref bo1)])) _
    refine XS.iloadN X6.here hx rfl (hb hby d1_15) rfl ?_
    show Steps p.tables e below (T6.setTop (mkF m 16 #[.val (.ref w_MAJORITY_PERMIT_EResolutionRule), .val (.ref bo1), .val (.int (12 : Int32)), .val (.int (2 : Int32)), .val (.ref w_WEIGHTED_EReason)] [(.int (2 : Int32)), (.ref bo1)])) _
    refine X6.aaload hx (j := (2 : Int32)) (v := (.ref w_OWNER_OVERRIDES)) (by rw [e6]; exact Ar7.1) (State.isArrayOf_alike hZ.alike Ar7.2.1) rfl Ar7.2.2 hin7 hat7 (g := (mkF m 16 #[.val (.ref w_MAJORITY_PERMIT_EResolutionRule), .val (.ref bo1), .val (.int (12 : Int32)), .val (.int (2 : Int32)), .val (.ref w_WEIGHTED_EReason)] [(.int (2 : Int32)), (.ref bo1)])) rfl rfl (hb hby d1_16) _ ?_
    show Steps p.tables e below (T6.setTop (mkF m 17 #[.val (.ref w_MAJORITY_PERMIT_EResolutionRule), .val (.ref bo1), .val (.int (12 : Int32)), .val (.int (2 : Int32)), .val (.ref w_WEIGHTED_EReason)] [(.ref w_OWNER_OVERRIDES)])) _
    refine XS.astore X6.here hx rfl (hb hby d1_17) rfl rfl (l' := #[.val (.ref w_MAJORITY_PERMIT_EResolutionRule), .val (.ref bo1), .val (.int (12 : Int32)), .val (.int (2 : Int32)), .val (.ref w_OWNER_OVERRIDES)]) rfl ?_
    show Steps p.tables e below (T6.setTop (mkF m 19 #[.val (.ref w_MAJORITY_PERMIT_EResolutionRule), .val (.ref bo1), .val (.int (12 : Int32)), .val (.int (2 : Int32)), .val (.ref w_OWNER_OVERRIDES)] [])) _
    refine XS.aload X6.here hx rfl (hb hby d1_19) rfl rfl ?_
    show Steps p.tables e below (T6.setTop (mkF m 21 #[.val (.ref w_MAJORITY_PERMIT_EResolutionRule), .val (.ref bo1), .val (.int (12 : Int32)), .val (.int (2 : Int32)), .val (.ref w_OWNER_OVERRIDES)] [(.ref w_OWNER_OVERRIDES)])) _
    refine st8 _ ?_
    show Steps p.tables e below (T8.setTop (mkF m 24 #[.val (.ref w_MAJORITY_PERMIT_EResolutionRule), .val (.ref bo1), .val (.int (12 : Int32)), .val (.int (2 : Int32)), .val (.ref w_OWNER_OVERRIDES)] [(.ref w_OWNER_OVERRIDES_EResolutionRule)])) _
    refine XS.aloadN X8.here hx rfl (hb hby d1_24) rfl rfl ?_
    show Steps p.tables e below (T8.setTop (mkF m 25 #[.val (.ref w_MAJORITY_PERMIT_EResolutionRule), .val (.ref bo1), .val (.int (12 : Int32)), .val (.int (2 : Int32)), .val (.ref w_OWNER_OVERRIDES)] [(.ref w_MAJORITY_PERMIT_EResolutionRule), (.ref w_OWNER_OVERRIDES_EResolutionRule)])) _
    refine Jvm.RoadKit.acmp (g := (mkF m 25 #[.val (.ref w_MAJORITY_PERMIT_EResolutionRule), .val (.ref bo1), .val (.int (12 : Int32)), .val (.int (2 : Int32)), .val (.ref w_OWNER_OVERRIDES)] [(.ref w_MAJORITY_PERMIT_EResolutionRule), (.ref w_OWNER_OVERRIDES_EResolutionRule)])) X8 hx rfl rfl rfl (pc0 := 25) (pc' := 31) (same := false) rfl (hb hby d1_25) rfl (decide_eq_false fun q => (Ne.symm (Fld.ne F_ordinal_w_MAJORITY_PERMIT_EResolutionRule F_ordinal_w_OWNER_OVERRIDES_EResolutionRule (by decide))) (Value.ref.inj q)) (by decide) (by decide) ?_
    show Steps p.tables e below (T8.setTop (mkF m 31 #[.val (.ref w_MAJORITY_PERMIT_EResolutionRule), .val (.ref bo1), .val (.int (12 : Int32)), .val (.int (2 : Int32)), .val (.ref w_OWNER_OVERRIDES)] [])) _
    refine XS.iinc X8.here hx rfl (hb hby d1_31) rfl (l' := #[.val (.ref w_MAJORITY_PERMIT_EResolutionRule), .val (.ref bo1), .val (.int (12 : Int32)), .val (.int (3 : Int32)), .val (.ref w_OWNER_OVERRIDES)]) rfl ?_
    show Steps p.tables e below (T8.setTop (mkF m 34 #[.val (.ref w_MAJORITY_PERMIT_EResolutionRule), .val (.ref bo1), .val (.int (12 : Int32)), .val (.int (3 : Int32)), .val (.ref w_OWNER_OVERRIDES)] [])) _
    refine XS.goto X8.here hx rfl (pc0 := 34) (pc' := 9) rfl (hb hby d1_34) (by decide) (by decide) ?_
    show Steps p.tables e below (T8.setTop (mkF m 9 #[.val (.ref w_MAJORITY_PERMIT_EResolutionRule), .val (.ref bo1), .val (.int (12 : Int32)), .val (.int (3 : Int32)), .val (.ref w_OWNER_OVERRIDES)] [])) _
    refine XS.iloadN X8.here hx rfl (hb hby d1_9) rfl ?_
    show Steps p.tables e below (T8.setTop (mkF m 10 #[.val (.ref w_MAJORITY_PERMIT_EResolutionRule), .val (.ref bo1), .val (.int (12 : Int32)), .val (.int (3 : Int32)), .val (.ref w_OWNER_OVERRIDES)] [(.int (3 : Int32))])) _
    refine XS.iloadN X8.here hx rfl (hb hby d1_10) rfl ?_
    show Steps p.tables e below (T8.setTop (mkF m 11 #[.val (.ref w_MAJORITY_PERMIT_EResolutionRule), .val (.ref bo1), .val (.int (12 : Int32)), .val (.int (3 : Int32)), .val (.ref w_OWNER_OVERRIDES)] [(.int (12 : Int32)), (.int (3 : Int32))])) _
    refine XS.icmpNo X8.here hx rfl (hb hby d1_11) rfl (tlt (by decide : (3 : Int32) < (12 : Int32))).2.1 ?_
    show Steps p.tables e below (T8.setTop (mkF m 14 #[.val (.ref w_MAJORITY_PERMIT_EResolutionRule), .val (.ref bo1), .val (.int (12 : Int32)), .val (.int (3 : Int32)), .val (.ref w_OWNER_OVERRIDES)] [])) _
    refine XS.aloadN X8.here hx rfl (hb hby d1_14) rfl rfl ?_
    show Steps p.tables e below (T8.setTop (mkF m 15 #[.val (.ref w_MAJORITY_PERMIT_EResolutionRule), .val (.ref bo1), .val (.int (12 : Int32)), .val (.int (3 : Int32)), .val (.ref w_OWNER_OVERRIDES)] [(.ref bo1)])) _
    refine XS.iloadN X8.here hx rfl (hb hby d1_15) rfl ?_
    show Steps p.tables e below (T8.setTop (mkF m 16 #[.val (.ref w_MAJORITY_PERMIT_EResolutionRule), .val (.ref bo1), .val (.int (12 : Int32)), .val (.int (3 : Int32)), .val (.ref w_OWNER_OVERRIDES)] [(.int (3 : Int32)), (.ref bo1)])) _
    refine X8.aaload hx (j := (3 : Int32)) (v := (.ref w_FULL_CONSENSUS_PERMIT)) (by rw [e8]; exact Ar9.1) (State.isArrayOf_alike hZ.alike Ar9.2.1) rfl Ar9.2.2 hin9 hat9 (g := (mkF m 16 #[.val (.ref w_MAJORITY_PERMIT_EResolutionRule), .val (.ref bo1), .val (.int (12 : Int32)), .val (.int (3 : Int32)), .val (.ref w_OWNER_OVERRIDES)] [(.int (3 : Int32)), (.ref bo1)])) rfl rfl (hb hby d1_16) _ ?_
    show Steps p.tables e below (T8.setTop (mkF m 17 #[.val (.ref w_MAJORITY_PERMIT_EResolutionRule), .val (.ref bo1), .val (.int (12 : Int32)), .val (.int (3 : Int32)), .val (.ref w_OWNER_OVERRIDES)] [(.ref w_FULL_CONSENSUS_PERMIT)])) _
    refine XS.astore X8.here hx rfl (hb hby d1_17) rfl rfl (l' := #[.val (.ref w_MAJORITY_PERMIT_EResolutionRule), .val (.ref bo1), .val (.int (12 : Int32)), .val (.int (3 : Int32)), .val (.ref w_FULL_CONSENSUS_PERMIT)]) rfl ?_
    show Steps p.tables e below (T8.setTop (mkF m 19 #[.val (.ref w_MAJORITY_PERMIT_EResolutionRule), .val (.ref bo1), .val (.int (12 : Int32)), .val (.int (3 : Int32)), .val (.ref w_FULL_CONSENSUS_PERMIT)] [])) _
    refine XS.aload X8.here hx rfl (hb hby d1_19) rfl rfl ?_
    show Steps p.tables e below (T8.setTop (mkF m 21 #[.val (.ref w_MAJORITY_PERMIT_EResolutionRule), .val (.ref bo1), .val (.int (12 : Int32)), .val (.int (3 : Int32)), .val (.ref w_FULL_CONSENSUS_PERMIT)] [(.ref w_FULL_CONSENSUS_PERMIT)])) _
    refine st10 _ ?_
    show Steps p.tables e below (T10.setTop (mkF m 24 #[.val (.ref w_MAJORITY_PERMIT_EResolutionRule), .val (.ref bo1), .val (.int (12 : Int32)), .val (.int (3 : Int32)), .val (.ref w_FULL_CONSENSUS_PERMIT)] [(.ref w_FULL_CONSENSUS_PERMIT_EResolutionRule)])) _
    refine XS.aloadN X10.here hx rfl (hb hby d1_24) rfl rfl ?_
    show Steps p.tables e below (T10.setTop (mkF m 25 #[.val (.ref w_MAJORITY_PERMIT_EResolutionRule), .val (.ref bo1), .val (.int (12 : Int32)), .val (.int (3 : Int32)), .val (.ref w_FULL_CONSENSUS_PERMIT)] [(.ref w_MAJORITY_PERMIT_EResolutionRule), (.ref w_FULL_CONSENSUS_PERMIT_EResolutionRule)])) _
    refine Jvm.RoadKit.acmp (g := (mkF m 25 #[.val (.ref w_MAJORITY_PERMIT_EResolutionRule), .val (.ref bo1), .val (.int (12 : Int32)), .val (.int (3 : Int32)), .val (.ref w_FULL_CONSENSUS_PERMIT)] [(.ref w_MAJORITY_PERMIT_EResolutionRule), (.ref w_FULL_CONSENSUS_PERMIT_EResolutionRule)])) X10 hx rfl rfl rfl (pc0 := 25) (pc' := 31) (same := false) rfl (hb hby d1_25) rfl (decide_eq_false fun q => (Ne.symm (Fld.ne F_ordinal_w_MAJORITY_PERMIT_EResolutionRule F_ordinal_w_FULL_CONSENSUS_PERMIT_EResolutionRule (by decide))) (Value.ref.inj q)) (by decide) (by decide) ?_
    show Steps p.tables e below (T10.setTop (mkF m 31 #[.val (.ref w_MAJORITY_PERMIT_EResolutionRule), .val (.ref bo1), .val (.int (12 : Int32)), .val (.int (3 : Int32)), .val (.ref w_FULL_CONSENSUS_PERMIT)] [])) _
    refine XS.iinc X10.here hx rfl (hb hby d1_31) rfl (l' := #[.val (.ref w_MAJORITY_PERMIT_EResolutionRule), .val (.ref bo1), .val (.int (12 : Int32)), .val (.int (4 : Int32)), .val (.ref w_FULL_CONSENSUS_PERMIT)]) rfl ?_
    show Steps p.tables e below (T10.setTop (mkF m 34 #[.val (.ref w_MAJORITY_PERMIT_EResolutionRule), .val (.ref bo1), .val (.int (12 : Int32)), .val (.int (4 : Int32)), .val (.ref w_FULL_CONSENSUS_PERMIT)] [])) _
    refine XS.goto X10.here hx rfl (pc0 := 34) (pc' := 9) rfl (hb hby d1_34) (by decide) (by decide) ?_
    show Steps p.tables e below (T10.setTop (mkF m 9 #[.val (.ref w_MAJORITY_PERMIT_EResolutionRule), .val (.ref bo1), .val (.int (12 : Int32)), .val (.int (4 : Int32)), .val (.ref w_FULL_CONSENSUS_PERMIT)] [])) _
    refine XS.iloadN X10.here hx rfl (hb hby d1_9) rfl ?_
    show Steps p.tables e below (T10.setTop (mkF m 10 #[.val (.ref w_MAJORITY_PERMIT_EResolutionRule), .val (.ref bo1), .val (.int (12 : Int32)), .val (.int (4 : Int32)), .val (.ref w_FULL_CONSENSUS_PERMIT)] [(.int (4 : Int32))])) _
    refine XS.iloadN X10.here hx rfl (hb hby d1_10) rfl ?_
    show Steps p.tables e below (T10.setTop (mkF m 11 #[.val (.ref w_MAJORITY_PERMIT_EResolutionRule), .val (.ref bo1), .val (.int (12 : Int32)), .val (.int (4 : Int32)), .val (.ref w_FULL_CONSENSUS_PERMIT)] [(.int (12 : Int32)), (.int (4 : Int32))])) _
    refine XS.icmpNo X10.here hx rfl (hb hby d1_11) rfl (tlt (by decide : (4 : Int32) < (12 : Int32))).2.1 ?_
    show Steps p.tables e below (T10.setTop (mkF m 14 #[.val (.ref w_MAJORITY_PERMIT_EResolutionRule), .val (.ref bo1), .val (.int (12 : Int32)), .val (.int (4 : Int32)), .val (.ref w_FULL_CONSENSUS_PERMIT)] [])) _
    refine XS.aloadN X10.here hx rfl (hb hby d1_14) rfl rfl ?_
    show Steps p.tables e below (T10.setTop (mkF m 15 #[.val (.ref w_MAJORITY_PERMIT_EResolutionRule), .val (.ref bo1), .val (.int (12 : Int32)), .val (.int (4 : Int32)), .val (.ref w_FULL_CONSENSUS_PERMIT)] [(.ref bo1)])) _
    refine XS.iloadN X10.here hx rfl (hb hby d1_15) rfl ?_
    show Steps p.tables e below (T10.setTop (mkF m 16 #[.val (.ref w_MAJORITY_PERMIT_EResolutionRule), .val (.ref bo1), .val (.int (12 : Int32)), .val (.int (4 : Int32)), .val (.ref w_FULL_CONSENSUS_PERMIT)] [(.int (4 : Int32)), (.ref bo1)])) _
    refine X10.aaload hx (j := (4 : Int32)) (v := (.ref w_MAJORITY_PERMIT)) (by rw [e10]; exact Ar11.1) (State.isArrayOf_alike hZ.alike Ar11.2.1) rfl Ar11.2.2 hin11 hat11 (g := (mkF m 16 #[.val (.ref w_MAJORITY_PERMIT_EResolutionRule), .val (.ref bo1), .val (.int (12 : Int32)), .val (.int (4 : Int32)), .val (.ref w_FULL_CONSENSUS_PERMIT)] [(.int (4 : Int32)), (.ref bo1)])) rfl rfl (hb hby d1_16) _ ?_
    show Steps p.tables e below (T10.setTop (mkF m 17 #[.val (.ref w_MAJORITY_PERMIT_EResolutionRule), .val (.ref bo1), .val (.int (12 : Int32)), .val (.int (4 : Int32)), .val (.ref w_FULL_CONSENSUS_PERMIT)] [(.ref w_MAJORITY_PERMIT)])) _
    refine XS.astore X10.here hx rfl (hb hby d1_17) rfl rfl (l' := #[.val (.ref w_MAJORITY_PERMIT_EResolutionRule), .val (.ref bo1), .val (.int (12 : Int32)), .val (.int (4 : Int32)), .val (.ref w_MAJORITY_PERMIT)]) rfl ?_
    show Steps p.tables e below (T10.setTop (mkF m 19 #[.val (.ref w_MAJORITY_PERMIT_EResolutionRule), .val (.ref bo1), .val (.int (12 : Int32)), .val (.int (4 : Int32)), .val (.ref w_MAJORITY_PERMIT)] [])) _
    refine XS.aload X10.here hx rfl (hb hby d1_19) rfl rfl ?_
    show Steps p.tables e below (T10.setTop (mkF m 21 #[.val (.ref w_MAJORITY_PERMIT_EResolutionRule), .val (.ref bo1), .val (.int (12 : Int32)), .val (.int (4 : Int32)), .val (.ref w_MAJORITY_PERMIT)] [(.ref w_MAJORITY_PERMIT)])) _
    refine st12 _ ?_
    show Steps p.tables e below (T12.setTop (mkF m 24 #[.val (.ref w_MAJORITY_PERMIT_EResolutionRule), .val (.ref bo1), .val (.int (12 : Int32)), .val (.int (4 : Int32)), .val (.ref w_MAJORITY_PERMIT)] [(.ref w_MAJORITY_PERMIT_EResolutionRule)])) _
    refine XS.aloadN X12.here hx rfl (hb hby d1_24) rfl rfl ?_
    show Steps p.tables e below (T12.setTop (mkF m 25 #[.val (.ref w_MAJORITY_PERMIT_EResolutionRule), .val (.ref bo1), .val (.int (12 : Int32)), .val (.int (4 : Int32)), .val (.ref w_MAJORITY_PERMIT)] [(.ref w_MAJORITY_PERMIT_EResolutionRule), (.ref w_MAJORITY_PERMIT_EResolutionRule)])) _
    refine Jvm.RoadKit.acmp (g := (mkF m 25 #[.val (.ref w_MAJORITY_PERMIT_EResolutionRule), .val (.ref bo1), .val (.int (12 : Int32)), .val (.int (4 : Int32)), .val (.ref w_MAJORITY_PERMIT)] [(.ref w_MAJORITY_PERMIT_EResolutionRule), (.ref w_MAJORITY_PERMIT_EResolutionRule)])) X12 hx rfl rfl rfl (pc0 := 25) (pc' := 28) (same := true) rfl (hb hby d1_25) rfl (decide_eq_true (congrArg Value.ref (rfl : w_MAJORITY_PERMIT_EResolutionRule = w_MAJORITY_PERMIT_EResolutionRule))) (by decide) (by decide) ?_
    show Steps p.tables e below (T12.setTop (mkF m 28 #[.val (.ref w_MAJORITY_PERMIT_EResolutionRule), .val (.ref bo1), .val (.int (12 : Int32)), .val (.int (4 : Int32)), .val (.ref w_MAJORITY_PERMIT)] [])) _
    refine XS.aload X12.here hx rfl (hb hby d1_28) rfl rfl ?_
    show Steps p.tables e below (T12.setTop (mkF m 30 #[.val (.ref w_MAJORITY_PERMIT_EResolutionRule), .val (.ref bo1), .val (.int (12 : Int32)), .val (.int (4 : Int32)), .val (.ref w_MAJORITY_PERMIT)] [(.ref w_MAJORITY_PERMIT)])) _
    jvm_step X12.here [X12.here.top, hx, (hb hby d1_30), X12.method', Bd.returns, Value.isRef, FieldType.isReference]
    first | (intro acts; rw [hr _ acts rfl rfl rfl]) | rw [hr _ _ rfl rfl rfl]
    exact Steps.refl _
  · show Q_fr_MAJORITY_PERMIT Z w_WEIGHTED w_WEIGHTED_EReason w_SVALUES w_CONTROLLER w_OWNER_OVERRIDES w_FULL_CONSENSUS_PERMIT w_MAJORITY_PERMIT w_STRONG_MAJORITY_PERMIT w_SUPER_MAJORITY_PERMIT w_SOURCE w_RESHARE_REFUSED w_UNNAMED w_NOT_VIEWER w_NO_THRESHOLD w_MAJORITY_PERMIT_EResolutionRule w_OWNER_OVERRIDES_EResolutionRule w_FULL_CONSENSUS_PERMIT_EResolutionRule w_SUPER_MAJORITY_PERMIT_EResolutionRule w_STRONG_MAJORITY_PERMIT_EResolutionRule kV h0 n0 _ T12.heap _
    rw [e12]
    exact ⟨rfl, N1, K1⟩
theorem ef_gr_MAJORITY_PERMIT (m : MethodId) (w_MAJORITY_PERMIT : Addr) : entryFrame m #[(.ref w_MAJORITY_PERMIT)] 1 = mkF m 0 #[.val (.ref w_MAJORITY_PERMIT)] [] := by first | (simp [entryFrame, mkF, argsToLocals, Value.category]; done) | rfl
def Q_gr_MAJORITY_PERMIT (Z : State) (w_WEIGHTED w_WEIGHTED_EReason w_SVALUES w_CONTROLLER w_OWNER_OVERRIDES w_FULL_CONSENSUS_PERMIT w_MAJORITY_PERMIT w_STRONG_MAJORITY_PERMIT w_SUPER_MAJORITY_PERMIT w_SOURCE w_RESHARE_REFUSED w_UNNAMED w_NOT_VIEWER w_NO_THRESHOLD w_MAJORITY_PERMIT_EResolutionRule w_OWNER_OVERRIDES_EResolutionRule w_FULL_CONSENSUS_PERMIT_EResolutionRule w_SUPER_MAJORITY_PERMIT_EResolutionRule w_STRONG_MAJORITY_PERMIT_EResolutionRule : Addr) (kV : ClassId) (h0 : Heap) (n0 : Nat) (v : Option Value) (h : Heap) (L : List Loc) : Prop := v = some (.ref w_MAJORITY_PERMIT_EResolutionRule) ∧ Fr n0 L ∧ h = h0
set_option maxRecDepth 65536 in
set_option maxHeartbeats 40000000 in
theorem gr_MAJORITY_PERMIT (l : Launch) (Z : State) (a0 : Array Value) (hw : ∀ d ∈ tables_1, d.before a0 Z = true) (ws : List Jvm.Cond) (w_WEIGHTED w_WEIGHTED_EReason w_SVALUES w_CONTROLLER w_OWNER_OVERRIDES w_FULL_CONSENSUS_PERMIT w_MAJORITY_PERMIT w_STRONG_MAJORITY_PERMIT w_SUPER_MAJORITY_PERMIT w_SOURCE w_RESHARE_REFUSED w_UNNAMED w_NOT_VIEWER w_NO_THRESHOLD w_MAJORITY_PERMIT_EResolutionRule w_OWNER_OVERRIDES_EResolutionRule w_FULL_CONSENSUS_PERMIT_EResolutionRule w_SUPER_MAJORITY_PERMIT_EResolutionRule w_STRONG_MAJORITY_PERMIT_EResolutionRule : Addr) (kV : ClassId) (h0 : Heap) (n0 : Nat) (O0 : Old Z n0 h0) (hE : OwnEnv Z w_WEIGHTED w_WEIGHTED_EReason w_SVALUES w_CONTROLLER w_OWNER_OVERRIDES w_FULL_CONSENSUS_PERMIT w_MAJORITY_PERMIT w_STRONG_MAJORITY_PERMIT w_SUPER_MAJORITY_PERMIT w_SOURCE w_RESHARE_REFUSED w_UNNAMED w_NOT_VIEWER w_NO_THRESHOLD w_MAJORITY_PERMIT_EResolutionRule w_OWNER_OVERRIDES_EResolutionRule w_FULL_CONSENSUS_PERMIT_EResolutionRule w_SUPER_MAJORITY_PERMIT_EResolutionRule w_STRONG_MAJORITY_PERMIT_EResolutionRule kV) :
    MetFree l (⟨"com/example/kindred_consent/kindredconsent/engine/EReason", "getRule", "()Lcom/example/kindred_consent/kindredconsent/model/EResolutionRule;"⟩ : MethodName) (head1 (Jvm.Cond.code (⟨"com/example/kindred_consent/kindredconsent/engine/EReason", "getRule", "()Lcom/example/kindred_consent/kindredconsent/model/EResolutionRule;"⟩ : MethodName) prog_7_method_6_code 1 (some (.object "com/example/kindred_consent/kindredconsent/model/EResolutionRule")) :: ws) ({ frames := 0, cells := 0, slots := 0, locals := 0 } : Room)) (fun a U => a = #[(.ref w_MAJORITY_PERMIT)] ∧ Z.Warmed39 U.vm ∧ U.heap = h0) (fun _ _ _ _ _ => True) (fun _ U o U' => ∃ v L, o = .returned v ∧ Q_gr_MAJORITY_PERMIT Z w_WEIGHTED w_WEIGHTED_EReason w_SVALUES w_CONTROLLER w_OWNER_OVERRIDES w_FULL_CONSENSUS_PERMIT w_MAJORITY_PERMIT w_STRONG_MAJORITY_PERMIT w_SUPER_MAJORITY_PERMIT w_SOURCE w_RESHARE_REFUSED w_UNNAMED w_NOT_VIEWER w_NO_THRESHOLD w_MAJORITY_PERMIT_EResolutionRule w_OWNER_OVERRIDES_EResolutionRule w_FULL_CONSENSUS_PERMIT_EResolutionRule w_SUPER_MAJORITY_PERMIT_EResolutionRule w_STRONG_MAJORITY_PERMIT_EResolutionRule kV h0 n0 v U'.heap L ∧ FrameEnd U o U' L ({ frames := 0, cells := 0, slots := 0, locals := 0 } : Room).cells ({ frames := 0, cells := 0, slots := 0, locals := 0 } : Room).slots) := by
  refine MetFree.of_bodySF (plainFor_of_name pn_com_example_kindred_consent_kindredconsent_engine_EReason) hisR ?_
  intro p e s m args below meth c s₁ Bd hml0 hP hK
  obtain ⟨rfl, hZ, hh⟩ := hP
  have hx := Bd.exec
  have hby := Bd.bytes
  have hml : c.maxLocals = 1 := hml0
  have hown : s.vm.findClass "com/example/kindred_consent/kindredconsent/engine/EReason" = some m.cls := findClass_of_methodNamed Bd.named
  have hnm := (name_of_methodNamed Bd.named Bd.method).1
  have X0 : Stand p l e ({ frames := 0, cells := 0, slots := 0, locals := 0 } : Room) s m #[(.ref w_MAJORITY_PERMIT)] below meth c s₁ [] 0 0 := Stand.of_body Bd
  have e0 : s₁.heap = h0 := by rw [← hh, Bd.state]; rfl
  have N0 := Fr.nil n0
  have pre0 : ∀ t, Steps p.tables e below (s₁.setTop (mkF m 0 #[.val (.ref w_MAJORITY_PERMIT)] [])) t → Steps p.tables e below (s₁.setTop (entryFrame m #[(.ref w_MAJORITY_PERMIT)] 1)) t := fun t k => castTop (ef_gr_MAJORITY_PERMIT m w_MAJORITY_PERMIT) k
  have hE_ := hE; obtain ⟨S_w_WEIGHTED, E_w_WEIGHTED, S_w_WEIGHTED_EReason, E_w_WEIGHTED_EReason, S_w_SVALUES, E_w_SVALUES, S_w_CONTROLLER, E_w_CONTROLLER, S_w_OWNER_OVERRIDES, E_w_OWNER_OVERRIDES, S_w_FULL_CONSENSUS_PERMIT, E_w_FULL_CONSENSUS_PERMIT, S_w_MAJORITY_PERMIT, E_w_MAJORITY_PERMIT, S_w_STRONG_MAJORITY_PERMIT, E_w_STRONG_MAJORITY_PERMIT, S_w_SUPER_MAJORITY_PERMIT, E_w_SUPER_MAJORITY_PERMIT, S_w_SOURCE, E_w_SOURCE, S_w_RESHARE_REFUSED, E_w_RESHARE_REFUSED, S_w_UNNAMED, E_w_UNNAMED, S_w_NOT_VIEWER, E_w_NOT_VIEWER, S_w_NO_THRESHOLD, E_w_NO_THRESHOLD, S_w_MAJORITY_PERMIT_EResolutionRule, E_w_MAJORITY_PERMIT_EResolutionRule, S_w_OWNER_OVERRIDES_EResolutionRule, E_w_OWNER_OVERRIDES_EResolutionRule, S_w_FULL_CONSENSUS_PERMIT_EResolutionRule, E_w_FULL_CONSENSUS_PERMIT_EResolutionRule, S_w_SUPER_MAJORITY_PERMIT_EResolutionRule, E_w_SUPER_MAJORITY_PERMIT_EResolutionRule, S_w_STRONG_MAJORITY_PERMIT_EResolutionRule, E_w_STRONG_MAJORITY_PERMIT_EResolutionRule, F_m_eRule_w_CONTROLLER, F_m_eRule_w_WEIGHTED_EReason, F_ordinal_w_WEIGHTED, F_ordinal_w_MAJORITY_PERMIT_EResolutionRule, F_m_eRule_w_OWNER_OVERRIDES, F_ordinal_w_OWNER_OVERRIDES_EResolutionRule, F_m_eRule_w_FULL_CONSENSUS_PERMIT, F_ordinal_w_FULL_CONSENSUS_PERMIT_EResolutionRule, F_m_eRule_w_MAJORITY_PERMIT, F_ordinal_w_SUPER_MAJORITY_PERMIT_EResolutionRule, F_m_eRule_w_STRONG_MAJORITY_PERMIT, F_ordinal_w_STRONG_MAJORITY_PERMIT_EResolutionRule, F_m_eRule_w_SUPER_MAJORITY_PERMIT, F_m_eRule_w_SOURCE, F_m_eRule_w_RESHARE_REFUSED, F_m_eRule_w_UNNAMED, F_m_eRule_w_NOT_VIEWER, F_m_eRule_w_NO_THRESHOLD, V_w_SVALUES⟩ := hE_
  obtain ⟨T1, X1, e1, st1⟩ := getF X0 hx hZ hown (host := "") (Or.inl (hw _ (List.mem_of_getElem? (i := 36) rfl))) Via.refl e0 (F_m_eRule_w_MAJORITY_PERMIT.ext O0.2) (g := (mkF m 1 #[.val (.ref w_MAJORITY_PERMIT)] [(.ref w_MAJORITY_PERMIT)])) rfl rfl (hb hby d3_1)
  obtain ⟨fs, hr, hrun, hended, hW, hsame⟩ := X1.leave (v := some (.ref w_MAJORITY_PERMIT_EResolutionRule)) (fun h => by rw [Bd.returns] at h; cases h)
  refine ⟨_, _, pre0 _ ?_, hrun, hended, _, _, rfl, ?_, ⟨_, rfl⟩, hW, hsame.mono (by decide) (by decide)⟩
  · show Steps p.tables e below (s₁.setTop (mkF m 0 #[.val (.ref w_MAJORITY_PERMIT)] [])) _
    refine XS.aloadN X0.here hx rfl (hb hby d3_0) rfl rfl ?_
    show Steps p.tables e below (s₁.setTop (mkF m 1 #[.val (.ref w_MAJORITY_PERMIT)] [(.ref w_MAJORITY_PERMIT)])) _
    refine st1 _ ?_
    show Steps p.tables e below (T1.setTop (mkF m 4 #[.val (.ref w_MAJORITY_PERMIT)] [(.ref w_MAJORITY_PERMIT_EResolutionRule)])) _
    jvm_step X1.here [X1.here.top, hx, (hb hby d3_4), X1.method', Bd.returns, Value.isRef, FieldType.isReference]
    first | (intro acts; rw [hr _ acts rfl rfl rfl]) | rw [hr _ _ rfl rfl rfl]
    exact Steps.refl _
  · show Q_gr_MAJORITY_PERMIT Z w_WEIGHTED w_WEIGHTED_EReason w_SVALUES w_CONTROLLER w_OWNER_OVERRIDES w_FULL_CONSENSUS_PERMIT w_MAJORITY_PERMIT w_STRONG_MAJORITY_PERMIT w_SUPER_MAJORITY_PERMIT w_SOURCE w_RESHARE_REFUSED w_UNNAMED w_NOT_VIEWER w_NO_THRESHOLD w_MAJORITY_PERMIT_EResolutionRule w_OWNER_OVERRIDES_EResolutionRule w_FULL_CONSENSUS_PERMIT_EResolutionRule w_SUPER_MAJORITY_PERMIT_EResolutionRule w_STRONG_MAJORITY_PERMIT_EResolutionRule kV h0 n0 _ T1.heap _
    rw [e1]
    exact ⟨rfl, N0, rfl⟩
theorem ef_fr_STRONG_MAJORITY_PERMIT (m : MethodId) (w_STRONG_MAJORITY_PERMIT_EResolutionRule : Addr) : entryFrame m #[(.ref w_STRONG_MAJORITY_PERMIT_EResolutionRule)] 5 = mkF m 0 #[.val (.ref w_STRONG_MAJORITY_PERMIT_EResolutionRule), .unset, .unset, .unset, .unset] [] := by first | (simp [entryFrame, mkF, argsToLocals, Value.category]; done) | rfl
def Q_fr_STRONG_MAJORITY_PERMIT (Z : State) (w_WEIGHTED w_WEIGHTED_EReason w_SVALUES w_CONTROLLER w_OWNER_OVERRIDES w_FULL_CONSENSUS_PERMIT w_MAJORITY_PERMIT w_STRONG_MAJORITY_PERMIT w_SUPER_MAJORITY_PERMIT w_SOURCE w_RESHARE_REFUSED w_UNNAMED w_NOT_VIEWER w_NO_THRESHOLD w_MAJORITY_PERMIT_EResolutionRule w_OWNER_OVERRIDES_EResolutionRule w_FULL_CONSENSUS_PERMIT_EResolutionRule w_SUPER_MAJORITY_PERMIT_EResolutionRule w_STRONG_MAJORITY_PERMIT_EResolutionRule : Addr) (kV : ClassId) (h0 : Heap) (n0 : Nat) (v : Option Value) (h : Heap) (L : List Loc) : Prop := v = some (.ref w_STRONG_MAJORITY_PERMIT) ∧ Fr n0 L ∧ Keep h0 h []
set_option maxRecDepth 65536 in
set_option maxHeartbeats 40000000 in
theorem fr_STRONG_MAJORITY_PERMIT (l : Launch) (Z : State) (a0 : Array Value) (hw : ∀ d ∈ tables_1, d.before a0 Z = true) (ws : List Jvm.Cond) (w_WEIGHTED w_WEIGHTED_EReason w_SVALUES w_CONTROLLER w_OWNER_OVERRIDES w_FULL_CONSENSUS_PERMIT w_MAJORITY_PERMIT w_STRONG_MAJORITY_PERMIT w_SUPER_MAJORITY_PERMIT w_SOURCE w_RESHARE_REFUSED w_UNNAMED w_NOT_VIEWER w_NO_THRESHOLD w_MAJORITY_PERMIT_EResolutionRule w_OWNER_OVERRIDES_EResolutionRule w_FULL_CONSENSUS_PERMIT_EResolutionRule w_SUPER_MAJORITY_PERMIT_EResolutionRule w_STRONG_MAJORITY_PERMIT_EResolutionRule : Addr) (kV : ClassId) (h0 : Heap) (n0 : Nat) (O0 : Old Z n0 h0) (hE : OwnEnv Z w_WEIGHTED w_WEIGHTED_EReason w_SVALUES w_CONTROLLER w_OWNER_OVERRIDES w_FULL_CONSENSUS_PERMIT w_MAJORITY_PERMIT w_STRONG_MAJORITY_PERMIT w_SUPER_MAJORITY_PERMIT w_SOURCE w_RESHARE_REFUSED w_UNNAMED w_NOT_VIEWER w_NO_THRESHOLD w_MAJORITY_PERMIT_EResolutionRule w_OWNER_OVERRIDES_EResolutionRule w_FULL_CONSENSUS_PERMIT_EResolutionRule w_SUPER_MAJORITY_PERMIT_EResolutionRule w_STRONG_MAJORITY_PERMIT_EResolutionRule kV) :
    MetFree l (⟨"com/example/kindred_consent/kindredconsent/engine/EReason", "forRule", "(Lcom/example/kindred_consent/kindredconsent/model/EResolutionRule;)Lcom/example/kindred_consent/kindredconsent/engine/EReason;"⟩ : MethodName) (head1 (Jvm.Cond.code (⟨"com/example/kindred_consent/kindredconsent/engine/EReason", "forRule", "(Lcom/example/kindred_consent/kindredconsent/model/EResolutionRule;)Lcom/example/kindred_consent/kindredconsent/engine/EReason;"⟩ : MethodName) prog_7_method_8_code 5 (some (.object "com/example/kindred_consent/kindredconsent/engine/EReason")) :: ws) ({ frames := 2, cells := 1, slots := 12, locals := 25 } : Room)) (fun a U => a = #[(.ref w_STRONG_MAJORITY_PERMIT_EResolutionRule)] ∧ Z.Warmed39 U.vm ∧ U.heap = h0) (fun _ _ _ _ _ => True) (fun _ U o U' => ∃ v L, o = .returned v ∧ Q_fr_STRONG_MAJORITY_PERMIT Z w_WEIGHTED w_WEIGHTED_EReason w_SVALUES w_CONTROLLER w_OWNER_OVERRIDES w_FULL_CONSENSUS_PERMIT w_MAJORITY_PERMIT w_STRONG_MAJORITY_PERMIT w_SUPER_MAJORITY_PERMIT w_SOURCE w_RESHARE_REFUSED w_UNNAMED w_NOT_VIEWER w_NO_THRESHOLD w_MAJORITY_PERMIT_EResolutionRule w_OWNER_OVERRIDES_EResolutionRule w_FULL_CONSENSUS_PERMIT_EResolutionRule w_SUPER_MAJORITY_PERMIT_EResolutionRule w_STRONG_MAJORITY_PERMIT_EResolutionRule kV h0 n0 v U'.heap L ∧ FrameEnd U o U' L ({ frames := 2, cells := 1, slots := 12, locals := 25 } : Room).cells ({ frames := 2, cells := 1, slots := 12, locals := 25 } : Room).slots) := by
  refine MetFree.of_bodySF (plainFor_of_name pn_com_example_kindred_consent_kindredconsent_engine_EReason) hisR ?_
  intro p e s m args below meth c s₁ Bd hml0 hP hK
  obtain ⟨rfl, hZ, hh⟩ := hP
  have hx := Bd.exec
  have hby := Bd.bytes
  have hml : c.maxLocals = 5 := hml0
  have hown : s.vm.findClass "com/example/kindred_consent/kindredconsent/engine/EReason" = some m.cls := findClass_of_methodNamed Bd.named
  have hnm := (name_of_methodNamed Bd.named Bd.method).1
  have X0 : Stand p l e ({ frames := 2, cells := 1, slots := 12, locals := 25 } : Room) s m #[(.ref w_STRONG_MAJORITY_PERMIT_EResolutionRule)] below meth c s₁ [] 0 0 := Stand.of_body Bd
  have e0 : s₁.heap = h0 := by rw [← hh, Bd.state]; rfl
  have N0 := Fr.nil n0
  have pre0 : ∀ t, Steps p.tables e below (s₁.setTop (mkF m 0 #[.val (.ref w_STRONG_MAJORITY_PERMIT_EResolutionRule), .unset, .unset, .unset, .unset] [])) t → Steps p.tables e below (s₁.setTop (entryFrame m #[(.ref w_STRONG_MAJORITY_PERMIT_EResolutionRule)] 5)) t := fun t k => castTop (ef_fr_STRONG_MAJORITY_PERMIT m w_STRONG_MAJORITY_PERMIT_EResolutionRule) k
  have hE_ := hE; obtain ⟨S_w_WEIGHTED, E_w_WEIGHTED, S_w_WEIGHTED_EReason, E_w_WEIGHTED_EReason, S_w_SVALUES, E_w_SVALUES, S_w_CONTROLLER, E_w_CONTROLLER, S_w_OWNER_OVERRIDES, E_w_OWNER_OVERRIDES, S_w_FULL_CONSENSUS_PERMIT, E_w_FULL_CONSENSUS_PERMIT, S_w_MAJORITY_PERMIT, E_w_MAJORITY_PERMIT, S_w_STRONG_MAJORITY_PERMIT, E_w_STRONG_MAJORITY_PERMIT, S_w_SUPER_MAJORITY_PERMIT, E_w_SUPER_MAJORITY_PERMIT, S_w_SOURCE, E_w_SOURCE, S_w_RESHARE_REFUSED, E_w_RESHARE_REFUSED, S_w_UNNAMED, E_w_UNNAMED, S_w_NOT_VIEWER, E_w_NOT_VIEWER, S_w_NO_THRESHOLD, E_w_NO_THRESHOLD, S_w_MAJORITY_PERMIT_EResolutionRule, E_w_MAJORITY_PERMIT_EResolutionRule, S_w_OWNER_OVERRIDES_EResolutionRule, E_w_OWNER_OVERRIDES_EResolutionRule, S_w_FULL_CONSENSUS_PERMIT_EResolutionRule, E_w_FULL_CONSENSUS_PERMIT_EResolutionRule, S_w_SUPER_MAJORITY_PERMIT_EResolutionRule, E_w_SUPER_MAJORITY_PERMIT_EResolutionRule, S_w_STRONG_MAJORITY_PERMIT_EResolutionRule, E_w_STRONG_MAJORITY_PERMIT_EResolutionRule, F_m_eRule_w_CONTROLLER, F_m_eRule_w_WEIGHTED_EReason, F_ordinal_w_WEIGHTED, F_ordinal_w_MAJORITY_PERMIT_EResolutionRule, F_m_eRule_w_OWNER_OVERRIDES, F_ordinal_w_OWNER_OVERRIDES_EResolutionRule, F_m_eRule_w_FULL_CONSENSUS_PERMIT, F_ordinal_w_FULL_CONSENSUS_PERMIT_EResolutionRule, F_m_eRule_w_MAJORITY_PERMIT, F_ordinal_w_SUPER_MAJORITY_PERMIT_EResolutionRule, F_m_eRule_w_STRONG_MAJORITY_PERMIT, F_ordinal_w_STRONG_MAJORITY_PERMIT_EResolutionRule, F_m_eRule_w_SUPER_MAJORITY_PERMIT, F_m_eRule_w_SOURCE, F_m_eRule_w_RESHARE_REFUSED, F_m_eRule_w_UNNAMED, F_m_eRule_w_NOT_VIEWER, F_m_eRule_w_NO_THRESHOLD, V_w_SVALUES⟩ := hE_
  obtain ⟨_, _, ⟨T1, L1, k1, n1⟩, -, X1, ⟨Lc1, hQ1, l1, y1, z1⟩, st1⟩ := Jvm.LawKit.callS X0 hx (y := (⟨"com/example/kindred_consent/kindredconsent/engine/EReason", "values", "()[Lcom/example/kindred_consent/kindredconsent/engine/EReason;"⟩ : MethodName)) hown (mvT hZ (hw _ (List.mem_of_getElem? (i := 10) rfl))) (mvT hZ (hw _ (List.mem_of_getElem? (i := 11) rfl))) (mvT hZ (hw _ (List.mem_of_getElem? (i := 5) rfl))) (mvT hZ (hw _ (List.mem_of_getElem? (i := 12) rfl))) (by decide) (backOf (W := 0) (vals l Z a0 hw [] w_WEIGHTED w_WEIGHTED_EReason w_SVALUES w_CONTROLLER w_OWNER_OVERRIDES w_FULL_CONSENSUS_PERMIT w_MAJORITY_PERMIT w_STRONG_MAJORITY_PERMIT w_SUPER_MAJORITY_PERMIT w_SOURCE w_RESHARE_REFUSED w_UNNAMED w_NOT_VIEWER w_NO_THRESHOLD w_MAJORITY_PERMIT_EResolutionRule w_OWNER_OVERRIDES_EResolutionRule w_FULL_CONSENSUS_PERMIT_EResolutionRule w_SUPER_MAJORITY_PERMIT_EResolutionRule w_STRONG_MAJORITY_PERMIT_EResolutionRule kV h0 n0 O0 hE) hZ (hw _ (List.mem_of_getElem? (i := 12) rfl)) (hw _ (List.mem_of_getElem? (i := 5) rfl)) (by decide) (by decide)) (g := (mkF m 0 #[.val (.ref w_STRONG_MAJORITY_PERMIT_EResolutionRule), .unset, .unset, .unset, .unset] [])) rfl (by rw [hml]; rfl) (argsL := []) (rest := []) (lenOf pd____Lcom_example_kindred_consent_kindredconsent_engine_EReason_ rfl) rfl (by show 2 * 0 + _ ≤ _; exact Nat.le_of_eq rfl) (hb hby d1_0) (fun _ _ => ⟨rfl, e0, (by decide : 0 + 1 ≤ _), (by decide : 0 + 12 ≤ _)⟩)
  dsimp only [Pt.U, Pt.locs, Pt.cells, Pt.slots] at X1 l1 y1 z1 st1 hQ1
  subst l1 y1 z1
  obtain ⟨bo1, rfl, Nq1, Kq1, g_1, Va1⟩ := hQ1
  have N1 := Fr.app N0 Nq1
  have O1 := O0.keep Kq1 all0
  have K1 : Keep h0 T1.heap [] := (Keep.refl h0 []).trans Kq1 all0
  have Vc2 := Va1
  obtain ⟨cl2, Ar2, qa2, Sz2, Nn2, Ha2, Ga2⟩ := Vc2
  have Vc3 := Va1
  obtain ⟨cl3, Ar3, qa3, Sz3, Nn3, Ha3, Ga3⟩ := Vc3
  have hin3 : ¬ ((0 : Int32) < 0 ∨ cl3.slots.size ≤ ((0 : Int32)).toNatClampNeg) := inb_of Sz3 ⟨by decide, by decide⟩
  have hat3 : cl3.slots[((0 : Int32)).toNatClampNeg]? = some (.ref w_CONTROLLER) := Has.at Ha3 hin3 rfl
  obtain ⟨T4, X4, e4, st4⟩ := getF X1 hx hZ hown (host := "") (Or.inl (hw _ (List.mem_of_getElem? (i := 36) rfl))) Via.refl rfl (F_m_eRule_w_CONTROLLER.ext O1.2) (g := (mkF m 21 #[.val (.ref w_STRONG_MAJORITY_PERMIT_EResolutionRule), .val (.ref bo1), .val (.int (12 : Int32)), .val (.int (0 : Int32)), .val (.ref w_CONTROLLER)] [(.ref w_CONTROLLER)])) rfl rfl (hb hby d1_21)
  have Vc5 := Va1
  obtain ⟨cl5, Ar5, qa5, Sz5, Nn5, Ha5, Ga5⟩ := Vc5
  have hin5 : ¬ ((1 : Int32) < 0 ∨ cl5.slots.size ≤ ((1 : Int32)).toNatClampNeg) := inb_of Sz5 ⟨by decide, by decide⟩
  have hat5 : cl5.slots[((1 : Int32)).toNatClampNeg]? = some (.ref w_WEIGHTED_EReason) := Has.at Ha5 hin5 rfl
  obtain ⟨T6, X6, e6, st6⟩ := getF X4 hx hZ hown (host := "") (Or.inl (hw _ (List.mem_of_getElem? (i := 36) rfl))) Via.refl e4 (F_m_eRule_w_WEIGHTED_EReason.ext O1.2) (g := (mkF m 21 #[.val (.ref w_STRONG_MAJORITY_PERMIT_EResolutionRule), .val (.ref bo1), .val (.int (12 : Int32)), .val (.int (1 : Int32)), .val (.ref w_WEIGHTED_EReason)] [(.ref w_WEIGHTED_EReason)])) rfl rfl (hb hby d1_21)
  have Vc7 := Va1
  obtain ⟨cl7, Ar7, qa7, Sz7, Nn7, Ha7, Ga7⟩ := Vc7
  have hin7 : ¬ ((2 : Int32) < 0 ∨ cl7.slots.size ≤ ((2 : Int32)).toNatClampNeg) := inb_of Sz7 ⟨by decide, by decide⟩
  have hat7 : cl7.slots[((2 : Int32)).toNatClampNeg]? = some (.ref w_OWNER_OVERRIDES) := Has.at Ha7 hin7 rfl
  obtain ⟨T8, X8, e8, st8⟩ := getF X6 hx hZ hown (host := "") (Or.inl (hw _ (List.mem_of_getElem? (i := 36) rfl))) Via.refl e6 (F_m_eRule_w_OWNER_OVERRIDES.ext O1.2) (g := (mkF m 21 #[.val (.ref w_STRONG_MAJORITY_PERMIT_EResolutionRule), .val (.ref bo1), .val (.int (12 : Int32)), .val (.int (2 : Int32)), .val (.ref w_OWNER_OVERRIDES)] [(.ref w_OWNER_OVERRIDES)])) rfl rfl (hb hby d1_21)
  have Vc9 := Va1
  obtain ⟨cl9, Ar9, qa9, Sz9, Nn9, Ha9, Ga9⟩ := Vc9
  have hin9 : ¬ ((3 : Int32) < 0 ∨ cl9.slots.size ≤ ((3 : Int32)).toNatClampNeg) := inb_of Sz9 ⟨by decide, by decide⟩
  have hat9 : cl9.slots[((3 : Int32)).toNatClampNeg]? = some (.ref w_FULL_CONSENSUS_PERMIT) := Has.at Ha9 hin9 rfl
  obtain ⟨T10, X10, e10, st10⟩ := getF X8 hx hZ hown (host := "") (Or.inl (hw _ (List.mem_of_getElem? (i := 36) rfl))) Via.refl e8 (F_m_eRule_w_FULL_CONSENSUS_PERMIT.ext O1.2) (g := (mkF m 21 #[.val (.ref w_STRONG_MAJORITY_PERMIT_EResolutionRule), .val (.ref bo1), .val (.int (12 : Int32)), .val (.int (3 : Int32)), .val (.ref w_FULL_CONSENSUS_PERMIT)] [(.ref w_FULL_CONSENSUS_PERMIT)])) rfl rfl (hb hby d1_21)
  have Vc11 := Va1
  obtain ⟨cl11, Ar11, qa11, Sz11, Nn11, Ha11, Ga11⟩ := Vc11
  have hin11 : ¬ ((4 : Int32) < 0 ∨ cl11.slots.size ≤ ((4 : Int32)).toNatClampNeg) := inb_of Sz11 ⟨by decide, by decide⟩
  have hat11 : cl11.slots[((4 : Int32)).toNatClampNeg]? = some (.ref w_MAJORITY_PERMIT) := Has.at Ha11 hin11 rfl
  obtain ⟨T12, X12, e12, st12⟩ := getF X10 hx hZ hown (host := "") (Or.inl (hw _ (List.mem_of_getElem? (i := 36) rfl))) Via.refl e10 (F_m_eRule_w_MAJORITY_PERMIT.ext O1.2) (g := (mkF m 21 #[.val (.ref w_STRONG_MAJORITY_PERMIT_EResolutionRule), .val (.ref bo1), .val (.int (12 : Int32)), .val (.int (4 : Int32)), .val (.ref w_MAJORITY_PERMIT)] [(.ref w_MAJORITY_PERMIT)])) rfl rfl (hb hby d1_21)
  have Vc13 := Va1
  obtain ⟨cl13, Ar13, qa13, Sz13, Nn13, Ha13, Ga13⟩ := Vc13
  have hin13 : ¬ ((5 : Int32) < 0 ∨ cl13.slots.size ≤ ((5 : Int32)).toNatClampNeg) := inb_of Sz13 ⟨by decide, by decide⟩
  have hat13 : cl13.slots[((5 : Int32)).toNatClampNeg]? = some (.ref w_STRONG_MAJORITY_PERMIT) := Has.at Ha13 hin13 rfl
  obtain ⟨T14, X14, e14, st14⟩ := getF X12 hx hZ hown (host := "") (Or.inl (hw _ (List.mem_of_getElem? (i := 36) rfl))) Via.refl e12 (F_m_eRule_w_STRONG_MAJORITY_PERMIT.ext O1.2) (g := (mkF m 21 #[.val (.ref w_STRONG_MAJORITY_PERMIT_EResolutionRule), .val (.ref bo1), .val (.int (12 : Int32)), .val (.int (5 : Int32)), .val (.ref w_STRONG_MAJORITY_PERMIT)] [(.ref w_STRONG_MAJORITY_PERMIT)])) rfl rfl (hb hby d1_21)
  obtain ⟨fs, hr, hrun, hended, hW, hsame⟩ := X14.leave (v := some (.ref w_STRONG_MAJORITY_PERMIT)) (fun h => by rw [Bd.returns] at h; cases h)
  refine ⟨_, _, pre0 _ ?_, hrun, hended, _, _, rfl, ?_, ⟨_, rfl⟩, hW, hsame.mono (by decide) (by decide)⟩
  · show Steps p.tables e below (s₁.setTop (mkF m 0 #[.val (.ref w_STRONG_MAJORITY_PERMIT_EResolutionRule), .unset, .unset, .unset, .unset] [])) _
    refine st1 _ ?_
    show Steps p.tables e below (T1.setTop (mkF m 3 #[.val (.ref w_STRONG_MAJORITY_PERMIT_EResolutionRule), .unset, .unset, .unset, .unset] [(.ref bo1)])) _
    refine XS.astoreN X1.here hx rfl (hb hby d1_3) rfl rfl (l' := #[.val (.ref w_STRONG_MAJORITY_PERMIT_EResolutionRule), .val (.ref bo1), .unset, .unset, .unset]) rfl ?_
    show Steps p.tables e below (T1.setTop (mkF m 4 #[.val (.ref w_STRONG_MAJORITY_PERMIT_EResolutionRule), .val (.ref bo1), .unset, .unset, .unset] [])) _
    refine XS.aloadN X1.here hx rfl (hb hby d1_4) rfl rfl ?_
    show Steps p.tables e below (T1.setTop (mkF m 5 #[.val (.ref w_STRONG_MAJORITY_PERMIT_EResolutionRule), .val (.ref bo1), .unset, .unset, .unset] [(.ref bo1)])) _
    refine X1.arraylength hx Ar2.1 (State.isArrayOf_alike hZ.alike Ar2.2.1) (g := (mkF m 5 #[.val (.ref w_STRONG_MAJORITY_PERMIT_EResolutionRule), .val (.ref bo1), .unset, .unset, .unset] [(.ref bo1)])) rfl rfl (hb hby d1_5) _ ?_
    rw [len_of Sz2 Nn2]
    show Steps p.tables e below (T1.setTop (mkF m 6 #[.val (.ref w_STRONG_MAJORITY_PERMIT_EResolutionRule), .val (.ref bo1), .unset, .unset, .unset] [(.int (12 : Int32))])) _
    refine XS.istoreN X1.here hx rfl (hb hby d1_6) rfl (l' := #[.val (.ref w_STRONG_MAJORITY_PERMIT_EResolutionRule), .val (.ref bo1), .val (.int (12 : Int32)), .unset, .unset]) rfl ?_
    show Steps p.tables e below (T1.setTop (mkF m 7 #[.val (.ref w_STRONG_MAJORITY_PERMIT_EResolutionRule), .val (.ref bo1), .val (.int (12 : Int32)), .unset, .unset] [])) _
    refine XS.iconst X1.here hx rfl (hb hby d1_7) ?_
    show Steps p.tables e below (T1.setTop (mkF m 8 #[.val (.ref w_STRONG_MAJORITY_PERMIT_EResolutionRule), .val (.ref bo1), .val (.int (12 : Int32)), .unset, .unset] [(.int (0 : Int32))])) _
    refine XS.istoreN X1.here hx rfl (hb hby d1_8) rfl (l' := #[.val (.ref w_STRONG_MAJORITY_PERMIT_EResolutionRule), .val (.ref bo1), .val (.int (12 : Int32)), .val (.int (0 : Int32)), .unset]) rfl ?_
    show Steps p.tables e below (T1.setTop (mkF m 9 #[.val (.ref w_STRONG_MAJORITY_PERMIT_EResolutionRule), .val (.ref bo1), .val (.int (12 : Int32)), .val (.int (0 : Int32)), .unset] [])) _
    refine XS.iloadN X1.here hx rfl (hb hby d1_9) rfl ?_
    show Steps p.tables e below (T1.setTop (mkF m 10 #[.val (.ref w_STRONG_MAJORITY_PERMIT_EResolutionRule), .val (.ref bo1), .val (.int (12 : Int32)), .val (.int (0 : Int32)), .unset] [(.int (0 : Int32))])) _
    refine XS.iloadN X1.here hx rfl (hb hby d1_10) rfl ?_
    show Steps p.tables e below (T1.setTop (mkF m 11 #[.val (.ref w_STRONG_MAJORITY_PERMIT_EResolutionRule), .val (.ref bo1), .val (.int (12 : Int32)), .val (.int (0 : Int32)), .unset] [(.int (12 : Int32)), (.int (0 : Int32))])) _
    refine XS.icmpNo X1.here hx rfl (hb hby d1_11) rfl (tlt (by decide : (0 : Int32) < (12 : Int32))).2.1 ?_
    show Steps p.tables e below (T1.setTop (mkF m 14 #[.val (.ref w_STRONG_MAJORITY_PERMIT_EResolutionRule), .val (.ref bo1), .val (.int (12 : Int32)), .val (.int (0 : Int32)), .unset] [])) _
    refine XS.aloadN X1.here hx rfl (hb hby d1_14) rfl rfl ?_
    show Steps p.tables e below (T1.setTop (mkF m 15 #[.val (.ref w_STRONG_MAJORITY_PERMIT_EResolutionRule), .val (.ref bo1), .val (.int (12 : Int32)), .val (.int (0 : Int32)), .unset] [(.ref bo1)])) _
    refine XS.iloadN X1.here hx rfl (hb hby d1_15) rfl ?_
    show Steps p.tables e below (T1.setTop (mkF m 16 #[.val (.ref w_STRONG_MAJORITY_PERMIT_EResolutionRule), .val (.ref bo1), .val (.int (12 : Int32)), .val (.int (0 : Int32)), .unset] [(.int (0 : Int32)), (.ref bo1)])) _
    refine X1.aaload hx (j := (0 : Int32)) (v := (.ref w_CONTROLLER)) Ar3.1 (State.isArrayOf_alike hZ.alike Ar3.2.1) rfl Ar3.2.2 hin3 hat3 (g := (mkF m 16 #[.val (.ref w_STRONG_MAJORITY_PERMIT_EResolutionRule), .val (.ref bo1), .val (.int (12 : Int32)), .val (.int (0 : Int32)), .unset] [(.int (0 : Int32)), (.ref bo1)])) rfl rfl (hb hby d1_16) _ ?_
    show Steps p.tables e below (T1.setTop (mkF m 17 #[.val (.ref w_STRONG_MAJORITY_PERMIT_EResolutionRule), .val (.ref bo1), .val (.int (12 : Int32)), .val (.int (0 : Int32)), .unset] [(.ref w_CONTROLLER)])) _
    refine XS.astore X1.here hx rfl (hb hby d1_17) rfl rfl (l' := #[.val (.ref w_STRONG_MAJORITY_PERMIT_EResolutionRule), .val (.ref bo1), .val (.int (12 : Int32)), .val (.int (0 : Int32)), .val (.ref w_CONTROLLER)]) rfl ?_
    show Steps p.tables e below (T1.setTop (mkF m 19 #[.val (.ref w_STRONG_MAJORITY_PERMIT_EResolutionRule), .val (.ref bo1), .val (.int (12 : Int32)), .val (.int (0 : Int32)), .val (.ref w_CONTROLLER)] [])) _
    refine XS.aload X1.here hx rfl (hb hby d1_19) rfl rfl ?_
    show Steps p.tables e below (T1.setTop (mkF m 21 #[.val (.ref w_STRONG_MAJORITY_PERMIT_EResolutionRule), .val (.ref bo1), .val (.int (12 : Int32)), .val (.int (0 : Int32)), .val (.ref w_CONTROLLER)] [(.ref w_CONTROLLER)])) _
    refine st4 _ ?_
    show Steps p.tables e below (T4.setTop (mkF m 24 #[.val (.ref w_STRONG_MAJORITY_PERMIT_EResolutionRule), .val (.ref bo1), .val (.int (12 : Int32)), .val (.int (0 : Int32)), .val (.ref w_CONTROLLER)] [.null])) _
    refine XS.aloadN X4.here hx rfl (hb hby d1_24) rfl rfl ?_
    show Steps p.tables e below (T4.setTop (mkF m 25 #[.val (.ref w_STRONG_MAJORITY_PERMIT_EResolutionRule), .val (.ref bo1), .val (.int (12 : Int32)), .val (.int (0 : Int32)), .val (.ref w_CONTROLLER)] [(.ref w_STRONG_MAJORITY_PERMIT_EResolutionRule), .null])) _
    refine Jvm.RoadKit.acmp (g := (mkF m 25 #[.val (.ref w_STRONG_MAJORITY_PERMIT_EResolutionRule), .val (.ref bo1), .val (.int (12 : Int32)), .val (.int (0 : Int32)), .val (.ref w_CONTROLLER)] [(.ref w_STRONG_MAJORITY_PERMIT_EResolutionRule), .null])) X4 hx rfl rfl rfl (pc0 := 25) (pc' := 31) (same := false) rfl (hb hby d1_25) rfl (decide_eq_false nofun) (by decide) (by decide) ?_
    show Steps p.tables e below (T4.setTop (mkF m 31 #[.val (.ref w_STRONG_MAJORITY_PERMIT_EResolutionRule), .val (.ref bo1), .val (.int (12 : Int32)), .val (.int (0 : Int32)), .val (.ref w_CONTROLLER)] [])) _
    refine XS.iinc X4.here hx rfl (hb hby d1_31) rfl (l' := #[.val (.ref w_STRONG_MAJORITY_PERMIT_EResolutionRule), .val (.ref bo1), .val (.int (12 : Int32)), .val (.int (1 : Int32)), .val (.ref w_CONTROLLER)]) rfl ?_
    show Steps p.tables e below (T4.setTop (mkF m 34 #[.val (.ref w_STRONG_MAJORITY_PERMIT_EResolutionRule), .val (.ref bo1), .val (.int (12 : Int32)), .val (.int (1 : Int32)), .val (.ref w_CONTROLLER)] [])) _
    refine XS.goto X4.here hx rfl (pc0 := 34) (pc' := 9) rfl (hb hby d1_34) (by decide) (by decide) ?_
    show Steps p.tables e below (T4.setTop (mkF m 9 #[.val (.ref w_STRONG_MAJORITY_PERMIT_EResolutionRule), .val (.ref bo1), .val (.int (12 : Int32)), .val (.int (1 : Int32)), .val (.ref w_CONTROLLER)] [])) _
    refine XS.iloadN X4.here hx rfl (hb hby d1_9) rfl ?_
    show Steps p.tables e below (T4.setTop (mkF m 10 #[.val (.ref w_STRONG_MAJORITY_PERMIT_EResolutionRule), .val (.ref bo1), .val (.int (12 : Int32)), .val (.int (1 : Int32)), .val (.ref w_CONTROLLER)] [(.int (1 : Int32))])) _
    refine XS.iloadN X4.here hx rfl (hb hby d1_10) rfl ?_
    show Steps p.tables e below (T4.setTop (mkF m 11 #[.val (.ref w_STRONG_MAJORITY_PERMIT_EResolutionRule), .val (.ref bo1), .val (.int (12 : Int32)), .val (.int (1 : Int32)), .val (.ref w_CONTROLLER)] [(.int (12 : Int32)), (.int (1 : Int32))])) _
    refine XS.icmpNo X4.here hx rfl (hb hby d1_11) rfl (tlt (by decide : (1 : Int32) < (12 : Int32))).2.1 ?_
    show Steps p.tables e below (T4.setTop (mkF m 14 #[.val (.ref w_STRONG_MAJORITY_PERMIT_EResolutionRule), .val (.ref bo1), .val (.int (12 : Int32)), .val (.int (1 : Int32)), .val (.ref w_CONTROLLER)] [])) _
    refine XS.aloadN X4.here hx rfl (hb hby d1_14) rfl rfl ?_
    show Steps p.tables e below (T4.setTop (mkF m 15 #[.val (.ref w_STRONG_MAJORITY_PERMIT_EResolutionRule), .val (.ref bo1), .val (.int (12 : Int32)), .val (.int (1 : Int32)), .val (.ref w_CONTROLLER)] [(.ref bo1)])) _
    refine XS.iloadN X4.here hx rfl (hb hby d1_15) rfl ?_
    show Steps p.tables e below (T4.setTop (mkF m 16 #[.val (.ref w_STRONG_MAJORITY_PERMIT_EResolutionRule), .val (.ref bo1), .val (.int (12 : Int32)), .val (.int (1 : Int32)), .val (.ref w_CONTROLLER)] [(.int (1 : Int32)), (.ref bo1)])) _
    refine X4.aaload hx (j := (1 : Int32)) (v := (.ref w_WEIGHTED_EReason)) (by rw [e4]; exact Ar5.1) (State.isArrayOf_alike hZ.alike Ar5.2.1) rfl Ar5.2.2 hin5 hat5 (g := (mkF m 16 #[.val (.ref w_STRONG_MAJORITY_PERMIT_EResolutionRule), .val (.ref bo1), .val (.int (12 : Int32)), .val (.int (1 : Int32)), .val (.ref w_CONTROLLER)] [(.int (1 : Int32)), (.ref bo1)])) rfl rfl (hb hby d1_16) _ ?_
    show Steps p.tables e below (T4.setTop (mkF m 17 #[.val (.ref w_STRONG_MAJORITY_PERMIT_EResolutionRule), .val (.ref bo1), .val (.int (12 : Int32)), .val (.int (1 : Int32)), .val (.ref w_CONTROLLER)] [(.ref w_WEIGHTED_EReason)])) _
    refine XS.astore X4.here hx rfl (hb hby d1_17) rfl rfl (l' := #[.val (.ref w_STRONG_MAJORITY_PERMIT_EResolutionRule), .val (.ref bo1), .val (.int (12 : Int32)), .val (.int (1 : Int32)), .val (.ref w_WEIGHTED_EReason)]) rfl ?_
    show Steps p.tables e below (T4.setTop (mkF m 19 #[.val (.ref w_STRONG_MAJORITY_PERMIT_EResolutionRule), .val (.ref bo1), .val (.int (12 : Int32)), .val (.int (1 : Int32)), .val (.ref w_WEIGHTED_EReason)] [])) _
    refine XS.aload X4.here hx rfl (hb hby d1_19) rfl rfl ?_
    show Steps p.tables e below (T4.setTop (mkF m 21 #[.val (.ref w_STRONG_MAJORITY_PERMIT_EResolutionRule), .val (.ref bo1), .val (.int (12 : Int32)), .val (.int (1 : Int32)), .val (.ref w_WEIGHTED_EReason)] [(.ref w_WEIGHTED_EReason)])) _
    refine st6 _ ?_
    show Steps p.tables e below (T6.setTop (mkF m 24 #[.val (.ref w_STRONG_MAJORITY_PERMIT_EResolutionRule), .val (.ref bo1), .val (.int (12 : Int32)), .val (.int (1 : Int32)), .val (.ref w_WEIGHTED_EReason)] [(.ref w_WEIGHTED)])) _
    refine XS.aloadN X6.here hx rfl (hb hby d1_24) rfl rfl ?_
    show Steps p.tables e below (T6.setTop (mkF m 25 #[.val (.ref w_STRONG_MAJORITY_PERMIT_EResolutionRule), .val (.ref bo1), .val (.int (12 : Int32)), .val (.int (1 : Int32)), .val (.ref w_WEIGHTED_EReason)] [(.ref w_STRONG_MAJORITY_PERMIT_EResolutionRule), (.ref w_WEIGHTED)])) _
    refine Jvm.RoadKit.acmp (g := (mkF m 25 #[.val (.ref w_STRONG_MAJORITY_PERMIT_EResolutionRule), .val (.ref bo1), .val (.int (12 : Int32)), .val (.int (1 : Int32)), .val (.ref w_WEIGHTED_EReason)] [(.ref w_STRONG_MAJORITY_PERMIT_EResolutionRule), (.ref w_WEIGHTED)])) X6 hx rfl rfl rfl (pc0 := 25) (pc' := 31) (same := false) rfl (hb hby d1_25) rfl (decide_eq_false fun q => (Fld.ne F_ordinal_w_WEIGHTED F_ordinal_w_STRONG_MAJORITY_PERMIT_EResolutionRule (by decide)) (Value.ref.inj q)) (by decide) (by decide) ?_
    show Steps p.tables e below (T6.setTop (mkF m 31 #[.val (.ref w_STRONG_MAJORITY_PERMIT_EResolutionRule), .val (.ref bo1), .val (.int (12 : Int32)), .val (.int (1 : Int32)), .val (.ref w_WEIGHTED_EReason)] [])) _
    refine XS.iinc X6.here hx rfl (hb hby d1_31) rfl (l' := #[.val (.ref w_STRONG_MAJORITY_PERMIT_EResolutionRule), .val (.ref bo1), .val (.int (12 : Int32)), .val (.int (2 : Int32)), .val (.ref w_WEIGHTED_EReason)]) rfl ?_
    show Steps p.tables e below (T6.setTop (mkF m 34 #[.val (.ref w_STRONG_MAJORITY_PERMIT_EResolutionRule), .val (.ref bo1), .val (.int (12 : Int32)), .val (.int (2 : Int32)), .val (.ref w_WEIGHTED_EReason)] [])) _
    refine XS.goto X6.here hx rfl (pc0 := 34) (pc' := 9) rfl (hb hby d1_34) (by decide) (by decide) ?_
    show Steps p.tables e below (T6.setTop (mkF m 9 #[.val (.ref w_STRONG_MAJORITY_PERMIT_EResolutionRule), .val (.ref bo1), .val (.int (12 : Int32)), .val (.int (2 : Int32)), .val (.ref w_WEIGHTED_EReason)] [])) _
    refine XS.iloadN X6.here hx rfl (hb hby d1_9) rfl ?_
    show Steps p.tables e below (T6.setTop (mkF m 10 #[.val (.ref w_STRONG_MAJORITY_PERMIT_EResolutionRule), .val (.ref bo1), .val (.int (12 : Int32)), .val (.int (2 : Int32)), .val (.ref w_WEIGHTED_EReason)] [(.int (2 : Int32))])) _
    refine XS.iloadN X6.here hx rfl (hb hby d1_10) rfl ?_
    show Steps p.tables e below (T6.setTop (mkF m 11 #[.val (.ref w_STRONG_MAJORITY_PERMIT_EResolutionRule), .val (.ref bo1), .val (.int (12 : Int32)), .val (.int (2 : Int32)), .val (.ref w_WEIGHTED_EReason)] [(.int (12 : Int32)), (.int (2 : Int32))])) _
    refine XS.icmpNo X6.here hx rfl (hb hby d1_11) rfl (tlt (by decide : (2 : Int32) < (12 : Int32))).2.1 ?_
    show Steps p.tables e below (T6.setTop (mkF m 14 #[.val (.ref w_STRONG_MAJORITY_PERMIT_EResolutionRule), .val (.ref bo1), .val (.int (12 : Int32)), .val (.int (2 : Int32)), .val (.ref w_WEIGHTED_EReason)] [])) _
    refine XS.aloadN X6.here hx rfl (hb hby d1_14) rfl rfl ?_
    show Steps p.tables e below (T6.setTop (mkF m 15 #[.val (.ref w_STRONG_MAJORITY_PERMIT_EResolutionRule), .val (.ref bo1), .val (.int (12 : Int32)), .val (.int (2 : Int32)), .val (.ref w_WEIGHTED_EReason)] [(.ref bo1)])) _
    refine XS.iloadN X6.here hx rfl (hb hby d1_15) rfl ?_
    show Steps p.tables e below (T6.setTop (mkF m 16 #[.val (.ref w_STRONG_MAJORITY_PERMIT_EResolutionRule), .val (.ref bo1), .val (.int (12 : Int32)), .val (.int (2 : Int32)), .val (.ref w_WEIGHTED_EReason)] [(.int (2 : Int32)), (.ref bo1)])) _
    refine X6.aaload hx (j := (2 : Int32)) (v := (.ref w_OWNER_OVERRIDES)) (by rw [e6]; exact Ar7.1) (State.isArrayOf_alike hZ.alike Ar7.2.1) rfl Ar7.2.2 hin7 hat7 (g := (mkF m 16 #[.val (.ref w_STRONG_MAJORITY_PERMIT_EResolutionRule), .val (.ref bo1), .val (.int (12 : Int32)), .val (.int (2 : Int32)), .val (.ref w_WEIGHTED_EReason)] [(.int (2 : Int32)), (.ref bo1)])) rfl rfl (hb hby d1_16) _ ?_
    show Steps p.tables e below (T6.setTop (mkF m 17 #[.val (.ref w_STRONG_MAJORITY_PERMIT_EResolutionRule), .val (.ref bo1), .val (.int (12 : Int32)), .val (.int (2 : Int32)), .val (.ref w_WEIGHTED_EReason)] [(.ref w_OWNER_OVERRIDES)])) _
    refine XS.astore X6.here hx rfl (hb hby d1_17) rfl rfl (l' := #[.val (.ref w_STRONG_MAJORITY_PERMIT_EResolutionRule), .val (.ref bo1), .val (.int (12 : Int32)), .val (.int (2 : Int32)), .val (.ref w_OWNER_OVERRIDES)]) rfl ?_
    show Steps p.tables e below (T6.setTop (mkF m 19 #[.val (.ref w_STRONG_MAJORITY_PERMIT_EResolutionRule), .val (.ref bo1), .val (.int (12 : Int32)), .val (.int (2 : Int32)), .val (.ref w_OWNER_OVERRIDES)] [])) _
    refine XS.aload X6.here hx rfl (hb hby d1_19) rfl rfl ?_
    show Steps p.tables e below (T6.setTop (mkF m 21 #[.val (.ref w_STRONG_MAJORITY_PERMIT_EResolutionRule), .val (.ref bo1), .val (.int (12 : Int32)), .val (.int (2 : Int32)), .val (.ref w_OWNER_OVERRIDES)] [(.ref w_OWNER_OVERRIDES)])) _
    refine st8 _ ?_
    show Steps p.tables e below (T8.setTop (mkF m 24 #[.val (.ref w_STRONG_MAJORITY_PERMIT_EResolutionRule), .val (.ref bo1), .val (.int (12 : Int32)), .val (.int (2 : Int32)), .val (.ref w_OWNER_OVERRIDES)] [(.ref w_OWNER_OVERRIDES_EResolutionRule)])) _
    refine XS.aloadN X8.here hx rfl (hb hby d1_24) rfl rfl ?_
    show Steps p.tables e below (T8.setTop (mkF m 25 #[.val (.ref w_STRONG_MAJORITY_PERMIT_EResolutionRule), .val (.ref bo1), .val (.int (12 : Int32)), .val (.int (2 : Int32)), .val (.ref w_OWNER_OVERRIDES)] [(.ref w_STRONG_MAJORITY_PERMIT_EResolutionRule), (.ref w_OWNER_OVERRIDES_EResolutionRule)])) _
    refine Jvm.RoadKit.acmp (g := (mkF m 25 #[.val (.ref w_STRONG_MAJORITY_PERMIT_EResolutionRule), .val (.ref bo1), .val (.int (12 : Int32)), .val (.int (2 : Int32)), .val (.ref w_OWNER_OVERRIDES)] [(.ref w_STRONG_MAJORITY_PERMIT_EResolutionRule), (.ref w_OWNER_OVERRIDES_EResolutionRule)])) X8 hx rfl rfl rfl (pc0 := 25) (pc' := 31) (same := false) rfl (hb hby d1_25) rfl (decide_eq_false fun q => (Fld.ne F_ordinal_w_OWNER_OVERRIDES_EResolutionRule F_ordinal_w_STRONG_MAJORITY_PERMIT_EResolutionRule (by decide)) (Value.ref.inj q)) (by decide) (by decide) ?_
    show Steps p.tables e below (T8.setTop (mkF m 31 #[.val (.ref w_STRONG_MAJORITY_PERMIT_EResolutionRule), .val (.ref bo1), .val (.int (12 : Int32)), .val (.int (2 : Int32)), .val (.ref w_OWNER_OVERRIDES)] [])) _
    refine XS.iinc X8.here hx rfl (hb hby d1_31) rfl (l' := #[.val (.ref w_STRONG_MAJORITY_PERMIT_EResolutionRule), .val (.ref bo1), .val (.int (12 : Int32)), .val (.int (3 : Int32)), .val (.ref w_OWNER_OVERRIDES)]) rfl ?_
    show Steps p.tables e below (T8.setTop (mkF m 34 #[.val (.ref w_STRONG_MAJORITY_PERMIT_EResolutionRule), .val (.ref bo1), .val (.int (12 : Int32)), .val (.int (3 : Int32)), .val (.ref w_OWNER_OVERRIDES)] [])) _
    refine XS.goto X8.here hx rfl (pc0 := 34) (pc' := 9) rfl (hb hby d1_34) (by decide) (by decide) ?_
    show Steps p.tables e below (T8.setTop (mkF m 9 #[.val (.ref w_STRONG_MAJORITY_PERMIT_EResolutionRule), .val (.ref bo1), .val (.int (12 : Int32)), .val (.int (3 : Int32)), .val (.ref w_OWNER_OVERRIDES)] [])) _
    refine XS.iloadN X8.here hx rfl (hb hby d1_9) rfl ?_
    show Steps p.tables e below (T8.setTop (mkF m 10 #[.val (.ref w_STRONG_MAJORITY_PERMIT_EResolutionRule), .val (.ref bo1), .val (.int (12 : Int32)), .val (.int (3 : Int32)), .val (.ref w_OWNER_OVERRIDES)] [(.int (3 : Int32))])) _
    refine XS.iloadN X8.here hx rfl (hb hby d1_10) rfl ?_
    show Steps p.tables e below (T8.setTop (mkF m 11 #[.val (.ref w_STRONG_MAJORITY_PERMIT_EResolutionRule), .val (.ref bo1), .val (.int (12 : Int32)), .val (.int (3 : Int32)), .val (.ref w_OWNER_OVERRIDES)] [(.int (12 : Int32)), (.int (3 : Int32))])) _
    refine XS.icmpNo X8.here hx rfl (hb hby d1_11) rfl (tlt (by decide : (3 : Int32) < (12 : Int32))).2.1 ?_
    show Steps p.tables e below (T8.setTop (mkF m 14 #[.val (.ref w_STRONG_MAJORITY_PERMIT_EResolutionRule), .val (.ref bo1), .val (.int (12 : Int32)), .val (.int (3 : Int32)), .val (.ref w_OWNER_OVERRIDES)] [])) _
    refine XS.aloadN X8.here hx rfl (hb hby d1_14) rfl rfl ?_
    show Steps p.tables e below (T8.setTop (mkF m 15 #[.val (.ref w_STRONG_MAJORITY_PERMIT_EResolutionRule), .val (.ref bo1), .val (.int (12 : Int32)), .val (.int (3 : Int32)), .val (.ref w_OWNER_OVERRIDES)] [(.ref bo1)])) _
    refine XS.iloadN X8.here hx rfl (hb hby d1_15) rfl ?_
    show Steps p.tables e below (T8.setTop (mkF m 16 #[.val (.ref w_STRONG_MAJORITY_PERMIT_EResolutionRule), .val (.ref bo1), .val (.int (12 : Int32)), .val (.int (3 : Int32)), .val (.ref w_OWNER_OVERRIDES)] [(.int (3 : Int32)), (.ref bo1)])) _
    refine X8.aaload hx (j := (3 : Int32)) (v := (.ref w_FULL_CONSENSUS_PERMIT)) (by rw [e8]; exact Ar9.1) (State.isArrayOf_alike hZ.alike Ar9.2.1) rfl Ar9.2.2 hin9 hat9 (g := (mkF m 16 #[.val (.ref w_STRONG_MAJORITY_PERMIT_EResolutionRule), .val (.ref bo1), .val (.int (12 : Int32)), .val (.int (3 : Int32)), .val (.ref w_OWNER_OVERRIDES)] [(.int (3 : Int32)), (.ref bo1)])) rfl rfl (hb hby d1_16) _ ?_
    show Steps p.tables e below (T8.setTop (mkF m 17 #[.val (.ref w_STRONG_MAJORITY_PERMIT_EResolutionRule), .val (.ref bo1), .val (.int (12 : Int32)), .val (.int (3 : Int32)), .val (.ref w_OWNER_OVERRIDES)] [(.ref w_FULL_CONSENSUS_PERMIT)])) _
    refine XS.astore X8.here hx rfl (hb hby d1_17) rfl rfl (l' := #[.val (.ref w_STRONG_MAJORITY_PERMIT_EResolutionRule), .val (.ref bo1), .val (.int (12 : Int32)), .val (.int (3 : Int32)), .val (.ref w_FULL_CONSENSUS_PERMIT)]) rfl ?_
    show Steps p.tables e below (T8.setTop (mkF m 19 #[.val (.ref w_STRONG_MAJORITY_PERMIT_EResolutionRule), .val (.ref bo1), .val (.int (12 : Int32)), .val (.int (3 : Int32)), .val (.ref w_FULL_CONSENSUS_PERMIT)] [])) _
    refine XS.aload X8.here hx rfl (hb hby d1_19) rfl rfl ?_
    show Steps p.tables e below (T8.setTop (mkF m 21 #[.val (.ref w_STRONG_MAJORITY_PERMIT_EResolutionRule), .val (.ref bo1), .val (.int (12 : Int32)), .val (.int (3 : Int32)), .val (.ref w_FULL_CONSENSUS_PERMIT)] [(.ref w_FULL_CONSENSUS_PERMIT)])) _
    refine st10 _ ?_
    show Steps p.tables e below (T10.setTop (mkF m 24 #[.val (.ref w_STRONG_MAJORITY_PERMIT_EResolutionRule), .val (.ref bo1), .val (.int (12 : Int32)), .val (.int (3 : Int32)), .val (.ref w_FULL_CONSENSUS_PERMIT)] [(.ref w_FULL_CONSENSUS_PERMIT_EResolutionRule)])) _
    refine XS.aloadN X10.here hx rfl (hb hby d1_24) rfl rfl ?_
    show Steps p.tables e below (T10.setTop (mkF m 25 #[.val (.ref w_STRONG_MAJORITY_PERMIT_EResolutionRule), .val (.ref bo1), .val (.int (12 : Int32)), .val (.int (3 : Int32)), .val (.ref w_FULL_CONSENSUS_PERMIT)] [(.ref w_STRONG_MAJORITY_PERMIT_EResolutionRule), (.ref w_FULL_CONSENSUS_PERMIT_EResolutionRule)])) _
    refine Jvm.RoadKit.acmp (g := (mkF m 25 #[.val (.ref w_STRONG_MAJORITY_PERMIT_EResolutionRule), .val (.ref bo1), .val (.int (12 : Int32)), .val (.int (3 : Int32)), .val (.ref w_FULL_CONSENSUS_PERMIT)] [(.ref w_STRONG_MAJORITY_PERMIT_EResolutionRule), (.ref w_FULL_CONSENSUS_PERMIT_EResolutionRule)])) X10 hx rfl rfl rfl (pc0 := 25) (pc' := 31) (same := false) rfl (hb hby d1_25) rfl (decide_eq_false fun q => (Fld.ne F_ordinal_w_FULL_CONSENSUS_PERMIT_EResolutionRule F_ordinal_w_STRONG_MAJORITY_PERMIT_EResolutionRule (by decide)) (Value.ref.inj q)) (by decide) (by decide) ?_
    show Steps p.tables e below (T10.setTop (mkF m 31 #[.val (.ref w_STRONG_MAJORITY_PERMIT_EResolutionRule), .val (.ref bo1), .val (.int (12 : Int32)), .val (.int (3 : Int32)), .val (.ref w_FULL_CONSENSUS_PERMIT)] [])) _
    refine XS.iinc X10.here hx rfl (hb hby d1_31) rfl (l' := #[.val (.ref w_STRONG_MAJORITY_PERMIT_EResolutionRule), .val (.ref bo1), .val (.int (12 : Int32)), .val (.int (4 : Int32)), .val (.ref w_FULL_CONSENSUS_PERMIT)]) rfl ?_
    show Steps p.tables e below (T10.setTop (mkF m 34 #[.val (.ref w_STRONG_MAJORITY_PERMIT_EResolutionRule), .val (.ref bo1), .val (.int (12 : Int32)), .val (.int (4 : Int32)), .val (.ref w_FULL_CONSENSUS_PERMIT)] [])) _
    refine XS.goto X10.here hx rfl (pc0 := 34) (pc' := 9) rfl (hb hby d1_34) (by decide) (by decide) ?_
    show Steps p.tables e below (T10.setTop (mkF m 9 #[.val (.ref w_STRONG_MAJORITY_PERMIT_EResolutionRule), .val (.ref bo1), .val (.int (12 : Int32)), .val (.int (4 : Int32)), .val (.ref w_FULL_CONSENSUS_PERMIT)] [])) _
    refine XS.iloadN X10.here hx rfl (hb hby d1_9) rfl ?_
    show Steps p.tables e below (T10.setTop (mkF m 10 #[.val (.ref w_STRONG_MAJORITY_PERMIT_EResolutionRule), .val (.ref bo1), .val (.int (12 : Int32)), .val (.int (4 : Int32)), .val (.ref w_FULL_CONSENSUS_PERMIT)] [(.int (4 : Int32))])) _
    refine XS.iloadN X10.here hx rfl (hb hby d1_10) rfl ?_
    show Steps p.tables e below (T10.setTop (mkF m 11 #[.val (.ref w_STRONG_MAJORITY_PERMIT_EResolutionRule), .val (.ref bo1), .val (.int (12 : Int32)), .val (.int (4 : Int32)), .val (.ref w_FULL_CONSENSUS_PERMIT)] [(.int (12 : Int32)), (.int (4 : Int32))])) _
    refine XS.icmpNo X10.here hx rfl (hb hby d1_11) rfl (tlt (by decide : (4 : Int32) < (12 : Int32))).2.1 ?_
    show Steps p.tables e below (T10.setTop (mkF m 14 #[.val (.ref w_STRONG_MAJORITY_PERMIT_EResolutionRule), .val (.ref bo1), .val (.int (12 : Int32)), .val (.int (4 : Int32)), .val (.ref w_FULL_CONSENSUS_PERMIT)] [])) _
    refine XS.aloadN X10.here hx rfl (hb hby d1_14) rfl rfl ?_
    show Steps p.tables e below (T10.setTop (mkF m 15 #[.val (.ref w_STRONG_MAJORITY_PERMIT_EResolutionRule), .val (.ref bo1), .val (.int (12 : Int32)), .val (.int (4 : Int32)), .val (.ref w_FULL_CONSENSUS_PERMIT)] [(.ref bo1)])) _
    refine XS.iloadN X10.here hx rfl (hb hby d1_15) rfl ?_
    show Steps p.tables e below (T10.setTop (mkF m 16 #[.val (.ref w_STRONG_MAJORITY_PERMIT_EResolutionRule), .val (.ref bo1), .val (.int (12 : Int32)), .val (.int (4 : Int32)), .val (.ref w_FULL_CONSENSUS_PERMIT)] [(.int (4 : Int32)), (.ref bo1)])) _
    refine X10.aaload hx (j := (4 : Int32)) (v := (.ref w_MAJORITY_PERMIT)) (by rw [e10]; exact Ar11.1) (State.isArrayOf_alike hZ.alike Ar11.2.1) rfl Ar11.2.2 hin11 hat11 (g := (mkF m 16 #[.val (.ref w_STRONG_MAJORITY_PERMIT_EResolutionRule), .val (.ref bo1), .val (.int (12 : Int32)), .val (.int (4 : Int32)), .val (.ref w_FULL_CONSENSUS_PERMIT)] [(.int (4 : Int32)), (.ref bo1)])) rfl rfl (hb hby d1_16) _ ?_
    show Steps p.tables e below (T10.setTop (mkF m 17 #[.val (.ref w_STRONG_MAJORITY_PERMIT_EResolutionRule), .val (.ref bo1), .val (.int (12 : Int32)), .val (.int (4 : Int32)), .val (.ref w_FULL_CONSENSUS_PERMIT)] [(.ref w_MAJORITY_PERMIT)])) _
    refine XS.astore X10.here hx rfl (hb hby d1_17) rfl rfl (l' := #[.val (.ref w_STRONG_MAJORITY_PERMIT_EResolutionRule), .val (.ref bo1), .val (.int (12 : Int32)), .val (.int (4 : Int32)), .val (.ref w_MAJORITY_PERMIT)]) rfl ?_
    show Steps p.tables e below (T10.setTop (mkF m 19 #[.val (.ref w_STRONG_MAJORITY_PERMIT_EResolutionRule), .val (.ref bo1), .val (.int (12 : Int32)), .val (.int (4 : Int32)), .val (.ref w_MAJORITY_PERMIT)] [])) _
    refine XS.aload X10.here hx rfl (hb hby d1_19) rfl rfl ?_
    show Steps p.tables e below (T10.setTop (mkF m 21 #[.val (.ref w_STRONG_MAJORITY_PERMIT_EResolutionRule), .val (.ref bo1), .val (.int (12 : Int32)), .val (.int (4 : Int32)), .val (.ref w_MAJORITY_PERMIT)] [(.ref w_MAJORITY_PERMIT)])) _
    refine st12 _ ?_
    show Steps p.tables e below (T12.setTop (mkF m 24 #[.val (.ref w_STRONG_MAJORITY_PERMIT_EResolutionRule), .val (.ref bo1), .val (.int (12 : Int32)), .val (.int (4 : Int32)), .val (.ref w_MAJORITY_PERMIT)] [(.ref w_MAJORITY_PERMIT_EResolutionRule)])) _
    refine XS.aloadN X12.here hx rfl (hb hby d1_24) rfl rfl ?_
    show Steps p.tables e below (T12.setTop (mkF m 25 #[.val (.ref w_STRONG_MAJORITY_PERMIT_EResolutionRule), .val (.ref bo1), .val (.int (12 : Int32)), .val (.int (4 : Int32)), .val (.ref w_MAJORITY_PERMIT)] [(.ref w_STRONG_MAJORITY_PERMIT_EResolutionRule), (.ref w_MAJORITY_PERMIT_EResolutionRule)])) _
    refine Jvm.RoadKit.acmp (g := (mkF m 25 #[.val (.ref w_STRONG_MAJORITY_PERMIT_EResolutionRule), .val (.ref bo1), .val (.int (12 : Int32)), .val (.int (4 : Int32)), .val (.ref w_MAJORITY_PERMIT)] [(.ref w_STRONG_MAJORITY_PERMIT_EResolutionRule), (.ref w_MAJORITY_PERMIT_EResolutionRule)])) X12 hx rfl rfl rfl (pc0 := 25) (pc' := 31) (same := false) rfl (hb hby d1_25) rfl (decide_eq_false fun q => (Fld.ne F_ordinal_w_MAJORITY_PERMIT_EResolutionRule F_ordinal_w_STRONG_MAJORITY_PERMIT_EResolutionRule (by decide)) (Value.ref.inj q)) (by decide) (by decide) ?_
    show Steps p.tables e below (T12.setTop (mkF m 31 #[.val (.ref w_STRONG_MAJORITY_PERMIT_EResolutionRule), .val (.ref bo1), .val (.int (12 : Int32)), .val (.int (4 : Int32)), .val (.ref w_MAJORITY_PERMIT)] [])) _
    refine XS.iinc X12.here hx rfl (hb hby d1_31) rfl (l' := #[.val (.ref w_STRONG_MAJORITY_PERMIT_EResolutionRule), .val (.ref bo1), .val (.int (12 : Int32)), .val (.int (5 : Int32)), .val (.ref w_MAJORITY_PERMIT)]) rfl ?_
    show Steps p.tables e below (T12.setTop (mkF m 34 #[.val (.ref w_STRONG_MAJORITY_PERMIT_EResolutionRule), .val (.ref bo1), .val (.int (12 : Int32)), .val (.int (5 : Int32)), .val (.ref w_MAJORITY_PERMIT)] [])) _
    refine XS.goto X12.here hx rfl (pc0 := 34) (pc' := 9) rfl (hb hby d1_34) (by decide) (by decide) ?_
    show Steps p.tables e below (T12.setTop (mkF m 9 #[.val (.ref w_STRONG_MAJORITY_PERMIT_EResolutionRule), .val (.ref bo1), .val (.int (12 : Int32)), .val (.int (5 : Int32)), .val (.ref w_MAJORITY_PERMIT)] [])) _
    refine XS.iloadN X12.here hx rfl (hb hby d1_9) rfl ?_
    show Steps p.tables e below (T12.setTop (mkF m 10 #[.val (.ref w_STRONG_MAJORITY_PERMIT_EResolutionRule), .val (.ref bo1), .val (.int (12 : Int32)), .val (.int (5 : Int32)), .val (.ref w_MAJORITY_PERMIT)] [(.int (5 : Int32))])) _
    refine XS.iloadN X12.here hx rfl (hb hby d1_10) rfl ?_
    show Steps p.tables e below (T12.setTop (mkF m 11 #[.val (.ref w_STRONG_MAJORITY_PERMIT_EResolutionRule), .val (.ref bo1), .val (.int (12 : Int32)), .val (.int (5 : Int32)), .val (.ref w_MAJORITY_PERMIT)] [(.int (12 : Int32)), (.int (5 : Int32))])) _
    refine XS.icmpNo X12.here hx rfl (hb hby d1_11) rfl (tlt (by decide : (5 : Int32) < (12 : Int32))).2.1 ?_
    show Steps p.tables e below (T12.setTop (mkF m 14 #[.val (.ref w_STRONG_MAJORITY_PERMIT_EResolutionRule), .val (.ref bo1), .val (.int (12 : Int32)), .val (.int (5 : Int32)), .val (.ref w_MAJORITY_PERMIT)] [])) _
    refine XS.aloadN X12.here hx rfl (hb hby d1_14) rfl rfl ?_
    show Steps p.tables e below (T12.setTop (mkF m 15 #[.val (.ref w_STRONG_MAJORITY_PERMIT_EResolutionRule), .val (.ref bo1), .val (.int (12 : Int32)), .val (.int (5 : Int32)), .val (.ref w_MAJORITY_PERMIT)] [(.ref bo1)])) _
    refine XS.iloadN X12.here hx rfl (hb hby d1_15) rfl ?_
    show Steps p.tables e below (T12.setTop (mkF m 16 #[.val (.ref w_STRONG_MAJORITY_PERMIT_EResolutionRule), .val (.ref bo1), .val (.int (12 : Int32)), .val (.int (5 : Int32)), .val (.ref w_MAJORITY_PERMIT)] [(.int (5 : Int32)), (.ref bo1)])) _
    refine X12.aaload hx (j := (5 : Int32)) (v := (.ref w_STRONG_MAJORITY_PERMIT)) (by rw [e12]; exact Ar13.1) (State.isArrayOf_alike hZ.alike Ar13.2.1) rfl Ar13.2.2 hin13 hat13 (g := (mkF m 16 #[.val (.ref w_STRONG_MAJORITY_PERMIT_EResolutionRule), .val (.ref bo1), .val (.int (12 : Int32)), .val (.int (5 : Int32)), .val (.ref w_MAJORITY_PERMIT)] [(.int (5 : Int32)), (.ref bo1)])) rfl rfl (hb hby d1_16) _ ?_
    show Steps p.tables e below (T12.setTop (mkF m 17 #[.val (.ref w_STRONG_MAJORITY_PERMIT_EResolutionRule), .val (.ref bo1), .val (.int (12 : Int32)), .val (.int (5 : Int32)), .val (.ref w_MAJORITY_PERMIT)] [(.ref w_STRONG_MAJORITY_PERMIT)])) _
    refine XS.astore X12.here hx rfl (hb hby d1_17) rfl rfl (l' := #[.val (.ref w_STRONG_MAJORITY_PERMIT_EResolutionRule), .val (.ref bo1), .val (.int (12 : Int32)), .val (.int (5 : Int32)), .val (.ref w_STRONG_MAJORITY_PERMIT)]) rfl ?_
    show Steps p.tables e below (T12.setTop (mkF m 19 #[.val (.ref w_STRONG_MAJORITY_PERMIT_EResolutionRule), .val (.ref bo1), .val (.int (12 : Int32)), .val (.int (5 : Int32)), .val (.ref w_STRONG_MAJORITY_PERMIT)] [])) _
    refine XS.aload X12.here hx rfl (hb hby d1_19) rfl rfl ?_
    show Steps p.tables e below (T12.setTop (mkF m 21 #[.val (.ref w_STRONG_MAJORITY_PERMIT_EResolutionRule), .val (.ref bo1), .val (.int (12 : Int32)), .val (.int (5 : Int32)), .val (.ref w_STRONG_MAJORITY_PERMIT)] [(.ref w_STRONG_MAJORITY_PERMIT)])) _
    refine st14 _ ?_
    show Steps p.tables e below (T14.setTop (mkF m 24 #[.val (.ref w_STRONG_MAJORITY_PERMIT_EResolutionRule), .val (.ref bo1), .val (.int (12 : Int32)), .val (.int (5 : Int32)), .val (.ref w_STRONG_MAJORITY_PERMIT)] [(.ref w_STRONG_MAJORITY_PERMIT_EResolutionRule)])) _
    refine XS.aloadN X14.here hx rfl (hb hby d1_24) rfl rfl ?_
    show Steps p.tables e below (T14.setTop (mkF m 25 #[.val (.ref w_STRONG_MAJORITY_PERMIT_EResolutionRule), .val (.ref bo1), .val (.int (12 : Int32)), .val (.int (5 : Int32)), .val (.ref w_STRONG_MAJORITY_PERMIT)] [(.ref w_STRONG_MAJORITY_PERMIT_EResolutionRule), (.ref w_STRONG_MAJORITY_PERMIT_EResolutionRule)])) _
    refine Jvm.RoadKit.acmp (g := (mkF m 25 #[.val (.ref w_STRONG_MAJORITY_PERMIT_EResolutionRule), .val (.ref bo1), .val (.int (12 : Int32)), .val (.int (5 : Int32)), .val (.ref w_STRONG_MAJORITY_PERMIT)] [(.ref w_STRONG_MAJORITY_PERMIT_EResolutionRule), (.ref w_STRONG_MAJORITY_PERMIT_EResolutionRule)])) X14 hx rfl rfl rfl (pc0 := 25) (pc' := 28) (same := true) rfl (hb hby d1_25) rfl (decide_eq_true (congrArg Value.ref (rfl : w_STRONG_MAJORITY_PERMIT_EResolutionRule = w_STRONG_MAJORITY_PERMIT_EResolutionRule))) (by decide) (by decide) ?_
    show Steps p.tables e below (T14.setTop (mkF m 28 #[.val (.ref w_STRONG_MAJORITY_PERMIT_EResolutionRule), .val (.ref bo1), .val (.int (12 : Int32)), .val (.int (5 : Int32)), .val (.ref w_STRONG_MAJORITY_PERMIT)] [])) _
    refine XS.aload X14.here hx rfl (hb hby d1_28) rfl rfl ?_
    show Steps p.tables e below (T14.setTop (mkF m 30 #[.val (.ref w_STRONG_MAJORITY_PERMIT_EResolutionRule), .val (.ref bo1), .val (.int (12 : Int32)), .val (.int (5 : Int32)), .val (.ref w_STRONG_MAJORITY_PERMIT)] [(.ref w_STRONG_MAJORITY_PERMIT)])) _
    jvm_step X14.here [X14.here.top, hx, (hb hby d1_30), X14.method', Bd.returns, Value.isRef, FieldType.isReference]
    first | (intro acts; rw [hr _ acts rfl rfl rfl]) | rw [hr _ _ rfl rfl rfl]
    exact Steps.refl _
  · show Q_fr_STRONG_MAJORITY_PERMIT Z w_WEIGHTED w_WEIGHTED_EReason w_SVALUES w_CONTROLLER w_OWNER_OVERRIDES w_FULL_CONSENSUS_PERMIT w_MAJORITY_PERMIT w_STRONG_MAJORITY_PERMIT w_SUPER_MAJORITY_PERMIT w_SOURCE w_RESHARE_REFUSED w_UNNAMED w_NOT_VIEWER w_NO_THRESHOLD w_MAJORITY_PERMIT_EResolutionRule w_OWNER_OVERRIDES_EResolutionRule w_FULL_CONSENSUS_PERMIT_EResolutionRule w_SUPER_MAJORITY_PERMIT_EResolutionRule w_STRONG_MAJORITY_PERMIT_EResolutionRule kV h0 n0 _ T14.heap _
    rw [e14]
    exact ⟨rfl, N1, K1⟩
theorem ef_gr_STRONG_MAJORITY_PERMIT (m : MethodId) (w_STRONG_MAJORITY_PERMIT : Addr) : entryFrame m #[(.ref w_STRONG_MAJORITY_PERMIT)] 1 = mkF m 0 #[.val (.ref w_STRONG_MAJORITY_PERMIT)] [] := by first | (simp [entryFrame, mkF, argsToLocals, Value.category]; done) | rfl
def Q_gr_STRONG_MAJORITY_PERMIT (Z : State) (w_WEIGHTED w_WEIGHTED_EReason w_SVALUES w_CONTROLLER w_OWNER_OVERRIDES w_FULL_CONSENSUS_PERMIT w_MAJORITY_PERMIT w_STRONG_MAJORITY_PERMIT w_SUPER_MAJORITY_PERMIT w_SOURCE w_RESHARE_REFUSED w_UNNAMED w_NOT_VIEWER w_NO_THRESHOLD w_MAJORITY_PERMIT_EResolutionRule w_OWNER_OVERRIDES_EResolutionRule w_FULL_CONSENSUS_PERMIT_EResolutionRule w_SUPER_MAJORITY_PERMIT_EResolutionRule w_STRONG_MAJORITY_PERMIT_EResolutionRule : Addr) (kV : ClassId) (h0 : Heap) (n0 : Nat) (v : Option Value) (h : Heap) (L : List Loc) : Prop := v = some (.ref w_STRONG_MAJORITY_PERMIT_EResolutionRule) ∧ Fr n0 L ∧ h = h0
set_option maxRecDepth 65536 in
set_option maxHeartbeats 40000000 in
theorem gr_STRONG_MAJORITY_PERMIT (l : Launch) (Z : State) (a0 : Array Value) (hw : ∀ d ∈ tables_1, d.before a0 Z = true) (ws : List Jvm.Cond) (w_WEIGHTED w_WEIGHTED_EReason w_SVALUES w_CONTROLLER w_OWNER_OVERRIDES w_FULL_CONSENSUS_PERMIT w_MAJORITY_PERMIT w_STRONG_MAJORITY_PERMIT w_SUPER_MAJORITY_PERMIT w_SOURCE w_RESHARE_REFUSED w_UNNAMED w_NOT_VIEWER w_NO_THRESHOLD w_MAJORITY_PERMIT_EResolutionRule w_OWNER_OVERRIDES_EResolutionRule w_FULL_CONSENSUS_PERMIT_EResolutionRule w_SUPER_MAJORITY_PERMIT_EResolutionRule w_STRONG_MAJORITY_PERMIT_EResolutionRule : Addr) (kV : ClassId) (h0 : Heap) (n0 : Nat) (O0 : Old Z n0 h0) (hE : OwnEnv Z w_WEIGHTED w_WEIGHTED_EReason w_SVALUES w_CONTROLLER w_OWNER_OVERRIDES w_FULL_CONSENSUS_PERMIT w_MAJORITY_PERMIT w_STRONG_MAJORITY_PERMIT w_SUPER_MAJORITY_PERMIT w_SOURCE w_RESHARE_REFUSED w_UNNAMED w_NOT_VIEWER w_NO_THRESHOLD w_MAJORITY_PERMIT_EResolutionRule w_OWNER_OVERRIDES_EResolutionRule w_FULL_CONSENSUS_PERMIT_EResolutionRule w_SUPER_MAJORITY_PERMIT_EResolutionRule w_STRONG_MAJORITY_PERMIT_EResolutionRule kV) :
    MetFree l (⟨"com/example/kindred_consent/kindredconsent/engine/EReason", "getRule", "()Lcom/example/kindred_consent/kindredconsent/model/EResolutionRule;"⟩ : MethodName) (head1 (Jvm.Cond.code (⟨"com/example/kindred_consent/kindredconsent/engine/EReason", "getRule", "()Lcom/example/kindred_consent/kindredconsent/model/EResolutionRule;"⟩ : MethodName) prog_7_method_6_code 1 (some (.object "com/example/kindred_consent/kindredconsent/model/EResolutionRule")) :: ws) ({ frames := 0, cells := 0, slots := 0, locals := 0 } : Room)) (fun a U => a = #[(.ref w_STRONG_MAJORITY_PERMIT)] ∧ Z.Warmed39 U.vm ∧ U.heap = h0) (fun _ _ _ _ _ => True) (fun _ U o U' => ∃ v L, o = .returned v ∧ Q_gr_STRONG_MAJORITY_PERMIT Z w_WEIGHTED w_WEIGHTED_EReason w_SVALUES w_CONTROLLER w_OWNER_OVERRIDES w_FULL_CONSENSUS_PERMIT w_MAJORITY_PERMIT w_STRONG_MAJORITY_PERMIT w_SUPER_MAJORITY_PERMIT w_SOURCE w_RESHARE_REFUSED w_UNNAMED w_NOT_VIEWER w_NO_THRESHOLD w_MAJORITY_PERMIT_EResolutionRule w_OWNER_OVERRIDES_EResolutionRule w_FULL_CONSENSUS_PERMIT_EResolutionRule w_SUPER_MAJORITY_PERMIT_EResolutionRule w_STRONG_MAJORITY_PERMIT_EResolutionRule kV h0 n0 v U'.heap L ∧ FrameEnd U o U' L ({ frames := 0, cells := 0, slots := 0, locals := 0 } : Room).cells ({ frames := 0, cells := 0, slots := 0, locals := 0 } : Room).slots) := by
  refine MetFree.of_bodySF (plainFor_of_name pn_com_example_kindred_consent_kindredconsent_engine_EReason) hisR ?_
  intro p e s m args below meth c s₁ Bd hml0 hP hK
  obtain ⟨rfl, hZ, hh⟩ := hP
  have hx := Bd.exec
  have hby := Bd.bytes
  have hml : c.maxLocals = 1 := hml0
  have hown : s.vm.findClass "com/example/kindred_consent/kindredconsent/engine/EReason" = some m.cls := findClass_of_methodNamed Bd.named
  have hnm := (name_of_methodNamed Bd.named Bd.method).1
  have X0 : Stand p l e ({ frames := 0, cells := 0, slots := 0, locals := 0 } : Room) s m #[(.ref w_STRONG_MAJORITY_PERMIT)] below meth c s₁ [] 0 0 := Stand.of_body Bd
  have e0 : s₁.heap = h0 := by rw [← hh, Bd.state]; rfl
  have N0 := Fr.nil n0
  have pre0 : ∀ t, Steps p.tables e below (s₁.setTop (mkF m 0 #[.val (.ref w_STRONG_MAJORITY_PERMIT)] [])) t → Steps p.tables e below (s₁.setTop (entryFrame m #[(.ref w_STRONG_MAJORITY_PERMIT)] 1)) t := fun t k => castTop (ef_gr_STRONG_MAJORITY_PERMIT m w_STRONG_MAJORITY_PERMIT) k
  have hE_ := hE; obtain ⟨S_w_WEIGHTED, E_w_WEIGHTED, S_w_WEIGHTED_EReason, E_w_WEIGHTED_EReason, S_w_SVALUES, E_w_SVALUES, S_w_CONTROLLER, E_w_CONTROLLER, S_w_OWNER_OVERRIDES, E_w_OWNER_OVERRIDES, S_w_FULL_CONSENSUS_PERMIT, E_w_FULL_CONSENSUS_PERMIT, S_w_MAJORITY_PERMIT, E_w_MAJORITY_PERMIT, S_w_STRONG_MAJORITY_PERMIT, E_w_STRONG_MAJORITY_PERMIT, S_w_SUPER_MAJORITY_PERMIT, E_w_SUPER_MAJORITY_PERMIT, S_w_SOURCE, E_w_SOURCE, S_w_RESHARE_REFUSED, E_w_RESHARE_REFUSED, S_w_UNNAMED, E_w_UNNAMED, S_w_NOT_VIEWER, E_w_NOT_VIEWER, S_w_NO_THRESHOLD, E_w_NO_THRESHOLD, S_w_MAJORITY_PERMIT_EResolutionRule, E_w_MAJORITY_PERMIT_EResolutionRule, S_w_OWNER_OVERRIDES_EResolutionRule, E_w_OWNER_OVERRIDES_EResolutionRule, S_w_FULL_CONSENSUS_PERMIT_EResolutionRule, E_w_FULL_CONSENSUS_PERMIT_EResolutionRule, S_w_SUPER_MAJORITY_PERMIT_EResolutionRule, E_w_SUPER_MAJORITY_PERMIT_EResolutionRule, S_w_STRONG_MAJORITY_PERMIT_EResolutionRule, E_w_STRONG_MAJORITY_PERMIT_EResolutionRule, F_m_eRule_w_CONTROLLER, F_m_eRule_w_WEIGHTED_EReason, F_ordinal_w_WEIGHTED, F_ordinal_w_MAJORITY_PERMIT_EResolutionRule, F_m_eRule_w_OWNER_OVERRIDES, F_ordinal_w_OWNER_OVERRIDES_EResolutionRule, F_m_eRule_w_FULL_CONSENSUS_PERMIT, F_ordinal_w_FULL_CONSENSUS_PERMIT_EResolutionRule, F_m_eRule_w_MAJORITY_PERMIT, F_ordinal_w_SUPER_MAJORITY_PERMIT_EResolutionRule, F_m_eRule_w_STRONG_MAJORITY_PERMIT, F_ordinal_w_STRONG_MAJORITY_PERMIT_EResolutionRule, F_m_eRule_w_SUPER_MAJORITY_PERMIT, F_m_eRule_w_SOURCE, F_m_eRule_w_RESHARE_REFUSED, F_m_eRule_w_UNNAMED, F_m_eRule_w_NOT_VIEWER, F_m_eRule_w_NO_THRESHOLD, V_w_SVALUES⟩ := hE_
  obtain ⟨T1, X1, e1, st1⟩ := getF X0 hx hZ hown (host := "") (Or.inl (hw _ (List.mem_of_getElem? (i := 36) rfl))) Via.refl e0 (F_m_eRule_w_STRONG_MAJORITY_PERMIT.ext O0.2) (g := (mkF m 1 #[.val (.ref w_STRONG_MAJORITY_PERMIT)] [(.ref w_STRONG_MAJORITY_PERMIT)])) rfl rfl (hb hby d3_1)
  obtain ⟨fs, hr, hrun, hended, hW, hsame⟩ := X1.leave (v := some (.ref w_STRONG_MAJORITY_PERMIT_EResolutionRule)) (fun h => by rw [Bd.returns] at h; cases h)
  refine ⟨_, _, pre0 _ ?_, hrun, hended, _, _, rfl, ?_, ⟨_, rfl⟩, hW, hsame.mono (by decide) (by decide)⟩
  · show Steps p.tables e below (s₁.setTop (mkF m 0 #[.val (.ref w_STRONG_MAJORITY_PERMIT)] [])) _
    refine XS.aloadN X0.here hx rfl (hb hby d3_0) rfl rfl ?_
    show Steps p.tables e below (s₁.setTop (mkF m 1 #[.val (.ref w_STRONG_MAJORITY_PERMIT)] [(.ref w_STRONG_MAJORITY_PERMIT)])) _
    refine st1 _ ?_
    show Steps p.tables e below (T1.setTop (mkF m 4 #[.val (.ref w_STRONG_MAJORITY_PERMIT)] [(.ref w_STRONG_MAJORITY_PERMIT_EResolutionRule)])) _
    jvm_step X1.here [X1.here.top, hx, (hb hby d3_4), X1.method', Bd.returns, Value.isRef, FieldType.isReference]
    first | (intro acts; rw [hr _ acts rfl rfl rfl]) | rw [hr _ _ rfl rfl rfl]
    exact Steps.refl _
  · show Q_gr_STRONG_MAJORITY_PERMIT Z w_WEIGHTED w_WEIGHTED_EReason w_SVALUES w_CONTROLLER w_OWNER_OVERRIDES w_FULL_CONSENSUS_PERMIT w_MAJORITY_PERMIT w_STRONG_MAJORITY_PERMIT w_SUPER_MAJORITY_PERMIT w_SOURCE w_RESHARE_REFUSED w_UNNAMED w_NOT_VIEWER w_NO_THRESHOLD w_MAJORITY_PERMIT_EResolutionRule w_OWNER_OVERRIDES_EResolutionRule w_FULL_CONSENSUS_PERMIT_EResolutionRule w_SUPER_MAJORITY_PERMIT_EResolutionRule w_STRONG_MAJORITY_PERMIT_EResolutionRule kV h0 n0 _ T1.heap _
    rw [e1]
    exact ⟨rfl, N0, rfl⟩
theorem ef_fr_SUPER_MAJORITY_PERMIT (m : MethodId) (w_SUPER_MAJORITY_PERMIT_EResolutionRule : Addr) : entryFrame m #[(.ref w_SUPER_MAJORITY_PERMIT_EResolutionRule)] 5 = mkF m 0 #[.val (.ref w_SUPER_MAJORITY_PERMIT_EResolutionRule), .unset, .unset, .unset, .unset] [] := by first | (simp [entryFrame, mkF, argsToLocals, Value.category]; done) | rfl
def Q_fr_SUPER_MAJORITY_PERMIT (Z : State) (w_WEIGHTED w_WEIGHTED_EReason w_SVALUES w_CONTROLLER w_OWNER_OVERRIDES w_FULL_CONSENSUS_PERMIT w_MAJORITY_PERMIT w_STRONG_MAJORITY_PERMIT w_SUPER_MAJORITY_PERMIT w_SOURCE w_RESHARE_REFUSED w_UNNAMED w_NOT_VIEWER w_NO_THRESHOLD w_MAJORITY_PERMIT_EResolutionRule w_OWNER_OVERRIDES_EResolutionRule w_FULL_CONSENSUS_PERMIT_EResolutionRule w_SUPER_MAJORITY_PERMIT_EResolutionRule w_STRONG_MAJORITY_PERMIT_EResolutionRule : Addr) (kV : ClassId) (h0 : Heap) (n0 : Nat) (v : Option Value) (h : Heap) (L : List Loc) : Prop := v = some (.ref w_SUPER_MAJORITY_PERMIT) ∧ Fr n0 L ∧ Keep h0 h []
set_option maxRecDepth 65536 in
set_option maxHeartbeats 40000000 in
theorem fr_SUPER_MAJORITY_PERMIT (l : Launch) (Z : State) (a0 : Array Value) (hw : ∀ d ∈ tables_1, d.before a0 Z = true) (ws : List Jvm.Cond) (w_WEIGHTED w_WEIGHTED_EReason w_SVALUES w_CONTROLLER w_OWNER_OVERRIDES w_FULL_CONSENSUS_PERMIT w_MAJORITY_PERMIT w_STRONG_MAJORITY_PERMIT w_SUPER_MAJORITY_PERMIT w_SOURCE w_RESHARE_REFUSED w_UNNAMED w_NOT_VIEWER w_NO_THRESHOLD w_MAJORITY_PERMIT_EResolutionRule w_OWNER_OVERRIDES_EResolutionRule w_FULL_CONSENSUS_PERMIT_EResolutionRule w_SUPER_MAJORITY_PERMIT_EResolutionRule w_STRONG_MAJORITY_PERMIT_EResolutionRule : Addr) (kV : ClassId) (h0 : Heap) (n0 : Nat) (O0 : Old Z n0 h0) (hE : OwnEnv Z w_WEIGHTED w_WEIGHTED_EReason w_SVALUES w_CONTROLLER w_OWNER_OVERRIDES w_FULL_CONSENSUS_PERMIT w_MAJORITY_PERMIT w_STRONG_MAJORITY_PERMIT w_SUPER_MAJORITY_PERMIT w_SOURCE w_RESHARE_REFUSED w_UNNAMED w_NOT_VIEWER w_NO_THRESHOLD w_MAJORITY_PERMIT_EResolutionRule w_OWNER_OVERRIDES_EResolutionRule w_FULL_CONSENSUS_PERMIT_EResolutionRule w_SUPER_MAJORITY_PERMIT_EResolutionRule w_STRONG_MAJORITY_PERMIT_EResolutionRule kV) :
    MetFree l (⟨"com/example/kindred_consent/kindredconsent/engine/EReason", "forRule", "(Lcom/example/kindred_consent/kindredconsent/model/EResolutionRule;)Lcom/example/kindred_consent/kindredconsent/engine/EReason;"⟩ : MethodName) (head1 (Jvm.Cond.code (⟨"com/example/kindred_consent/kindredconsent/engine/EReason", "forRule", "(Lcom/example/kindred_consent/kindredconsent/model/EResolutionRule;)Lcom/example/kindred_consent/kindredconsent/engine/EReason;"⟩ : MethodName) prog_7_method_8_code 5 (some (.object "com/example/kindred_consent/kindredconsent/engine/EReason")) :: ws) ({ frames := 2, cells := 1, slots := 12, locals := 25 } : Room)) (fun a U => a = #[(.ref w_SUPER_MAJORITY_PERMIT_EResolutionRule)] ∧ Z.Warmed39 U.vm ∧ U.heap = h0) (fun _ _ _ _ _ => True) (fun _ U o U' => ∃ v L, o = .returned v ∧ Q_fr_SUPER_MAJORITY_PERMIT Z w_WEIGHTED w_WEIGHTED_EReason w_SVALUES w_CONTROLLER w_OWNER_OVERRIDES w_FULL_CONSENSUS_PERMIT w_MAJORITY_PERMIT w_STRONG_MAJORITY_PERMIT w_SUPER_MAJORITY_PERMIT w_SOURCE w_RESHARE_REFUSED w_UNNAMED w_NOT_VIEWER w_NO_THRESHOLD w_MAJORITY_PERMIT_EResolutionRule w_OWNER_OVERRIDES_EResolutionRule w_FULL_CONSENSUS_PERMIT_EResolutionRule w_SUPER_MAJORITY_PERMIT_EResolutionRule w_STRONG_MAJORITY_PERMIT_EResolutionRule kV h0 n0 v U'.heap L ∧ FrameEnd U o U' L ({ frames := 2, cells := 1, slots := 12, locals := 25 } : Room).cells ({ frames := 2, cells := 1, slots := 12, locals := 25 } : Room).slots) := by
  refine MetFree.of_bodySF (plainFor_of_name pn_com_example_kindred_consent_kindredconsent_engine_EReason) hisR ?_
  intro p e s m args below meth c s₁ Bd hml0 hP hK
  obtain ⟨rfl, hZ, hh⟩ := hP
  have hx := Bd.exec
  have hby := Bd.bytes
  have hml : c.maxLocals = 5 := hml0
  have hown : s.vm.findClass "com/example/kindred_consent/kindredconsent/engine/EReason" = some m.cls := findClass_of_methodNamed Bd.named
  have hnm := (name_of_methodNamed Bd.named Bd.method).1
  have X0 : Stand p l e ({ frames := 2, cells := 1, slots := 12, locals := 25 } : Room) s m #[(.ref w_SUPER_MAJORITY_PERMIT_EResolutionRule)] below meth c s₁ [] 0 0 := Stand.of_body Bd
  have e0 : s₁.heap = h0 := by rw [← hh, Bd.state]; rfl
  have N0 := Fr.nil n0
  have pre0 : ∀ t, Steps p.tables e below (s₁.setTop (mkF m 0 #[.val (.ref w_SUPER_MAJORITY_PERMIT_EResolutionRule), .unset, .unset, .unset, .unset] [])) t → Steps p.tables e below (s₁.setTop (entryFrame m #[(.ref w_SUPER_MAJORITY_PERMIT_EResolutionRule)] 5)) t := fun t k => castTop (ef_fr_SUPER_MAJORITY_PERMIT m w_SUPER_MAJORITY_PERMIT_EResolutionRule) k
  have hE_ := hE; obtain ⟨S_w_WEIGHTED, E_w_WEIGHTED, S_w_WEIGHTED_EReason, E_w_WEIGHTED_EReason, S_w_SVALUES, E_w_SVALUES, S_w_CONTROLLER, E_w_CONTROLLER, S_w_OWNER_OVERRIDES, E_w_OWNER_OVERRIDES, S_w_FULL_CONSENSUS_PERMIT, E_w_FULL_CONSENSUS_PERMIT, S_w_MAJORITY_PERMIT, E_w_MAJORITY_PERMIT, S_w_STRONG_MAJORITY_PERMIT, E_w_STRONG_MAJORITY_PERMIT, S_w_SUPER_MAJORITY_PERMIT, E_w_SUPER_MAJORITY_PERMIT, S_w_SOURCE, E_w_SOURCE, S_w_RESHARE_REFUSED, E_w_RESHARE_REFUSED, S_w_UNNAMED, E_w_UNNAMED, S_w_NOT_VIEWER, E_w_NOT_VIEWER, S_w_NO_THRESHOLD, E_w_NO_THRESHOLD, S_w_MAJORITY_PERMIT_EResolutionRule, E_w_MAJORITY_PERMIT_EResolutionRule, S_w_OWNER_OVERRIDES_EResolutionRule, E_w_OWNER_OVERRIDES_EResolutionRule, S_w_FULL_CONSENSUS_PERMIT_EResolutionRule, E_w_FULL_CONSENSUS_PERMIT_EResolutionRule, S_w_SUPER_MAJORITY_PERMIT_EResolutionRule, E_w_SUPER_MAJORITY_PERMIT_EResolutionRule, S_w_STRONG_MAJORITY_PERMIT_EResolutionRule, E_w_STRONG_MAJORITY_PERMIT_EResolutionRule, F_m_eRule_w_CONTROLLER, F_m_eRule_w_WEIGHTED_EReason, F_ordinal_w_WEIGHTED, F_ordinal_w_MAJORITY_PERMIT_EResolutionRule, F_m_eRule_w_OWNER_OVERRIDES, F_ordinal_w_OWNER_OVERRIDES_EResolutionRule, F_m_eRule_w_FULL_CONSENSUS_PERMIT, F_ordinal_w_FULL_CONSENSUS_PERMIT_EResolutionRule, F_m_eRule_w_MAJORITY_PERMIT, F_ordinal_w_SUPER_MAJORITY_PERMIT_EResolutionRule, F_m_eRule_w_STRONG_MAJORITY_PERMIT, F_ordinal_w_STRONG_MAJORITY_PERMIT_EResolutionRule, F_m_eRule_w_SUPER_MAJORITY_PERMIT, F_m_eRule_w_SOURCE, F_m_eRule_w_RESHARE_REFUSED, F_m_eRule_w_UNNAMED, F_m_eRule_w_NOT_VIEWER, F_m_eRule_w_NO_THRESHOLD, V_w_SVALUES⟩ := hE_
  obtain ⟨_, _, ⟨T1, L1, k1, n1⟩, -, X1, ⟨Lc1, hQ1, l1, y1, z1⟩, st1⟩ := Jvm.LawKit.callS X0 hx (y := (⟨"com/example/kindred_consent/kindredconsent/engine/EReason", "values", "()[Lcom/example/kindred_consent/kindredconsent/engine/EReason;"⟩ : MethodName)) hown (mvT hZ (hw _ (List.mem_of_getElem? (i := 10) rfl))) (mvT hZ (hw _ (List.mem_of_getElem? (i := 11) rfl))) (mvT hZ (hw _ (List.mem_of_getElem? (i := 5) rfl))) (mvT hZ (hw _ (List.mem_of_getElem? (i := 12) rfl))) (by decide) (backOf (W := 0) (vals l Z a0 hw [] w_WEIGHTED w_WEIGHTED_EReason w_SVALUES w_CONTROLLER w_OWNER_OVERRIDES w_FULL_CONSENSUS_PERMIT w_MAJORITY_PERMIT w_STRONG_MAJORITY_PERMIT w_SUPER_MAJORITY_PERMIT w_SOURCE w_RESHARE_REFUSED w_UNNAMED w_NOT_VIEWER w_NO_THRESHOLD w_MAJORITY_PERMIT_EResolutionRule w_OWNER_OVERRIDES_EResolutionRule w_FULL_CONSENSUS_PERMIT_EResolutionRule w_SUPER_MAJORITY_PERMIT_EResolutionRule w_STRONG_MAJORITY_PERMIT_EResolutionRule kV h0 n0 O0 hE) hZ (hw _ (List.mem_of_getElem? (i := 12) rfl)) (hw _ (List.mem_of_getElem? (i := 5) rfl)) (by decide) (by decide)) (g := (mkF m 0 #[.val (.ref w_SUPER_MAJORITY_PERMIT_EResolutionRule), .unset, .unset, .unset, .unset] [])) rfl (by rw [hml]; rfl) (argsL := []) (rest := []) (lenOf pd____Lcom_example_kindred_consent_kindredconsent_engine_EReason_ rfl) rfl (by show 2 * 0 + _ ≤ _; exact Nat.le_of_eq rfl) (hb hby d1_0) (fun _ _ => ⟨rfl, e0, (by decide : 0 + 1 ≤ _), (by decide : 0 + 12 ≤ _)⟩)
  dsimp only [Pt.U, Pt.locs, Pt.cells, Pt.slots] at X1 l1 y1 z1 st1 hQ1
  subst l1 y1 z1
  obtain ⟨bo1, rfl, Nq1, Kq1, g_1, Va1⟩ := hQ1
  have N1 := Fr.app N0 Nq1
  have O1 := O0.keep Kq1 all0
  have K1 : Keep h0 T1.heap [] := (Keep.refl h0 []).trans Kq1 all0
  have Vc2 := Va1
  obtain ⟨cl2, Ar2, qa2, Sz2, Nn2, Ha2, Ga2⟩ := Vc2
  have Vc3 := Va1
  obtain ⟨cl3, Ar3, qa3, Sz3, Nn3, Ha3, Ga3⟩ := Vc3
  have hin3 : ¬ ((0 : Int32) < 0 ∨ cl3.slots.size ≤ ((0 : Int32)).toNatClampNeg) := inb_of Sz3 ⟨by decide, by decide⟩
  have hat3 : cl3.slots[((0 : Int32)).toNatClampNeg]? = some (.ref w_CONTROLLER) := Has.at Ha3 hin3 rfl
  obtain ⟨T4, X4, e4, st4⟩ := getF X1 hx hZ hown (host := "") (Or.inl (hw _ (List.mem_of_getElem? (i := 36) rfl))) Via.refl rfl (F_m_eRule_w_CONTROLLER.ext O1.2) (g := (mkF m 21 #[.val (.ref w_SUPER_MAJORITY_PERMIT_EResolutionRule), .val (.ref bo1), .val (.int (12 : Int32)), .val (.int (0 : Int32)), .val (.ref w_CONTROLLER)] [(.ref w_CONTROLLER)])) rfl rfl (hb hby d1_21)
  have Vc5 := Va1
  obtain ⟨cl5, Ar5, qa5, Sz5, Nn5, Ha5, Ga5⟩ := Vc5
  have hin5 : ¬ ((1 : Int32) < 0 ∨ cl5.slots.size ≤ ((1 : Int32)).toNatClampNeg) := inb_of Sz5 ⟨by decide, by decide⟩
  have hat5 : cl5.slots[((1 : Int32)).toNatClampNeg]? = some (.ref w_WEIGHTED_EReason) := Has.at Ha5 hin5 rfl
  obtain ⟨T6, X6, e6, st6⟩ := getF X4 hx hZ hown (host := "") (Or.inl (hw _ (List.mem_of_getElem? (i := 36) rfl))) Via.refl e4 (F_m_eRule_w_WEIGHTED_EReason.ext O1.2) (g := (mkF m 21 #[.val (.ref w_SUPER_MAJORITY_PERMIT_EResolutionRule), .val (.ref bo1), .val (.int (12 : Int32)), .val (.int (1 : Int32)), .val (.ref w_WEIGHTED_EReason)] [(.ref w_WEIGHTED_EReason)])) rfl rfl (hb hby d1_21)
  have Vc7 := Va1
  obtain ⟨cl7, Ar7, qa7, Sz7, Nn7, Ha7, Ga7⟩ := Vc7
  have hin7 : ¬ ((2 : Int32) < 0 ∨ cl7.slots.size ≤ ((2 : Int32)).toNatClampNeg) := inb_of Sz7 ⟨by decide, by decide⟩
  have hat7 : cl7.slots[((2 : Int32)).toNatClampNeg]? = some (.ref w_OWNER_OVERRIDES) := Has.at Ha7 hin7 rfl
  obtain ⟨T8, X8, e8, st8⟩ := getF X6 hx hZ hown (host := "") (Or.inl (hw _ (List.mem_of_getElem? (i := 36) rfl))) Via.refl e6 (F_m_eRule_w_OWNER_OVERRIDES.ext O1.2) (g := (mkF m 21 #[.val (.ref w_SUPER_MAJORITY_PERMIT_EResolutionRule), .val (.ref bo1), .val (.int (12 : Int32)), .val (.int (2 : Int32)), .val (.ref w_OWNER_OVERRIDES)] [(.ref w_OWNER_OVERRIDES)])) rfl rfl (hb hby d1_21)
  have Vc9 := Va1
  obtain ⟨cl9, Ar9, qa9, Sz9, Nn9, Ha9, Ga9⟩ := Vc9
  have hin9 : ¬ ((3 : Int32) < 0 ∨ cl9.slots.size ≤ ((3 : Int32)).toNatClampNeg) := inb_of Sz9 ⟨by decide, by decide⟩
  have hat9 : cl9.slots[((3 : Int32)).toNatClampNeg]? = some (.ref w_FULL_CONSENSUS_PERMIT) := Has.at Ha9 hin9 rfl
  obtain ⟨T10, X10, e10, st10⟩ := getF X8 hx hZ hown (host := "") (Or.inl (hw _ (List.mem_of_getElem? (i := 36) rfl))) Via.refl e8 (F_m_eRule_w_FULL_CONSENSUS_PERMIT.ext O1.2) (g := (mkF m 21 #[.val (.ref w_SUPER_MAJORITY_PERMIT_EResolutionRule), .val (.ref bo1), .val (.int (12 : Int32)), .val (.int (3 : Int32)), .val (.ref w_FULL_CONSENSUS_PERMIT)] [(.ref w_FULL_CONSENSUS_PERMIT)])) rfl rfl (hb hby d1_21)
  have Vc11 := Va1
  obtain ⟨cl11, Ar11, qa11, Sz11, Nn11, Ha11, Ga11⟩ := Vc11
  have hin11 : ¬ ((4 : Int32) < 0 ∨ cl11.slots.size ≤ ((4 : Int32)).toNatClampNeg) := inb_of Sz11 ⟨by decide, by decide⟩
  have hat11 : cl11.slots[((4 : Int32)).toNatClampNeg]? = some (.ref w_MAJORITY_PERMIT) := Has.at Ha11 hin11 rfl
  obtain ⟨T12, X12, e12, st12⟩ := getF X10 hx hZ hown (host := "") (Or.inl (hw _ (List.mem_of_getElem? (i := 36) rfl))) Via.refl e10 (F_m_eRule_w_MAJORITY_PERMIT.ext O1.2) (g := (mkF m 21 #[.val (.ref w_SUPER_MAJORITY_PERMIT_EResolutionRule), .val (.ref bo1), .val (.int (12 : Int32)), .val (.int (4 : Int32)), .val (.ref w_MAJORITY_PERMIT)] [(.ref w_MAJORITY_PERMIT)])) rfl rfl (hb hby d1_21)
  have Vc13 := Va1
  obtain ⟨cl13, Ar13, qa13, Sz13, Nn13, Ha13, Ga13⟩ := Vc13
  have hin13 : ¬ ((5 : Int32) < 0 ∨ cl13.slots.size ≤ ((5 : Int32)).toNatClampNeg) := inb_of Sz13 ⟨by decide, by decide⟩
  have hat13 : cl13.slots[((5 : Int32)).toNatClampNeg]? = some (.ref w_STRONG_MAJORITY_PERMIT) := Has.at Ha13 hin13 rfl
  obtain ⟨T14, X14, e14, st14⟩ := getF X12 hx hZ hown (host := "") (Or.inl (hw _ (List.mem_of_getElem? (i := 36) rfl))) Via.refl e12 (F_m_eRule_w_STRONG_MAJORITY_PERMIT.ext O1.2) (g := (mkF m 21 #[.val (.ref w_SUPER_MAJORITY_PERMIT_EResolutionRule), .val (.ref bo1), .val (.int (12 : Int32)), .val (.int (5 : Int32)), .val (.ref w_STRONG_MAJORITY_PERMIT)] [(.ref w_STRONG_MAJORITY_PERMIT)])) rfl rfl (hb hby d1_21)
  have Vc15 := Va1
  obtain ⟨cl15, Ar15, qa15, Sz15, Nn15, Ha15, Ga15⟩ := Vc15
  have hin15 : ¬ ((6 : Int32) < 0 ∨ cl15.slots.size ≤ ((6 : Int32)).toNatClampNeg) := inb_of Sz15 ⟨by decide, by decide⟩
  have hat15 : cl15.slots[((6 : Int32)).toNatClampNeg]? = some (.ref w_SUPER_MAJORITY_PERMIT) := Has.at Ha15 hin15 rfl
  obtain ⟨T16, X16, e16, st16⟩ := getF X14 hx hZ hown (host := "") (Or.inl (hw _ (List.mem_of_getElem? (i := 36) rfl))) Via.refl e14 (F_m_eRule_w_SUPER_MAJORITY_PERMIT.ext O1.2) (g := (mkF m 21 #[.val (.ref w_SUPER_MAJORITY_PERMIT_EResolutionRule), .val (.ref bo1), .val (.int (12 : Int32)), .val (.int (6 : Int32)), .val (.ref w_SUPER_MAJORITY_PERMIT)] [(.ref w_SUPER_MAJORITY_PERMIT)])) rfl rfl (hb hby d1_21)
  obtain ⟨fs, hr, hrun, hended, hW, hsame⟩ := X16.leave (v := some (.ref w_SUPER_MAJORITY_PERMIT)) (fun h => by rw [Bd.returns] at h; cases h)
  refine ⟨_, _, pre0 _ ?_, hrun, hended, _, _, rfl, ?_, ⟨_, rfl⟩, hW, hsame.mono (by decide) (by decide)⟩
  · show Steps p.tables e below (s₁.setTop (mkF m 0 #[.val (.ref w_SUPER_MAJORITY_PERMIT_EResolutionRule), .unset, .unset, .unset, .unset] [])) _
    refine st1 _ ?_
    show Steps p.tables e below (T1.setTop (mkF m 3 #[.val (.ref w_SUPER_MAJORITY_PERMIT_EResolutionRule), .unset, .unset, .unset, .unset] [(.ref bo1)])) _
    refine XS.astoreN X1.here hx rfl (hb hby d1_3) rfl rfl (l' := #[.val (.ref w_SUPER_MAJORITY_PERMIT_EResolutionRule), .val (.ref bo1), .unset, .unset, .unset]) rfl ?_
    show Steps p.tables e below (T1.setTop (mkF m 4 #[.val (.ref w_SUPER_MAJORITY_PERMIT_EResolutionRule), .val (.ref bo1), .unset, .unset, .unset] [])) _
    refine XS.aloadN X1.here hx rfl (hb hby d1_4) rfl rfl ?_
    show Steps p.tables e below (T1.setTop (mkF m 5 #[.val (.ref w_SUPER_MAJORITY_PERMIT_EResolutionRule), .val (.ref bo1), .unset, .unset, .unset] [(.ref bo1)])) _
    refine X1.arraylength hx Ar2.1 (State.isArrayOf_alike hZ.alike Ar2.2.1) (g := (mkF m 5 #[.val (.ref w_SUPER_MAJORITY_PERMIT_EResolutionRule), .val (.ref bo1), .unset, .unset, .unset] [(.ref bo1)])) rfl rfl (hb hby d1_5) _ ?_
    rw [len_of Sz2 Nn2]
    show Steps p.tables e below (T1.setTop (mkF m 6 #[.val (.ref w_SUPER_MAJORITY_PERMIT_EResolutionRule), .val (.ref bo1), .unset, .unset, .unset] [(.int (12 : Int32))])) _
    refine XS.istoreN X1.here hx rfl (hb hby d1_6) rfl (l' := #[.val (.ref w_SUPER_MAJORITY_PERMIT_EResolutionRule), .val (.ref bo1), .val (.int (12 : Int32)), .unset, .unset]) rfl ?_
    show Steps p.tables e below (T1.setTop (mkF m 7 #[.val (.ref w_SUPER_MAJORITY_PERMIT_EResolutionRule), .val (.ref bo1), .val (.int (12 : Int32)), .unset, .unset] [])) _
    refine XS.iconst X1.here hx rfl (hb hby d1_7) ?_
    show Steps p.tables e below (T1.setTop (mkF m 8 #[.val (.ref w_SUPER_MAJORITY_PERMIT_EResolutionRule), .val (.ref bo1), .val (.int (12 : Int32)), .unset, .unset] [(.int (0 : Int32))])) _
    refine XS.istoreN X1.here hx rfl (hb hby d1_8) rfl (l' := #[.val (.ref w_SUPER_MAJORITY_PERMIT_EResolutionRule), .val (.ref bo1), .val (.int (12 : Int32)), .val (.int (0 : Int32)), .unset]) rfl ?_
    show Steps p.tables e below (T1.setTop (mkF m 9 #[.val (.ref w_SUPER_MAJORITY_PERMIT_EResolutionRule), .val (.ref bo1), .val (.int (12 : Int32)), .val (.int (0 : Int32)), .unset] [])) _
    refine XS.iloadN X1.here hx rfl (hb hby d1_9) rfl ?_
    show Steps p.tables e below (T1.setTop (mkF m 10 #[.val (.ref w_SUPER_MAJORITY_PERMIT_EResolutionRule), .val (.ref bo1), .val (.int (12 : Int32)), .val (.int (0 : Int32)), .unset] [(.int (0 : Int32))])) _
    refine XS.iloadN X1.here hx rfl (hb hby d1_10) rfl ?_
    show Steps p.tables e below (T1.setTop (mkF m 11 #[.val (.ref w_SUPER_MAJORITY_PERMIT_EResolutionRule), .val (.ref bo1), .val (.int (12 : Int32)), .val (.int (0 : Int32)), .unset] [(.int (12 : Int32)), (.int (0 : Int32))])) _
    refine XS.icmpNo X1.here hx rfl (hb hby d1_11) rfl (tlt (by decide : (0 : Int32) < (12 : Int32))).2.1 ?_
    show Steps p.tables e below (T1.setTop (mkF m 14 #[.val (.ref w_SUPER_MAJORITY_PERMIT_EResolutionRule), .val (.ref bo1), .val (.int (12 : Int32)), .val (.int (0 : Int32)), .unset] [])) _
    refine XS.aloadN X1.here hx rfl (hb hby d1_14) rfl rfl ?_
    show Steps p.tables e below (T1.setTop (mkF m 15 #[.val (.ref w_SUPER_MAJORITY_PERMIT_EResolutionRule), .val (.ref bo1), .val (.int (12 : Int32)), .val (.int (0 : Int32)), .unset] [(.ref bo1)])) _
    refine XS.iloadN X1.here hx rfl (hb hby d1_15) rfl ?_
    show Steps p.tables e below (T1.setTop (mkF m 16 #[.val (.ref w_SUPER_MAJORITY_PERMIT_EResolutionRule), .val (.ref bo1), .val (.int (12 : Int32)), .val (.int (0 : Int32)), .unset] [(.int (0 : Int32)), (.ref bo1)])) _
    refine X1.aaload hx (j := (0 : Int32)) (v := (.ref w_CONTROLLER)) Ar3.1 (State.isArrayOf_alike hZ.alike Ar3.2.1) rfl Ar3.2.2 hin3 hat3 (g := (mkF m 16 #[.val (.ref w_SUPER_MAJORITY_PERMIT_EResolutionRule), .val (.ref bo1), .val (.int (12 : Int32)), .val (.int (0 : Int32)), .unset] [(.int (0 : Int32)), (.ref bo1)])) rfl rfl (hb hby d1_16) _ ?_
    show Steps p.tables e below (T1.setTop (mkF m 17 #[.val (.ref w_SUPER_MAJORITY_PERMIT_EResolutionRule), .val (.ref bo1), .val (.int (12 : Int32)), .val (.int (0 : Int32)), .unset] [(.ref w_CONTROLLER)])) _
    refine XS.astore X1.here hx rfl (hb hby d1_17) rfl rfl (l' := #[.val (.ref w_SUPER_MAJORITY_PERMIT_EResolutionRule), .val (.ref bo1), .val (.int (12 : Int32)), .val (.int (0 : Int32)), .val (.ref w_CONTROLLER)]) rfl ?_
    show Steps p.tables e below (T1.setTop (mkF m 19 #[.val (.ref w_SUPER_MAJORITY_PERMIT_EResolutionRule), .val (.ref bo1), .val (.int (12 : Int32)), .val (.int (0 : Int32)), .val (.ref w_CONTROLLER)] [])) _
    refine XS.aload X1.here hx rfl (hb hby d1_19) rfl rfl ?_
    show Steps p.tables e below (T1.setTop (mkF m 21 #[.val (.ref w_SUPER_MAJORITY_PERMIT_EResolutionRule), .val (.ref bo1), .val (.int (12 : Int32)), .val (.int (0 : Int32)), .val (.ref w_CONTROLLER)] [(.ref w_CONTROLLER)])) _
    refine st4 _ ?_
    show Steps p.tables e below (T4.setTop (mkF m 24 #[.val (.ref w_SUPER_MAJORITY_PERMIT_EResolutionRule), .val (.ref bo1), .val (.int (12 : Int32)), .val (.int (0 : Int32)), .val (.ref w_CONTROLLER)] [.null])) _
    refine XS.aloadN X4.here hx rfl (hb hby d1_24) rfl rfl ?_
    show Steps p.tables e below (T4.setTop (mkF m 25 #[.val (.ref w_SUPER_MAJORITY_PERMIT_EResolutionRule), .val (.ref bo1), .val (.int (12 : Int32)), .val (.int (0 : Int32)), .val (.ref w_CONTROLLER)] [(.ref w_SUPER_MAJORITY_PERMIT_EResolutionRule), .null])) _
    refine Jvm.RoadKit.acmp (g := (mkF m 25 #[.val (.ref w_SUPER_MAJORITY_PERMIT_EResolutionRule), .val (.ref bo1), .val (.int (12 : Int32)), .val (.int (0 : Int32)), .val (.ref w_CONTROLLER)] [(.ref w_SUPER_MAJORITY_PERMIT_EResolutionRule), .null])) X4 hx rfl rfl rfl (pc0 := 25) (pc' := 31) (same := false) rfl (hb hby d1_25) rfl (decide_eq_false nofun) (by decide) (by decide) ?_
    show Steps p.tables e below (T4.setTop (mkF m 31 #[.val (.ref w_SUPER_MAJORITY_PERMIT_EResolutionRule), .val (.ref bo1), .val (.int (12 : Int32)), .val (.int (0 : Int32)), .val (.ref w_CONTROLLER)] [])) _
    refine XS.iinc X4.here hx rfl (hb hby d1_31) rfl (l' := #[.val (.ref w_SUPER_MAJORITY_PERMIT_EResolutionRule), .val (.ref bo1), .val (.int (12 : Int32)), .val (.int (1 : Int32)), .val (.ref w_CONTROLLER)]) rfl ?_
    show Steps p.tables e below (T4.setTop (mkF m 34 #[.val (.ref w_SUPER_MAJORITY_PERMIT_EResolutionRule), .val (.ref bo1), .val (.int (12 : Int32)), .val (.int (1 : Int32)), .val (.ref w_CONTROLLER)] [])) _
    refine XS.goto X4.here hx rfl (pc0 := 34) (pc' := 9) rfl (hb hby d1_34) (by decide) (by decide) ?_
    show Steps p.tables e below (T4.setTop (mkF m 9 #[.val (.ref w_SUPER_MAJORITY_PERMIT_EResolutionRule), .val (.ref bo1), .val (.int (12 : Int32)), .val (.int (1 : Int32)), .val (.ref w_CONTROLLER)] [])) _
    refine XS.iloadN X4.here hx rfl (hb hby d1_9) rfl ?_
    show Steps p.tables e below (T4.setTop (mkF m 10 #[.val (.ref w_SUPER_MAJORITY_PERMIT_EResolutionRule), .val (.ref bo1), .val (.int (12 : Int32)), .val (.int (1 : Int32)), .val (.ref w_CONTROLLER)] [(.int (1 : Int32))])) _
    refine XS.iloadN X4.here hx rfl (hb hby d1_10) rfl ?_
    show Steps p.tables e below (T4.setTop (mkF m 11 #[.val (.ref w_SUPER_MAJORITY_PERMIT_EResolutionRule), .val (.ref bo1), .val (.int (12 : Int32)), .val (.int (1 : Int32)), .val (.ref w_CONTROLLER)] [(.int (12 : Int32)), (.int (1 : Int32))])) _
    refine XS.icmpNo X4.here hx rfl (hb hby d1_11) rfl (tlt (by decide : (1 : Int32) < (12 : Int32))).2.1 ?_
    show Steps p.tables e below (T4.setTop (mkF m 14 #[.val (.ref w_SUPER_MAJORITY_PERMIT_EResolutionRule), .val (.ref bo1), .val (.int (12 : Int32)), .val (.int (1 : Int32)), .val (.ref w_CONTROLLER)] [])) _
    refine XS.aloadN X4.here hx rfl (hb hby d1_14) rfl rfl ?_
    show Steps p.tables e below (T4.setTop (mkF m 15 #[.val (.ref w_SUPER_MAJORITY_PERMIT_EResolutionRule), .val (.ref bo1), .val (.int (12 : Int32)), .val (.int (1 : Int32)), .val (.ref w_CONTROLLER)] [(.ref bo1)])) _
    refine XS.iloadN X4.here hx rfl (hb hby d1_15) rfl ?_
    show Steps p.tables e below (T4.setTop (mkF m 16 #[.val (.ref w_SUPER_MAJORITY_PERMIT_EResolutionRule), .val (.ref bo1), .val (.int (12 : Int32)), .val (.int (1 : Int32)), .val (.ref w_CONTROLLER)] [(.int (1 : Int32)), (.ref bo1)])) _
    refine X4.aaload hx (j := (1 : Int32)) (v := (.ref w_WEIGHTED_EReason)) (by rw [e4]; exact Ar5.1) (State.isArrayOf_alike hZ.alike Ar5.2.1) rfl Ar5.2.2 hin5 hat5 (g := (mkF m 16 #[.val (.ref w_SUPER_MAJORITY_PERMIT_EResolutionRule), .val (.ref bo1), .val (.int (12 : Int32)), .val (.int (1 : Int32)), .val (.ref w_CONTROLLER)] [(.int (1 : Int32)), (.ref bo1)])) rfl rfl (hb hby d1_16) _ ?_
    show Steps p.tables e below (T4.setTop (mkF m 17 #[.val (.ref w_SUPER_MAJORITY_PERMIT_EResolutionRule), .val (.ref bo1), .val (.int (12 : Int32)), .val (.int (1 : Int32)), .val (.ref w_CONTROLLER)] [(.ref w_WEIGHTED_EReason)])) _
    refine XS.astore X4.here hx rfl (hb hby d1_17) rfl rfl (l' := #[.val (.ref w_SUPER_MAJORITY_PERMIT_EResolutionRule), .val (.ref bo1), .val (.int (12 : Int32)), .val (.int (1 : Int32)), .val (.ref w_WEIGHTED_EReason)]) rfl ?_
    show Steps p.tables e below (T4.setTop (mkF m 19 #[.val (.ref w_SUPER_MAJORITY_PERMIT_EResolutionRule), .val (.ref bo1), .val (.int (12 : Int32)), .val (.int (1 : Int32)), .val (.ref w_WEIGHTED_EReason)] [])) _
    refine XS.aload X4.here hx rfl (hb hby d1_19) rfl rfl ?_
    show Steps p.tables e below (T4.setTop (mkF m 21 #[.val (.ref w_SUPER_MAJORITY_PERMIT_EResolutionRule), .val (.ref bo1), .val (.int (12 : Int32)), .val (.int (1 : Int32)), .val (.ref w_WEIGHTED_EReason)] [(.ref w_WEIGHTED_EReason)])) _
    refine st6 _ ?_
    show Steps p.tables e below (T6.setTop (mkF m 24 #[.val (.ref w_SUPER_MAJORITY_PERMIT_EResolutionRule), .val (.ref bo1), .val (.int (12 : Int32)), .val (.int (1 : Int32)), .val (.ref w_WEIGHTED_EReason)] [(.ref w_WEIGHTED)])) _
    refine XS.aloadN X6.here hx rfl (hb hby d1_24) rfl rfl ?_
    show Steps p.tables e below (T6.setTop (mkF m 25 #[.val (.ref w_SUPER_MAJORITY_PERMIT_EResolutionRule), .val (.ref bo1), .val (.int (12 : Int32)), .val (.int (1 : Int32)), .val (.ref w_WEIGHTED_EReason)] [(.ref w_SUPER_MAJORITY_PERMIT_EResolutionRule), (.ref w_WEIGHTED)])) _
    refine Jvm.RoadKit.acmp (g := (mkF m 25 #[.val (.ref w_SUPER_MAJORITY_PERMIT_EResolutionRule), .val (.ref bo1), .val (.int (12 : Int32)), .val (.int (1 : Int32)), .val (.ref w_WEIGHTED_EReason)] [(.ref w_SUPER_MAJORITY_PERMIT_EResolutionRule), (.ref w_WEIGHTED)])) X6 hx rfl rfl rfl (pc0 := 25) (pc' := 31) (same := false) rfl (hb hby d1_25) rfl (decide_eq_false fun q => (Fld.ne F_ordinal_w_WEIGHTED F_ordinal_w_SUPER_MAJORITY_PERMIT_EResolutionRule (by decide)) (Value.ref.inj q)) (by decide) (by decide) ?_
    show Steps p.tables e below (T6.setTop (mkF m 31 #[.val (.ref w_SUPER_MAJORITY_PERMIT_EResolutionRule), .val (.ref bo1), .val (.int (12 : Int32)), .val (.int (1 : Int32)), .val (.ref w_WEIGHTED_EReason)] [])) _
    refine XS.iinc X6.here hx rfl (hb hby d1_31) rfl (l' := #[.val (.ref w_SUPER_MAJORITY_PERMIT_EResolutionRule), .val (.ref bo1), .val (.int (12 : Int32)), .val (.int (2 : Int32)), .val (.ref w_WEIGHTED_EReason)]) rfl ?_
    show Steps p.tables e below (T6.setTop (mkF m 34 #[.val (.ref w_SUPER_MAJORITY_PERMIT_EResolutionRule), .val (.ref bo1), .val (.int (12 : Int32)), .val (.int (2 : Int32)), .val (.ref w_WEIGHTED_EReason)] [])) _
    refine XS.goto X6.here hx rfl (pc0 := 34) (pc' := 9) rfl (hb hby d1_34) (by decide) (by decide) ?_
    show Steps p.tables e below (T6.setTop (mkF m 9 #[.val (.ref w_SUPER_MAJORITY_PERMIT_EResolutionRule), .val (.ref bo1), .val (.int (12 : Int32)), .val (.int (2 : Int32)), .val (.ref w_WEIGHTED_EReason)] [])) _
    refine XS.iloadN X6.here hx rfl (hb hby d1_9) rfl ?_
    show Steps p.tables e below (T6.setTop (mkF m 10 #[.val (.ref w_SUPER_MAJORITY_PERMIT_EResolutionRule), .val (.ref bo1), .val (.int (12 : Int32)), .val (.int (2 : Int32)), .val (.ref w_WEIGHTED_EReason)] [(.int (2 : Int32))])) _
    refine XS.iloadN X6.here hx rfl (hb hby d1_10) rfl ?_
    show Steps p.tables e below (T6.setTop (mkF m 11 #[.val (.ref w_SUPER_MAJORITY_PERMIT_EResolutionRule), .val (.ref bo1), .val (.int (12 : Int32)), .val (.int (2 : Int32)), .val (.ref w_WEIGHTED_EReason)] [(.int (12 : Int32)), (.int (2 : Int32))])) _
    refine XS.icmpNo X6.here hx rfl (hb hby d1_11) rfl (tlt (by decide : (2 : Int32) < (12 : Int32))).2.1 ?_
    show Steps p.tables e below (T6.setTop (mkF m 14 #[.val (.ref w_SUPER_MAJORITY_PERMIT_EResolutionRule), .val (.ref bo1), .val (.int (12 : Int32)), .val (.int (2 : Int32)), .val (.ref w_WEIGHTED_EReason)] [])) _
    refine XS.aloadN X6.here hx rfl (hb hby d1_14) rfl rfl ?_
    show Steps p.tables e below (T6.setTop (mkF m 15 #[.val (.ref w_SUPER_MAJORITY_PERMIT_EResolutionRule), .val (.ref bo1), .val (.int (12 : Int32)), .val (.int (2 : Int32)), .val (.ref w_WEIGHTED_EReason)] [(.ref bo1)])) _
    refine XS.iloadN X6.here hx rfl (hb hby d1_15) rfl ?_
    show Steps p.tables e below (T6.setTop (mkF m 16 #[.val (.ref w_SUPER_MAJORITY_PERMIT_EResolutionRule), .val (.ref bo1), .val (.int (12 : Int32)), .val (.int (2 : Int32)), .val (.ref w_WEIGHTED_EReason)] [(.int (2 : Int32)), (.ref bo1)])) _
    refine X6.aaload hx (j := (2 : Int32)) (v := (.ref w_OWNER_OVERRIDES)) (by rw [e6]; exact Ar7.1) (State.isArrayOf_alike hZ.alike Ar7.2.1) rfl Ar7.2.2 hin7 hat7 (g := (mkF m 16 #[.val (.ref w_SUPER_MAJORITY_PERMIT_EResolutionRule), .val (.ref bo1), .val (.int (12 : Int32)), .val (.int (2 : Int32)), .val (.ref w_WEIGHTED_EReason)] [(.int (2 : Int32)), (.ref bo1)])) rfl rfl (hb hby d1_16) _ ?_
    show Steps p.tables e below (T6.setTop (mkF m 17 #[.val (.ref w_SUPER_MAJORITY_PERMIT_EResolutionRule), .val (.ref bo1), .val (.int (12 : Int32)), .val (.int (2 : Int32)), .val (.ref w_WEIGHTED_EReason)] [(.ref w_OWNER_OVERRIDES)])) _
    refine XS.astore X6.here hx rfl (hb hby d1_17) rfl rfl (l' := #[.val (.ref w_SUPER_MAJORITY_PERMIT_EResolutionRule), .val (.ref bo1), .val (.int (12 : Int32)), .val (.int (2 : Int32)), .val (.ref w_OWNER_OVERRIDES)]) rfl ?_
    show Steps p.tables e below (T6.setTop (mkF m 19 #[.val (.ref w_SUPER_MAJORITY_PERMIT_EResolutionRule), .val (.ref bo1), .val (.int (12 : Int32)), .val (.int (2 : Int32)), .val (.ref w_OWNER_OVERRIDES)] [])) _
    refine XS.aload X6.here hx rfl (hb hby d1_19) rfl rfl ?_
    show Steps p.tables e below (T6.setTop (mkF m 21 #[.val (.ref w_SUPER_MAJORITY_PERMIT_EResolutionRule), .val (.ref bo1), .val (.int (12 : Int32)), .val (.int (2 : Int32)), .val (.ref w_OWNER_OVERRIDES)] [(.ref w_OWNER_OVERRIDES)])) _
    refine st8 _ ?_
    show Steps p.tables e below (T8.setTop (mkF m 24 #[.val (.ref w_SUPER_MAJORITY_PERMIT_EResolutionRule), .val (.ref bo1), .val (.int (12 : Int32)), .val (.int (2 : Int32)), .val (.ref w_OWNER_OVERRIDES)] [(.ref w_OWNER_OVERRIDES_EResolutionRule)])) _
    refine XS.aloadN X8.here hx rfl (hb hby d1_24) rfl rfl ?_
    show Steps p.tables e below (T8.setTop (mkF m 25 #[.val (.ref w_SUPER_MAJORITY_PERMIT_EResolutionRule), .val (.ref bo1), .val (.int (12 : Int32)), .val (.int (2 : Int32)), .val (.ref w_OWNER_OVERRIDES)] [(.ref w_SUPER_MAJORITY_PERMIT_EResolutionRule), (.ref w_OWNER_OVERRIDES_EResolutionRule)])) _
    refine Jvm.RoadKit.acmp (g := (mkF m 25 #[.val (.ref w_SUPER_MAJORITY_PERMIT_EResolutionRule), .val (.ref bo1), .val (.int (12 : Int32)), .val (.int (2 : Int32)), .val (.ref w_OWNER_OVERRIDES)] [(.ref w_SUPER_MAJORITY_PERMIT_EResolutionRule), (.ref w_OWNER_OVERRIDES_EResolutionRule)])) X8 hx rfl rfl rfl (pc0 := 25) (pc' := 31) (same := false) rfl (hb hby d1_25) rfl (decide_eq_false fun q => (Fld.ne F_ordinal_w_OWNER_OVERRIDES_EResolutionRule F_ordinal_w_SUPER_MAJORITY_PERMIT_EResolutionRule (by decide)) (Value.ref.inj q)) (by decide) (by decide) ?_
    show Steps p.tables e below (T8.setTop (mkF m 31 #[.val (.ref w_SUPER_MAJORITY_PERMIT_EResolutionRule), .val (.ref bo1), .val (.int (12 : Int32)), .val (.int (2 : Int32)), .val (.ref w_OWNER_OVERRIDES)] [])) _
    refine XS.iinc X8.here hx rfl (hb hby d1_31) rfl (l' := #[.val (.ref w_SUPER_MAJORITY_PERMIT_EResolutionRule), .val (.ref bo1), .val (.int (12 : Int32)), .val (.int (3 : Int32)), .val (.ref w_OWNER_OVERRIDES)]) rfl ?_
    show Steps p.tables e below (T8.setTop (mkF m 34 #[.val (.ref w_SUPER_MAJORITY_PERMIT_EResolutionRule), .val (.ref bo1), .val (.int (12 : Int32)), .val (.int (3 : Int32)), .val (.ref w_OWNER_OVERRIDES)] [])) _
    refine XS.goto X8.here hx rfl (pc0 := 34) (pc' := 9) rfl (hb hby d1_34) (by decide) (by decide) ?_
    show Steps p.tables e below (T8.setTop (mkF m 9 #[.val (.ref w_SUPER_MAJORITY_PERMIT_EResolutionRule), .val (.ref bo1), .val (.int (12 : Int32)), .val (.int (3 : Int32)), .val (.ref w_OWNER_OVERRIDES)] [])) _
    refine XS.iloadN X8.here hx rfl (hb hby d1_9) rfl ?_
    show Steps p.tables e below (T8.setTop (mkF m 10 #[.val (.ref w_SUPER_MAJORITY_PERMIT_EResolutionRule), .val (.ref bo1), .val (.int (12 : Int32)), .val (.int (3 : Int32)), .val (.ref w_OWNER_OVERRIDES)] [(.int (3 : Int32))])) _
    refine XS.iloadN X8.here hx rfl (hb hby d1_10) rfl ?_
    show Steps p.tables e below (T8.setTop (mkF m 11 #[.val (.ref w_SUPER_MAJORITY_PERMIT_EResolutionRule), .val (.ref bo1), .val (.int (12 : Int32)), .val (.int (3 : Int32)), .val (.ref w_OWNER_OVERRIDES)] [(.int (12 : Int32)), (.int (3 : Int32))])) _
    refine XS.icmpNo X8.here hx rfl (hb hby d1_11) rfl (tlt (by decide : (3 : Int32) < (12 : Int32))).2.1 ?_
    show Steps p.tables e below (T8.setTop (mkF m 14 #[.val (.ref w_SUPER_MAJORITY_PERMIT_EResolutionRule), .val (.ref bo1), .val (.int (12 : Int32)), .val (.int (3 : Int32)), .val (.ref w_OWNER_OVERRIDES)] [])) _
    refine XS.aloadN X8.here hx rfl (hb hby d1_14) rfl rfl ?_
    show Steps p.tables e below (T8.setTop (mkF m 15 #[.val (.ref w_SUPER_MAJORITY_PERMIT_EResolutionRule), .val (.ref bo1), .val (.int (12 : Int32)), .val (.int (3 : Int32)), .val (.ref w_OWNER_OVERRIDES)] [(.ref bo1)])) _
    refine XS.iloadN X8.here hx rfl (hb hby d1_15) rfl ?_
    show Steps p.tables e below (T8.setTop (mkF m 16 #[.val (.ref w_SUPER_MAJORITY_PERMIT_EResolutionRule), .val (.ref bo1), .val (.int (12 : Int32)), .val (.int (3 : Int32)), .val (.ref w_OWNER_OVERRIDES)] [(.int (3 : Int32)), (.ref bo1)])) _
    refine X8.aaload hx (j := (3 : Int32)) (v := (.ref w_FULL_CONSENSUS_PERMIT)) (by rw [e8]; exact Ar9.1) (State.isArrayOf_alike hZ.alike Ar9.2.1) rfl Ar9.2.2 hin9 hat9 (g := (mkF m 16 #[.val (.ref w_SUPER_MAJORITY_PERMIT_EResolutionRule), .val (.ref bo1), .val (.int (12 : Int32)), .val (.int (3 : Int32)), .val (.ref w_OWNER_OVERRIDES)] [(.int (3 : Int32)), (.ref bo1)])) rfl rfl (hb hby d1_16) _ ?_
    show Steps p.tables e below (T8.setTop (mkF m 17 #[.val (.ref w_SUPER_MAJORITY_PERMIT_EResolutionRule), .val (.ref bo1), .val (.int (12 : Int32)), .val (.int (3 : Int32)), .val (.ref w_OWNER_OVERRIDES)] [(.ref w_FULL_CONSENSUS_PERMIT)])) _
    refine XS.astore X8.here hx rfl (hb hby d1_17) rfl rfl (l' := #[.val (.ref w_SUPER_MAJORITY_PERMIT_EResolutionRule), .val (.ref bo1), .val (.int (12 : Int32)), .val (.int (3 : Int32)), .val (.ref w_FULL_CONSENSUS_PERMIT)]) rfl ?_
    show Steps p.tables e below (T8.setTop (mkF m 19 #[.val (.ref w_SUPER_MAJORITY_PERMIT_EResolutionRule), .val (.ref bo1), .val (.int (12 : Int32)), .val (.int (3 : Int32)), .val (.ref w_FULL_CONSENSUS_PERMIT)] [])) _
    refine XS.aload X8.here hx rfl (hb hby d1_19) rfl rfl ?_
    show Steps p.tables e below (T8.setTop (mkF m 21 #[.val (.ref w_SUPER_MAJORITY_PERMIT_EResolutionRule), .val (.ref bo1), .val (.int (12 : Int32)), .val (.int (3 : Int32)), .val (.ref w_FULL_CONSENSUS_PERMIT)] [(.ref w_FULL_CONSENSUS_PERMIT)])) _
    refine st10 _ ?_
    show Steps p.tables e below (T10.setTop (mkF m 24 #[.val (.ref w_SUPER_MAJORITY_PERMIT_EResolutionRule), .val (.ref bo1), .val (.int (12 : Int32)), .val (.int (3 : Int32)), .val (.ref w_FULL_CONSENSUS_PERMIT)] [(.ref w_FULL_CONSENSUS_PERMIT_EResolutionRule)])) _
    refine XS.aloadN X10.here hx rfl (hb hby d1_24) rfl rfl ?_
    show Steps p.tables e below (T10.setTop (mkF m 25 #[.val (.ref w_SUPER_MAJORITY_PERMIT_EResolutionRule), .val (.ref bo1), .val (.int (12 : Int32)), .val (.int (3 : Int32)), .val (.ref w_FULL_CONSENSUS_PERMIT)] [(.ref w_SUPER_MAJORITY_PERMIT_EResolutionRule), (.ref w_FULL_CONSENSUS_PERMIT_EResolutionRule)])) _
    refine Jvm.RoadKit.acmp (g := (mkF m 25 #[.val (.ref w_SUPER_MAJORITY_PERMIT_EResolutionRule), .val (.ref bo1), .val (.int (12 : Int32)), .val (.int (3 : Int32)), .val (.ref w_FULL_CONSENSUS_PERMIT)] [(.ref w_SUPER_MAJORITY_PERMIT_EResolutionRule), (.ref w_FULL_CONSENSUS_PERMIT_EResolutionRule)])) X10 hx rfl rfl rfl (pc0 := 25) (pc' := 31) (same := false) rfl (hb hby d1_25) rfl (decide_eq_false fun q => (Fld.ne F_ordinal_w_FULL_CONSENSUS_PERMIT_EResolutionRule F_ordinal_w_SUPER_MAJORITY_PERMIT_EResolutionRule (by decide)) (Value.ref.inj q)) (by decide) (by decide) ?_
    show Steps p.tables e below (T10.setTop (mkF m 31 #[.val (.ref w_SUPER_MAJORITY_PERMIT_EResolutionRule), .val (.ref bo1), .val (.int (12 : Int32)), .val (.int (3 : Int32)), .val (.ref w_FULL_CONSENSUS_PERMIT)] [])) _
    refine XS.iinc X10.here hx rfl (hb hby d1_31) rfl (l' := #[.val (.ref w_SUPER_MAJORITY_PERMIT_EResolutionRule), .val (.ref bo1), .val (.int (12 : Int32)), .val (.int (4 : Int32)), .val (.ref w_FULL_CONSENSUS_PERMIT)]) rfl ?_
    show Steps p.tables e below (T10.setTop (mkF m 34 #[.val (.ref w_SUPER_MAJORITY_PERMIT_EResolutionRule), .val (.ref bo1), .val (.int (12 : Int32)), .val (.int (4 : Int32)), .val (.ref w_FULL_CONSENSUS_PERMIT)] [])) _
    refine XS.goto X10.here hx rfl (pc0 := 34) (pc' := 9) rfl (hb hby d1_34) (by decide) (by decide) ?_
    show Steps p.tables e below (T10.setTop (mkF m 9 #[.val (.ref w_SUPER_MAJORITY_PERMIT_EResolutionRule), .val (.ref bo1), .val (.int (12 : Int32)), .val (.int (4 : Int32)), .val (.ref w_FULL_CONSENSUS_PERMIT)] [])) _
    refine XS.iloadN X10.here hx rfl (hb hby d1_9) rfl ?_
    show Steps p.tables e below (T10.setTop (mkF m 10 #[.val (.ref w_SUPER_MAJORITY_PERMIT_EResolutionRule), .val (.ref bo1), .val (.int (12 : Int32)), .val (.int (4 : Int32)), .val (.ref w_FULL_CONSENSUS_PERMIT)] [(.int (4 : Int32))])) _
    refine XS.iloadN X10.here hx rfl (hb hby d1_10) rfl ?_
    show Steps p.tables e below (T10.setTop (mkF m 11 #[.val (.ref w_SUPER_MAJORITY_PERMIT_EResolutionRule), .val (.ref bo1), .val (.int (12 : Int32)), .val (.int (4 : Int32)), .val (.ref w_FULL_CONSENSUS_PERMIT)] [(.int (12 : Int32)), (.int (4 : Int32))])) _
    refine XS.icmpNo X10.here hx rfl (hb hby d1_11) rfl (tlt (by decide : (4 : Int32) < (12 : Int32))).2.1 ?_
    show Steps p.tables e below (T10.setTop (mkF m 14 #[.val (.ref w_SUPER_MAJORITY_PERMIT_EResolutionRule), .val (.ref bo1), .val (.int (12 : Int32)), .val (.int (4 : Int32)), .val (.ref w_FULL_CONSENSUS_PERMIT)] [])) _
    refine XS.aloadN X10.here hx rfl (hb hby d1_14) rfl rfl ?_
    show Steps p.tables e below (T10.setTop (mkF m 15 #[.val (.ref w_SUPER_MAJORITY_PERMIT_EResolutionRule), .val (.ref bo1), .val (.int (12 : Int32)), .val (.int (4 : Int32)), .val (.ref w_FULL_CONSENSUS_PERMIT)] [(.ref bo1)])) _
    refine XS.iloadN X10.here hx rfl (hb hby d1_15) rfl ?_
    show Steps p.tables e below (T10.setTop (mkF m 16 #[.val (.ref w_SUPER_MAJORITY_PERMIT_EResolutionRule), .val (.ref bo1), .val (.int (12 : Int32)), .val (.int (4 : Int32)), .val (.ref w_FULL_CONSENSUS_PERMIT)] [(.int (4 : Int32)), (.ref bo1)])) _
    refine X10.aaload hx (j := (4 : Int32)) (v := (.ref w_MAJORITY_PERMIT)) (by rw [e10]; exact Ar11.1) (State.isArrayOf_alike hZ.alike Ar11.2.1) rfl Ar11.2.2 hin11 hat11 (g := (mkF m 16 #[.val (.ref w_SUPER_MAJORITY_PERMIT_EResolutionRule), .val (.ref bo1), .val (.int (12 : Int32)), .val (.int (4 : Int32)), .val (.ref w_FULL_CONSENSUS_PERMIT)] [(.int (4 : Int32)), (.ref bo1)])) rfl rfl (hb hby d1_16) _ ?_
    show Steps p.tables e below (T10.setTop (mkF m 17 #[.val (.ref w_SUPER_MAJORITY_PERMIT_EResolutionRule), .val (.ref bo1), .val (.int (12 : Int32)), .val (.int (4 : Int32)), .val (.ref w_FULL_CONSENSUS_PERMIT)] [(.ref w_MAJORITY_PERMIT)])) _
    refine XS.astore X10.here hx rfl (hb hby d1_17) rfl rfl (l' := #[.val (.ref w_SUPER_MAJORITY_PERMIT_EResolutionRule), .val (.ref bo1), .val (.int (12 : Int32)), .val (.int (4 : Int32)), .val (.ref w_MAJORITY_PERMIT)]) rfl ?_
    show Steps p.tables e below (T10.setTop (mkF m 19 #[.val (.ref w_SUPER_MAJORITY_PERMIT_EResolutionRule), .val (.ref bo1), .val (.int (12 : Int32)), .val (.int (4 : Int32)), .val (.ref w_MAJORITY_PERMIT)] [])) _
    refine XS.aload X10.here hx rfl (hb hby d1_19) rfl rfl ?_
    show Steps p.tables e below (T10.setTop (mkF m 21 #[.val (.ref w_SUPER_MAJORITY_PERMIT_EResolutionRule), .val (.ref bo1), .val (.int (12 : Int32)), .val (.int (4 : Int32)), .val (.ref w_MAJORITY_PERMIT)] [(.ref w_MAJORITY_PERMIT)])) _
    refine st12 _ ?_
    show Steps p.tables e below (T12.setTop (mkF m 24 #[.val (.ref w_SUPER_MAJORITY_PERMIT_EResolutionRule), .val (.ref bo1), .val (.int (12 : Int32)), .val (.int (4 : Int32)), .val (.ref w_MAJORITY_PERMIT)] [(.ref w_MAJORITY_PERMIT_EResolutionRule)])) _
    refine XS.aloadN X12.here hx rfl (hb hby d1_24) rfl rfl ?_
    show Steps p.tables e below (T12.setTop (mkF m 25 #[.val (.ref w_SUPER_MAJORITY_PERMIT_EResolutionRule), .val (.ref bo1), .val (.int (12 : Int32)), .val (.int (4 : Int32)), .val (.ref w_MAJORITY_PERMIT)] [(.ref w_SUPER_MAJORITY_PERMIT_EResolutionRule), (.ref w_MAJORITY_PERMIT_EResolutionRule)])) _
    refine Jvm.RoadKit.acmp (g := (mkF m 25 #[.val (.ref w_SUPER_MAJORITY_PERMIT_EResolutionRule), .val (.ref bo1), .val (.int (12 : Int32)), .val (.int (4 : Int32)), .val (.ref w_MAJORITY_PERMIT)] [(.ref w_SUPER_MAJORITY_PERMIT_EResolutionRule), (.ref w_MAJORITY_PERMIT_EResolutionRule)])) X12 hx rfl rfl rfl (pc0 := 25) (pc' := 31) (same := false) rfl (hb hby d1_25) rfl (decide_eq_false fun q => (Fld.ne F_ordinal_w_MAJORITY_PERMIT_EResolutionRule F_ordinal_w_SUPER_MAJORITY_PERMIT_EResolutionRule (by decide)) (Value.ref.inj q)) (by decide) (by decide) ?_
    show Steps p.tables e below (T12.setTop (mkF m 31 #[.val (.ref w_SUPER_MAJORITY_PERMIT_EResolutionRule), .val (.ref bo1), .val (.int (12 : Int32)), .val (.int (4 : Int32)), .val (.ref w_MAJORITY_PERMIT)] [])) _
    refine XS.iinc X12.here hx rfl (hb hby d1_31) rfl (l' := #[.val (.ref w_SUPER_MAJORITY_PERMIT_EResolutionRule), .val (.ref bo1), .val (.int (12 : Int32)), .val (.int (5 : Int32)), .val (.ref w_MAJORITY_PERMIT)]) rfl ?_
    show Steps p.tables e below (T12.setTop (mkF m 34 #[.val (.ref w_SUPER_MAJORITY_PERMIT_EResolutionRule), .val (.ref bo1), .val (.int (12 : Int32)), .val (.int (5 : Int32)), .val (.ref w_MAJORITY_PERMIT)] [])) _
    refine XS.goto X12.here hx rfl (pc0 := 34) (pc' := 9) rfl (hb hby d1_34) (by decide) (by decide) ?_
    show Steps p.tables e below (T12.setTop (mkF m 9 #[.val (.ref w_SUPER_MAJORITY_PERMIT_EResolutionRule), .val (.ref bo1), .val (.int (12 : Int32)), .val (.int (5 : Int32)), .val (.ref w_MAJORITY_PERMIT)] [])) _
    refine XS.iloadN X12.here hx rfl (hb hby d1_9) rfl ?_
    show Steps p.tables e below (T12.setTop (mkF m 10 #[.val (.ref w_SUPER_MAJORITY_PERMIT_EResolutionRule), .val (.ref bo1), .val (.int (12 : Int32)), .val (.int (5 : Int32)), .val (.ref w_MAJORITY_PERMIT)] [(.int (5 : Int32))])) _
    refine XS.iloadN X12.here hx rfl (hb hby d1_10) rfl ?_
    show Steps p.tables e below (T12.setTop (mkF m 11 #[.val (.ref w_SUPER_MAJORITY_PERMIT_EResolutionRule), .val (.ref bo1), .val (.int (12 : Int32)), .val (.int (5 : Int32)), .val (.ref w_MAJORITY_PERMIT)] [(.int (12 : Int32)), (.int (5 : Int32))])) _
    refine XS.icmpNo X12.here hx rfl (hb hby d1_11) rfl (tlt (by decide : (5 : Int32) < (12 : Int32))).2.1 ?_
    show Steps p.tables e below (T12.setTop (mkF m 14 #[.val (.ref w_SUPER_MAJORITY_PERMIT_EResolutionRule), .val (.ref bo1), .val (.int (12 : Int32)), .val (.int (5 : Int32)), .val (.ref w_MAJORITY_PERMIT)] [])) _
    refine XS.aloadN X12.here hx rfl (hb hby d1_14) rfl rfl ?_
    show Steps p.tables e below (T12.setTop (mkF m 15 #[.val (.ref w_SUPER_MAJORITY_PERMIT_EResolutionRule), .val (.ref bo1), .val (.int (12 : Int32)), .val (.int (5 : Int32)), .val (.ref w_MAJORITY_PERMIT)] [(.ref bo1)])) _
    refine XS.iloadN X12.here hx rfl (hb hby d1_15) rfl ?_
    show Steps p.tables e below (T12.setTop (mkF m 16 #[.val (.ref w_SUPER_MAJORITY_PERMIT_EResolutionRule), .val (.ref bo1), .val (.int (12 : Int32)), .val (.int (5 : Int32)), .val (.ref w_MAJORITY_PERMIT)] [(.int (5 : Int32)), (.ref bo1)])) _
    refine X12.aaload hx (j := (5 : Int32)) (v := (.ref w_STRONG_MAJORITY_PERMIT)) (by rw [e12]; exact Ar13.1) (State.isArrayOf_alike hZ.alike Ar13.2.1) rfl Ar13.2.2 hin13 hat13 (g := (mkF m 16 #[.val (.ref w_SUPER_MAJORITY_PERMIT_EResolutionRule), .val (.ref bo1), .val (.int (12 : Int32)), .val (.int (5 : Int32)), .val (.ref w_MAJORITY_PERMIT)] [(.int (5 : Int32)), (.ref bo1)])) rfl rfl (hb hby d1_16) _ ?_
    show Steps p.tables e below (T12.setTop (mkF m 17 #[.val (.ref w_SUPER_MAJORITY_PERMIT_EResolutionRule), .val (.ref bo1), .val (.int (12 : Int32)), .val (.int (5 : Int32)), .val (.ref w_MAJORITY_PERMIT)] [(.ref w_STRONG_MAJORITY_PERMIT)])) _
    refine XS.astore X12.here hx rfl (hb hby d1_17) rfl rfl (l' := #[.val (.ref w_SUPER_MAJORITY_PERMIT_EResolutionRule), .val (.ref bo1), .val (.int (12 : Int32)), .val (.int (5 : Int32)), .val (.ref w_STRONG_MAJORITY_PERMIT)]) rfl ?_
    show Steps p.tables e below (T12.setTop (mkF m 19 #[.val (.ref w_SUPER_MAJORITY_PERMIT_EResolutionRule), .val (.ref bo1), .val (.int (12 : Int32)), .val (.int (5 : Int32)), .val (.ref w_STRONG_MAJORITY_PERMIT)] [])) _
    refine XS.aload X12.here hx rfl (hb hby d1_19) rfl rfl ?_
    show Steps p.tables e below (T12.setTop (mkF m 21 #[.val (.ref w_SUPER_MAJORITY_PERMIT_EResolutionRule), .val (.ref bo1), .val (.int (12 : Int32)), .val (.int (5 : Int32)), .val (.ref w_STRONG_MAJORITY_PERMIT)] [(.ref w_STRONG_MAJORITY_PERMIT)])) _
    refine st14 _ ?_
    show Steps p.tables e below (T14.setTop (mkF m 24 #[.val (.ref w_SUPER_MAJORITY_PERMIT_EResolutionRule), .val (.ref bo1), .val (.int (12 : Int32)), .val (.int (5 : Int32)), .val (.ref w_STRONG_MAJORITY_PERMIT)] [(.ref w_STRONG_MAJORITY_PERMIT_EResolutionRule)])) _
    refine XS.aloadN X14.here hx rfl (hb hby d1_24) rfl rfl ?_
    show Steps p.tables e below (T14.setTop (mkF m 25 #[.val (.ref w_SUPER_MAJORITY_PERMIT_EResolutionRule), .val (.ref bo1), .val (.int (12 : Int32)), .val (.int (5 : Int32)), .val (.ref w_STRONG_MAJORITY_PERMIT)] [(.ref w_SUPER_MAJORITY_PERMIT_EResolutionRule), (.ref w_STRONG_MAJORITY_PERMIT_EResolutionRule)])) _
    refine Jvm.RoadKit.acmp (g := (mkF m 25 #[.val (.ref w_SUPER_MAJORITY_PERMIT_EResolutionRule), .val (.ref bo1), .val (.int (12 : Int32)), .val (.int (5 : Int32)), .val (.ref w_STRONG_MAJORITY_PERMIT)] [(.ref w_SUPER_MAJORITY_PERMIT_EResolutionRule), (.ref w_STRONG_MAJORITY_PERMIT_EResolutionRule)])) X14 hx rfl rfl rfl (pc0 := 25) (pc' := 31) (same := false) rfl (hb hby d1_25) rfl (decide_eq_false fun q => (Ne.symm (Fld.ne F_ordinal_w_SUPER_MAJORITY_PERMIT_EResolutionRule F_ordinal_w_STRONG_MAJORITY_PERMIT_EResolutionRule (by decide))) (Value.ref.inj q)) (by decide) (by decide) ?_
    show Steps p.tables e below (T14.setTop (mkF m 31 #[.val (.ref w_SUPER_MAJORITY_PERMIT_EResolutionRule), .val (.ref bo1), .val (.int (12 : Int32)), .val (.int (5 : Int32)), .val (.ref w_STRONG_MAJORITY_PERMIT)] [])) _
    refine XS.iinc X14.here hx rfl (hb hby d1_31) rfl (l' := #[.val (.ref w_SUPER_MAJORITY_PERMIT_EResolutionRule), .val (.ref bo1), .val (.int (12 : Int32)), .val (.int (6 : Int32)), .val (.ref w_STRONG_MAJORITY_PERMIT)]) rfl ?_
    show Steps p.tables e below (T14.setTop (mkF m 34 #[.val (.ref w_SUPER_MAJORITY_PERMIT_EResolutionRule), .val (.ref bo1), .val (.int (12 : Int32)), .val (.int (6 : Int32)), .val (.ref w_STRONG_MAJORITY_PERMIT)] [])) _
    refine XS.goto X14.here hx rfl (pc0 := 34) (pc' := 9) rfl (hb hby d1_34) (by decide) (by decide) ?_
    show Steps p.tables e below (T14.setTop (mkF m 9 #[.val (.ref w_SUPER_MAJORITY_PERMIT_EResolutionRule), .val (.ref bo1), .val (.int (12 : Int32)), .val (.int (6 : Int32)), .val (.ref w_STRONG_MAJORITY_PERMIT)] [])) _
    refine XS.iloadN X14.here hx rfl (hb hby d1_9) rfl ?_
    show Steps p.tables e below (T14.setTop (mkF m 10 #[.val (.ref w_SUPER_MAJORITY_PERMIT_EResolutionRule), .val (.ref bo1), .val (.int (12 : Int32)), .val (.int (6 : Int32)), .val (.ref w_STRONG_MAJORITY_PERMIT)] [(.int (6 : Int32))])) _
    refine XS.iloadN X14.here hx rfl (hb hby d1_10) rfl ?_
    show Steps p.tables e below (T14.setTop (mkF m 11 #[.val (.ref w_SUPER_MAJORITY_PERMIT_EResolutionRule), .val (.ref bo1), .val (.int (12 : Int32)), .val (.int (6 : Int32)), .val (.ref w_STRONG_MAJORITY_PERMIT)] [(.int (12 : Int32)), (.int (6 : Int32))])) _
    refine XS.icmpNo X14.here hx rfl (hb hby d1_11) rfl (tlt (by decide : (6 : Int32) < (12 : Int32))).2.1 ?_
    show Steps p.tables e below (T14.setTop (mkF m 14 #[.val (.ref w_SUPER_MAJORITY_PERMIT_EResolutionRule), .val (.ref bo1), .val (.int (12 : Int32)), .val (.int (6 : Int32)), .val (.ref w_STRONG_MAJORITY_PERMIT)] [])) _
    refine XS.aloadN X14.here hx rfl (hb hby d1_14) rfl rfl ?_
    show Steps p.tables e below (T14.setTop (mkF m 15 #[.val (.ref w_SUPER_MAJORITY_PERMIT_EResolutionRule), .val (.ref bo1), .val (.int (12 : Int32)), .val (.int (6 : Int32)), .val (.ref w_STRONG_MAJORITY_PERMIT)] [(.ref bo1)])) _
    refine XS.iloadN X14.here hx rfl (hb hby d1_15) rfl ?_
    show Steps p.tables e below (T14.setTop (mkF m 16 #[.val (.ref w_SUPER_MAJORITY_PERMIT_EResolutionRule), .val (.ref bo1), .val (.int (12 : Int32)), .val (.int (6 : Int32)), .val (.ref w_STRONG_MAJORITY_PERMIT)] [(.int (6 : Int32)), (.ref bo1)])) _
    refine X14.aaload hx (j := (6 : Int32)) (v := (.ref w_SUPER_MAJORITY_PERMIT)) (by rw [e14]; exact Ar15.1) (State.isArrayOf_alike hZ.alike Ar15.2.1) rfl Ar15.2.2 hin15 hat15 (g := (mkF m 16 #[.val (.ref w_SUPER_MAJORITY_PERMIT_EResolutionRule), .val (.ref bo1), .val (.int (12 : Int32)), .val (.int (6 : Int32)), .val (.ref w_STRONG_MAJORITY_PERMIT)] [(.int (6 : Int32)), (.ref bo1)])) rfl rfl (hb hby d1_16) _ ?_
    show Steps p.tables e below (T14.setTop (mkF m 17 #[.val (.ref w_SUPER_MAJORITY_PERMIT_EResolutionRule), .val (.ref bo1), .val (.int (12 : Int32)), .val (.int (6 : Int32)), .val (.ref w_STRONG_MAJORITY_PERMIT)] [(.ref w_SUPER_MAJORITY_PERMIT)])) _
    refine XS.astore X14.here hx rfl (hb hby d1_17) rfl rfl (l' := #[.val (.ref w_SUPER_MAJORITY_PERMIT_EResolutionRule), .val (.ref bo1), .val (.int (12 : Int32)), .val (.int (6 : Int32)), .val (.ref w_SUPER_MAJORITY_PERMIT)]) rfl ?_
    show Steps p.tables e below (T14.setTop (mkF m 19 #[.val (.ref w_SUPER_MAJORITY_PERMIT_EResolutionRule), .val (.ref bo1), .val (.int (12 : Int32)), .val (.int (6 : Int32)), .val (.ref w_SUPER_MAJORITY_PERMIT)] [])) _
    refine XS.aload X14.here hx rfl (hb hby d1_19) rfl rfl ?_
    show Steps p.tables e below (T14.setTop (mkF m 21 #[.val (.ref w_SUPER_MAJORITY_PERMIT_EResolutionRule), .val (.ref bo1), .val (.int (12 : Int32)), .val (.int (6 : Int32)), .val (.ref w_SUPER_MAJORITY_PERMIT)] [(.ref w_SUPER_MAJORITY_PERMIT)])) _
    refine st16 _ ?_
    show Steps p.tables e below (T16.setTop (mkF m 24 #[.val (.ref w_SUPER_MAJORITY_PERMIT_EResolutionRule), .val (.ref bo1), .val (.int (12 : Int32)), .val (.int (6 : Int32)), .val (.ref w_SUPER_MAJORITY_PERMIT)] [(.ref w_SUPER_MAJORITY_PERMIT_EResolutionRule)])) _
    refine XS.aloadN X16.here hx rfl (hb hby d1_24) rfl rfl ?_
    show Steps p.tables e below (T16.setTop (mkF m 25 #[.val (.ref w_SUPER_MAJORITY_PERMIT_EResolutionRule), .val (.ref bo1), .val (.int (12 : Int32)), .val (.int (6 : Int32)), .val (.ref w_SUPER_MAJORITY_PERMIT)] [(.ref w_SUPER_MAJORITY_PERMIT_EResolutionRule), (.ref w_SUPER_MAJORITY_PERMIT_EResolutionRule)])) _
    refine Jvm.RoadKit.acmp (g := (mkF m 25 #[.val (.ref w_SUPER_MAJORITY_PERMIT_EResolutionRule), .val (.ref bo1), .val (.int (12 : Int32)), .val (.int (6 : Int32)), .val (.ref w_SUPER_MAJORITY_PERMIT)] [(.ref w_SUPER_MAJORITY_PERMIT_EResolutionRule), (.ref w_SUPER_MAJORITY_PERMIT_EResolutionRule)])) X16 hx rfl rfl rfl (pc0 := 25) (pc' := 28) (same := true) rfl (hb hby d1_25) rfl (decide_eq_true (congrArg Value.ref (rfl : w_SUPER_MAJORITY_PERMIT_EResolutionRule = w_SUPER_MAJORITY_PERMIT_EResolutionRule))) (by decide) (by decide) ?_
    show Steps p.tables e below (T16.setTop (mkF m 28 #[.val (.ref w_SUPER_MAJORITY_PERMIT_EResolutionRule), .val (.ref bo1), .val (.int (12 : Int32)), .val (.int (6 : Int32)), .val (.ref w_SUPER_MAJORITY_PERMIT)] [])) _
    refine XS.aload X16.here hx rfl (hb hby d1_28) rfl rfl ?_
    show Steps p.tables e below (T16.setTop (mkF m 30 #[.val (.ref w_SUPER_MAJORITY_PERMIT_EResolutionRule), .val (.ref bo1), .val (.int (12 : Int32)), .val (.int (6 : Int32)), .val (.ref w_SUPER_MAJORITY_PERMIT)] [(.ref w_SUPER_MAJORITY_PERMIT)])) _
    jvm_step X16.here [X16.here.top, hx, (hb hby d1_30), X16.method', Bd.returns, Value.isRef, FieldType.isReference]
    first | (intro acts; rw [hr _ acts rfl rfl rfl]) | rw [hr _ _ rfl rfl rfl]
    exact Steps.refl _
  · show Q_fr_SUPER_MAJORITY_PERMIT Z w_WEIGHTED w_WEIGHTED_EReason w_SVALUES w_CONTROLLER w_OWNER_OVERRIDES w_FULL_CONSENSUS_PERMIT w_MAJORITY_PERMIT w_STRONG_MAJORITY_PERMIT w_SUPER_MAJORITY_PERMIT w_SOURCE w_RESHARE_REFUSED w_UNNAMED w_NOT_VIEWER w_NO_THRESHOLD w_MAJORITY_PERMIT_EResolutionRule w_OWNER_OVERRIDES_EResolutionRule w_FULL_CONSENSUS_PERMIT_EResolutionRule w_SUPER_MAJORITY_PERMIT_EResolutionRule w_STRONG_MAJORITY_PERMIT_EResolutionRule kV h0 n0 _ T16.heap _
    rw [e16]
    exact ⟨rfl, N1, K1⟩
theorem ef_gr_SUPER_MAJORITY_PERMIT (m : MethodId) (w_SUPER_MAJORITY_PERMIT : Addr) : entryFrame m #[(.ref w_SUPER_MAJORITY_PERMIT)] 1 = mkF m 0 #[.val (.ref w_SUPER_MAJORITY_PERMIT)] [] := by first | (simp [entryFrame, mkF, argsToLocals, Value.category]; done) | rfl
def Q_gr_SUPER_MAJORITY_PERMIT (Z : State) (w_WEIGHTED w_WEIGHTED_EReason w_SVALUES w_CONTROLLER w_OWNER_OVERRIDES w_FULL_CONSENSUS_PERMIT w_MAJORITY_PERMIT w_STRONG_MAJORITY_PERMIT w_SUPER_MAJORITY_PERMIT w_SOURCE w_RESHARE_REFUSED w_UNNAMED w_NOT_VIEWER w_NO_THRESHOLD w_MAJORITY_PERMIT_EResolutionRule w_OWNER_OVERRIDES_EResolutionRule w_FULL_CONSENSUS_PERMIT_EResolutionRule w_SUPER_MAJORITY_PERMIT_EResolutionRule w_STRONG_MAJORITY_PERMIT_EResolutionRule : Addr) (kV : ClassId) (h0 : Heap) (n0 : Nat) (v : Option Value) (h : Heap) (L : List Loc) : Prop := v = some (.ref w_SUPER_MAJORITY_PERMIT_EResolutionRule) ∧ Fr n0 L ∧ h = h0
set_option maxRecDepth 65536 in
set_option maxHeartbeats 40000000 in
theorem gr_SUPER_MAJORITY_PERMIT (l : Launch) (Z : State) (a0 : Array Value) (hw : ∀ d ∈ tables_1, d.before a0 Z = true) (ws : List Jvm.Cond) (w_WEIGHTED w_WEIGHTED_EReason w_SVALUES w_CONTROLLER w_OWNER_OVERRIDES w_FULL_CONSENSUS_PERMIT w_MAJORITY_PERMIT w_STRONG_MAJORITY_PERMIT w_SUPER_MAJORITY_PERMIT w_SOURCE w_RESHARE_REFUSED w_UNNAMED w_NOT_VIEWER w_NO_THRESHOLD w_MAJORITY_PERMIT_EResolutionRule w_OWNER_OVERRIDES_EResolutionRule w_FULL_CONSENSUS_PERMIT_EResolutionRule w_SUPER_MAJORITY_PERMIT_EResolutionRule w_STRONG_MAJORITY_PERMIT_EResolutionRule : Addr) (kV : ClassId) (h0 : Heap) (n0 : Nat) (O0 : Old Z n0 h0) (hE : OwnEnv Z w_WEIGHTED w_WEIGHTED_EReason w_SVALUES w_CONTROLLER w_OWNER_OVERRIDES w_FULL_CONSENSUS_PERMIT w_MAJORITY_PERMIT w_STRONG_MAJORITY_PERMIT w_SUPER_MAJORITY_PERMIT w_SOURCE w_RESHARE_REFUSED w_UNNAMED w_NOT_VIEWER w_NO_THRESHOLD w_MAJORITY_PERMIT_EResolutionRule w_OWNER_OVERRIDES_EResolutionRule w_FULL_CONSENSUS_PERMIT_EResolutionRule w_SUPER_MAJORITY_PERMIT_EResolutionRule w_STRONG_MAJORITY_PERMIT_EResolutionRule kV) :
    MetFree l (⟨"com/example/kindred_consent/kindredconsent/engine/EReason", "getRule", "()Lcom/example/kindred_consent/kindredconsent/model/EResolutionRule;"⟩ : MethodName) (head1 (Jvm.Cond.code (⟨"com/example/kindred_consent/kindredconsent/engine/EReason", "getRule", "()Lcom/example/kindred_consent/kindredconsent/model/EResolutionRule;"⟩ : MethodName) prog_7_method_6_code 1 (some (.object "com/example/kindred_consent/kindredconsent/model/EResolutionRule")) :: ws) ({ frames := 0, cells := 0, slots := 0, locals := 0 } : Room)) (fun a U => a = #[(.ref w_SUPER_MAJORITY_PERMIT)] ∧ Z.Warmed39 U.vm ∧ U.heap = h0) (fun _ _ _ _ _ => True) (fun _ U o U' => ∃ v L, o = .returned v ∧ Q_gr_SUPER_MAJORITY_PERMIT Z w_WEIGHTED w_WEIGHTED_EReason w_SVALUES w_CONTROLLER w_OWNER_OVERRIDES w_FULL_CONSENSUS_PERMIT w_MAJORITY_PERMIT w_STRONG_MAJORITY_PERMIT w_SUPER_MAJORITY_PERMIT w_SOURCE w_RESHARE_REFUSED w_UNNAMED w_NOT_VIEWER w_NO_THRESHOLD w_MAJORITY_PERMIT_EResolutionRule w_OWNER_OVERRIDES_EResolutionRule w_FULL_CONSENSUS_PERMIT_EResolutionRule w_SUPER_MAJORITY_PERMIT_EResolutionRule w_STRONG_MAJORITY_PERMIT_EResolutionRule kV h0 n0 v U'.heap L ∧ FrameEnd U o U' L ({ frames := 0, cells := 0, slots := 0, locals := 0 } : Room).cells ({ frames := 0, cells := 0, slots := 0, locals := 0 } : Room).slots) := by
  refine MetFree.of_bodySF (plainFor_of_name pn_com_example_kindred_consent_kindredconsent_engine_EReason) hisR ?_
  intro p e s m args below meth c s₁ Bd hml0 hP hK
  obtain ⟨rfl, hZ, hh⟩ := hP
  have hx := Bd.exec
  have hby := Bd.bytes
  have hml : c.maxLocals = 1 := hml0
  have hown : s.vm.findClass "com/example/kindred_consent/kindredconsent/engine/EReason" = some m.cls := findClass_of_methodNamed Bd.named
  have hnm := (name_of_methodNamed Bd.named Bd.method).1
  have X0 : Stand p l e ({ frames := 0, cells := 0, slots := 0, locals := 0 } : Room) s m #[(.ref w_SUPER_MAJORITY_PERMIT)] below meth c s₁ [] 0 0 := Stand.of_body Bd
  have e0 : s₁.heap = h0 := by rw [← hh, Bd.state]; rfl
  have N0 := Fr.nil n0
  have pre0 : ∀ t, Steps p.tables e below (s₁.setTop (mkF m 0 #[.val (.ref w_SUPER_MAJORITY_PERMIT)] [])) t → Steps p.tables e below (s₁.setTop (entryFrame m #[(.ref w_SUPER_MAJORITY_PERMIT)] 1)) t := fun t k => castTop (ef_gr_SUPER_MAJORITY_PERMIT m w_SUPER_MAJORITY_PERMIT) k
  have hE_ := hE; obtain ⟨S_w_WEIGHTED, E_w_WEIGHTED, S_w_WEIGHTED_EReason, E_w_WEIGHTED_EReason, S_w_SVALUES, E_w_SVALUES, S_w_CONTROLLER, E_w_CONTROLLER, S_w_OWNER_OVERRIDES, E_w_OWNER_OVERRIDES, S_w_FULL_CONSENSUS_PERMIT, E_w_FULL_CONSENSUS_PERMIT, S_w_MAJORITY_PERMIT, E_w_MAJORITY_PERMIT, S_w_STRONG_MAJORITY_PERMIT, E_w_STRONG_MAJORITY_PERMIT, S_w_SUPER_MAJORITY_PERMIT, E_w_SUPER_MAJORITY_PERMIT, S_w_SOURCE, E_w_SOURCE, S_w_RESHARE_REFUSED, E_w_RESHARE_REFUSED, S_w_UNNAMED, E_w_UNNAMED, S_w_NOT_VIEWER, E_w_NOT_VIEWER, S_w_NO_THRESHOLD, E_w_NO_THRESHOLD, S_w_MAJORITY_PERMIT_EResolutionRule, E_w_MAJORITY_PERMIT_EResolutionRule, S_w_OWNER_OVERRIDES_EResolutionRule, E_w_OWNER_OVERRIDES_EResolutionRule, S_w_FULL_CONSENSUS_PERMIT_EResolutionRule, E_w_FULL_CONSENSUS_PERMIT_EResolutionRule, S_w_SUPER_MAJORITY_PERMIT_EResolutionRule, E_w_SUPER_MAJORITY_PERMIT_EResolutionRule, S_w_STRONG_MAJORITY_PERMIT_EResolutionRule, E_w_STRONG_MAJORITY_PERMIT_EResolutionRule, F_m_eRule_w_CONTROLLER, F_m_eRule_w_WEIGHTED_EReason, F_ordinal_w_WEIGHTED, F_ordinal_w_MAJORITY_PERMIT_EResolutionRule, F_m_eRule_w_OWNER_OVERRIDES, F_ordinal_w_OWNER_OVERRIDES_EResolutionRule, F_m_eRule_w_FULL_CONSENSUS_PERMIT, F_ordinal_w_FULL_CONSENSUS_PERMIT_EResolutionRule, F_m_eRule_w_MAJORITY_PERMIT, F_ordinal_w_SUPER_MAJORITY_PERMIT_EResolutionRule, F_m_eRule_w_STRONG_MAJORITY_PERMIT, F_ordinal_w_STRONG_MAJORITY_PERMIT_EResolutionRule, F_m_eRule_w_SUPER_MAJORITY_PERMIT, F_m_eRule_w_SOURCE, F_m_eRule_w_RESHARE_REFUSED, F_m_eRule_w_UNNAMED, F_m_eRule_w_NOT_VIEWER, F_m_eRule_w_NO_THRESHOLD, V_w_SVALUES⟩ := hE_
  obtain ⟨T1, X1, e1, st1⟩ := getF X0 hx hZ hown (host := "") (Or.inl (hw _ (List.mem_of_getElem? (i := 36) rfl))) Via.refl e0 (F_m_eRule_w_SUPER_MAJORITY_PERMIT.ext O0.2) (g := (mkF m 1 #[.val (.ref w_SUPER_MAJORITY_PERMIT)] [(.ref w_SUPER_MAJORITY_PERMIT)])) rfl rfl (hb hby d3_1)
  obtain ⟨fs, hr, hrun, hended, hW, hsame⟩ := X1.leave (v := some (.ref w_SUPER_MAJORITY_PERMIT_EResolutionRule)) (fun h => by rw [Bd.returns] at h; cases h)
  refine ⟨_, _, pre0 _ ?_, hrun, hended, _, _, rfl, ?_, ⟨_, rfl⟩, hW, hsame.mono (by decide) (by decide)⟩
  · show Steps p.tables e below (s₁.setTop (mkF m 0 #[.val (.ref w_SUPER_MAJORITY_PERMIT)] [])) _
    refine XS.aloadN X0.here hx rfl (hb hby d3_0) rfl rfl ?_
    show Steps p.tables e below (s₁.setTop (mkF m 1 #[.val (.ref w_SUPER_MAJORITY_PERMIT)] [(.ref w_SUPER_MAJORITY_PERMIT)])) _
    refine st1 _ ?_
    show Steps p.tables e below (T1.setTop (mkF m 4 #[.val (.ref w_SUPER_MAJORITY_PERMIT)] [(.ref w_SUPER_MAJORITY_PERMIT_EResolutionRule)])) _
    jvm_step X1.here [X1.here.top, hx, (hb hby d3_4), X1.method', Bd.returns, Value.isRef, FieldType.isReference]
    first | (intro acts; rw [hr _ acts rfl rfl rfl]) | rw [hr _ _ rfl rfl rfl]
    exact Steps.refl _
  · show Q_gr_SUPER_MAJORITY_PERMIT Z w_WEIGHTED w_WEIGHTED_EReason w_SVALUES w_CONTROLLER w_OWNER_OVERRIDES w_FULL_CONSENSUS_PERMIT w_MAJORITY_PERMIT w_STRONG_MAJORITY_PERMIT w_SUPER_MAJORITY_PERMIT w_SOURCE w_RESHARE_REFUSED w_UNNAMED w_NOT_VIEWER w_NO_THRESHOLD w_MAJORITY_PERMIT_EResolutionRule w_OWNER_OVERRIDES_EResolutionRule w_FULL_CONSENSUS_PERMIT_EResolutionRule w_SUPER_MAJORITY_PERMIT_EResolutionRule w_STRONG_MAJORITY_PERMIT_EResolutionRule kV h0 n0 _ T1.heap _
    rw [e1]
    exact ⟨rfl, N0, rfl⟩
theorem ef_rm0 (m : MethodId) (p1 : Int32) : entryFrame m #[(.int p1)] maxLocals = mkF m 0 #[.val (.int p1), .unset, .unset, .unset, .unset] [] := by first | (simp [entryFrame, mkF, argsToLocals, Value.category, maxLocals]; done) | rfl
def Q_rm0 (Z : State) (p1 : Int32) (w_WEIGHTED w_WEIGHTED_EReason w_SVALUES w_CONTROLLER w_OWNER_OVERRIDES w_FULL_CONSENSUS_PERMIT w_MAJORITY_PERMIT w_STRONG_MAJORITY_PERMIT w_SUPER_MAJORITY_PERMIT w_SOURCE w_RESHARE_REFUSED w_UNNAMED w_NOT_VIEWER w_NO_THRESHOLD w_MAJORITY_PERMIT_EResolutionRule w_OWNER_OVERRIDES_EResolutionRule w_FULL_CONSENSUS_PERMIT_EResolutionRule w_SUPER_MAJORITY_PERMIT_EResolutionRule w_STRONG_MAJORITY_PERMIT_EResolutionRule : Addr) (kV : ClassId) (h0 : Heap) (n0 : Nat) (v : Option Value) (h : Heap) (L : List Loc) : Prop := v = some (.int (1 : Int32)) ∧ Fr n0 L
set_option maxRecDepth 65536 in
set_option maxHeartbeats 40000000 in
theorem rm0 (l : Launch) (Z : State) (a0 : Array Value) (hw : ∀ d ∈ tables_1, d.before a0 Z = true) (ws : List Jvm.Cond) (p1 : Int32) (w_WEIGHTED w_WEIGHTED_EReason w_SVALUES w_CONTROLLER w_OWNER_OVERRIDES w_FULL_CONSENSUS_PERMIT w_MAJORITY_PERMIT w_STRONG_MAJORITY_PERMIT w_SUPER_MAJORITY_PERMIT w_SOURCE w_RESHARE_REFUSED w_UNNAMED w_NOT_VIEWER w_NO_THRESHOLD w_MAJORITY_PERMIT_EResolutionRule w_OWNER_OVERRIDES_EResolutionRule w_FULL_CONSENSUS_PERMIT_EResolutionRule w_SUPER_MAJORITY_PERMIT_EResolutionRule w_STRONG_MAJORITY_PERMIT_EResolutionRule : Addr) (kV : ClassId) (h0 : Heap) (n0 : Nat) (O0 : Old Z n0 h0) (hE : OwnEnv Z w_WEIGHTED w_WEIGHTED_EReason w_SVALUES w_CONTROLLER w_OWNER_OVERRIDES w_FULL_CONSENSUS_PERMIT w_MAJORITY_PERMIT w_STRONG_MAJORITY_PERMIT w_SUPER_MAJORITY_PERMIT w_SOURCE w_RESHARE_REFUSED w_UNNAMED w_NOT_VIEWER w_NO_THRESHOLD w_MAJORITY_PERMIT_EResolutionRule w_OWNER_OVERRIDES_EResolutionRule w_FULL_CONSENSUS_PERMIT_EResolutionRule w_SUPER_MAJORITY_PERMIT_EResolutionRule w_STRONG_MAJORITY_PERMIT_EResolutionRule kV) :
    MetFree l x (head1 (Jvm.Cond.code x code maxLocals ret :: ws) room_1) (fun a U => a = #[(.int p1)] ∧ Z.Warmed39 U.vm ∧ U.heap = h0) (fun _ _ _ _ _ => True) (fun _ U o U' => ∃ v L, o = .returned v ∧ Q_rm0 Z p1 w_WEIGHTED w_WEIGHTED_EReason w_SVALUES w_CONTROLLER w_OWNER_OVERRIDES w_FULL_CONSENSUS_PERMIT w_MAJORITY_PERMIT w_STRONG_MAJORITY_PERMIT w_SUPER_MAJORITY_PERMIT w_SOURCE w_RESHARE_REFUSED w_UNNAMED w_NOT_VIEWER w_NO_THRESHOLD w_MAJORITY_PERMIT_EResolutionRule w_OWNER_OVERRIDES_EResolutionRule w_FULL_CONSENSUS_PERMIT_EResolutionRule w_SUPER_MAJORITY_PERMIT_EResolutionRule w_STRONG_MAJORITY_PERMIT_EResolutionRule kV h0 n0 v U'.heap L ∧ FrameEnd U o U' L room_1.cells room_1.slots) := by
  refine MetFree.of_bodySF (plainFor_of_name pn_com_example_kindred_consent_kindredconsent_engine_EReasonForRulePinLaw) hisR ?_
  intro p e s m args below meth c s₁ Bd hml0 hP hK
  obtain ⟨rfl, hZ, hh⟩ := hP
  have hx := Bd.exec
  have hby := Bd.bytes
  have hml : c.maxLocals = 5 := hml0
  have hown : s.vm.findClass "com/example/kindred_consent/kindredconsent/engine/EReasonForRulePinLaw" = some m.cls := findClass_of_methodNamed Bd.named
  have hnm := (name_of_methodNamed Bd.named Bd.method).1
  have X0 : Stand p l e room_1 s m #[(.int p1)] below meth c s₁ [] 0 0 := Stand.of_body Bd
  have e0 : s₁.heap = h0 := by rw [← hh, Bd.state]; rfl
  have N0 := Fr.nil n0
  have pre0 : ∀ t, Steps p.tables e below (s₁.setTop (mkF m 0 #[.val (.int p1), .unset, .unset, .unset, .unset] [])) t → Steps p.tables e below (s₁.setTop (entryFrame m #[(.int p1)] maxLocals)) t := fun t k => castTop (ef_rm0 m p1) k
  have hE_ := hE; obtain ⟨S_w_WEIGHTED, E_w_WEIGHTED, S_w_WEIGHTED_EReason, E_w_WEIGHTED_EReason, S_w_SVALUES, E_w_SVALUES, S_w_CONTROLLER, E_w_CONTROLLER, S_w_OWNER_OVERRIDES, E_w_OWNER_OVERRIDES, S_w_FULL_CONSENSUS_PERMIT, E_w_FULL_CONSENSUS_PERMIT, S_w_MAJORITY_PERMIT, E_w_MAJORITY_PERMIT, S_w_STRONG_MAJORITY_PERMIT, E_w_STRONG_MAJORITY_PERMIT, S_w_SUPER_MAJORITY_PERMIT, E_w_SUPER_MAJORITY_PERMIT, S_w_SOURCE, E_w_SOURCE, S_w_RESHARE_REFUSED, E_w_RESHARE_REFUSED, S_w_UNNAMED, E_w_UNNAMED, S_w_NOT_VIEWER, E_w_NOT_VIEWER, S_w_NO_THRESHOLD, E_w_NO_THRESHOLD, S_w_MAJORITY_PERMIT_EResolutionRule, E_w_MAJORITY_PERMIT_EResolutionRule, S_w_OWNER_OVERRIDES_EResolutionRule, E_w_OWNER_OVERRIDES_EResolutionRule, S_w_FULL_CONSENSUS_PERMIT_EResolutionRule, E_w_FULL_CONSENSUS_PERMIT_EResolutionRule, S_w_SUPER_MAJORITY_PERMIT_EResolutionRule, E_w_SUPER_MAJORITY_PERMIT_EResolutionRule, S_w_STRONG_MAJORITY_PERMIT_EResolutionRule, E_w_STRONG_MAJORITY_PERMIT_EResolutionRule, F_m_eRule_w_CONTROLLER, F_m_eRule_w_WEIGHTED_EReason, F_ordinal_w_WEIGHTED, F_ordinal_w_MAJORITY_PERMIT_EResolutionRule, F_m_eRule_w_OWNER_OVERRIDES, F_ordinal_w_OWNER_OVERRIDES_EResolutionRule, F_m_eRule_w_FULL_CONSENSUS_PERMIT, F_ordinal_w_FULL_CONSENSUS_PERMIT_EResolutionRule, F_m_eRule_w_MAJORITY_PERMIT, F_ordinal_w_SUPER_MAJORITY_PERMIT_EResolutionRule, F_m_eRule_w_STRONG_MAJORITY_PERMIT, F_ordinal_w_STRONG_MAJORITY_PERMIT_EResolutionRule, F_m_eRule_w_SUPER_MAJORITY_PERMIT, F_m_eRule_w_SOURCE, F_m_eRule_w_RESHARE_REFUSED, F_m_eRule_w_UNNAMED, F_m_eRule_w_NOT_VIEWER, F_m_eRule_w_NO_THRESHOLD, V_w_SVALUES⟩ := hE_
  have pre1 : ∀ t, Steps p.tables e below (s₁.setTop (mkF m 8 #[.val (.int p1), .val (.int ((p1 &&& (2147483647 : Int32)) % (6 : Int32))), .unset, .unset, .unset] [])) t → Steps p.tables e below (s₁.setTop (entryFrame m #[(.int p1)] maxLocals)) t := by
    intro t kt
    refine pre0 _ ?_
    show Steps p.tables e below (s₁.setTop (mkF m 0 #[.val (.int p1), .unset, .unset, .unset, .unset] [])) _
    refine XS.iloadN X0.here hx rfl (hb hby at_0) rfl ?_
    show Steps p.tables e below (s₁.setTop (mkF m 1 #[.val (.int p1), .unset, .unset, .unset, .unset] [(.int p1)])) _
    refine X0.ldcInt hx hown (mvT hZ (hw _ (List.mem_of_getElem? (i := 0) rfl))) (g := (mkF m 1 #[.val (.int p1), .unset, .unset, .unset, .unset] [(.int p1)])) rfl (hb hby at_1) _ ?_
    show Steps p.tables e below (s₁.setTop (mkF m 3 #[.val (.int p1), .unset, .unset, .unset, .unset] [(.int (2147483647 : Int32)), (.int p1)])) _
    refine XS.iand X0.here hx rfl (hb hby at_3) rfl ?_
    show Steps p.tables e below (s₁.setTop (mkF m 4 #[.val (.int p1), .unset, .unset, .unset, .unset] [(.int (p1 &&& (2147483647 : Int32)))])) _
    refine XS.bipush X0.here hx rfl (hb hby at_4) ?_
    show Steps p.tables e below (s₁.setTop (mkF m 6 #[.val (.int p1), .unset, .unset, .unset, .unset] [(.int (6 : Int32)), (.int (p1 &&& (2147483647 : Int32)))])) _
    refine iremM X0 hx (g := (mkF m 6 #[.val (.int p1), .unset, .unset, .unset, .unset] [(.int (6 : Int32)), (.int (p1 &&& (2147483647 : Int32)))])) rfl (hb hby at_6) rfl (by decide) ?_
    show Steps p.tables e below (s₁.setTop (mkF m 7 #[.val (.int p1), .unset, .unset, .unset, .unset] [(.int ((p1 &&& (2147483647 : Int32)) % (6 : Int32)))])) _
    refine XS.istoreN X0.here hx rfl (hb hby at_7) rfl (l' := #[.val (.int p1), .val (.int ((p1 &&& (2147483647 : Int32)) % (6 : Int32))), .unset, .unset, .unset]) rfl ?_
    exact kt
  rcases own_k p1 with hv2 | hv2 | hv2 | hv2 | hv2 | hv2
  · rw [hv2] at pre1
    obtain ⟨T3, X3, e3, st3⟩ := getS2 X0 hx hZ hown (host := "") (Or.inl (hw _ (List.mem_of_getElem? (i := 1) rfl))) Via.refl e0 (S_w_WEIGHTED.ext O0.2) (g := (mkF m 12 #[.val (.int p1), .val (.int (0 : Int32)), .unset, .unset, .unset] [])) rfl (hb hby at_12)
    obtain ⟨T4, X4, e4, st4⟩ := getS2 X3 hx hZ hown (host := "") (Or.inl (hw _ (List.mem_of_getElem? (i := 4) rfl))) Via.refl e3 (S_w_WEIGHTED_EReason.ext O0.2) (g := (mkF m 16 #[.val (.int p1), .val (.int (0 : Int32)), .val (.ref w_WEIGHTED), .unset, .unset] [])) rfl (hb hby at_16)
    obtain ⟨_, _, ⟨T5, L5, k5, n5⟩, -, X5, ⟨Lc5, hQ5, l5, y5, z5⟩, st5⟩ := Jvm.LawKit.callS X4 hx (y := (⟨"com/example/kindred_consent/kindredconsent/engine/EReason", "forRule", "(Lcom/example/kindred_consent/kindredconsent/model/EResolutionRule;)Lcom/example/kindred_consent/kindredconsent/engine/EReason;"⟩ : MethodName)) hown (mvT hZ (hw _ (List.mem_of_getElem? (i := 7) rfl))) (mvT hZ (hw _ (List.mem_of_getElem? (i := 8) rfl))) (mvT hZ (hw _ (List.mem_of_getElem? (i := 5) rfl))) (mvT hZ (hw _ (List.mem_of_getElem? (i := 9) rfl))) (by decide) (backOf (W := 0) (fr_WEIGHTED l Z a0 hw [] w_WEIGHTED w_WEIGHTED_EReason w_SVALUES w_CONTROLLER w_OWNER_OVERRIDES w_FULL_CONSENSUS_PERMIT w_MAJORITY_PERMIT w_STRONG_MAJORITY_PERMIT w_SUPER_MAJORITY_PERMIT w_SOURCE w_RESHARE_REFUSED w_UNNAMED w_NOT_VIEWER w_NO_THRESHOLD w_MAJORITY_PERMIT_EResolutionRule w_OWNER_OVERRIDES_EResolutionRule w_FULL_CONSENSUS_PERMIT_EResolutionRule w_SUPER_MAJORITY_PERMIT_EResolutionRule w_STRONG_MAJORITY_PERMIT_EResolutionRule kV h0 n0 O0 hE) hZ (hw _ (List.mem_of_getElem? (i := 9) rfl)) (hw _ (List.mem_of_getElem? (i := 5) rfl)) (by decide) (by decide)) (g := (mkF m 96 #[.val (.int p1), .val (.int (0 : Int32)), .val (.ref w_WEIGHTED), .val (.ref w_WEIGHTED_EReason), .unset] [(.ref w_WEIGHTED)])) rfl (by rw [hml]; rfl) (argsL := [(.ref w_WEIGHTED)]) (rest := []) (lenOf pd__Lcom_example_kindred_consent_kindredconsent_model_EResolutionRule__Lcom_example_kindred_consent_kindredconsent_engine_EReason_ rfl) rfl (by show 2 * 0 + _ ≤ _; exact Nat.le_of_eq rfl) (hb hby at_96) (fun _ _ => ⟨rfl, e4, (by decide : 0 + 1 ≤ _), (by decide : 0 + 12 ≤ _)⟩)
    dsimp only [Pt.U, Pt.locs, Pt.cells, Pt.slots] at X5 l5 y5 z5 st5 hQ5
    subst l5 y5 z5
    obtain ⟨rfl, Nq5, Kq5⟩ := hQ5
    have N5 := Fr.app N0 Nq5
    have O5 := O0.keep Kq5 all0
    obtain ⟨cq6, kq6, q6a, q6b, q6c⟩ := isOf hZ rfl (E_w_WEIGHTED_EReason.ext O5.2)
    obtain ⟨_, _, ⟨T6, L6, k6, n6⟩, -, X6, ⟨Lc6, hQ6, l6, y6, z6⟩, st6⟩ := X5.virtualBack hx (y := (⟨"com/example/kindred_consent/kindredconsent/engine/EReason", "getRule", "()Lcom/example/kindred_consent/kindredconsent/model/EResolutionRule;"⟩ : MethodName)) (z := (⟨"com/example/kindred_consent/kindredconsent/engine/EReason", "getRule", "()Lcom/example/kindred_consent/kindredconsent/model/EResolutionRule;"⟩ : MethodName)) hown (mvT hZ (hw _ (List.mem_of_getElem? (i := 38) rfl))) (mvT hZ (hw _ (List.mem_of_getElem? (i := 39) rfl))) (notFace_of_selects (args := #[]) (mvT hZ (hw _ (List.mem_of_getElem? (i := 41) rfl)))) (mvT hZ (hw _ (List.mem_of_getElem? (i := 41) rfl))) (mvT hZ (hw _ (List.mem_of_getElem? (i := 40) rfl))) (by decide) (backOf (W := 0) (gr_WEIGHTED l Z a0 hw [] w_WEIGHTED w_WEIGHTED_EReason w_SVALUES w_CONTROLLER w_OWNER_OVERRIDES w_FULL_CONSENSUS_PERMIT w_MAJORITY_PERMIT w_STRONG_MAJORITY_PERMIT w_SUPER_MAJORITY_PERMIT w_SOURCE w_RESHARE_REFUSED w_UNNAMED w_NOT_VIEWER w_NO_THRESHOLD w_MAJORITY_PERMIT_EResolutionRule w_OWNER_OVERRIDES_EResolutionRule w_FULL_CONSENSUS_PERMIT_EResolutionRule w_SUPER_MAJORITY_PERMIT_EResolutionRule w_STRONG_MAJORITY_PERMIT_EResolutionRule kV T5.heap n0 O5 hE) hZ (hw _ (List.mem_of_getElem? (i := 42) rfl)) (hw _ (List.mem_of_getElem? (i := 5) rfl)) (by decide) (by decide)) q6a q6c (g := (mkF m 109 #[.val (.int p1), .val (.int (0 : Int32)), .val (.ref w_WEIGHTED), .val (.ref w_WEIGHTED_EReason), .val (.ref w_WEIGHTED_EReason)] [(.ref w_WEIGHTED_EReason)])) rfl (by rw [hml]; rfl) (Steps.refl _) (argsL := []) (rest := []) (lenOf pd___Lcom_example_kindred_consent_kindredconsent_model_EResolutionRule_ rfl) rfl (by show 2 * 0 + _ ≤ _; exact Nat.le_of_eq rfl) (hb hby at_109) (fun _ _ => ⟨rfl, rfl, (by decide : 1 + 0 ≤ _), (by decide : 12 + 0 ≤ _)⟩)
    dsimp only [Pt.U, Pt.locs, Pt.cells, Pt.slots] at X6 l6 y6 z6 st6 hQ6
    subst l6 y6 z6
    obtain ⟨rfl, Nq6, eq6⟩ := hQ6
    have N6 := Fr.app N5 Nq6
    obtain ⟨fs, hr, hrun, hended, hW, hsame⟩ := X6.leave (v := some (.int (1 : Int32))) (fun h => by rw [Bd.returns] at h; cases h)
    refine ⟨_, _, pre1 _ ?_, hrun, hended, _, _, rfl, ?_, ⟨_, rfl⟩, hW, hsame.mono (by decide) (by decide)⟩
    · show Steps p.tables e below (s₁.setTop (mkF m 8 #[.val (.int p1), .val (.int (0 : Int32)), .unset, .unset, .unset] [])) _
      refine XS.iloadN X0.here hx rfl (hb hby at_8) rfl ?_
      show Steps p.tables e below (s₁.setTop (mkF m 9 #[.val (.int p1), .val (.int (0 : Int32)), .unset, .unset, .unset] [(.int (0 : Int32))])) _
      refine XS.ifNo X0.here hx rfl (hb hby at_9) rfl ((if0 _ _).trans (teq (by decide : (0 : Int32) = (0 : Int32))).2) ?_
      show Steps p.tables e below (s₁.setTop (mkF m 12 #[.val (.int p1), .val (.int (0 : Int32)), .unset, .unset, .unset] [])) _
      refine st3 _ ?_
      show Steps p.tables e below (T3.setTop (mkF m 15 #[.val (.int p1), .val (.int (0 : Int32)), .unset, .unset, .unset] [(.ref w_WEIGHTED)])) _
      refine XS.astoreN X3.here hx rfl (hb hby at_15) rfl rfl (l' := #[.val (.int p1), .val (.int (0 : Int32)), .val (.ref w_WEIGHTED), .unset, .unset]) rfl ?_
      show Steps p.tables e below (T3.setTop (mkF m 16 #[.val (.int p1), .val (.int (0 : Int32)), .val (.ref w_WEIGHTED), .unset, .unset] [])) _
      refine st4 _ ?_
      show Steps p.tables e below (T4.setTop (mkF m 19 #[.val (.int p1), .val (.int (0 : Int32)), .val (.ref w_WEIGHTED), .unset, .unset] [(.ref w_WEIGHTED_EReason)])) _
      refine XS.astoreN X4.here hx rfl (hb hby at_19) rfl rfl (l' := #[.val (.int p1), .val (.int (0 : Int32)), .val (.ref w_WEIGHTED), .val (.ref w_WEIGHTED_EReason), .unset]) rfl ?_
      show Steps p.tables e below (T4.setTop (mkF m 20 #[.val (.int p1), .val (.int (0 : Int32)), .val (.ref w_WEIGHTED), .val (.ref w_WEIGHTED_EReason), .unset] [])) _
      refine XS.goto X4.here hx rfl (pc0 := 20) (pc' := 95) rfl (hb hby at_20) (by decide) (by decide) ?_
      show Steps p.tables e below (T4.setTop (mkF m 95 #[.val (.int p1), .val (.int (0 : Int32)), .val (.ref w_WEIGHTED), .val (.ref w_WEIGHTED_EReason), .unset] [])) _
      refine XS.aloadN X4.here hx rfl (hb hby at_95) rfl rfl ?_
      show Steps p.tables e below (T4.setTop (mkF m 96 #[.val (.int p1), .val (.int (0 : Int32)), .val (.ref w_WEIGHTED), .val (.ref w_WEIGHTED_EReason), .unset] [(.ref w_WEIGHTED)])) _
      refine st5 _ ?_
      show Steps p.tables e below (T5.setTop (mkF m 99 #[.val (.int p1), .val (.int (0 : Int32)), .val (.ref w_WEIGHTED), .val (.ref w_WEIGHTED_EReason), .unset] [(.ref w_WEIGHTED_EReason)])) _
      refine XS.astore X5.here hx rfl (hb hby at_99) rfl rfl (l' := #[.val (.int p1), .val (.int (0 : Int32)), .val (.ref w_WEIGHTED), .val (.ref w_WEIGHTED_EReason), .val (.ref w_WEIGHTED_EReason)]) rfl ?_
      show Steps p.tables e below (T5.setTop (mkF m 101 #[.val (.int p1), .val (.int (0 : Int32)), .val (.ref w_WEIGHTED), .val (.ref w_WEIGHTED_EReason), .val (.ref w_WEIGHTED_EReason)] [])) _
      refine XS.aload X5.here hx rfl (hb hby at_101) rfl rfl ?_
      show Steps p.tables e below (T5.setTop (mkF m 103 #[.val (.int p1), .val (.int (0 : Int32)), .val (.ref w_WEIGHTED), .val (.ref w_WEIGHTED_EReason), .val (.ref w_WEIGHTED_EReason)] [(.ref w_WEIGHTED_EReason)])) _
      refine XS.aloadN X5.here hx rfl (hb hby at_103) rfl rfl ?_
      show Steps p.tables e below (T5.setTop (mkF m 104 #[.val (.int p1), .val (.int (0 : Int32)), .val (.ref w_WEIGHTED), .val (.ref w_WEIGHTED_EReason), .val (.ref w_WEIGHTED_EReason)] [(.ref w_WEIGHTED_EReason), (.ref w_WEIGHTED_EReason)])) _
      refine Jvm.RoadKit.acmp (g := (mkF m 104 #[.val (.int p1), .val (.int (0 : Int32)), .val (.ref w_WEIGHTED), .val (.ref w_WEIGHTED_EReason), .val (.ref w_WEIGHTED_EReason)] [(.ref w_WEIGHTED_EReason), (.ref w_WEIGHTED_EReason)])) X5 hx rfl rfl rfl (pc0 := 104) (pc' := 107) (same := true) rfl (hb hby at_104) rfl (decide_eq_true (congrArg Value.ref (rfl : w_WEIGHTED_EReason = w_WEIGHTED_EReason))) (by decide) (by decide) ?_
      show Steps p.tables e below (T5.setTop (mkF m 107 #[.val (.int p1), .val (.int (0 : Int32)), .val (.ref w_WEIGHTED), .val (.ref w_WEIGHTED_EReason), .val (.ref w_WEIGHTED_EReason)] [])) _
      refine XS.aload X5.here hx rfl (hb hby at_107) rfl rfl ?_
      show Steps p.tables e below (T5.setTop (mkF m 109 #[.val (.int p1), .val (.int (0 : Int32)), .val (.ref w_WEIGHTED), .val (.ref w_WEIGHTED_EReason), .val (.ref w_WEIGHTED_EReason)] [(.ref w_WEIGHTED_EReason)])) _
      refine st6.trans ?_
      show Steps p.tables e below (T6.setTop (mkF m 112 #[.val (.int p1), .val (.int (0 : Int32)), .val (.ref w_WEIGHTED), .val (.ref w_WEIGHTED_EReason), .val (.ref w_WEIGHTED_EReason)] [(.ref w_WEIGHTED)])) _
      refine XS.aloadN X6.here hx rfl (hb hby at_112) rfl rfl ?_
      show Steps p.tables e below (T6.setTop (mkF m 113 #[.val (.int p1), .val (.int (0 : Int32)), .val (.ref w_WEIGHTED), .val (.ref w_WEIGHTED_EReason), .val (.ref w_WEIGHTED_EReason)] [(.ref w_WEIGHTED), (.ref w_WEIGHTED)])) _
      refine Jvm.RoadKit.acmp (g := (mkF m 113 #[.val (.int p1), .val (.int (0 : Int32)), .val (.ref w_WEIGHTED), .val (.ref w_WEIGHTED_EReason), .val (.ref w_WEIGHTED_EReason)] [(.ref w_WEIGHTED), (.ref w_WEIGHTED)])) X6 hx rfl rfl rfl (pc0 := 113) (pc' := 116) (same := true) rfl (hb hby at_113) rfl (decide_eq_true (congrArg Value.ref (rfl : w_WEIGHTED = w_WEIGHTED))) (by decide) (by decide) ?_
      show Steps p.tables e below (T6.setTop (mkF m 116 #[.val (.int p1), .val (.int (0 : Int32)), .val (.ref w_WEIGHTED), .val (.ref w_WEIGHTED_EReason), .val (.ref w_WEIGHTED_EReason)] [])) _
      refine XS.iconst X6.here hx rfl (hb hby at_116) ?_
      show Steps p.tables e below (T6.setTop (mkF m 117 #[.val (.int p1), .val (.int (0 : Int32)), .val (.ref w_WEIGHTED), .val (.ref w_WEIGHTED_EReason), .val (.ref w_WEIGHTED_EReason)] [(.int (1 : Int32))])) _
      refine XS.goto X6.here hx rfl (pc0 := 117) (pc' := 121) rfl (hb hby at_117) (by decide) (by decide) ?_
      show Steps p.tables e below (T6.setTop (mkF m 121 #[.val (.int p1), .val (.int (0 : Int32)), .val (.ref w_WEIGHTED), .val (.ref w_WEIGHTED_EReason), .val (.ref w_WEIGHTED_EReason)] [(.int (1 : Int32))])) _
      exact retN X6 hx (t := .boolean) Bd.returns (by simp) (hb hby at_121) hr
    · show Q_rm0 Z p1 w_WEIGHTED w_WEIGHTED_EReason w_SVALUES w_CONTROLLER w_OWNER_OVERRIDES w_FULL_CONSENSUS_PERMIT w_MAJORITY_PERMIT w_STRONG_MAJORITY_PERMIT w_SUPER_MAJORITY_PERMIT w_SOURCE w_RESHARE_REFUSED w_UNNAMED w_NOT_VIEWER w_NO_THRESHOLD w_MAJORITY_PERMIT_EResolutionRule w_OWNER_OVERRIDES_EResolutionRule w_FULL_CONSENSUS_PERMIT_EResolutionRule w_SUPER_MAJORITY_PERMIT_EResolutionRule w_STRONG_MAJORITY_PERMIT_EResolutionRule kV h0 n0 _ T6.heap _
      rw [eq6]
      exact ⟨rfl, N6⟩
  · rw [hv2] at pre1
    obtain ⟨T7, X7, e7, st7⟩ := getS2 X0 hx hZ hown (host := "") (Or.inl (hw _ (List.mem_of_getElem? (i := 50) rfl))) Via.refl e0 (S_w_OWNER_OVERRIDES_EResolutionRule.ext O0.2) (g := (mkF m 28 #[.val (.int p1), .val (.int (1 : Int32)), .unset, .unset, .unset] [])) rfl (hb hby at_28)
    obtain ⟨T8, X8, e8, st8⟩ := getS2 X7 hx hZ hown (host := "") (Or.inl (hw _ (List.mem_of_getElem? (i := 51) rfl))) Via.refl e7 (S_w_OWNER_OVERRIDES.ext O0.2) (g := (mkF m 32 #[.val (.int p1), .val (.int (1 : Int32)), .val (.ref w_OWNER_OVERRIDES_EResolutionRule), .unset, .unset] [])) rfl (hb hby at_32)
    obtain ⟨_, _, ⟨T9, L9, k9, n9⟩, -, X9, ⟨Lc9, hQ9, l9, y9, z9⟩, st9⟩ := Jvm.LawKit.callS X8 hx (y := (⟨"com/example/kindred_consent/kindredconsent/engine/EReason", "forRule", "(Lcom/example/kindred_consent/kindredconsent/model/EResolutionRule;)Lcom/example/kindred_consent/kindredconsent/engine/EReason;"⟩ : MethodName)) hown (mvT hZ (hw _ (List.mem_of_getElem? (i := 7) rfl))) (mvT hZ (hw _ (List.mem_of_getElem? (i := 8) rfl))) (mvT hZ (hw _ (List.mem_of_getElem? (i := 5) rfl))) (mvT hZ (hw _ (List.mem_of_getElem? (i := 9) rfl))) (by decide) (backOf (W := 0) (fr_OWNER_OVERRIDES l Z a0 hw [] w_WEIGHTED w_WEIGHTED_EReason w_SVALUES w_CONTROLLER w_OWNER_OVERRIDES w_FULL_CONSENSUS_PERMIT w_MAJORITY_PERMIT w_STRONG_MAJORITY_PERMIT w_SUPER_MAJORITY_PERMIT w_SOURCE w_RESHARE_REFUSED w_UNNAMED w_NOT_VIEWER w_NO_THRESHOLD w_MAJORITY_PERMIT_EResolutionRule w_OWNER_OVERRIDES_EResolutionRule w_FULL_CONSENSUS_PERMIT_EResolutionRule w_SUPER_MAJORITY_PERMIT_EResolutionRule w_STRONG_MAJORITY_PERMIT_EResolutionRule kV h0 n0 O0 hE) hZ (hw _ (List.mem_of_getElem? (i := 9) rfl)) (hw _ (List.mem_of_getElem? (i := 5) rfl)) (by decide) (by decide)) (g := (mkF m 96 #[.val (.int p1), .val (.int (1 : Int32)), .val (.ref w_OWNER_OVERRIDES_EResolutionRule), .val (.ref w_OWNER_OVERRIDES), .unset] [(.ref w_OWNER_OVERRIDES_EResolutionRule)])) rfl (by rw [hml]; rfl) (argsL := [(.ref w_OWNER_OVERRIDES_EResolutionRule)]) (rest := []) (lenOf pd__Lcom_example_kindred_consent_kindredconsent_model_EResolutionRule__Lcom_example_kindred_consent_kindredconsent_engine_EReason_ rfl) rfl (by show 2 * 0 + _ ≤ _; exact Nat.le_of_eq rfl) (hb hby at_96) (fun _ _ => ⟨rfl, e8, (by decide : 0 + 1 ≤ _), (by decide : 0 + 12 ≤ _)⟩)
    dsimp only [Pt.U, Pt.locs, Pt.cells, Pt.slots] at X9 l9 y9 z9 st9 hQ9
    subst l9 y9 z9
    obtain ⟨rfl, Nq9, Kq9⟩ := hQ9
    have N9 := Fr.app N0 Nq9
    have O9 := O0.keep Kq9 all0
    obtain ⟨cq10, kq10, q10a, q10b, q10c⟩ := isOf hZ rfl (E_w_OWNER_OVERRIDES.ext O9.2)
    obtain ⟨_, _, ⟨T10, L10, k10, n10⟩, -, X10, ⟨Lc10, hQ10, l10, y10, z10⟩, st10⟩ := X9.virtualBack hx (y := (⟨"com/example/kindred_consent/kindredconsent/engine/EReason", "getRule", "()Lcom/example/kindred_consent/kindredconsent/model/EResolutionRule;"⟩ : MethodName)) (z := (⟨"com/example/kindred_consent/kindredconsent/engine/EReason", "getRule", "()Lcom/example/kindred_consent/kindredconsent/model/EResolutionRule;"⟩ : MethodName)) hown (mvT hZ (hw _ (List.mem_of_getElem? (i := 38) rfl))) (mvT hZ (hw _ (List.mem_of_getElem? (i := 39) rfl))) (notFace_of_selects (args := #[]) (mvT hZ (hw _ (List.mem_of_getElem? (i := 41) rfl)))) (mvT hZ (hw _ (List.mem_of_getElem? (i := 41) rfl))) (mvT hZ (hw _ (List.mem_of_getElem? (i := 40) rfl))) (by decide) (backOf (W := 0) (gr_OWNER_OVERRIDES l Z a0 hw [] w_WEIGHTED w_WEIGHTED_EReason w_SVALUES w_CONTROLLER w_OWNER_OVERRIDES w_FULL_CONSENSUS_PERMIT w_MAJORITY_PERMIT w_STRONG_MAJORITY_PERMIT w_SUPER_MAJORITY_PERMIT w_SOURCE w_RESHARE_REFUSED w_UNNAMED w_NOT_VIEWER w_NO_THRESHOLD w_MAJORITY_PERMIT_EResolutionRule w_OWNER_OVERRIDES_EResolutionRule w_FULL_CONSENSUS_PERMIT_EResolutionRule w_SUPER_MAJORITY_PERMIT_EResolutionRule w_STRONG_MAJORITY_PERMIT_EResolutionRule kV T9.heap n0 O9 hE) hZ (hw _ (List.mem_of_getElem? (i := 42) rfl)) (hw _ (List.mem_of_getElem? (i := 5) rfl)) (by decide) (by decide)) q10a q10c (g := (mkF m 109 #[.val (.int p1), .val (.int (1 : Int32)), .val (.ref w_OWNER_OVERRIDES_EResolutionRule), .val (.ref w_OWNER_OVERRIDES), .val (.ref w_OWNER_OVERRIDES)] [(.ref w_OWNER_OVERRIDES)])) rfl (by rw [hml]; rfl) (Steps.refl _) (argsL := []) (rest := []) (lenOf pd___Lcom_example_kindred_consent_kindredconsent_model_EResolutionRule_ rfl) rfl (by show 2 * 0 + _ ≤ _; exact Nat.le_of_eq rfl) (hb hby at_109) (fun _ _ => ⟨rfl, rfl, (by decide : 1 + 0 ≤ _), (by decide : 12 + 0 ≤ _)⟩)
    dsimp only [Pt.U, Pt.locs, Pt.cells, Pt.slots] at X10 l10 y10 z10 st10 hQ10
    subst l10 y10 z10
    obtain ⟨rfl, Nq10, eq10⟩ := hQ10
    have N10 := Fr.app N9 Nq10
    obtain ⟨fs, hr, hrun, hended, hW, hsame⟩ := X10.leave (v := some (.int (1 : Int32))) (fun h => by rw [Bd.returns] at h; cases h)
    refine ⟨_, _, pre1 _ ?_, hrun, hended, _, _, rfl, ?_, ⟨_, rfl⟩, hW, hsame.mono (by decide) (by decide)⟩
    · show Steps p.tables e below (s₁.setTop (mkF m 8 #[.val (.int p1), .val (.int (1 : Int32)), .unset, .unset, .unset] [])) _
      refine XS.iloadN X0.here hx rfl (hb hby at_8) rfl ?_
      show Steps p.tables e below (s₁.setTop (mkF m 9 #[.val (.int p1), .val (.int (1 : Int32)), .unset, .unset, .unset] [(.int (1 : Int32))])) _
      refine XS.ifYes X0.here hx rfl (pc0 := 9) (pc' := 23) rfl (hb hby at_9) rfl ((if0 _ _).trans (feq (by decide : ¬ ((1 : Int32) = (0 : Int32)))).2) (by decide) (by decide) ?_
      show Steps p.tables e below (s₁.setTop (mkF m 23 #[.val (.int p1), .val (.int (1 : Int32)), .unset, .unset, .unset] [])) _
      refine XS.iloadN X0.here hx rfl (hb hby at_23) rfl ?_
      show Steps p.tables e below (s₁.setTop (mkF m 24 #[.val (.int p1), .val (.int (1 : Int32)), .unset, .unset, .unset] [(.int (1 : Int32))])) _
      refine XS.iconst X0.here hx rfl (hb hby at_24) ?_
      show Steps p.tables e below (s₁.setTop (mkF m 25 #[.val (.int p1), .val (.int (1 : Int32)), .unset, .unset, .unset] [(.int (1 : Int32)), (.int (1 : Int32))])) _
      refine XS.icmpNo X0.here hx rfl (hb hby at_25) rfl (teq (by decide : (1 : Int32) = (1 : Int32))).2 ?_
      show Steps p.tables e below (s₁.setTop (mkF m 28 #[.val (.int p1), .val (.int (1 : Int32)), .unset, .unset, .unset] [])) _
      refine st7 _ ?_
      show Steps p.tables e below (T7.setTop (mkF m 31 #[.val (.int p1), .val (.int (1 : Int32)), .unset, .unset, .unset] [(.ref w_OWNER_OVERRIDES_EResolutionRule)])) _
      refine XS.astoreN X7.here hx rfl (hb hby at_31) rfl rfl (l' := #[.val (.int p1), .val (.int (1 : Int32)), .val (.ref w_OWNER_OVERRIDES_EResolutionRule), .unset, .unset]) rfl ?_
      show Steps p.tables e below (T7.setTop (mkF m 32 #[.val (.int p1), .val (.int (1 : Int32)), .val (.ref w_OWNER_OVERRIDES_EResolutionRule), .unset, .unset] [])) _
      refine st8 _ ?_
      show Steps p.tables e below (T8.setTop (mkF m 35 #[.val (.int p1), .val (.int (1 : Int32)), .val (.ref w_OWNER_OVERRIDES_EResolutionRule), .unset, .unset] [(.ref w_OWNER_OVERRIDES)])) _
      refine XS.astoreN X8.here hx rfl (hb hby at_35) rfl rfl (l' := #[.val (.int p1), .val (.int (1 : Int32)), .val (.ref w_OWNER_OVERRIDES_EResolutionRule), .val (.ref w_OWNER_OVERRIDES), .unset]) rfl ?_
      show Steps p.tables e below (T8.setTop (mkF m 36 #[.val (.int p1), .val (.int (1 : Int32)), .val (.ref w_OWNER_OVERRIDES_EResolutionRule), .val (.ref w_OWNER_OVERRIDES), .unset] [])) _
      refine XS.goto X8.here hx rfl (pc0 := 36) (pc' := 95) rfl (hb hby at_36) (by decide) (by decide) ?_
      show Steps p.tables e below (T8.setTop (mkF m 95 #[.val (.int p1), .val (.int (1 : Int32)), .val (.ref w_OWNER_OVERRIDES_EResolutionRule), .val (.ref w_OWNER_OVERRIDES), .unset] [])) _
      refine XS.aloadN X8.here hx rfl (hb hby at_95) rfl rfl ?_
      show Steps p.tables e below (T8.setTop (mkF m 96 #[.val (.int p1), .val (.int (1 : Int32)), .val (.ref w_OWNER_OVERRIDES_EResolutionRule), .val (.ref w_OWNER_OVERRIDES), .unset] [(.ref w_OWNER_OVERRIDES_EResolutionRule)])) _
      refine st9 _ ?_
      show Steps p.tables e below (T9.setTop (mkF m 99 #[.val (.int p1), .val (.int (1 : Int32)), .val (.ref w_OWNER_OVERRIDES_EResolutionRule), .val (.ref w_OWNER_OVERRIDES), .unset] [(.ref w_OWNER_OVERRIDES)])) _
      refine XS.astore X9.here hx rfl (hb hby at_99) rfl rfl (l' := #[.val (.int p1), .val (.int (1 : Int32)), .val (.ref w_OWNER_OVERRIDES_EResolutionRule), .val (.ref w_OWNER_OVERRIDES), .val (.ref w_OWNER_OVERRIDES)]) rfl ?_
      show Steps p.tables e below (T9.setTop (mkF m 101 #[.val (.int p1), .val (.int (1 : Int32)), .val (.ref w_OWNER_OVERRIDES_EResolutionRule), .val (.ref w_OWNER_OVERRIDES), .val (.ref w_OWNER_OVERRIDES)] [])) _
      refine XS.aload X9.here hx rfl (hb hby at_101) rfl rfl ?_
      show Steps p.tables e below (T9.setTop (mkF m 103 #[.val (.int p1), .val (.int (1 : Int32)), .val (.ref w_OWNER_OVERRIDES_EResolutionRule), .val (.ref w_OWNER_OVERRIDES), .val (.ref w_OWNER_OVERRIDES)] [(.ref w_OWNER_OVERRIDES)])) _
      refine XS.aloadN X9.here hx rfl (hb hby at_103) rfl rfl ?_
      show Steps p.tables e below (T9.setTop (mkF m 104 #[.val (.int p1), .val (.int (1 : Int32)), .val (.ref w_OWNER_OVERRIDES_EResolutionRule), .val (.ref w_OWNER_OVERRIDES), .val (.ref w_OWNER_OVERRIDES)] [(.ref w_OWNER_OVERRIDES), (.ref w_OWNER_OVERRIDES)])) _
      refine Jvm.RoadKit.acmp (g := (mkF m 104 #[.val (.int p1), .val (.int (1 : Int32)), .val (.ref w_OWNER_OVERRIDES_EResolutionRule), .val (.ref w_OWNER_OVERRIDES), .val (.ref w_OWNER_OVERRIDES)] [(.ref w_OWNER_OVERRIDES), (.ref w_OWNER_OVERRIDES)])) X9 hx rfl rfl rfl (pc0 := 104) (pc' := 107) (same := true) rfl (hb hby at_104) rfl (decide_eq_true (congrArg Value.ref (rfl : w_OWNER_OVERRIDES = w_OWNER_OVERRIDES))) (by decide) (by decide) ?_
      show Steps p.tables e below (T9.setTop (mkF m 107 #[.val (.int p1), .val (.int (1 : Int32)), .val (.ref w_OWNER_OVERRIDES_EResolutionRule), .val (.ref w_OWNER_OVERRIDES), .val (.ref w_OWNER_OVERRIDES)] [])) _
      refine XS.aload X9.here hx rfl (hb hby at_107) rfl rfl ?_
      show Steps p.tables e below (T9.setTop (mkF m 109 #[.val (.int p1), .val (.int (1 : Int32)), .val (.ref w_OWNER_OVERRIDES_EResolutionRule), .val (.ref w_OWNER_OVERRIDES), .val (.ref w_OWNER_OVERRIDES)] [(.ref w_OWNER_OVERRIDES)])) _
      refine st10.trans ?_
      show Steps p.tables e below (T10.setTop (mkF m 112 #[.val (.int p1), .val (.int (1 : Int32)), .val (.ref w_OWNER_OVERRIDES_EResolutionRule), .val (.ref w_OWNER_OVERRIDES), .val (.ref w_OWNER_OVERRIDES)] [(.ref w_OWNER_OVERRIDES_EResolutionRule)])) _
      refine XS.aloadN X10.here hx rfl (hb hby at_112) rfl rfl ?_
      show Steps p.tables e below (T10.setTop (mkF m 113 #[.val (.int p1), .val (.int (1 : Int32)), .val (.ref w_OWNER_OVERRIDES_EResolutionRule), .val (.ref w_OWNER_OVERRIDES), .val (.ref w_OWNER_OVERRIDES)] [(.ref w_OWNER_OVERRIDES_EResolutionRule), (.ref w_OWNER_OVERRIDES_EResolutionRule)])) _
      refine Jvm.RoadKit.acmp (g := (mkF m 113 #[.val (.int p1), .val (.int (1 : Int32)), .val (.ref w_OWNER_OVERRIDES_EResolutionRule), .val (.ref w_OWNER_OVERRIDES), .val (.ref w_OWNER_OVERRIDES)] [(.ref w_OWNER_OVERRIDES_EResolutionRule), (.ref w_OWNER_OVERRIDES_EResolutionRule)])) X10 hx rfl rfl rfl (pc0 := 113) (pc' := 116) (same := true) rfl (hb hby at_113) rfl (decide_eq_true (congrArg Value.ref (rfl : w_OWNER_OVERRIDES_EResolutionRule = w_OWNER_OVERRIDES_EResolutionRule))) (by decide) (by decide) ?_
      show Steps p.tables e below (T10.setTop (mkF m 116 #[.val (.int p1), .val (.int (1 : Int32)), .val (.ref w_OWNER_OVERRIDES_EResolutionRule), .val (.ref w_OWNER_OVERRIDES), .val (.ref w_OWNER_OVERRIDES)] [])) _
      refine XS.iconst X10.here hx rfl (hb hby at_116) ?_
      show Steps p.tables e below (T10.setTop (mkF m 117 #[.val (.int p1), .val (.int (1 : Int32)), .val (.ref w_OWNER_OVERRIDES_EResolutionRule), .val (.ref w_OWNER_OVERRIDES), .val (.ref w_OWNER_OVERRIDES)] [(.int (1 : Int32))])) _
      refine XS.goto X10.here hx rfl (pc0 := 117) (pc' := 121) rfl (hb hby at_117) (by decide) (by decide) ?_
      show Steps p.tables e below (T10.setTop (mkF m 121 #[.val (.int p1), .val (.int (1 : Int32)), .val (.ref w_OWNER_OVERRIDES_EResolutionRule), .val (.ref w_OWNER_OVERRIDES), .val (.ref w_OWNER_OVERRIDES)] [(.int (1 : Int32))])) _
      exact retN X10 hx (t := .boolean) Bd.returns (by simp) (hb hby at_121) hr
    · show Q_rm0 Z p1 w_WEIGHTED w_WEIGHTED_EReason w_SVALUES w_CONTROLLER w_OWNER_OVERRIDES w_FULL_CONSENSUS_PERMIT w_MAJORITY_PERMIT w_STRONG_MAJORITY_PERMIT w_SUPER_MAJORITY_PERMIT w_SOURCE w_RESHARE_REFUSED w_UNNAMED w_NOT_VIEWER w_NO_THRESHOLD w_MAJORITY_PERMIT_EResolutionRule w_OWNER_OVERRIDES_EResolutionRule w_FULL_CONSENSUS_PERMIT_EResolutionRule w_SUPER_MAJORITY_PERMIT_EResolutionRule w_STRONG_MAJORITY_PERMIT_EResolutionRule kV h0 n0 _ T10.heap _
      rw [eq10]
      exact ⟨rfl, N10⟩
  · rw [hv2] at pre1
    obtain ⟨T11, X11, e11, st11⟩ := getS2 X0 hx hZ hown (host := "") (Or.inl (hw _ (List.mem_of_getElem? (i := 48) rfl))) Via.refl e0 (S_w_FULL_CONSENSUS_PERMIT_EResolutionRule.ext O0.2) (g := (mkF m 44 #[.val (.int p1), .val (.int (2 : Int32)), .unset, .unset, .unset] [])) rfl (hb hby at_44)
    obtain ⟨T12, X12, e12, st12⟩ := getS2 X11 hx hZ hown (host := "") (Or.inl (hw _ (List.mem_of_getElem? (i := 49) rfl))) Via.refl e11 (S_w_FULL_CONSENSUS_PERMIT.ext O0.2) (g := (mkF m 48 #[.val (.int p1), .val (.int (2 : Int32)), .val (.ref w_FULL_CONSENSUS_PERMIT_EResolutionRule), .unset, .unset] [])) rfl (hb hby at_48)
    obtain ⟨_, _, ⟨T13, L13, k13, n13⟩, -, X13, ⟨Lc13, hQ13, l13, y13, z13⟩, st13⟩ := Jvm.LawKit.callS X12 hx (y := (⟨"com/example/kindred_consent/kindredconsent/engine/EReason", "forRule", "(Lcom/example/kindred_consent/kindredconsent/model/EResolutionRule;)Lcom/example/kindred_consent/kindredconsent/engine/EReason;"⟩ : MethodName)) hown (mvT hZ (hw _ (List.mem_of_getElem? (i := 7) rfl))) (mvT hZ (hw _ (List.mem_of_getElem? (i := 8) rfl))) (mvT hZ (hw _ (List.mem_of_getElem? (i := 5) rfl))) (mvT hZ (hw _ (List.mem_of_getElem? (i := 9) rfl))) (by decide) (backOf (W := 0) (fr_FULL_CONSENSUS_PERMIT l Z a0 hw [] w_WEIGHTED w_WEIGHTED_EReason w_SVALUES w_CONTROLLER w_OWNER_OVERRIDES w_FULL_CONSENSUS_PERMIT w_MAJORITY_PERMIT w_STRONG_MAJORITY_PERMIT w_SUPER_MAJORITY_PERMIT w_SOURCE w_RESHARE_REFUSED w_UNNAMED w_NOT_VIEWER w_NO_THRESHOLD w_MAJORITY_PERMIT_EResolutionRule w_OWNER_OVERRIDES_EResolutionRule w_FULL_CONSENSUS_PERMIT_EResolutionRule w_SUPER_MAJORITY_PERMIT_EResolutionRule w_STRONG_MAJORITY_PERMIT_EResolutionRule kV h0 n0 O0 hE) hZ (hw _ (List.mem_of_getElem? (i := 9) rfl)) (hw _ (List.mem_of_getElem? (i := 5) rfl)) (by decide) (by decide)) (g := (mkF m 96 #[.val (.int p1), .val (.int (2 : Int32)), .val (.ref w_FULL_CONSENSUS_PERMIT_EResolutionRule), .val (.ref w_FULL_CONSENSUS_PERMIT), .unset] [(.ref w_FULL_CONSENSUS_PERMIT_EResolutionRule)])) rfl (by rw [hml]; rfl) (argsL := [(.ref w_FULL_CONSENSUS_PERMIT_EResolutionRule)]) (rest := []) (lenOf pd__Lcom_example_kindred_consent_kindredconsent_model_EResolutionRule__Lcom_example_kindred_consent_kindredconsent_engine_EReason_ rfl) rfl (by show 2 * 0 + _ ≤ _; exact Nat.le_of_eq rfl) (hb hby at_96) (fun _ _ => ⟨rfl, e12, (by decide : 0 + 1 ≤ _), (by decide : 0 + 12 ≤ _)⟩)
    dsimp only [Pt.U, Pt.locs, Pt.cells, Pt.slots] at X13 l13 y13 z13 st13 hQ13
    subst l13 y13 z13
    obtain ⟨rfl, Nq13, Kq13⟩ := hQ13
    have N13 := Fr.app N0 Nq13
    have O13 := O0.keep Kq13 all0
    obtain ⟨cq14, kq14, q14a, q14b, q14c⟩ := isOf hZ rfl (E_w_FULL_CONSENSUS_PERMIT.ext O13.2)
    obtain ⟨_, _, ⟨T14, L14, k14, n14⟩, -, X14, ⟨Lc14, hQ14, l14, y14, z14⟩, st14⟩ := X13.virtualBack hx (y := (⟨"com/example/kindred_consent/kindredconsent/engine/EReason", "getRule", "()Lcom/example/kindred_consent/kindredconsent/model/EResolutionRule;"⟩ : MethodName)) (z := (⟨"com/example/kindred_consent/kindredconsent/engine/EReason", "getRule", "()Lcom/example/kindred_consent/kindredconsent/model/EResolutionRule;"⟩ : MethodName)) hown (mvT hZ (hw _ (List.mem_of_getElem? (i := 38) rfl))) (mvT hZ (hw _ (List.mem_of_getElem? (i := 39) rfl))) (notFace_of_selects (args := #[]) (mvT hZ (hw _ (List.mem_of_getElem? (i := 41) rfl)))) (mvT hZ (hw _ (List.mem_of_getElem? (i := 41) rfl))) (mvT hZ (hw _ (List.mem_of_getElem? (i := 40) rfl))) (by decide) (backOf (W := 0) (gr_FULL_CONSENSUS_PERMIT l Z a0 hw [] w_WEIGHTED w_WEIGHTED_EReason w_SVALUES w_CONTROLLER w_OWNER_OVERRIDES w_FULL_CONSENSUS_PERMIT w_MAJORITY_PERMIT w_STRONG_MAJORITY_PERMIT w_SUPER_MAJORITY_PERMIT w_SOURCE w_RESHARE_REFUSED w_UNNAMED w_NOT_VIEWER w_NO_THRESHOLD w_MAJORITY_PERMIT_EResolutionRule w_OWNER_OVERRIDES_EResolutionRule w_FULL_CONSENSUS_PERMIT_EResolutionRule w_SUPER_MAJORITY_PERMIT_EResolutionRule w_STRONG_MAJORITY_PERMIT_EResolutionRule kV T13.heap n0 O13 hE) hZ (hw _ (List.mem_of_getElem? (i := 42) rfl)) (hw _ (List.mem_of_getElem? (i := 5) rfl)) (by decide) (by decide)) q14a q14c (g := (mkF m 109 #[.val (.int p1), .val (.int (2 : Int32)), .val (.ref w_FULL_CONSENSUS_PERMIT_EResolutionRule), .val (.ref w_FULL_CONSENSUS_PERMIT), .val (.ref w_FULL_CONSENSUS_PERMIT)] [(.ref w_FULL_CONSENSUS_PERMIT)])) rfl (by rw [hml]; rfl) (Steps.refl _) (argsL := []) (rest := []) (lenOf pd___Lcom_example_kindred_consent_kindredconsent_model_EResolutionRule_ rfl) rfl (by show 2 * 0 + _ ≤ _; exact Nat.le_of_eq rfl) (hb hby at_109) (fun _ _ => ⟨rfl, rfl, (by decide : 1 + 0 ≤ _), (by decide : 12 + 0 ≤ _)⟩)
    dsimp only [Pt.U, Pt.locs, Pt.cells, Pt.slots] at X14 l14 y14 z14 st14 hQ14
    subst l14 y14 z14
    obtain ⟨rfl, Nq14, eq14⟩ := hQ14
    have N14 := Fr.app N13 Nq14
    obtain ⟨fs, hr, hrun, hended, hW, hsame⟩ := X14.leave (v := some (.int (1 : Int32))) (fun h => by rw [Bd.returns] at h; cases h)
    refine ⟨_, _, pre1 _ ?_, hrun, hended, _, _, rfl, ?_, ⟨_, rfl⟩, hW, hsame.mono (by decide) (by decide)⟩
    · show Steps p.tables e below (s₁.setTop (mkF m 8 #[.val (.int p1), .val (.int (2 : Int32)), .unset, .unset, .unset] [])) _
      refine XS.iloadN X0.here hx rfl (hb hby at_8) rfl ?_
      show Steps p.tables e below (s₁.setTop (mkF m 9 #[.val (.int p1), .val (.int (2 : Int32)), .unset, .unset, .unset] [(.int (2 : Int32))])) _
      refine XS.ifYes X0.here hx rfl (pc0 := 9) (pc' := 23) rfl (hb hby at_9) rfl ((if0 _ _).trans (feq (by decide : ¬ ((2 : Int32) = (0 : Int32)))).2) (by decide) (by decide) ?_
      show Steps p.tables e below (s₁.setTop (mkF m 23 #[.val (.int p1), .val (.int (2 : Int32)), .unset, .unset, .unset] [])) _
      refine XS.iloadN X0.here hx rfl (hb hby at_23) rfl ?_
      show Steps p.tables e below (s₁.setTop (mkF m 24 #[.val (.int p1), .val (.int (2 : Int32)), .unset, .unset, .unset] [(.int (2 : Int32))])) _
      refine XS.iconst X0.here hx rfl (hb hby at_24) ?_
      show Steps p.tables e below (s₁.setTop (mkF m 25 #[.val (.int p1), .val (.int (2 : Int32)), .unset, .unset, .unset] [(.int (1 : Int32)), (.int (2 : Int32))])) _
      refine XS.icmpYes X0.here hx rfl (pc0 := 25) (pc' := 39) rfl (hb hby at_25) rfl (feq (by decide : ¬ ((2 : Int32) = (1 : Int32)))).2 (by decide) (by decide) ?_
      show Steps p.tables e below (s₁.setTop (mkF m 39 #[.val (.int p1), .val (.int (2 : Int32)), .unset, .unset, .unset] [])) _
      refine XS.iloadN X0.here hx rfl (hb hby at_39) rfl ?_
      show Steps p.tables e below (s₁.setTop (mkF m 40 #[.val (.int p1), .val (.int (2 : Int32)), .unset, .unset, .unset] [(.int (2 : Int32))])) _
      refine XS.iconst X0.here hx rfl (hb hby at_40) ?_
      show Steps p.tables e below (s₁.setTop (mkF m 41 #[.val (.int p1), .val (.int (2 : Int32)), .unset, .unset, .unset] [(.int (2 : Int32)), (.int (2 : Int32))])) _
      refine XS.icmpNo X0.here hx rfl (hb hby at_41) rfl (teq (by decide : (2 : Int32) = (2 : Int32))).2 ?_
      show Steps p.tables e below (s₁.setTop (mkF m 44 #[.val (.int p1), .val (.int (2 : Int32)), .unset, .unset, .unset] [])) _
      refine st11 _ ?_
      show Steps p.tables e below (T11.setTop (mkF m 47 #[.val (.int p1), .val (.int (2 : Int32)), .unset, .unset, .unset] [(.ref w_FULL_CONSENSUS_PERMIT_EResolutionRule)])) _
      refine XS.astoreN X11.here hx rfl (hb hby at_47) rfl rfl (l' := #[.val (.int p1), .val (.int (2 : Int32)), .val (.ref w_FULL_CONSENSUS_PERMIT_EResolutionRule), .unset, .unset]) rfl ?_
      show Steps p.tables e below (T11.setTop (mkF m 48 #[.val (.int p1), .val (.int (2 : Int32)), .val (.ref w_FULL_CONSENSUS_PERMIT_EResolutionRule), .unset, .unset] [])) _
      refine st12 _ ?_
      show Steps p.tables e below (T12.setTop (mkF m 51 #[.val (.int p1), .val (.int (2 : Int32)), .val (.ref w_FULL_CONSENSUS_PERMIT_EResolutionRule), .unset, .unset] [(.ref w_FULL_CONSENSUS_PERMIT)])) _
      refine XS.astoreN X12.here hx rfl (hb hby at_51) rfl rfl (l' := #[.val (.int p1), .val (.int (2 : Int32)), .val (.ref w_FULL_CONSENSUS_PERMIT_EResolutionRule), .val (.ref w_FULL_CONSENSUS_PERMIT), .unset]) rfl ?_
      show Steps p.tables e below (T12.setTop (mkF m 52 #[.val (.int p1), .val (.int (2 : Int32)), .val (.ref w_FULL_CONSENSUS_PERMIT_EResolutionRule), .val (.ref w_FULL_CONSENSUS_PERMIT), .unset] [])) _
      refine XS.goto X12.here hx rfl (pc0 := 52) (pc' := 95) rfl (hb hby at_52) (by decide) (by decide) ?_
      show Steps p.tables e below (T12.setTop (mkF m 95 #[.val (.int p1), .val (.int (2 : Int32)), .val (.ref w_FULL_CONSENSUS_PERMIT_EResolutionRule), .val (.ref w_FULL_CONSENSUS_PERMIT), .unset] [])) _
      refine XS.aloadN X12.here hx rfl (hb hby at_95) rfl rfl ?_
      show Steps p.tables e below (T12.setTop (mkF m 96 #[.val (.int p1), .val (.int (2 : Int32)), .val (.ref w_FULL_CONSENSUS_PERMIT_EResolutionRule), .val (.ref w_FULL_CONSENSUS_PERMIT), .unset] [(.ref w_FULL_CONSENSUS_PERMIT_EResolutionRule)])) _
      refine st13 _ ?_
      show Steps p.tables e below (T13.setTop (mkF m 99 #[.val (.int p1), .val (.int (2 : Int32)), .val (.ref w_FULL_CONSENSUS_PERMIT_EResolutionRule), .val (.ref w_FULL_CONSENSUS_PERMIT), .unset] [(.ref w_FULL_CONSENSUS_PERMIT)])) _
      refine XS.astore X13.here hx rfl (hb hby at_99) rfl rfl (l' := #[.val (.int p1), .val (.int (2 : Int32)), .val (.ref w_FULL_CONSENSUS_PERMIT_EResolutionRule), .val (.ref w_FULL_CONSENSUS_PERMIT), .val (.ref w_FULL_CONSENSUS_PERMIT)]) rfl ?_
      show Steps p.tables e below (T13.setTop (mkF m 101 #[.val (.int p1), .val (.int (2 : Int32)), .val (.ref w_FULL_CONSENSUS_PERMIT_EResolutionRule), .val (.ref w_FULL_CONSENSUS_PERMIT), .val (.ref w_FULL_CONSENSUS_PERMIT)] [])) _
      refine XS.aload X13.here hx rfl (hb hby at_101) rfl rfl ?_
      show Steps p.tables e below (T13.setTop (mkF m 103 #[.val (.int p1), .val (.int (2 : Int32)), .val (.ref w_FULL_CONSENSUS_PERMIT_EResolutionRule), .val (.ref w_FULL_CONSENSUS_PERMIT), .val (.ref w_FULL_CONSENSUS_PERMIT)] [(.ref w_FULL_CONSENSUS_PERMIT)])) _
      refine XS.aloadN X13.here hx rfl (hb hby at_103) rfl rfl ?_
      show Steps p.tables e below (T13.setTop (mkF m 104 #[.val (.int p1), .val (.int (2 : Int32)), .val (.ref w_FULL_CONSENSUS_PERMIT_EResolutionRule), .val (.ref w_FULL_CONSENSUS_PERMIT), .val (.ref w_FULL_CONSENSUS_PERMIT)] [(.ref w_FULL_CONSENSUS_PERMIT), (.ref w_FULL_CONSENSUS_PERMIT)])) _
      refine Jvm.RoadKit.acmp (g := (mkF m 104 #[.val (.int p1), .val (.int (2 : Int32)), .val (.ref w_FULL_CONSENSUS_PERMIT_EResolutionRule), .val (.ref w_FULL_CONSENSUS_PERMIT), .val (.ref w_FULL_CONSENSUS_PERMIT)] [(.ref w_FULL_CONSENSUS_PERMIT), (.ref w_FULL_CONSENSUS_PERMIT)])) X13 hx rfl rfl rfl (pc0 := 104) (pc' := 107) (same := true) rfl (hb hby at_104) rfl (decide_eq_true (congrArg Value.ref (rfl : w_FULL_CONSENSUS_PERMIT = w_FULL_CONSENSUS_PERMIT))) (by decide) (by decide) ?_
      show Steps p.tables e below (T13.setTop (mkF m 107 #[.val (.int p1), .val (.int (2 : Int32)), .val (.ref w_FULL_CONSENSUS_PERMIT_EResolutionRule), .val (.ref w_FULL_CONSENSUS_PERMIT), .val (.ref w_FULL_CONSENSUS_PERMIT)] [])) _
      refine XS.aload X13.here hx rfl (hb hby at_107) rfl rfl ?_
      show Steps p.tables e below (T13.setTop (mkF m 109 #[.val (.int p1), .val (.int (2 : Int32)), .val (.ref w_FULL_CONSENSUS_PERMIT_EResolutionRule), .val (.ref w_FULL_CONSENSUS_PERMIT), .val (.ref w_FULL_CONSENSUS_PERMIT)] [(.ref w_FULL_CONSENSUS_PERMIT)])) _
      refine st14.trans ?_
      show Steps p.tables e below (T14.setTop (mkF m 112 #[.val (.int p1), .val (.int (2 : Int32)), .val (.ref w_FULL_CONSENSUS_PERMIT_EResolutionRule), .val (.ref w_FULL_CONSENSUS_PERMIT), .val (.ref w_FULL_CONSENSUS_PERMIT)] [(.ref w_FULL_CONSENSUS_PERMIT_EResolutionRule)])) _
      refine XS.aloadN X14.here hx rfl (hb hby at_112) rfl rfl ?_
      show Steps p.tables e below (T14.setTop (mkF m 113 #[.val (.int p1), .val (.int (2 : Int32)), .val (.ref w_FULL_CONSENSUS_PERMIT_EResolutionRule), .val (.ref w_FULL_CONSENSUS_PERMIT), .val (.ref w_FULL_CONSENSUS_PERMIT)] [(.ref w_FULL_CONSENSUS_PERMIT_EResolutionRule), (.ref w_FULL_CONSENSUS_PERMIT_EResolutionRule)])) _
      refine Jvm.RoadKit.acmp (g := (mkF m 113 #[.val (.int p1), .val (.int (2 : Int32)), .val (.ref w_FULL_CONSENSUS_PERMIT_EResolutionRule), .val (.ref w_FULL_CONSENSUS_PERMIT), .val (.ref w_FULL_CONSENSUS_PERMIT)] [(.ref w_FULL_CONSENSUS_PERMIT_EResolutionRule), (.ref w_FULL_CONSENSUS_PERMIT_EResolutionRule)])) X14 hx rfl rfl rfl (pc0 := 113) (pc' := 116) (same := true) rfl (hb hby at_113) rfl (decide_eq_true (congrArg Value.ref (rfl : w_FULL_CONSENSUS_PERMIT_EResolutionRule = w_FULL_CONSENSUS_PERMIT_EResolutionRule))) (by decide) (by decide) ?_
      show Steps p.tables e below (T14.setTop (mkF m 116 #[.val (.int p1), .val (.int (2 : Int32)), .val (.ref w_FULL_CONSENSUS_PERMIT_EResolutionRule), .val (.ref w_FULL_CONSENSUS_PERMIT), .val (.ref w_FULL_CONSENSUS_PERMIT)] [])) _
      refine XS.iconst X14.here hx rfl (hb hby at_116) ?_
      show Steps p.tables e below (T14.setTop (mkF m 117 #[.val (.int p1), .val (.int (2 : Int32)), .val (.ref w_FULL_CONSENSUS_PERMIT_EResolutionRule), .val (.ref w_FULL_CONSENSUS_PERMIT), .val (.ref w_FULL_CONSENSUS_PERMIT)] [(.int (1 : Int32))])) _
      refine XS.goto X14.here hx rfl (pc0 := 117) (pc' := 121) rfl (hb hby at_117) (by decide) (by decide) ?_
      show Steps p.tables e below (T14.setTop (mkF m 121 #[.val (.int p1), .val (.int (2 : Int32)), .val (.ref w_FULL_CONSENSUS_PERMIT_EResolutionRule), .val (.ref w_FULL_CONSENSUS_PERMIT), .val (.ref w_FULL_CONSENSUS_PERMIT)] [(.int (1 : Int32))])) _
      exact retN X14 hx (t := .boolean) Bd.returns (by simp) (hb hby at_121) hr
    · show Q_rm0 Z p1 w_WEIGHTED w_WEIGHTED_EReason w_SVALUES w_CONTROLLER w_OWNER_OVERRIDES w_FULL_CONSENSUS_PERMIT w_MAJORITY_PERMIT w_STRONG_MAJORITY_PERMIT w_SUPER_MAJORITY_PERMIT w_SOURCE w_RESHARE_REFUSED w_UNNAMED w_NOT_VIEWER w_NO_THRESHOLD w_MAJORITY_PERMIT_EResolutionRule w_OWNER_OVERRIDES_EResolutionRule w_FULL_CONSENSUS_PERMIT_EResolutionRule w_SUPER_MAJORITY_PERMIT_EResolutionRule w_STRONG_MAJORITY_PERMIT_EResolutionRule kV h0 n0 _ T14.heap _
      rw [eq14]
      exact ⟨rfl, N14⟩
  · rw [hv2] at pre1
    obtain ⟨T15, X15, e15, st15⟩ := getS2 X0 hx hZ hown (host := "") (Or.inl (hw _ (List.mem_of_getElem? (i := 43) rfl))) Via.refl e0 (S_w_MAJORITY_PERMIT_EResolutionRule.ext O0.2) (g := (mkF m 60 #[.val (.int p1), .val (.int (3 : Int32)), .unset, .unset, .unset] [])) rfl (hb hby at_60)
    obtain ⟨T16, X16, e16, st16⟩ := getS2 X15 hx hZ hown (host := "") (Or.inl (hw _ (List.mem_of_getElem? (i := 45) rfl))) Via.refl e15 (S_w_MAJORITY_PERMIT.ext O0.2) (g := (mkF m 64 #[.val (.int p1), .val (.int (3 : Int32)), .val (.ref w_MAJORITY_PERMIT_EResolutionRule), .unset, .unset] [])) rfl (hb hby at_64)
    obtain ⟨_, _, ⟨T17, L17, k17, n17⟩, -, X17, ⟨Lc17, hQ17, l17, y17, z17⟩, st17⟩ := Jvm.LawKit.callS X16 hx (y := (⟨"com/example/kindred_consent/kindredconsent/engine/EReason", "forRule", "(Lcom/example/kindred_consent/kindredconsent/model/EResolutionRule;)Lcom/example/kindred_consent/kindredconsent/engine/EReason;"⟩ : MethodName)) hown (mvT hZ (hw _ (List.mem_of_getElem? (i := 7) rfl))) (mvT hZ (hw _ (List.mem_of_getElem? (i := 8) rfl))) (mvT hZ (hw _ (List.mem_of_getElem? (i := 5) rfl))) (mvT hZ (hw _ (List.mem_of_getElem? (i := 9) rfl))) (by decide) (backOf (W := 0) (fr_MAJORITY_PERMIT l Z a0 hw [] w_WEIGHTED w_WEIGHTED_EReason w_SVALUES w_CONTROLLER w_OWNER_OVERRIDES w_FULL_CONSENSUS_PERMIT w_MAJORITY_PERMIT w_STRONG_MAJORITY_PERMIT w_SUPER_MAJORITY_PERMIT w_SOURCE w_RESHARE_REFUSED w_UNNAMED w_NOT_VIEWER w_NO_THRESHOLD w_MAJORITY_PERMIT_EResolutionRule w_OWNER_OVERRIDES_EResolutionRule w_FULL_CONSENSUS_PERMIT_EResolutionRule w_SUPER_MAJORITY_PERMIT_EResolutionRule w_STRONG_MAJORITY_PERMIT_EResolutionRule kV h0 n0 O0 hE) hZ (hw _ (List.mem_of_getElem? (i := 9) rfl)) (hw _ (List.mem_of_getElem? (i := 5) rfl)) (by decide) (by decide)) (g := (mkF m 96 #[.val (.int p1), .val (.int (3 : Int32)), .val (.ref w_MAJORITY_PERMIT_EResolutionRule), .val (.ref w_MAJORITY_PERMIT), .unset] [(.ref w_MAJORITY_PERMIT_EResolutionRule)])) rfl (by rw [hml]; rfl) (argsL := [(.ref w_MAJORITY_PERMIT_EResolutionRule)]) (rest := []) (lenOf pd__Lcom_example_kindred_consent_kindredconsent_model_EResolutionRule__Lcom_example_kindred_consent_kindredconsent_engine_EReason_ rfl) rfl (by show 2 * 0 + _ ≤ _; exact Nat.le_of_eq rfl) (hb hby at_96) (fun _ _ => ⟨rfl, e16, (by decide : 0 + 1 ≤ _), (by decide : 0 + 12 ≤ _)⟩)
    dsimp only [Pt.U, Pt.locs, Pt.cells, Pt.slots] at X17 l17 y17 z17 st17 hQ17
    subst l17 y17 z17
    obtain ⟨rfl, Nq17, Kq17⟩ := hQ17
    have N17 := Fr.app N0 Nq17
    have O17 := O0.keep Kq17 all0
    obtain ⟨cq18, kq18, q18a, q18b, q18c⟩ := isOf hZ rfl (E_w_MAJORITY_PERMIT.ext O17.2)
    obtain ⟨_, _, ⟨T18, L18, k18, n18⟩, -, X18, ⟨Lc18, hQ18, l18, y18, z18⟩, st18⟩ := X17.virtualBack hx (y := (⟨"com/example/kindred_consent/kindredconsent/engine/EReason", "getRule", "()Lcom/example/kindred_consent/kindredconsent/model/EResolutionRule;"⟩ : MethodName)) (z := (⟨"com/example/kindred_consent/kindredconsent/engine/EReason", "getRule", "()Lcom/example/kindred_consent/kindredconsent/model/EResolutionRule;"⟩ : MethodName)) hown (mvT hZ (hw _ (List.mem_of_getElem? (i := 38) rfl))) (mvT hZ (hw _ (List.mem_of_getElem? (i := 39) rfl))) (notFace_of_selects (args := #[]) (mvT hZ (hw _ (List.mem_of_getElem? (i := 41) rfl)))) (mvT hZ (hw _ (List.mem_of_getElem? (i := 41) rfl))) (mvT hZ (hw _ (List.mem_of_getElem? (i := 40) rfl))) (by decide) (backOf (W := 0) (gr_MAJORITY_PERMIT l Z a0 hw [] w_WEIGHTED w_WEIGHTED_EReason w_SVALUES w_CONTROLLER w_OWNER_OVERRIDES w_FULL_CONSENSUS_PERMIT w_MAJORITY_PERMIT w_STRONG_MAJORITY_PERMIT w_SUPER_MAJORITY_PERMIT w_SOURCE w_RESHARE_REFUSED w_UNNAMED w_NOT_VIEWER w_NO_THRESHOLD w_MAJORITY_PERMIT_EResolutionRule w_OWNER_OVERRIDES_EResolutionRule w_FULL_CONSENSUS_PERMIT_EResolutionRule w_SUPER_MAJORITY_PERMIT_EResolutionRule w_STRONG_MAJORITY_PERMIT_EResolutionRule kV T17.heap n0 O17 hE) hZ (hw _ (List.mem_of_getElem? (i := 42) rfl)) (hw _ (List.mem_of_getElem? (i := 5) rfl)) (by decide) (by decide)) q18a q18c (g := (mkF m 109 #[.val (.int p1), .val (.int (3 : Int32)), .val (.ref w_MAJORITY_PERMIT_EResolutionRule), .val (.ref w_MAJORITY_PERMIT), .val (.ref w_MAJORITY_PERMIT)] [(.ref w_MAJORITY_PERMIT)])) rfl (by rw [hml]; rfl) (Steps.refl _) (argsL := []) (rest := []) (lenOf pd___Lcom_example_kindred_consent_kindredconsent_model_EResolutionRule_ rfl) rfl (by show 2 * 0 + _ ≤ _; exact Nat.le_of_eq rfl) (hb hby at_109) (fun _ _ => ⟨rfl, rfl, (by decide : 1 + 0 ≤ _), (by decide : 12 + 0 ≤ _)⟩)
    dsimp only [Pt.U, Pt.locs, Pt.cells, Pt.slots] at X18 l18 y18 z18 st18 hQ18
    subst l18 y18 z18
    obtain ⟨rfl, Nq18, eq18⟩ := hQ18
    have N18 := Fr.app N17 Nq18
    obtain ⟨fs, hr, hrun, hended, hW, hsame⟩ := X18.leave (v := some (.int (1 : Int32))) (fun h => by rw [Bd.returns] at h; cases h)
    refine ⟨_, _, pre1 _ ?_, hrun, hended, _, _, rfl, ?_, ⟨_, rfl⟩, hW, hsame.mono (by decide) (by decide)⟩
    · show Steps p.tables e below (s₁.setTop (mkF m 8 #[.val (.int p1), .val (.int (3 : Int32)), .unset, .unset, .unset] [])) _
      refine XS.iloadN X0.here hx rfl (hb hby at_8) rfl ?_
      show Steps p.tables e below (s₁.setTop (mkF m 9 #[.val (.int p1), .val (.int (3 : Int32)), .unset, .unset, .unset] [(.int (3 : Int32))])) _
      refine XS.ifYes X0.here hx rfl (pc0 := 9) (pc' := 23) rfl (hb hby at_9) rfl ((if0 _ _).trans (feq (by decide : ¬ ((3 : Int32) = (0 : Int32)))).2) (by decide) (by decide) ?_
      show Steps p.tables e below (s₁.setTop (mkF m 23 #[.val (.int p1), .val (.int (3 : Int32)), .unset, .unset, .unset] [])) _
      refine XS.iloadN X0.here hx rfl (hb hby at_23) rfl ?_
      show Steps p.tables e below (s₁.setTop (mkF m 24 #[.val (.int p1), .val (.int (3 : Int32)), .unset, .unset, .unset] [(.int (3 : Int32))])) _
      refine XS.iconst X0.here hx rfl (hb hby at_24) ?_
      show Steps p.tables e below (s₁.setTop (mkF m 25 #[.val (.int p1), .val (.int (3 : Int32)), .unset, .unset, .unset] [(.int (1 : Int32)), (.int (3 : Int32))])) _
      refine XS.icmpYes X0.here hx rfl (pc0 := 25) (pc' := 39) rfl (hb hby at_25) rfl (feq (by decide : ¬ ((3 : Int32) = (1 : Int32)))).2 (by decide) (by decide) ?_
      show Steps p.tables e below (s₁.setTop (mkF m 39 #[.val (.int p1), .val (.int (3 : Int32)), .unset, .unset, .unset] [])) _
      refine XS.iloadN X0.here hx rfl (hb hby at_39) rfl ?_
      show Steps p.tables e below (s₁.setTop (mkF m 40 #[.val (.int p1), .val (.int (3 : Int32)), .unset, .unset, .unset] [(.int (3 : Int32))])) _
      refine XS.iconst X0.here hx rfl (hb hby at_40) ?_
      show Steps p.tables e below (s₁.setTop (mkF m 41 #[.val (.int p1), .val (.int (3 : Int32)), .unset, .unset, .unset] [(.int (2 : Int32)), (.int (3 : Int32))])) _
      refine XS.icmpYes X0.here hx rfl (pc0 := 41) (pc' := 55) rfl (hb hby at_41) rfl (feq (by decide : ¬ ((3 : Int32) = (2 : Int32)))).2 (by decide) (by decide) ?_
      show Steps p.tables e below (s₁.setTop (mkF m 55 #[.val (.int p1), .val (.int (3 : Int32)), .unset, .unset, .unset] [])) _
      refine XS.iloadN X0.here hx rfl (hb hby at_55) rfl ?_
      show Steps p.tables e below (s₁.setTop (mkF m 56 #[.val (.int p1), .val (.int (3 : Int32)), .unset, .unset, .unset] [(.int (3 : Int32))])) _
      refine XS.iconst X0.here hx rfl (hb hby at_56) ?_
      show Steps p.tables e below (s₁.setTop (mkF m 57 #[.val (.int p1), .val (.int (3 : Int32)), .unset, .unset, .unset] [(.int (3 : Int32)), (.int (3 : Int32))])) _
      refine XS.icmpNo X0.here hx rfl (hb hby at_57) rfl (teq (by decide : (3 : Int32) = (3 : Int32))).2 ?_
      show Steps p.tables e below (s₁.setTop (mkF m 60 #[.val (.int p1), .val (.int (3 : Int32)), .unset, .unset, .unset] [])) _
      refine st15 _ ?_
      show Steps p.tables e below (T15.setTop (mkF m 63 #[.val (.int p1), .val (.int (3 : Int32)), .unset, .unset, .unset] [(.ref w_MAJORITY_PERMIT_EResolutionRule)])) _
      refine XS.astoreN X15.here hx rfl (hb hby at_63) rfl rfl (l' := #[.val (.int p1), .val (.int (3 : Int32)), .val (.ref w_MAJORITY_PERMIT_EResolutionRule), .unset, .unset]) rfl ?_
      show Steps p.tables e below (T15.setTop (mkF m 64 #[.val (.int p1), .val (.int (3 : Int32)), .val (.ref w_MAJORITY_PERMIT_EResolutionRule), .unset, .unset] [])) _
      refine st16 _ ?_
      show Steps p.tables e below (T16.setTop (mkF m 67 #[.val (.int p1), .val (.int (3 : Int32)), .val (.ref w_MAJORITY_PERMIT_EResolutionRule), .unset, .unset] [(.ref w_MAJORITY_PERMIT)])) _
      refine XS.astoreN X16.here hx rfl (hb hby at_67) rfl rfl (l' := #[.val (.int p1), .val (.int (3 : Int32)), .val (.ref w_MAJORITY_PERMIT_EResolutionRule), .val (.ref w_MAJORITY_PERMIT), .unset]) rfl ?_
      show Steps p.tables e below (T16.setTop (mkF m 68 #[.val (.int p1), .val (.int (3 : Int32)), .val (.ref w_MAJORITY_PERMIT_EResolutionRule), .val (.ref w_MAJORITY_PERMIT), .unset] [])) _
      refine XS.goto X16.here hx rfl (pc0 := 68) (pc' := 95) rfl (hb hby at_68) (by decide) (by decide) ?_
      show Steps p.tables e below (T16.setTop (mkF m 95 #[.val (.int p1), .val (.int (3 : Int32)), .val (.ref w_MAJORITY_PERMIT_EResolutionRule), .val (.ref w_MAJORITY_PERMIT), .unset] [])) _
      refine XS.aloadN X16.here hx rfl (hb hby at_95) rfl rfl ?_
      show Steps p.tables e below (T16.setTop (mkF m 96 #[.val (.int p1), .val (.int (3 : Int32)), .val (.ref w_MAJORITY_PERMIT_EResolutionRule), .val (.ref w_MAJORITY_PERMIT), .unset] [(.ref w_MAJORITY_PERMIT_EResolutionRule)])) _
      refine st17 _ ?_
      show Steps p.tables e below (T17.setTop (mkF m 99 #[.val (.int p1), .val (.int (3 : Int32)), .val (.ref w_MAJORITY_PERMIT_EResolutionRule), .val (.ref w_MAJORITY_PERMIT), .unset] [(.ref w_MAJORITY_PERMIT)])) _
      refine XS.astore X17.here hx rfl (hb hby at_99) rfl rfl (l' := #[.val (.int p1), .val (.int (3 : Int32)), .val (.ref w_MAJORITY_PERMIT_EResolutionRule), .val (.ref w_MAJORITY_PERMIT), .val (.ref w_MAJORITY_PERMIT)]) rfl ?_
      show Steps p.tables e below (T17.setTop (mkF m 101 #[.val (.int p1), .val (.int (3 : Int32)), .val (.ref w_MAJORITY_PERMIT_EResolutionRule), .val (.ref w_MAJORITY_PERMIT), .val (.ref w_MAJORITY_PERMIT)] [])) _
      refine XS.aload X17.here hx rfl (hb hby at_101) rfl rfl ?_
      show Steps p.tables e below (T17.setTop (mkF m 103 #[.val (.int p1), .val (.int (3 : Int32)), .val (.ref w_MAJORITY_PERMIT_EResolutionRule), .val (.ref w_MAJORITY_PERMIT), .val (.ref w_MAJORITY_PERMIT)] [(.ref w_MAJORITY_PERMIT)])) _
      refine XS.aloadN X17.here hx rfl (hb hby at_103) rfl rfl ?_
      show Steps p.tables e below (T17.setTop (mkF m 104 #[.val (.int p1), .val (.int (3 : Int32)), .val (.ref w_MAJORITY_PERMIT_EResolutionRule), .val (.ref w_MAJORITY_PERMIT), .val (.ref w_MAJORITY_PERMIT)] [(.ref w_MAJORITY_PERMIT), (.ref w_MAJORITY_PERMIT)])) _
      refine Jvm.RoadKit.acmp (g := (mkF m 104 #[.val (.int p1), .val (.int (3 : Int32)), .val (.ref w_MAJORITY_PERMIT_EResolutionRule), .val (.ref w_MAJORITY_PERMIT), .val (.ref w_MAJORITY_PERMIT)] [(.ref w_MAJORITY_PERMIT), (.ref w_MAJORITY_PERMIT)])) X17 hx rfl rfl rfl (pc0 := 104) (pc' := 107) (same := true) rfl (hb hby at_104) rfl (decide_eq_true (congrArg Value.ref (rfl : w_MAJORITY_PERMIT = w_MAJORITY_PERMIT))) (by decide) (by decide) ?_
      show Steps p.tables e below (T17.setTop (mkF m 107 #[.val (.int p1), .val (.int (3 : Int32)), .val (.ref w_MAJORITY_PERMIT_EResolutionRule), .val (.ref w_MAJORITY_PERMIT), .val (.ref w_MAJORITY_PERMIT)] [])) _
      refine XS.aload X17.here hx rfl (hb hby at_107) rfl rfl ?_
      show Steps p.tables e below (T17.setTop (mkF m 109 #[.val (.int p1), .val (.int (3 : Int32)), .val (.ref w_MAJORITY_PERMIT_EResolutionRule), .val (.ref w_MAJORITY_PERMIT), .val (.ref w_MAJORITY_PERMIT)] [(.ref w_MAJORITY_PERMIT)])) _
      refine st18.trans ?_
      show Steps p.tables e below (T18.setTop (mkF m 112 #[.val (.int p1), .val (.int (3 : Int32)), .val (.ref w_MAJORITY_PERMIT_EResolutionRule), .val (.ref w_MAJORITY_PERMIT), .val (.ref w_MAJORITY_PERMIT)] [(.ref w_MAJORITY_PERMIT_EResolutionRule)])) _
      refine XS.aloadN X18.here hx rfl (hb hby at_112) rfl rfl ?_
      show Steps p.tables e below (T18.setTop (mkF m 113 #[.val (.int p1), .val (.int (3 : Int32)), .val (.ref w_MAJORITY_PERMIT_EResolutionRule), .val (.ref w_MAJORITY_PERMIT), .val (.ref w_MAJORITY_PERMIT)] [(.ref w_MAJORITY_PERMIT_EResolutionRule), (.ref w_MAJORITY_PERMIT_EResolutionRule)])) _
      refine Jvm.RoadKit.acmp (g := (mkF m 113 #[.val (.int p1), .val (.int (3 : Int32)), .val (.ref w_MAJORITY_PERMIT_EResolutionRule), .val (.ref w_MAJORITY_PERMIT), .val (.ref w_MAJORITY_PERMIT)] [(.ref w_MAJORITY_PERMIT_EResolutionRule), (.ref w_MAJORITY_PERMIT_EResolutionRule)])) X18 hx rfl rfl rfl (pc0 := 113) (pc' := 116) (same := true) rfl (hb hby at_113) rfl (decide_eq_true (congrArg Value.ref (rfl : w_MAJORITY_PERMIT_EResolutionRule = w_MAJORITY_PERMIT_EResolutionRule))) (by decide) (by decide) ?_
      show Steps p.tables e below (T18.setTop (mkF m 116 #[.val (.int p1), .val (.int (3 : Int32)), .val (.ref w_MAJORITY_PERMIT_EResolutionRule), .val (.ref w_MAJORITY_PERMIT), .val (.ref w_MAJORITY_PERMIT)] [])) _
      refine XS.iconst X18.here hx rfl (hb hby at_116) ?_
      show Steps p.tables e below (T18.setTop (mkF m 117 #[.val (.int p1), .val (.int (3 : Int32)), .val (.ref w_MAJORITY_PERMIT_EResolutionRule), .val (.ref w_MAJORITY_PERMIT), .val (.ref w_MAJORITY_PERMIT)] [(.int (1 : Int32))])) _
      refine XS.goto X18.here hx rfl (pc0 := 117) (pc' := 121) rfl (hb hby at_117) (by decide) (by decide) ?_
      show Steps p.tables e below (T18.setTop (mkF m 121 #[.val (.int p1), .val (.int (3 : Int32)), .val (.ref w_MAJORITY_PERMIT_EResolutionRule), .val (.ref w_MAJORITY_PERMIT), .val (.ref w_MAJORITY_PERMIT)] [(.int (1 : Int32))])) _
      exact retN X18 hx (t := .boolean) Bd.returns (by simp) (hb hby at_121) hr
    · show Q_rm0 Z p1 w_WEIGHTED w_WEIGHTED_EReason w_SVALUES w_CONTROLLER w_OWNER_OVERRIDES w_FULL_CONSENSUS_PERMIT w_MAJORITY_PERMIT w_STRONG_MAJORITY_PERMIT w_SUPER_MAJORITY_PERMIT w_SOURCE w_RESHARE_REFUSED w_UNNAMED w_NOT_VIEWER w_NO_THRESHOLD w_MAJORITY_PERMIT_EResolutionRule w_OWNER_OVERRIDES_EResolutionRule w_FULL_CONSENSUS_PERMIT_EResolutionRule w_SUPER_MAJORITY_PERMIT_EResolutionRule w_STRONG_MAJORITY_PERMIT_EResolutionRule kV h0 n0 _ T18.heap _
      rw [eq18]
      exact ⟨rfl, N18⟩
  · rw [hv2] at pre1
    obtain ⟨T19, X19, e19, st19⟩ := getS2 X0 hx hZ hown (host := "") (Or.inl (hw _ (List.mem_of_getElem? (i := 56) rfl))) Via.refl e0 (S_w_STRONG_MAJORITY_PERMIT_EResolutionRule.ext O0.2) (g := (mkF m 76 #[.val (.int p1), .val (.int (4 : Int32)), .unset, .unset, .unset] [])) rfl (hb hby at_76)
    obtain ⟨T20, X20, e20, st20⟩ := getS2 X19 hx hZ hown (host := "") (Or.inl (hw _ (List.mem_of_getElem? (i := 57) rfl))) Via.refl e19 (S_w_STRONG_MAJORITY_PERMIT.ext O0.2) (g := (mkF m 80 #[.val (.int p1), .val (.int (4 : Int32)), .val (.ref w_STRONG_MAJORITY_PERMIT_EResolutionRule), .unset, .unset] [])) rfl (hb hby at_80)
    obtain ⟨_, _, ⟨T21, L21, k21, n21⟩, -, X21, ⟨Lc21, hQ21, l21, y21, z21⟩, st21⟩ := Jvm.LawKit.callS X20 hx (y := (⟨"com/example/kindred_consent/kindredconsent/engine/EReason", "forRule", "(Lcom/example/kindred_consent/kindredconsent/model/EResolutionRule;)Lcom/example/kindred_consent/kindredconsent/engine/EReason;"⟩ : MethodName)) hown (mvT hZ (hw _ (List.mem_of_getElem? (i := 7) rfl))) (mvT hZ (hw _ (List.mem_of_getElem? (i := 8) rfl))) (mvT hZ (hw _ (List.mem_of_getElem? (i := 5) rfl))) (mvT hZ (hw _ (List.mem_of_getElem? (i := 9) rfl))) (by decide) (backOf (W := 0) (fr_STRONG_MAJORITY_PERMIT l Z a0 hw [] w_WEIGHTED w_WEIGHTED_EReason w_SVALUES w_CONTROLLER w_OWNER_OVERRIDES w_FULL_CONSENSUS_PERMIT w_MAJORITY_PERMIT w_STRONG_MAJORITY_PERMIT w_SUPER_MAJORITY_PERMIT w_SOURCE w_RESHARE_REFUSED w_UNNAMED w_NOT_VIEWER w_NO_THRESHOLD w_MAJORITY_PERMIT_EResolutionRule w_OWNER_OVERRIDES_EResolutionRule w_FULL_CONSENSUS_PERMIT_EResolutionRule w_SUPER_MAJORITY_PERMIT_EResolutionRule w_STRONG_MAJORITY_PERMIT_EResolutionRule kV h0 n0 O0 hE) hZ (hw _ (List.mem_of_getElem? (i := 9) rfl)) (hw _ (List.mem_of_getElem? (i := 5) rfl)) (by decide) (by decide)) (g := (mkF m 96 #[.val (.int p1), .val (.int (4 : Int32)), .val (.ref w_STRONG_MAJORITY_PERMIT_EResolutionRule), .val (.ref w_STRONG_MAJORITY_PERMIT), .unset] [(.ref w_STRONG_MAJORITY_PERMIT_EResolutionRule)])) rfl (by rw [hml]; rfl) (argsL := [(.ref w_STRONG_MAJORITY_PERMIT_EResolutionRule)]) (rest := []) (lenOf pd__Lcom_example_kindred_consent_kindredconsent_model_EResolutionRule__Lcom_example_kindred_consent_kindredconsent_engine_EReason_ rfl) rfl (by show 2 * 0 + _ ≤ _; exact Nat.le_of_eq rfl) (hb hby at_96) (fun _ _ => ⟨rfl, e20, (by decide : 0 + 1 ≤ _), (by decide : 0 + 12 ≤ _)⟩)
    dsimp only [Pt.U, Pt.locs, Pt.cells, Pt.slots] at X21 l21 y21 z21 st21 hQ21
    subst l21 y21 z21
    obtain ⟨rfl, Nq21, Kq21⟩ := hQ21
    have N21 := Fr.app N0 Nq21
    have O21 := O0.keep Kq21 all0
    obtain ⟨cq22, kq22, q22a, q22b, q22c⟩ := isOf hZ rfl (E_w_STRONG_MAJORITY_PERMIT.ext O21.2)
    obtain ⟨_, _, ⟨T22, L22, k22, n22⟩, -, X22, ⟨Lc22, hQ22, l22, y22, z22⟩, st22⟩ := X21.virtualBack hx (y := (⟨"com/example/kindred_consent/kindredconsent/engine/EReason", "getRule", "()Lcom/example/kindred_consent/kindredconsent/model/EResolutionRule;"⟩ : MethodName)) (z := (⟨"com/example/kindred_consent/kindredconsent/engine/EReason", "getRule", "()Lcom/example/kindred_consent/kindredconsent/model/EResolutionRule;"⟩ : MethodName)) hown (mvT hZ (hw _ (List.mem_of_getElem? (i := 38) rfl))) (mvT hZ (hw _ (List.mem_of_getElem? (i := 39) rfl))) (notFace_of_selects (args := #[]) (mvT hZ (hw _ (List.mem_of_getElem? (i := 41) rfl)))) (mvT hZ (hw _ (List.mem_of_getElem? (i := 41) rfl))) (mvT hZ (hw _ (List.mem_of_getElem? (i := 40) rfl))) (by decide) (backOf (W := 0) (gr_STRONG_MAJORITY_PERMIT l Z a0 hw [] w_WEIGHTED w_WEIGHTED_EReason w_SVALUES w_CONTROLLER w_OWNER_OVERRIDES w_FULL_CONSENSUS_PERMIT w_MAJORITY_PERMIT w_STRONG_MAJORITY_PERMIT w_SUPER_MAJORITY_PERMIT w_SOURCE w_RESHARE_REFUSED w_UNNAMED w_NOT_VIEWER w_NO_THRESHOLD w_MAJORITY_PERMIT_EResolutionRule w_OWNER_OVERRIDES_EResolutionRule w_FULL_CONSENSUS_PERMIT_EResolutionRule w_SUPER_MAJORITY_PERMIT_EResolutionRule w_STRONG_MAJORITY_PERMIT_EResolutionRule kV T21.heap n0 O21 hE) hZ (hw _ (List.mem_of_getElem? (i := 42) rfl)) (hw _ (List.mem_of_getElem? (i := 5) rfl)) (by decide) (by decide)) q22a q22c (g := (mkF m 109 #[.val (.int p1), .val (.int (4 : Int32)), .val (.ref w_STRONG_MAJORITY_PERMIT_EResolutionRule), .val (.ref w_STRONG_MAJORITY_PERMIT), .val (.ref w_STRONG_MAJORITY_PERMIT)] [(.ref w_STRONG_MAJORITY_PERMIT)])) rfl (by rw [hml]; rfl) (Steps.refl _) (argsL := []) (rest := []) (lenOf pd___Lcom_example_kindred_consent_kindredconsent_model_EResolutionRule_ rfl) rfl (by show 2 * 0 + _ ≤ _; exact Nat.le_of_eq rfl) (hb hby at_109) (fun _ _ => ⟨rfl, rfl, (by decide : 1 + 0 ≤ _), (by decide : 12 + 0 ≤ _)⟩)
    dsimp only [Pt.U, Pt.locs, Pt.cells, Pt.slots] at X22 l22 y22 z22 st22 hQ22
    subst l22 y22 z22
    obtain ⟨rfl, Nq22, eq22⟩ := hQ22
    have N22 := Fr.app N21 Nq22
    obtain ⟨fs, hr, hrun, hended, hW, hsame⟩ := X22.leave (v := some (.int (1 : Int32))) (fun h => by rw [Bd.returns] at h; cases h)
    refine ⟨_, _, pre1 _ ?_, hrun, hended, _, _, rfl, ?_, ⟨_, rfl⟩, hW, hsame.mono (by decide) (by decide)⟩
    · show Steps p.tables e below (s₁.setTop (mkF m 8 #[.val (.int p1), .val (.int (4 : Int32)), .unset, .unset, .unset] [])) _
      refine XS.iloadN X0.here hx rfl (hb hby at_8) rfl ?_
      show Steps p.tables e below (s₁.setTop (mkF m 9 #[.val (.int p1), .val (.int (4 : Int32)), .unset, .unset, .unset] [(.int (4 : Int32))])) _
      refine XS.ifYes X0.here hx rfl (pc0 := 9) (pc' := 23) rfl (hb hby at_9) rfl ((if0 _ _).trans (feq (by decide : ¬ ((4 : Int32) = (0 : Int32)))).2) (by decide) (by decide) ?_
      show Steps p.tables e below (s₁.setTop (mkF m 23 #[.val (.int p1), .val (.int (4 : Int32)), .unset, .unset, .unset] [])) _
      refine XS.iloadN X0.here hx rfl (hb hby at_23) rfl ?_
      show Steps p.tables e below (s₁.setTop (mkF m 24 #[.val (.int p1), .val (.int (4 : Int32)), .unset, .unset, .unset] [(.int (4 : Int32))])) _
      refine XS.iconst X0.here hx rfl (hb hby at_24) ?_
      show Steps p.tables e below (s₁.setTop (mkF m 25 #[.val (.int p1), .val (.int (4 : Int32)), .unset, .unset, .unset] [(.int (1 : Int32)), (.int (4 : Int32))])) _
      refine XS.icmpYes X0.here hx rfl (pc0 := 25) (pc' := 39) rfl (hb hby at_25) rfl (feq (by decide : ¬ ((4 : Int32) = (1 : Int32)))).2 (by decide) (by decide) ?_
      show Steps p.tables e below (s₁.setTop (mkF m 39 #[.val (.int p1), .val (.int (4 : Int32)), .unset, .unset, .unset] [])) _
      refine XS.iloadN X0.here hx rfl (hb hby at_39) rfl ?_
      show Steps p.tables e below (s₁.setTop (mkF m 40 #[.val (.int p1), .val (.int (4 : Int32)), .unset, .unset, .unset] [(.int (4 : Int32))])) _
      refine XS.iconst X0.here hx rfl (hb hby at_40) ?_
      show Steps p.tables e below (s₁.setTop (mkF m 41 #[.val (.int p1), .val (.int (4 : Int32)), .unset, .unset, .unset] [(.int (2 : Int32)), (.int (4 : Int32))])) _
      refine XS.icmpYes X0.here hx rfl (pc0 := 41) (pc' := 55) rfl (hb hby at_41) rfl (feq (by decide : ¬ ((4 : Int32) = (2 : Int32)))).2 (by decide) (by decide) ?_
      show Steps p.tables e below (s₁.setTop (mkF m 55 #[.val (.int p1), .val (.int (4 : Int32)), .unset, .unset, .unset] [])) _
      refine XS.iloadN X0.here hx rfl (hb hby at_55) rfl ?_
      show Steps p.tables e below (s₁.setTop (mkF m 56 #[.val (.int p1), .val (.int (4 : Int32)), .unset, .unset, .unset] [(.int (4 : Int32))])) _
      refine XS.iconst X0.here hx rfl (hb hby at_56) ?_
      show Steps p.tables e below (s₁.setTop (mkF m 57 #[.val (.int p1), .val (.int (4 : Int32)), .unset, .unset, .unset] [(.int (3 : Int32)), (.int (4 : Int32))])) _
      refine XS.icmpYes X0.here hx rfl (pc0 := 57) (pc' := 71) rfl (hb hby at_57) rfl (feq (by decide : ¬ ((4 : Int32) = (3 : Int32)))).2 (by decide) (by decide) ?_
      show Steps p.tables e below (s₁.setTop (mkF m 71 #[.val (.int p1), .val (.int (4 : Int32)), .unset, .unset, .unset] [])) _
      refine XS.iloadN X0.here hx rfl (hb hby at_71) rfl ?_
      show Steps p.tables e below (s₁.setTop (mkF m 72 #[.val (.int p1), .val (.int (4 : Int32)), .unset, .unset, .unset] [(.int (4 : Int32))])) _
      refine XS.iconst X0.here hx rfl (hb hby at_72) ?_
      show Steps p.tables e below (s₁.setTop (mkF m 73 #[.val (.int p1), .val (.int (4 : Int32)), .unset, .unset, .unset] [(.int (4 : Int32)), (.int (4 : Int32))])) _
      refine XS.icmpNo X0.here hx rfl (hb hby at_73) rfl (teq (by decide : (4 : Int32) = (4 : Int32))).2 ?_
      show Steps p.tables e below (s₁.setTop (mkF m 76 #[.val (.int p1), .val (.int (4 : Int32)), .unset, .unset, .unset] [])) _
      refine st19 _ ?_
      show Steps p.tables e below (T19.setTop (mkF m 79 #[.val (.int p1), .val (.int (4 : Int32)), .unset, .unset, .unset] [(.ref w_STRONG_MAJORITY_PERMIT_EResolutionRule)])) _
      refine XS.astoreN X19.here hx rfl (hb hby at_79) rfl rfl (l' := #[.val (.int p1), .val (.int (4 : Int32)), .val (.ref w_STRONG_MAJORITY_PERMIT_EResolutionRule), .unset, .unset]) rfl ?_
      show Steps p.tables e below (T19.setTop (mkF m 80 #[.val (.int p1), .val (.int (4 : Int32)), .val (.ref w_STRONG_MAJORITY_PERMIT_EResolutionRule), .unset, .unset] [])) _
      refine st20 _ ?_
      show Steps p.tables e below (T20.setTop (mkF m 83 #[.val (.int p1), .val (.int (4 : Int32)), .val (.ref w_STRONG_MAJORITY_PERMIT_EResolutionRule), .unset, .unset] [(.ref w_STRONG_MAJORITY_PERMIT)])) _
      refine XS.astoreN X20.here hx rfl (hb hby at_83) rfl rfl (l' := #[.val (.int p1), .val (.int (4 : Int32)), .val (.ref w_STRONG_MAJORITY_PERMIT_EResolutionRule), .val (.ref w_STRONG_MAJORITY_PERMIT), .unset]) rfl ?_
      show Steps p.tables e below (T20.setTop (mkF m 84 #[.val (.int p1), .val (.int (4 : Int32)), .val (.ref w_STRONG_MAJORITY_PERMIT_EResolutionRule), .val (.ref w_STRONG_MAJORITY_PERMIT), .unset] [])) _
      refine XS.goto X20.here hx rfl (pc0 := 84) (pc' := 95) rfl (hb hby at_84) (by decide) (by decide) ?_
      show Steps p.tables e below (T20.setTop (mkF m 95 #[.val (.int p1), .val (.int (4 : Int32)), .val (.ref w_STRONG_MAJORITY_PERMIT_EResolutionRule), .val (.ref w_STRONG_MAJORITY_PERMIT), .unset] [])) _
      refine XS.aloadN X20.here hx rfl (hb hby at_95) rfl rfl ?_
      show Steps p.tables e below (T20.setTop (mkF m 96 #[.val (.int p1), .val (.int (4 : Int32)), .val (.ref w_STRONG_MAJORITY_PERMIT_EResolutionRule), .val (.ref w_STRONG_MAJORITY_PERMIT), .unset] [(.ref w_STRONG_MAJORITY_PERMIT_EResolutionRule)])) _
      refine st21 _ ?_
      show Steps p.tables e below (T21.setTop (mkF m 99 #[.val (.int p1), .val (.int (4 : Int32)), .val (.ref w_STRONG_MAJORITY_PERMIT_EResolutionRule), .val (.ref w_STRONG_MAJORITY_PERMIT), .unset] [(.ref w_STRONG_MAJORITY_PERMIT)])) _
      refine XS.astore X21.here hx rfl (hb hby at_99) rfl rfl (l' := #[.val (.int p1), .val (.int (4 : Int32)), .val (.ref w_STRONG_MAJORITY_PERMIT_EResolutionRule), .val (.ref w_STRONG_MAJORITY_PERMIT), .val (.ref w_STRONG_MAJORITY_PERMIT)]) rfl ?_
      show Steps p.tables e below (T21.setTop (mkF m 101 #[.val (.int p1), .val (.int (4 : Int32)), .val (.ref w_STRONG_MAJORITY_PERMIT_EResolutionRule), .val (.ref w_STRONG_MAJORITY_PERMIT), .val (.ref w_STRONG_MAJORITY_PERMIT)] [])) _
      refine XS.aload X21.here hx rfl (hb hby at_101) rfl rfl ?_
      show Steps p.tables e below (T21.setTop (mkF m 103 #[.val (.int p1), .val (.int (4 : Int32)), .val (.ref w_STRONG_MAJORITY_PERMIT_EResolutionRule), .val (.ref w_STRONG_MAJORITY_PERMIT), .val (.ref w_STRONG_MAJORITY_PERMIT)] [(.ref w_STRONG_MAJORITY_PERMIT)])) _
      refine XS.aloadN X21.here hx rfl (hb hby at_103) rfl rfl ?_
      show Steps p.tables e below (T21.setTop (mkF m 104 #[.val (.int p1), .val (.int (4 : Int32)), .val (.ref w_STRONG_MAJORITY_PERMIT_EResolutionRule), .val (.ref w_STRONG_MAJORITY_PERMIT), .val (.ref w_STRONG_MAJORITY_PERMIT)] [(.ref w_STRONG_MAJORITY_PERMIT), (.ref w_STRONG_MAJORITY_PERMIT)])) _
      refine Jvm.RoadKit.acmp (g := (mkF m 104 #[.val (.int p1), .val (.int (4 : Int32)), .val (.ref w_STRONG_MAJORITY_PERMIT_EResolutionRule), .val (.ref w_STRONG_MAJORITY_PERMIT), .val (.ref w_STRONG_MAJORITY_PERMIT)] [(.ref w_STRONG_MAJORITY_PERMIT), (.ref w_STRONG_MAJORITY_PERMIT)])) X21 hx rfl rfl rfl (pc0 := 104) (pc' := 107) (same := true) rfl (hb hby at_104) rfl (decide_eq_true (congrArg Value.ref (rfl : w_STRONG_MAJORITY_PERMIT = w_STRONG_MAJORITY_PERMIT))) (by decide) (by decide) ?_
      show Steps p.tables e below (T21.setTop (mkF m 107 #[.val (.int p1), .val (.int (4 : Int32)), .val (.ref w_STRONG_MAJORITY_PERMIT_EResolutionRule), .val (.ref w_STRONG_MAJORITY_PERMIT), .val (.ref w_STRONG_MAJORITY_PERMIT)] [])) _
      refine XS.aload X21.here hx rfl (hb hby at_107) rfl rfl ?_
      show Steps p.tables e below (T21.setTop (mkF m 109 #[.val (.int p1), .val (.int (4 : Int32)), .val (.ref w_STRONG_MAJORITY_PERMIT_EResolutionRule), .val (.ref w_STRONG_MAJORITY_PERMIT), .val (.ref w_STRONG_MAJORITY_PERMIT)] [(.ref w_STRONG_MAJORITY_PERMIT)])) _
      refine st22.trans ?_
      show Steps p.tables e below (T22.setTop (mkF m 112 #[.val (.int p1), .val (.int (4 : Int32)), .val (.ref w_STRONG_MAJORITY_PERMIT_EResolutionRule), .val (.ref w_STRONG_MAJORITY_PERMIT), .val (.ref w_STRONG_MAJORITY_PERMIT)] [(.ref w_STRONG_MAJORITY_PERMIT_EResolutionRule)])) _
      refine XS.aloadN X22.here hx rfl (hb hby at_112) rfl rfl ?_
      show Steps p.tables e below (T22.setTop (mkF m 113 #[.val (.int p1), .val (.int (4 : Int32)), .val (.ref w_STRONG_MAJORITY_PERMIT_EResolutionRule), .val (.ref w_STRONG_MAJORITY_PERMIT), .val (.ref w_STRONG_MAJORITY_PERMIT)] [(.ref w_STRONG_MAJORITY_PERMIT_EResolutionRule), (.ref w_STRONG_MAJORITY_PERMIT_EResolutionRule)])) _
      refine Jvm.RoadKit.acmp (g := (mkF m 113 #[.val (.int p1), .val (.int (4 : Int32)), .val (.ref w_STRONG_MAJORITY_PERMIT_EResolutionRule), .val (.ref w_STRONG_MAJORITY_PERMIT), .val (.ref w_STRONG_MAJORITY_PERMIT)] [(.ref w_STRONG_MAJORITY_PERMIT_EResolutionRule), (.ref w_STRONG_MAJORITY_PERMIT_EResolutionRule)])) X22 hx rfl rfl rfl (pc0 := 113) (pc' := 116) (same := true) rfl (hb hby at_113) rfl (decide_eq_true (congrArg Value.ref (rfl : w_STRONG_MAJORITY_PERMIT_EResolutionRule = w_STRONG_MAJORITY_PERMIT_EResolutionRule))) (by decide) (by decide) ?_
      show Steps p.tables e below (T22.setTop (mkF m 116 #[.val (.int p1), .val (.int (4 : Int32)), .val (.ref w_STRONG_MAJORITY_PERMIT_EResolutionRule), .val (.ref w_STRONG_MAJORITY_PERMIT), .val (.ref w_STRONG_MAJORITY_PERMIT)] [])) _
      refine XS.iconst X22.here hx rfl (hb hby at_116) ?_
      show Steps p.tables e below (T22.setTop (mkF m 117 #[.val (.int p1), .val (.int (4 : Int32)), .val (.ref w_STRONG_MAJORITY_PERMIT_EResolutionRule), .val (.ref w_STRONG_MAJORITY_PERMIT), .val (.ref w_STRONG_MAJORITY_PERMIT)] [(.int (1 : Int32))])) _
      refine XS.goto X22.here hx rfl (pc0 := 117) (pc' := 121) rfl (hb hby at_117) (by decide) (by decide) ?_
      show Steps p.tables e below (T22.setTop (mkF m 121 #[.val (.int p1), .val (.int (4 : Int32)), .val (.ref w_STRONG_MAJORITY_PERMIT_EResolutionRule), .val (.ref w_STRONG_MAJORITY_PERMIT), .val (.ref w_STRONG_MAJORITY_PERMIT)] [(.int (1 : Int32))])) _
      exact retN X22 hx (t := .boolean) Bd.returns (by simp) (hb hby at_121) hr
    · show Q_rm0 Z p1 w_WEIGHTED w_WEIGHTED_EReason w_SVALUES w_CONTROLLER w_OWNER_OVERRIDES w_FULL_CONSENSUS_PERMIT w_MAJORITY_PERMIT w_STRONG_MAJORITY_PERMIT w_SUPER_MAJORITY_PERMIT w_SOURCE w_RESHARE_REFUSED w_UNNAMED w_NOT_VIEWER w_NO_THRESHOLD w_MAJORITY_PERMIT_EResolutionRule w_OWNER_OVERRIDES_EResolutionRule w_FULL_CONSENSUS_PERMIT_EResolutionRule w_SUPER_MAJORITY_PERMIT_EResolutionRule w_STRONG_MAJORITY_PERMIT_EResolutionRule kV h0 n0 _ T22.heap _
      rw [eq22]
      exact ⟨rfl, N22⟩
  · rw [hv2] at pre1
    obtain ⟨T23, X23, e23, st23⟩ := getS2 X0 hx hZ hown (host := "") (Or.inl (hw _ (List.mem_of_getElem? (i := 52) rfl))) Via.refl e0 (S_w_SUPER_MAJORITY_PERMIT_EResolutionRule.ext O0.2) (g := (mkF m 87 #[.val (.int p1), .val (.int (5 : Int32)), .unset, .unset, .unset] [])) rfl (hb hby at_87)
    obtain ⟨T24, X24, e24, st24⟩ := getS2 X23 hx hZ hown (host := "") (Or.inl (hw _ (List.mem_of_getElem? (i := 54) rfl))) Via.refl e23 (S_w_SUPER_MAJORITY_PERMIT.ext O0.2) (g := (mkF m 91 #[.val (.int p1), .val (.int (5 : Int32)), .val (.ref w_SUPER_MAJORITY_PERMIT_EResolutionRule), .unset, .unset] [])) rfl (hb hby at_91)
    obtain ⟨_, _, ⟨T25, L25, k25, n25⟩, -, X25, ⟨Lc25, hQ25, l25, y25, z25⟩, st25⟩ := Jvm.LawKit.callS X24 hx (y := (⟨"com/example/kindred_consent/kindredconsent/engine/EReason", "forRule", "(Lcom/example/kindred_consent/kindredconsent/model/EResolutionRule;)Lcom/example/kindred_consent/kindredconsent/engine/EReason;"⟩ : MethodName)) hown (mvT hZ (hw _ (List.mem_of_getElem? (i := 7) rfl))) (mvT hZ (hw _ (List.mem_of_getElem? (i := 8) rfl))) (mvT hZ (hw _ (List.mem_of_getElem? (i := 5) rfl))) (mvT hZ (hw _ (List.mem_of_getElem? (i := 9) rfl))) (by decide) (backOf (W := 0) (fr_SUPER_MAJORITY_PERMIT l Z a0 hw [] w_WEIGHTED w_WEIGHTED_EReason w_SVALUES w_CONTROLLER w_OWNER_OVERRIDES w_FULL_CONSENSUS_PERMIT w_MAJORITY_PERMIT w_STRONG_MAJORITY_PERMIT w_SUPER_MAJORITY_PERMIT w_SOURCE w_RESHARE_REFUSED w_UNNAMED w_NOT_VIEWER w_NO_THRESHOLD w_MAJORITY_PERMIT_EResolutionRule w_OWNER_OVERRIDES_EResolutionRule w_FULL_CONSENSUS_PERMIT_EResolutionRule w_SUPER_MAJORITY_PERMIT_EResolutionRule w_STRONG_MAJORITY_PERMIT_EResolutionRule kV h0 n0 O0 hE) hZ (hw _ (List.mem_of_getElem? (i := 9) rfl)) (hw _ (List.mem_of_getElem? (i := 5) rfl)) (by decide) (by decide)) (g := (mkF m 96 #[.val (.int p1), .val (.int (5 : Int32)), .val (.ref w_SUPER_MAJORITY_PERMIT_EResolutionRule), .val (.ref w_SUPER_MAJORITY_PERMIT), .unset] [(.ref w_SUPER_MAJORITY_PERMIT_EResolutionRule)])) rfl (by rw [hml]; rfl) (argsL := [(.ref w_SUPER_MAJORITY_PERMIT_EResolutionRule)]) (rest := []) (lenOf pd__Lcom_example_kindred_consent_kindredconsent_model_EResolutionRule__Lcom_example_kindred_consent_kindredconsent_engine_EReason_ rfl) rfl (by show 2 * 0 + _ ≤ _; exact Nat.le_of_eq rfl) (hb hby at_96) (fun _ _ => ⟨rfl, e24, (by decide : 0 + 1 ≤ _), (by decide : 0 + 12 ≤ _)⟩)
    dsimp only [Pt.U, Pt.locs, Pt.cells, Pt.slots] at X25 l25 y25 z25 st25 hQ25
    subst l25 y25 z25
    obtain ⟨rfl, Nq25, Kq25⟩ := hQ25
    have N25 := Fr.app N0 Nq25
    have O25 := O0.keep Kq25 all0
    obtain ⟨cq26, kq26, q26a, q26b, q26c⟩ := isOf hZ rfl (E_w_SUPER_MAJORITY_PERMIT.ext O25.2)
    obtain ⟨_, _, ⟨T26, L26, k26, n26⟩, -, X26, ⟨Lc26, hQ26, l26, y26, z26⟩, st26⟩ := X25.virtualBack hx (y := (⟨"com/example/kindred_consent/kindredconsent/engine/EReason", "getRule", "()Lcom/example/kindred_consent/kindredconsent/model/EResolutionRule;"⟩ : MethodName)) (z := (⟨"com/example/kindred_consent/kindredconsent/engine/EReason", "getRule", "()Lcom/example/kindred_consent/kindredconsent/model/EResolutionRule;"⟩ : MethodName)) hown (mvT hZ (hw _ (List.mem_of_getElem? (i := 38) rfl))) (mvT hZ (hw _ (List.mem_of_getElem? (i := 39) rfl))) (notFace_of_selects (args := #[]) (mvT hZ (hw _ (List.mem_of_getElem? (i := 41) rfl)))) (mvT hZ (hw _ (List.mem_of_getElem? (i := 41) rfl))) (mvT hZ (hw _ (List.mem_of_getElem? (i := 40) rfl))) (by decide) (backOf (W := 0) (gr_SUPER_MAJORITY_PERMIT l Z a0 hw [] w_WEIGHTED w_WEIGHTED_EReason w_SVALUES w_CONTROLLER w_OWNER_OVERRIDES w_FULL_CONSENSUS_PERMIT w_MAJORITY_PERMIT w_STRONG_MAJORITY_PERMIT w_SUPER_MAJORITY_PERMIT w_SOURCE w_RESHARE_REFUSED w_UNNAMED w_NOT_VIEWER w_NO_THRESHOLD w_MAJORITY_PERMIT_EResolutionRule w_OWNER_OVERRIDES_EResolutionRule w_FULL_CONSENSUS_PERMIT_EResolutionRule w_SUPER_MAJORITY_PERMIT_EResolutionRule w_STRONG_MAJORITY_PERMIT_EResolutionRule kV T25.heap n0 O25 hE) hZ (hw _ (List.mem_of_getElem? (i := 42) rfl)) (hw _ (List.mem_of_getElem? (i := 5) rfl)) (by decide) (by decide)) q26a q26c (g := (mkF m 109 #[.val (.int p1), .val (.int (5 : Int32)), .val (.ref w_SUPER_MAJORITY_PERMIT_EResolutionRule), .val (.ref w_SUPER_MAJORITY_PERMIT), .val (.ref w_SUPER_MAJORITY_PERMIT)] [(.ref w_SUPER_MAJORITY_PERMIT)])) rfl (by rw [hml]; rfl) (Steps.refl _) (argsL := []) (rest := []) (lenOf pd___Lcom_example_kindred_consent_kindredconsent_model_EResolutionRule_ rfl) rfl (by show 2 * 0 + _ ≤ _; exact Nat.le_of_eq rfl) (hb hby at_109) (fun _ _ => ⟨rfl, rfl, (by decide : 1 + 0 ≤ _), (by decide : 12 + 0 ≤ _)⟩)
    dsimp only [Pt.U, Pt.locs, Pt.cells, Pt.slots] at X26 l26 y26 z26 st26 hQ26
    subst l26 y26 z26
    obtain ⟨rfl, Nq26, eq26⟩ := hQ26
    have N26 := Fr.app N25 Nq26
    obtain ⟨fs, hr, hrun, hended, hW, hsame⟩ := X26.leave (v := some (.int (1 : Int32))) (fun h => by rw [Bd.returns] at h; cases h)
    refine ⟨_, _, pre1 _ ?_, hrun, hended, _, _, rfl, ?_, ⟨_, rfl⟩, hW, hsame.mono (by decide) (by decide)⟩
    · show Steps p.tables e below (s₁.setTop (mkF m 8 #[.val (.int p1), .val (.int (5 : Int32)), .unset, .unset, .unset] [])) _
      refine XS.iloadN X0.here hx rfl (hb hby at_8) rfl ?_
      show Steps p.tables e below (s₁.setTop (mkF m 9 #[.val (.int p1), .val (.int (5 : Int32)), .unset, .unset, .unset] [(.int (5 : Int32))])) _
      refine XS.ifYes X0.here hx rfl (pc0 := 9) (pc' := 23) rfl (hb hby at_9) rfl ((if0 _ _).trans (feq (by decide : ¬ ((5 : Int32) = (0 : Int32)))).2) (by decide) (by decide) ?_
      show Steps p.tables e below (s₁.setTop (mkF m 23 #[.val (.int p1), .val (.int (5 : Int32)), .unset, .unset, .unset] [])) _
      refine XS.iloadN X0.here hx rfl (hb hby at_23) rfl ?_
      show Steps p.tables e below (s₁.setTop (mkF m 24 #[.val (.int p1), .val (.int (5 : Int32)), .unset, .unset, .unset] [(.int (5 : Int32))])) _
      refine XS.iconst X0.here hx rfl (hb hby at_24) ?_
      show Steps p.tables e below (s₁.setTop (mkF m 25 #[.val (.int p1), .val (.int (5 : Int32)), .unset, .unset, .unset] [(.int (1 : Int32)), (.int (5 : Int32))])) _
      refine XS.icmpYes X0.here hx rfl (pc0 := 25) (pc' := 39) rfl (hb hby at_25) rfl (feq (by decide : ¬ ((5 : Int32) = (1 : Int32)))).2 (by decide) (by decide) ?_
      show Steps p.tables e below (s₁.setTop (mkF m 39 #[.val (.int p1), .val (.int (5 : Int32)), .unset, .unset, .unset] [])) _
      refine XS.iloadN X0.here hx rfl (hb hby at_39) rfl ?_
      show Steps p.tables e below (s₁.setTop (mkF m 40 #[.val (.int p1), .val (.int (5 : Int32)), .unset, .unset, .unset] [(.int (5 : Int32))])) _
      refine XS.iconst X0.here hx rfl (hb hby at_40) ?_
      show Steps p.tables e below (s₁.setTop (mkF m 41 #[.val (.int p1), .val (.int (5 : Int32)), .unset, .unset, .unset] [(.int (2 : Int32)), (.int (5 : Int32))])) _
      refine XS.icmpYes X0.here hx rfl (pc0 := 41) (pc' := 55) rfl (hb hby at_41) rfl (feq (by decide : ¬ ((5 : Int32) = (2 : Int32)))).2 (by decide) (by decide) ?_
      show Steps p.tables e below (s₁.setTop (mkF m 55 #[.val (.int p1), .val (.int (5 : Int32)), .unset, .unset, .unset] [])) _
      refine XS.iloadN X0.here hx rfl (hb hby at_55) rfl ?_
      show Steps p.tables e below (s₁.setTop (mkF m 56 #[.val (.int p1), .val (.int (5 : Int32)), .unset, .unset, .unset] [(.int (5 : Int32))])) _
      refine XS.iconst X0.here hx rfl (hb hby at_56) ?_
      show Steps p.tables e below (s₁.setTop (mkF m 57 #[.val (.int p1), .val (.int (5 : Int32)), .unset, .unset, .unset] [(.int (3 : Int32)), (.int (5 : Int32))])) _
      refine XS.icmpYes X0.here hx rfl (pc0 := 57) (pc' := 71) rfl (hb hby at_57) rfl (feq (by decide : ¬ ((5 : Int32) = (3 : Int32)))).2 (by decide) (by decide) ?_
      show Steps p.tables e below (s₁.setTop (mkF m 71 #[.val (.int p1), .val (.int (5 : Int32)), .unset, .unset, .unset] [])) _
      refine XS.iloadN X0.here hx rfl (hb hby at_71) rfl ?_
      show Steps p.tables e below (s₁.setTop (mkF m 72 #[.val (.int p1), .val (.int (5 : Int32)), .unset, .unset, .unset] [(.int (5 : Int32))])) _
      refine XS.iconst X0.here hx rfl (hb hby at_72) ?_
      show Steps p.tables e below (s₁.setTop (mkF m 73 #[.val (.int p1), .val (.int (5 : Int32)), .unset, .unset, .unset] [(.int (4 : Int32)), (.int (5 : Int32))])) _
      refine XS.icmpYes X0.here hx rfl (pc0 := 73) (pc' := 87) rfl (hb hby at_73) rfl (feq (by decide : ¬ ((5 : Int32) = (4 : Int32)))).2 (by decide) (by decide) ?_
      show Steps p.tables e below (s₁.setTop (mkF m 87 #[.val (.int p1), .val (.int (5 : Int32)), .unset, .unset, .unset] [])) _
      refine st23 _ ?_
      show Steps p.tables e below (T23.setTop (mkF m 90 #[.val (.int p1), .val (.int (5 : Int32)), .unset, .unset, .unset] [(.ref w_SUPER_MAJORITY_PERMIT_EResolutionRule)])) _
      refine XS.astoreN X23.here hx rfl (hb hby at_90) rfl rfl (l' := #[.val (.int p1), .val (.int (5 : Int32)), .val (.ref w_SUPER_MAJORITY_PERMIT_EResolutionRule), .unset, .unset]) rfl ?_
      show Steps p.tables e below (T23.setTop (mkF m 91 #[.val (.int p1), .val (.int (5 : Int32)), .val (.ref w_SUPER_MAJORITY_PERMIT_EResolutionRule), .unset, .unset] [])) _
      refine st24 _ ?_
      show Steps p.tables e below (T24.setTop (mkF m 94 #[.val (.int p1), .val (.int (5 : Int32)), .val (.ref w_SUPER_MAJORITY_PERMIT_EResolutionRule), .unset, .unset] [(.ref w_SUPER_MAJORITY_PERMIT)])) _
      refine XS.astoreN X24.here hx rfl (hb hby at_94) rfl rfl (l' := #[.val (.int p1), .val (.int (5 : Int32)), .val (.ref w_SUPER_MAJORITY_PERMIT_EResolutionRule), .val (.ref w_SUPER_MAJORITY_PERMIT), .unset]) rfl ?_
      show Steps p.tables e below (T24.setTop (mkF m 95 #[.val (.int p1), .val (.int (5 : Int32)), .val (.ref w_SUPER_MAJORITY_PERMIT_EResolutionRule), .val (.ref w_SUPER_MAJORITY_PERMIT), .unset] [])) _
      refine XS.aloadN X24.here hx rfl (hb hby at_95) rfl rfl ?_
      show Steps p.tables e below (T24.setTop (mkF m 96 #[.val (.int p1), .val (.int (5 : Int32)), .val (.ref w_SUPER_MAJORITY_PERMIT_EResolutionRule), .val (.ref w_SUPER_MAJORITY_PERMIT), .unset] [(.ref w_SUPER_MAJORITY_PERMIT_EResolutionRule)])) _
      refine st25 _ ?_
      show Steps p.tables e below (T25.setTop (mkF m 99 #[.val (.int p1), .val (.int (5 : Int32)), .val (.ref w_SUPER_MAJORITY_PERMIT_EResolutionRule), .val (.ref w_SUPER_MAJORITY_PERMIT), .unset] [(.ref w_SUPER_MAJORITY_PERMIT)])) _
      refine XS.astore X25.here hx rfl (hb hby at_99) rfl rfl (l' := #[.val (.int p1), .val (.int (5 : Int32)), .val (.ref w_SUPER_MAJORITY_PERMIT_EResolutionRule), .val (.ref w_SUPER_MAJORITY_PERMIT), .val (.ref w_SUPER_MAJORITY_PERMIT)]) rfl ?_
      show Steps p.tables e below (T25.setTop (mkF m 101 #[.val (.int p1), .val (.int (5 : Int32)), .val (.ref w_SUPER_MAJORITY_PERMIT_EResolutionRule), .val (.ref w_SUPER_MAJORITY_PERMIT), .val (.ref w_SUPER_MAJORITY_PERMIT)] [])) _
      refine XS.aload X25.here hx rfl (hb hby at_101) rfl rfl ?_
      show Steps p.tables e below (T25.setTop (mkF m 103 #[.val (.int p1), .val (.int (5 : Int32)), .val (.ref w_SUPER_MAJORITY_PERMIT_EResolutionRule), .val (.ref w_SUPER_MAJORITY_PERMIT), .val (.ref w_SUPER_MAJORITY_PERMIT)] [(.ref w_SUPER_MAJORITY_PERMIT)])) _
      refine XS.aloadN X25.here hx rfl (hb hby at_103) rfl rfl ?_
      show Steps p.tables e below (T25.setTop (mkF m 104 #[.val (.int p1), .val (.int (5 : Int32)), .val (.ref w_SUPER_MAJORITY_PERMIT_EResolutionRule), .val (.ref w_SUPER_MAJORITY_PERMIT), .val (.ref w_SUPER_MAJORITY_PERMIT)] [(.ref w_SUPER_MAJORITY_PERMIT), (.ref w_SUPER_MAJORITY_PERMIT)])) _
      refine Jvm.RoadKit.acmp (g := (mkF m 104 #[.val (.int p1), .val (.int (5 : Int32)), .val (.ref w_SUPER_MAJORITY_PERMIT_EResolutionRule), .val (.ref w_SUPER_MAJORITY_PERMIT), .val (.ref w_SUPER_MAJORITY_PERMIT)] [(.ref w_SUPER_MAJORITY_PERMIT), (.ref w_SUPER_MAJORITY_PERMIT)])) X25 hx rfl rfl rfl (pc0 := 104) (pc' := 107) (same := true) rfl (hb hby at_104) rfl (decide_eq_true (congrArg Value.ref (rfl : w_SUPER_MAJORITY_PERMIT = w_SUPER_MAJORITY_PERMIT))) (by decide) (by decide) ?_
      show Steps p.tables e below (T25.setTop (mkF m 107 #[.val (.int p1), .val (.int (5 : Int32)), .val (.ref w_SUPER_MAJORITY_PERMIT_EResolutionRule), .val (.ref w_SUPER_MAJORITY_PERMIT), .val (.ref w_SUPER_MAJORITY_PERMIT)] [])) _
      refine XS.aload X25.here hx rfl (hb hby at_107) rfl rfl ?_
      show Steps p.tables e below (T25.setTop (mkF m 109 #[.val (.int p1), .val (.int (5 : Int32)), .val (.ref w_SUPER_MAJORITY_PERMIT_EResolutionRule), .val (.ref w_SUPER_MAJORITY_PERMIT), .val (.ref w_SUPER_MAJORITY_PERMIT)] [(.ref w_SUPER_MAJORITY_PERMIT)])) _
      refine st26.trans ?_
      show Steps p.tables e below (T26.setTop (mkF m 112 #[.val (.int p1), .val (.int (5 : Int32)), .val (.ref w_SUPER_MAJORITY_PERMIT_EResolutionRule), .val (.ref w_SUPER_MAJORITY_PERMIT), .val (.ref w_SUPER_MAJORITY_PERMIT)] [(.ref w_SUPER_MAJORITY_PERMIT_EResolutionRule)])) _
      refine XS.aloadN X26.here hx rfl (hb hby at_112) rfl rfl ?_
      show Steps p.tables e below (T26.setTop (mkF m 113 #[.val (.int p1), .val (.int (5 : Int32)), .val (.ref w_SUPER_MAJORITY_PERMIT_EResolutionRule), .val (.ref w_SUPER_MAJORITY_PERMIT), .val (.ref w_SUPER_MAJORITY_PERMIT)] [(.ref w_SUPER_MAJORITY_PERMIT_EResolutionRule), (.ref w_SUPER_MAJORITY_PERMIT_EResolutionRule)])) _
      refine Jvm.RoadKit.acmp (g := (mkF m 113 #[.val (.int p1), .val (.int (5 : Int32)), .val (.ref w_SUPER_MAJORITY_PERMIT_EResolutionRule), .val (.ref w_SUPER_MAJORITY_PERMIT), .val (.ref w_SUPER_MAJORITY_PERMIT)] [(.ref w_SUPER_MAJORITY_PERMIT_EResolutionRule), (.ref w_SUPER_MAJORITY_PERMIT_EResolutionRule)])) X26 hx rfl rfl rfl (pc0 := 113) (pc' := 116) (same := true) rfl (hb hby at_113) rfl (decide_eq_true (congrArg Value.ref (rfl : w_SUPER_MAJORITY_PERMIT_EResolutionRule = w_SUPER_MAJORITY_PERMIT_EResolutionRule))) (by decide) (by decide) ?_
      show Steps p.tables e below (T26.setTop (mkF m 116 #[.val (.int p1), .val (.int (5 : Int32)), .val (.ref w_SUPER_MAJORITY_PERMIT_EResolutionRule), .val (.ref w_SUPER_MAJORITY_PERMIT), .val (.ref w_SUPER_MAJORITY_PERMIT)] [])) _
      refine XS.iconst X26.here hx rfl (hb hby at_116) ?_
      show Steps p.tables e below (T26.setTop (mkF m 117 #[.val (.int p1), .val (.int (5 : Int32)), .val (.ref w_SUPER_MAJORITY_PERMIT_EResolutionRule), .val (.ref w_SUPER_MAJORITY_PERMIT), .val (.ref w_SUPER_MAJORITY_PERMIT)] [(.int (1 : Int32))])) _
      refine XS.goto X26.here hx rfl (pc0 := 117) (pc' := 121) rfl (hb hby at_117) (by decide) (by decide) ?_
      show Steps p.tables e below (T26.setTop (mkF m 121 #[.val (.int p1), .val (.int (5 : Int32)), .val (.ref w_SUPER_MAJORITY_PERMIT_EResolutionRule), .val (.ref w_SUPER_MAJORITY_PERMIT), .val (.ref w_SUPER_MAJORITY_PERMIT)] [(.int (1 : Int32))])) _
      exact retN X26 hx (t := .boolean) Bd.returns (by simp) (hb hby at_121) hr
    · show Q_rm0 Z p1 w_WEIGHTED w_WEIGHTED_EReason w_SVALUES w_CONTROLLER w_OWNER_OVERRIDES w_FULL_CONSENSUS_PERMIT w_MAJORITY_PERMIT w_STRONG_MAJORITY_PERMIT w_SUPER_MAJORITY_PERMIT w_SOURCE w_RESHARE_REFUSED w_UNNAMED w_NOT_VIEWER w_NO_THRESHOLD w_MAJORITY_PERMIT_EResolutionRule w_OWNER_OVERRIDES_EResolutionRule w_FULL_CONSENSUS_PERMIT_EResolutionRule w_SUPER_MAJORITY_PERMIT_EResolutionRule w_STRONG_MAJORITY_PERMIT_EResolutionRule kV h0 n0 _ T26.heap _
      rw [eq26]
      exact ⟨rfl, N26⟩
set_option maxRecDepth 65536 in
set_option maxHeartbeats 40000000 in
theorem comes_1 {Post : Tables → Env → Array Value → State → Outcome → State → Prop} (hpost : ∀ tb e args s v u, (limb_1_1.after args s (.returned v) u = true ∧ limb_1_2.after args s (.returned v) u = true ∧ True) → FrameEnd s (.returned v) u (Jvm.fieldLocs frame_1_writes args s ++ Jvm.arrayLocs frame_1_arrays args s ++ Jvm.staticLocs frame_1_statics s) 16 128 → Post tb e args s (.returned v) u) :
    ArmFor flags0 classFile x code maxLocals ret World_1 tables_1 room_1 Calls_1 rest_1 Pre_1 Post := by
  intro l hfl _ _ p e ha hc hk s m args below hf hA hF happ hP
  obtain ⟨hcalls, hrest, hpre⟩ := hP
  obtain ⟨-, -, -, hnamed, -, -, -, hat⟩ := (Spec.applies_iff hf).mp happ
  obtain ⟨hg, hn⟩ := and_e (Cond.before_iff.mp (show (Jvm.Cond.and given_1 narrow_1).before args s = true from hpre))
  obtain ⟨hg0, hgr0⟩ := and_e hg
  obtain ⟨w0, rfl⟩ : ∃ w0 : Value, args = #[w0] := by
    have hs : args.size = 1 := by simpa [Cond.value, given_1] using hg0
    obtain ⟨L⟩ := args
    match L, hs with
    | [w0], _ => exact ⟨w0, rfl⟩
  have hw := fun d (hd : d ∈ tables_1) => atoms_spec (ws := Jvm.Cond.code x code maxLocals ret :: tables_1) hat d (List.mem_cons_of_mem _ hd)
  have hfit : Fit s := fun {y c} hc i hi => by
    obtain ⟨ha, rfl⟩ := Array.getElem?_eq_some_iff.mp hc
    have q := List.all_eq_true.mp ((Array.all_eq_true_iff_forall_mem.mp hF) _ (Array.getElem_mem ha)) i (List.mem_range.mpr hi)
    simpa [Array.getElem?_eq_getElem hi] using q
  obtain ⟨i0, ei0⟩ := is_v hgr0
  obtain rfl : w0 = (.int i0) := Option.some.inj ei0
  obtain ⟨hq1a, hq1b⟩ := and_e hn
  obtain ⟨hq2a, hq2b⟩ := and_e hq1b
  obtain ⟨hq3a, hq3b⟩ := and_e hq2b
  obtain ⟨hq4a, hq4b⟩ := and_e hq3b
  obtain ⟨hq5a, hq5b⟩ := and_e hq4b
  obtain ⟨hq6a, hq6b⟩ := and_e hq5b
  obtain ⟨hq7a, hq7b⟩ := and_e hq6b
  obtain ⟨hq8a, hq8b⟩ := and_e hq7b
  obtain ⟨hq9a, hq9b⟩ := and_e hq8b
  obtain ⟨hq10a, hq10b⟩ := and_e hq9b
  obtain ⟨hq11a, hq11b⟩ := and_e hq10b
  obtain ⟨hq12a, hq12b⟩ := and_e hq11b
  obtain ⟨hq13a, hq13b⟩ := and_e hq12b
  obtain ⟨hq14a, hq14b⟩ := and_e hq13b
  obtain ⟨hq15a, hq15b⟩ := and_e hq14b
  obtain ⟨hq16a, hq16b⟩ := and_e hq15b
  obtain ⟨hq17a, hq17b⟩ := and_e hq16b
  obtain ⟨hq18a, hq18b⟩ := and_e hq17b
  obtain ⟨hq19a, hq19b⟩ := and_e hq18b
  obtain ⟨hq20a, hq20b⟩ := and_e hq19b
  obtain ⟨hq21a, hq21b⟩ := and_e hq20b
  obtain ⟨hq22a, hq22b⟩ := and_e hq21b
  obtain ⟨hq23a, hq23b⟩ := and_e hq22b
  obtain ⟨hq24a, hq24b⟩ := and_e hq23b
  obtain ⟨hq25a, hq25b⟩ := and_e hq24b
  obtain ⟨hq26a, hq26b⟩ := and_e hq25b
  obtain ⟨hq27a, hq27b⟩ := and_e hq26b
  obtain ⟨hq28a, hq28b⟩ := and_e hq27b
  obtain ⟨hq29a, hq29b⟩ := and_e hq28b
  obtain ⟨hq30a, hq30b⟩ := and_e hq29b
  obtain ⟨hq31a, hq31b⟩ := and_e hq30b
  obtain ⟨hq32a, hq32b⟩ := and_e hq31b
  obtain ⟨hq33a, hq33b⟩ := and_e hq32b
  obtain ⟨hq34a, hq34b⟩ := and_e hq33b
  obtain ⟨hq35a, hq35b⟩ := and_e hq34b
  obtain ⟨hq36a, hq36b⟩ := and_e hq35b
  obtain ⟨hq37a, hq37b⟩ := and_e hq36b
  obtain ⟨hq38a, hq38b⟩ := and_e hq37b
  obtain ⟨hq39a, hq39b⟩ := and_e hq38b
  obtain ⟨hq40a, hq40b⟩ := and_e hq39b
  obtain ⟨hq41a, hq41b⟩ := and_e hq40b
  obtain ⟨hq42a, hq42b⟩ := and_e hq41b
  obtain ⟨hq43a, hq43b⟩ := and_e hq42b
  obtain ⟨hq44a, hq44b⟩ := and_e hq43b
  obtain ⟨hq45a, hq45b⟩ := and_e hq44b
  obtain ⟨hq46a, hq46b⟩ := and_e hq45b
  obtain ⟨hq47a, hq47b⟩ := and_e hq46b
  obtain ⟨hq48a, hq48b⟩ := and_e hq47b
  obtain ⟨hq49a, hq49b⟩ := and_e hq48b
  obtain ⟨hq50a, hq50b⟩ := and_e hq49b
  obtain ⟨w_WEIGHTED, ev_w_WEIGHTED⟩ := exa_v hq1a
  obtain ⟨w_WEIGHTED_EReason, ev_w_WEIGHTED_EReason⟩ := exa_v hq2a
  obtain ⟨w_SVALUES, ev_w_SVALUES⟩ := exa_v hq4a
  obtain ⟨w_CONTROLLER, ev_w_CONTROLLER⟩ := exa_v hq6a
  obtain ⟨w_OWNER_OVERRIDES, ev_w_OWNER_OVERRIDES⟩ := exa_v hq9a
  obtain ⟨w_FULL_CONSENSUS_PERMIT, ev_w_FULL_CONSENSUS_PERMIT⟩ := exa_v hq11a
  obtain ⟨w_MAJORITY_PERMIT, ev_w_MAJORITY_PERMIT⟩ := exa_v hq13a
  obtain ⟨w_STRONG_MAJORITY_PERMIT, ev_w_STRONG_MAJORITY_PERMIT⟩ := exa_v hq15a
  obtain ⟨w_SUPER_MAJORITY_PERMIT, ev_w_SUPER_MAJORITY_PERMIT⟩ := exa_v hq17a
  obtain ⟨w_SOURCE, ev_w_SOURCE⟩ := exa_v hq19a
  obtain ⟨w_RESHARE_REFUSED, ev_w_RESHARE_REFUSED⟩ := exa_v hq21a
  obtain ⟨w_UNNAMED, ev_w_UNNAMED⟩ := exa_v hq23a
  obtain ⟨w_NOT_VIEWER, ev_w_NOT_VIEWER⟩ := exa_v hq25a
  obtain ⟨w_NO_THRESHOLD, ev_w_NO_THRESHOLD⟩ := exa_v hq27a
  obtain ⟨w_MAJORITY_PERMIT_EResolutionRule, ev_w_MAJORITY_PERMIT_EResolutionRule⟩ := exa_v hq31a
  obtain ⟨w_OWNER_OVERRIDES_EResolutionRule, ev_w_OWNER_OVERRIDES_EResolutionRule⟩ := exa_v hq34a
  obtain ⟨w_FULL_CONSENSUS_PERMIT_EResolutionRule, ev_w_FULL_CONSENSUS_PERMIT_EResolutionRule⟩ := exa_v hq37a
  obtain ⟨w_SUPER_MAJORITY_PERMIT_EResolutionRule, ev_w_SUPER_MAJORITY_PERMIT_EResolutionRule⟩ := exa_v hq41a
  obtain ⟨w_STRONG_MAJORITY_PERMIT_EResolutionRule, ev_w_STRONG_MAJORITY_PERMIT_EResolutionRule⟩ := exa_v hq43a
  obtain ⟨clV, AV⟩ := Arr.start ev_w_SVALUES hq3a
  have hlV := own_len ev_w_SVALUES AV hq5a
  have VV : Arv s s.heap w_SVALUES clV.cls (.object "com/example/kindred_consent/kindredconsent/engine/EReason") (12 : Int32) [(.ref w_CONTROLLER), (.ref w_WEIGHTED_EReason), (.ref w_OWNER_OVERRIDES), (.ref w_FULL_CONSENSUS_PERMIT), (.ref w_MAJORITY_PERMIT), (.ref w_STRONG_MAJORITY_PERMIT), (.ref w_SUPER_MAJORITY_PERMIT), (.ref w_SOURCE), (.ref w_RESHARE_REFUSED), (.ref w_UNNAMED), (.ref w_NOT_VIEWER), (.ref w_NO_THRESHOLD)] .null := Arv.start hfit AV hlV.1 hlV.2 (by decide) rfl ⟨own_el ev_w_SVALUES ev_w_CONTROLLER AV hq7a, own_el ev_w_SVALUES ev_w_WEIGHTED_EReason AV hq8a, own_el ev_w_SVALUES ev_w_OWNER_OVERRIDES AV hq10a, own_el ev_w_SVALUES ev_w_FULL_CONSENSUS_PERMIT AV hq12a, own_el ev_w_SVALUES ev_w_MAJORITY_PERMIT AV hq14a, own_el ev_w_SVALUES ev_w_STRONG_MAJORITY_PERMIT AV hq16a, own_el ev_w_SVALUES ev_w_SUPER_MAJORITY_PERMIT AV hq18a, own_el ev_w_SVALUES ev_w_SOURCE AV hq20a, own_el ev_w_SVALUES ev_w_RESHARE_REFUSED AV hq22a, own_el ev_w_SVALUES ev_w_UNNAMED AV hq24a, own_el ev_w_SVALUES ev_w_NOT_VIEWER AV hq26a, own_el ev_w_SVALUES ev_w_NO_THRESHOLD AV hq28a, trivial⟩
  obtain ⟨n, o, h1, h2, h3, _, L, rfl, ⟨rfl, N⟩, hq⟩ := rm0 l s _ hw tables_1 i0 w_WEIGHTED w_WEIGHTED_EReason w_SVALUES w_CONTROLLER w_OWNER_OVERRIDES w_FULL_CONSENSUS_PERMIT w_MAJORITY_PERMIT w_STRONG_MAJORITY_PERMIT w_SUPER_MAJORITY_PERMIT w_SOURCE w_RESHARE_REFUSED w_UNNAMED w_NOT_VIEWER w_NO_THRESHOLD w_MAJORITY_PERMIT_EResolutionRule w_OWNER_OVERRIDES_EResolutionRule w_FULL_CONSENSUS_PERMIT_EResolutionRule w_SUPER_MAJORITY_PERMIT_EResolutionRule w_STRONG_MAJORITY_PERMIT_EResolutionRule clV.cls s.heap s.heap.size (Old.start s) ⟨(Sta.start ev_w_WEIGHTED (Or.inr ⟨(hw _ (List.mem_of_getElem? (i := 2) rfl)), (hw _ (List.mem_of_getElem? (i := 3) rfl))⟩)), (own_exa hq1a ev_w_WEIGHTED), (Sta.start ev_w_WEIGHTED_EReason (Or.inr ⟨(hw _ (List.mem_of_getElem? (i := 5) rfl)), (hw _ (List.mem_of_getElem? (i := 6) rfl))⟩)), (own_exa hq2a ev_w_WEIGHTED_EReason), (Sta.start ev_w_SVALUES (Or.inr ⟨(hw _ (List.mem_of_getElem? (i := 5) rfl)), (hw _ (List.mem_of_getElem? (i := 14) rfl))⟩)), (own_exa hq4a ev_w_SVALUES), (Sta.start ev_w_CONTROLLER (Or.inr ⟨(hw _ (List.mem_of_getElem? (i := 5) rfl)), (hw _ (List.mem_of_getElem? (i := 22) rfl))⟩)), (own_exa hq6a ev_w_CONTROLLER), (Sta.start ev_w_OWNER_OVERRIDES (Or.inr ⟨(hw _ (List.mem_of_getElem? (i := 5) rfl)), (hw _ (List.mem_of_getElem? (i := 23) rfl))⟩)), (own_exa hq9a ev_w_OWNER_OVERRIDES), (Sta.start ev_w_FULL_CONSENSUS_PERMIT (Or.inr ⟨(hw _ (List.mem_of_getElem? (i := 5) rfl)), (hw _ (List.mem_of_getElem? (i := 24) rfl))⟩)), (own_exa hq11a ev_w_FULL_CONSENSUS_PERMIT), (Sta.start ev_w_MAJORITY_PERMIT (Or.inr ⟨(hw _ (List.mem_of_getElem? (i := 5) rfl)), (hw _ (List.mem_of_getElem? (i := 25) rfl))⟩)), (own_exa hq13a ev_w_MAJORITY_PERMIT), (Sta.start ev_w_STRONG_MAJORITY_PERMIT (Or.inr ⟨(hw _ (List.mem_of_getElem? (i := 5) rfl)), (hw _ (List.mem_of_getElem? (i := 26) rfl))⟩)), (own_exa hq15a ev_w_STRONG_MAJORITY_PERMIT), (Sta.start ev_w_SUPER_MAJORITY_PERMIT (Or.inr ⟨(hw _ (List.mem_of_getElem? (i := 5) rfl)), (hw _ (List.mem_of_getElem? (i := 27) rfl))⟩)), (own_exa hq17a ev_w_SUPER_MAJORITY_PERMIT), (Sta.start ev_w_SOURCE (Or.inr ⟨(hw _ (List.mem_of_getElem? (i := 5) rfl)), (hw _ (List.mem_of_getElem? (i := 28) rfl))⟩)), (own_exa hq19a ev_w_SOURCE), (Sta.start ev_w_RESHARE_REFUSED (Or.inr ⟨(hw _ (List.mem_of_getElem? (i := 5) rfl)), (hw _ (List.mem_of_getElem? (i := 29) rfl))⟩)), (own_exa hq21a ev_w_RESHARE_REFUSED), (Sta.start ev_w_UNNAMED (Or.inr ⟨(hw _ (List.mem_of_getElem? (i := 5) rfl)), (hw _ (List.mem_of_getElem? (i := 30) rfl))⟩)), (own_exa hq23a ev_w_UNNAMED), (Sta.start ev_w_NOT_VIEWER (Or.inr ⟨(hw _ (List.mem_of_getElem? (i := 5) rfl)), (hw _ (List.mem_of_getElem? (i := 31) rfl))⟩)), (own_exa hq25a ev_w_NOT_VIEWER), (Sta.start ev_w_NO_THRESHOLD (Or.inr ⟨(hw _ (List.mem_of_getElem? (i := 5) rfl)), (hw _ (List.mem_of_getElem? (i := 32) rfl))⟩)), (own_exa hq27a ev_w_NO_THRESHOLD), (Sta.start ev_w_MAJORITY_PERMIT_EResolutionRule (Or.inr ⟨(hw _ (List.mem_of_getElem? (i := 2) rfl)), (hw _ (List.mem_of_getElem? (i := 44) rfl))⟩)), (own_exa hq31a ev_w_MAJORITY_PERMIT_EResolutionRule), (Sta.start ev_w_OWNER_OVERRIDES_EResolutionRule (Or.inr ⟨(hw _ (List.mem_of_getElem? (i := 2) rfl)), (hw _ (List.mem_of_getElem? (i := 46) rfl))⟩)), (own_exa hq34a ev_w_OWNER_OVERRIDES_EResolutionRule), (Sta.start ev_w_FULL_CONSENSUS_PERMIT_EResolutionRule (Or.inr ⟨(hw _ (List.mem_of_getElem? (i := 2) rfl)), (hw _ (List.mem_of_getElem? (i := 47) rfl))⟩)), (own_exa hq37a ev_w_FULL_CONSENSUS_PERMIT_EResolutionRule), (Sta.start ev_w_SUPER_MAJORITY_PERMIT_EResolutionRule (Or.inr ⟨(hw _ (List.mem_of_getElem? (i := 2) rfl)), (hw _ (List.mem_of_getElem? (i := 53) rfl))⟩)), (own_exa hq41a ev_w_SUPER_MAJORITY_PERMIT_EResolutionRule), (Sta.start ev_w_STRONG_MAJORITY_PERMIT_EResolutionRule (Or.inr ⟨(hw _ (List.mem_of_getElem? (i := 2) rfl)), (hw _ (List.mem_of_getElem? (i := 55) rfl))⟩)), (own_exa hq43a ev_w_STRONG_MAJORITY_PERMIT_EResolutionRule), (own_fn ev_w_CONTROLLER hq29a), (own_fr ev_w_WEIGHTED_EReason ev_w_WEIGHTED hq30a), (own_fi ev_w_WEIGHTED hq32a), (own_fi ev_w_MAJORITY_PERMIT_EResolutionRule hq33a), (own_fr ev_w_OWNER_OVERRIDES ev_w_OWNER_OVERRIDES_EResolutionRule hq35a), (own_fi ev_w_OWNER_OVERRIDES_EResolutionRule hq36a), (own_fr ev_w_FULL_CONSENSUS_PERMIT ev_w_FULL_CONSENSUS_PERMIT_EResolutionRule hq38a), (own_fi ev_w_FULL_CONSENSUS_PERMIT_EResolutionRule hq39a), (own_fr ev_w_MAJORITY_PERMIT ev_w_MAJORITY_PERMIT_EResolutionRule hq40a), (own_fi ev_w_SUPER_MAJORITY_PERMIT_EResolutionRule hq42a), (own_fr ev_w_STRONG_MAJORITY_PERMIT ev_w_STRONG_MAJORITY_PERMIT_EResolutionRule hq44a), (own_fi ev_w_STRONG_MAJORITY_PERMIT_EResolutionRule hq45a), (own_fr ev_w_SUPER_MAJORITY_PERMIT ev_w_SUPER_MAJORITY_PERMIT_EResolutionRule hq46a), (own_fn ev_w_SOURCE hq47a), (own_fn ev_w_RESHARE_REFUSED hq48a), (own_fn ev_w_UNNAMED hq49a), (own_fn ev_w_NOT_VIEWER hq50a), (own_fn ev_w_NO_THRESHOLD hq50b), VV⟩ p e ha hc hk s m _ below hf ((Spec.applies_iff_loose hf).mp happ).1 ⟨rfl, State.Warmed39.refl s, rfl⟩ trivial
  refine ⟨n, _, h1, h2, h3, hpost _ _ _ _ _ _ ⟨Cond.after_iff.mpr rfl, Cond.after_iff.mpr (eq_i res_at (Term.int_eval (1)) rfl), trivial⟩ ⟨hq.1, hq.2.1, (hq.2.2.sift fun y hy => Or.inr (N y hy)).mono (by decide) (by decide)⟩⟩
theorem main_1_1 : Claimed_1_1 := comes_1 fun _ _ _ _ _ _ h hF => ⟨h.1, hF⟩
theorem main_1_2 : Claimed_1_2 := comes_1 fun _ _ _ _ _ _ h hF => ⟨h.2.1, hF⟩
end Jvm.Pilot.@@N@@
namespace Jvm.Pilot.@@N@@
open Jvm Jvm.ClassFile Sem Op Lib Jvm.Free Jvm.Stand Jvm.Pilot.@@N@@.Jvm.D
/-! MADE BY PROGRAM (witnessworld.py) out of the Statement's table words and the real class files: 14 classes; the members and pool entries that the words name. The judged class is class 1, her method 1. -/
namespace start1
open Jvm.ClassFile
def u (s : String) : CpInfo := .utf8 (stringToUtf16 s)
/-- a pool by its gaps: so many unusable entries, then the entry; so many at the end -/
def gap : Nat → List CpInfo → List CpInfo
  | 0, r => r
  | n + 1, r => .unusable :: gap n r
def poolList (es : List (Nat × CpInfo)) (last : Nat) : List CpInfo := es.foldr (fun e r => gap e.1 (e.2 :: r)) (gap last [])
def pool (es : List (Nat × CpInfo)) (last : Nat) : Array CpInfo := ⟨poolList es last⟩
def fileOf (pool : Array CpInfo) (this : Nat) (attrs : Array Attribute := #[]) (ms : Array MethodInfo := #[]) (fl : Nat := 33) (sup : Nat := 0) (ifs : Array Nat := #[]) (fds : Array FieldInfo := #[]) : ClassFile where
  minorVersion := 0
  majorVersion := 65
  constantPool := pool
  accessFlags := fl
  thisClass := this
  superClass := sup
  interfaces := ifs
  fields := fds
  methods := ms
  attributes := attrs
def plain (name : String) (sup : Option ClassId) : Class where
  name := name
  kind := .ordinary
  loader := none
  accessFlags := 33
  super := sup
  interfaces := #[]
  cf := none
  fields := #[]
  methods := #[]
  instanceTypes := #[]
  staticTypes := #[]
  resolved := #[]
  callSites := []
  init := .initialized
  statics := none
  mirror := none

def pool0 : Array CpInfo := pool [(5, u "<init>"), (0, u "()V"), (1, .class_ 10), (1, u "java/lang/Object"), (85, u "clone"), (0, u "()Ljava/lang/Object;")] 26

def k0m0 : Method := { name := "<init>", desc := "()V", sig := { parameters := [], returnType := none }, accessFlags := 1, code := none }
def k0m1 : Method := { name := "clone", desc := "()Ljava/lang/Object;", sig := { parameters := [], returnType := some (.object "java/lang/Object") }, accessFlags := 260, code := none }
/-- java/lang/Object -/
def k0 : Class := { plain "java/lang/Object" none with
  accessFlags := 33
  interfaces := #[]
  cf := some (fileOf pool0 8 #[] #[{ accessFlags := 1, nameIndex := 5, descriptorIndex := 6, attributes := #[] }, { accessFlags := 260, nameIndex := 96, descriptorIndex := 97, attributes := #[] }] 33 0 #[] #[])
  fields := #[]
  methods := #[k0m0, k0m1]
  instanceTypes := #[]
  staticTypes := #[]
  resolved := Array.replicate 124 none
  statics := none }

def pool1 : Array CpInfo := pool [(2, .class_ 4), (1, u "java/lang/Object"), (0, u "<init>"), (0, u "()V"), (0, .integer 2147483647), (0, .fieldref 9 10), (0, .class_ 11), (0, .nameAndType 12 13), (0, u "com/example/kindred_consent/kindredconsent/model/EResolutionRule"), (0, u "WEIGHTED"), (0, u "Lcom/example/kindred_consent/kindredconsent/model/EResolutionRule;"), (0, .fieldref 15 16), (0, .class_ 17), (0, .nameAndType 12 18), (0, u "com/example/kindred_consent/kindredconsent/engine/EReason"), (0, u "Lcom/example/kindred_consent/kindredconsent/engine/EReason;"), (0, .fieldref 9 20), (0, .nameAndType 21 13), (0, u "OWNER_OVERRIDES"), (0, .fieldref 15 23), (0, .nameAndType 21 18), (0, .fieldref 9 25), (0, .nameAndType 26 13), (0, u "FULL_CONSENSUS_PERMIT"), (0, .fieldref 15 28), (0, .nameAndType 26 18), (0, .fieldref 9 30), (0, .nameAndType 31 13), (0, u "MAJORITY_PERMIT"), (0, .fieldref 15 33), (0, .nameAndType 31 18), (0, .fieldref 9 35), (0, .nameAndType 36 13), (0, u "STRONG_MAJORITY_PERMIT"), (0, .fieldref 15 38), (0, .nameAndType 36 18), (0, .fieldref 9 40), (0, .nameAndType 41 13), (0, u "SUPER_MAJORITY_PERMIT"), (0, .fieldref 15 43), (0, .nameAndType 41 18), (0, .methodref 15 45), (0, .nameAndType 46 47), (0, u "forRule"), (0, u "(Lcom/example/kindred_consent/kindredconsent/model/EResolutionRule;)Lcom/example/kindred_consent/kindredconsent/engine/EReason;"), (0, .methodref 15 49), (0, .nameAndType 50 51), (0, u "getRule"), (0, u "()Lcom/example/kindred_consent/kindredconsent/model/EResolutionRule;"), (0, .class_ 53), (0, u "com/example/kindred_consent/kindredconsent/engine/EReasonForRulePinLaw"), (2, u "law"), (0, u "(I)Z")] 3

def k1m0 : Method := { name := "<init>", desc := "()V", sig := { parameters := [], returnType := none }, accessFlags := 1, code := none }
def k1c1 : Code := { maxStack := 2, maxLocals := 5, code := code, exceptionTable := #[], attributes := #[] }
def k1m1 : Method := { name := "law", desc := "(I)Z", sig := { parameters := [.int], returnType := some .boolean }, accessFlags := 9, code := some k1c1 }
/-- com/example/kindred_consent/kindredconsent/engine/EReasonForRulePinLaw -/
def k1 : Class := { plain "com/example/kindred_consent/kindredconsent/engine/EReasonForRulePinLaw" (some 0) with
  accessFlags := 49
  interfaces := #[]
  cf := some (fileOf pool1 52 #[] #[{ accessFlags := 1, nameIndex := 5, descriptorIndex := 6, attributes := #[] }, { accessFlags := 9, nameIndex := 56, descriptorIndex := 57, attributes := #[] }] 49 2 #[] #[])
  fields := #[]
  methods := #[k1m0, k1m1]
  instanceTypes := #[]
  staticTypes := #[]
  resolved := Array.replicate 61 none
  statics := none }

def pool2 : Array CpInfo := pool [(1, .class_ 2), (0, u "java/lang/constant/Constable"), (0, .class_ 4), (0, u "java/lang/Object")] 6

/-- java/lang/constant/Constable -/
def k2 : Class := { plain "java/lang/constant/Constable" (some 0) with
  accessFlags := 1537
  interfaces := #[]
  cf := some (fileOf pool2 1 #[] #[] 1537 3 #[] #[])
  fields := #[]
  methods := #[]
  instanceTypes := #[]
  staticTypes := #[]
  resolved := Array.replicate 11 none
  statics := none }

def pool3 : Array CpInfo := pool [(1, .class_ 2), (0, u "java/lang/Comparable"), (0, .class_ 4), (0, u "java/lang/Object")] 7

/-- java/lang/Comparable -/
def k3 : Class := { plain "java/lang/Comparable" (some 0) with
  accessFlags := 1537
  interfaces := #[]
  cf := some (fileOf pool3 1 #[] #[] 1537 3 #[] #[])
  fields := #[]
  methods := #[]
  instanceTypes := #[]
  staticTypes := #[]
  resolved := Array.replicate 12 none
  statics := none }

def pool4 : Array CpInfo := pool [(1, .class_ 2), (0, u "java/io/Serializable"), (0, .class_ 4), (0, u "java/lang/Object")] 2

/-- java/io/Serializable -/
def k4 : Class := { plain "java/io/Serializable" (some 0) with
  accessFlags := 1537
  interfaces := #[]
  cf := some (fileOf pool4 1 #[] #[] 1537 3 #[] #[])
  fields := #[]
  methods := #[]
  instanceTypes := #[]
  staticTypes := #[]
  resolved := Array.replicate 7 none
  statics := none }

def pool5 : Array CpInfo := pool [(2, .class_ 4), (1, u "java/lang/Enum"), (0, u "name"), (0, u "Ljava/lang/String;"), (2, u "ordinal"), (0, u "I"), (1, .class_ 14), (1, u "java/lang/Object"), (4, u "hash"), (86, .class_ 108), (1, u "java/lang/Enum$EnumDesc"), (2, .class_ 112), (0, u "java/lang/constant/Constable"), (0, .class_ 114), (0, u "java/lang/Comparable"), (0, .class_ 116), (0, u "java/io/Serializable")] 87

/-- java/lang/Enum -/
def k5 : Class := { plain "java/lang/Enum" (some 0) with
  accessFlags := 1057
  interfaces := #[2, 3, 4]
  cf := some (fileOf pool5 2 #[.nestMembers #[106]] #[] 1057 12 #[111, 113, 115] #[{ accessFlags := 18, nameIndex := 5, descriptorIndex := 6, attributes := #[] }, { accessFlags := 18, nameIndex := 9, descriptorIndex := 10, attributes := #[] }, { accessFlags := 2, nameIndex := 19, descriptorIndex := 10, attributes := #[] }])
  fields := #[{ name := "name", type := (.object "java/lang/String"), accessFlags := 18, slot := 0, constantValue := 0 }, { name := "ordinal", type := .int, accessFlags := 18, slot := 1, constantValue := 0 }, { name := "hash", type := .int, accessFlags := 2, slot := 2, constantValue := 0 }]
  methods := #[]
  instanceTypes := #[(.object "java/lang/String"), .int, .int]
  staticTypes := #[]
  resolved := Array.replicate 204 none
  statics := none }

def pool6 : Array CpInfo := pool [(1, .class_ 2), (0, u "com/example/kindred_consent/kindredconsent/model/EResolutionRule"), (2, u "WEIGHTED"), (0, u "Lcom/example/kindred_consent/kindredconsent/model/EResolutionRule;"), (2, u "OWNER_OVERRIDES"), (2, u "FULL_CONSENSUS_PERMIT"), (2, u "MAJORITY_PERMIT"), (2, u "STRONG_MAJORITY_PERMIT"), (2, u "SUPER_MAJORITY_PERMIT"), (2, u "$VALUES"), (0, u "[Lcom/example/kindred_consent/kindredconsent/model/EResolutionRule;"), (6, .class_ 34), (1, u "java/lang/Enum"), (8, u "m_sWord"), (0, u "Ljava/lang/String;")] 87

/-- com/example/kindred_consent/kindredconsent/model/EResolutionRule -/
def k6 : Class := { plain "com/example/kindred_consent/kindredconsent/model/EResolutionRule" (some 5) with
  accessFlags := 16433
  interfaces := #[]
  cf := some (fileOf pool6 1 #[] #[] 16433 32 #[] #[{ accessFlags := 16409, nameIndex := 5, descriptorIndex := 6, attributes := #[] }, { accessFlags := 16409, nameIndex := 9, descriptorIndex := 6, attributes := #[] }, { accessFlags := 16409, nameIndex := 12, descriptorIndex := 6, attributes := #[] }, { accessFlags := 16409, nameIndex := 15, descriptorIndex := 6, attributes := #[] }, { accessFlags := 16409, nameIndex := 18, descriptorIndex := 6, attributes := #[] }, { accessFlags := 16409, nameIndex := 21, descriptorIndex := 6, attributes := #[] }, { accessFlags := 18, nameIndex := 43, descriptorIndex := 44, attributes := #[] }, { accessFlags := 4122, nameIndex := 24, descriptorIndex := 25, attributes := #[] }])
  fields := #[{ name := "WEIGHTED", type := (.object "com/example/kindred_consent/kindredconsent/model/EResolutionRule"), accessFlags := 16409, slot := 0, constantValue := 0 }, { name := "OWNER_OVERRIDES", type := (.object "com/example/kindred_consent/kindredconsent/model/EResolutionRule"), accessFlags := 16409, slot := 1, constantValue := 0 }, { name := "FULL_CONSENSUS_PERMIT", type := (.object "com/example/kindred_consent/kindredconsent/model/EResolutionRule"), accessFlags := 16409, slot := 2, constantValue := 0 }, { name := "MAJORITY_PERMIT", type := (.object "com/example/kindred_consent/kindredconsent/model/EResolutionRule"), accessFlags := 16409, slot := 3, constantValue := 0 }, { name := "STRONG_MAJORITY_PERMIT", type := (.object "com/example/kindred_consent/kindredconsent/model/EResolutionRule"), accessFlags := 16409, slot := 4, constantValue := 0 }, { name := "SUPER_MAJORITY_PERMIT", type := (.object "com/example/kindred_consent/kindredconsent/model/EResolutionRule"), accessFlags := 16409, slot := 5, constantValue := 0 }, { name := "m_sWord", type := (.object "java/lang/String"), accessFlags := 18, slot := 3, constantValue := 0 }, { name := "$VALUES", type := (.array (.object "com/example/kindred_consent/kindredconsent/model/EResolutionRule")), accessFlags := 4122, slot := 6, constantValue := 0 }]
  methods := #[]
  instanceTypes := #[(.object "java/lang/String"), .int, .int, (.object "java/lang/String")]
  staticTypes := #[(.object "com/example/kindred_consent/kindredconsent/model/EResolutionRule"), (.object "com/example/kindred_consent/kindredconsent/model/EResolutionRule"), (.object "com/example/kindred_consent/kindredconsent/model/EResolutionRule"), (.object "com/example/kindred_consent/kindredconsent/model/EResolutionRule"), (.object "com/example/kindred_consent/kindredconsent/model/EResolutionRule"), (.object "com/example/kindred_consent/kindredconsent/model/EResolutionRule"), (.array (.object "com/example/kindred_consent/kindredconsent/model/EResolutionRule"))]
  resolved := Array.replicate 132 none
  statics := some 0 }

def pool7 : Array CpInfo := pool [(1, .class_ 2), (0, u "com/example/kindred_consent/kindredconsent/engine/EReason"), (2, u "CONTROLLER"), (0, u "Lcom/example/kindred_consent/kindredconsent/engine/EReason;"), (2, u "WEIGHTED"), (2, u "OWNER_OVERRIDES"), (2, u "FULL_CONSENSUS_PERMIT"), (2, u "MAJORITY_PERMIT"), (2, u "STRONG_MAJORITY_PERMIT"), (2, u "SUPER_MAJORITY_PERMIT"), (2, u "SOURCE"), (2, u "RESHARE_REFUSED"), (2, u "UNNAMED"), (2, u "NOT_VIEWER"), (2, u "NO_THRESHOLD"), (0, .fieldref 1 41), (0, .nameAndType 42 43), (0, u "$VALUES"), (0, u "[Lcom/example/kindred_consent/kindredconsent/engine/EReason;"), (0, .methodref 45 46), (0, .class_ 43), (0, .nameAndType 47 48), (0, u "clone"), (0, u "()Ljava/lang/Object;"), (1, .class_ 52), (1, u "java/lang/Enum"), (8, u "m_sWord"), (0, u "Ljava/lang/String;"), (0, .fieldref 1 64), (0, .nameAndType 65 66), (0, u "m_eRule"), (0, u "Lcom/example/kindred_consent/kindredconsent/model/EResolutionRule;"), (8, .methodref 1 76), (0, .nameAndType 77 78), (0, u "values"), (0, u "()[Lcom/example/kindred_consent/kindredconsent/engine/EReason;"), (58, u "getRule"), (0, u "()Lcom/example/kindred_consent/kindredconsent/model/EResolutionRule;"), (3, u "forRule"), (0, u "(Lcom/example/kindred_consent/kindredconsent/model/EResolutionRule;)Lcom/example/kindred_consent/kindredconsent/engine/EReason;")] 20

def k7c0 : Code := { maxStack := 1, maxLocals := 0, code := prog_7_method_1_code, exceptionTable := #[], attributes := #[] }
def k7m0 : Method := { name := "values", desc := "()[Lcom/example/kindred_consent/kindredconsent/engine/EReason;", sig := { parameters := [], returnType := some (.array (.object "com/example/kindred_consent/kindredconsent/engine/EReason")) }, accessFlags := 9, code := some k7c0 }
def k7c1 : Code := { maxStack := 1, maxLocals := 1, code := prog_7_method_6_code, exceptionTable := #[], attributes := #[] }
def k7m1 : Method := { name := "getRule", desc := "()Lcom/example/kindred_consent/kindredconsent/model/EResolutionRule;", sig := { parameters := [], returnType := some (.object "com/example/kindred_consent/kindredconsent/model/EResolutionRule") }, accessFlags := 1, code := some k7c1 }
def k7c2 : Code := { maxStack := 3, maxLocals := 5, code := prog_7_method_8_code, exceptionTable := #[], attributes := #[] }
def k7m2 : Method := { name := "forRule", desc := "(Lcom/example/kindred_consent/kindredconsent/model/EResolutionRule;)Lcom/example/kindred_consent/kindredconsent/engine/EReason;", sig := { parameters := [(.object "com/example/kindred_consent/kindredconsent/model/EResolutionRule")], returnType := some (.object "com/example/kindred_consent/kindredconsent/engine/EReason") }, accessFlags := 9, code := some k7c2 }
/-- com/example/kindred_consent/kindredconsent/engine/EReason -/
def k7 : Class := { plain "com/example/kindred_consent/kindredconsent/engine/EReason" (some 5) with
  accessFlags := 16433
  interfaces := #[]
  cf := some (fileOf pool7 1 #[] #[{ accessFlags := 9, nameIndex := 77, descriptorIndex := 78, attributes := #[] }, { accessFlags := 1, nameIndex := 137, descriptorIndex := 138, attributes := #[] }, { accessFlags := 9, nameIndex := 142, descriptorIndex := 143, attributes := #[] }] 16433 50 #[] #[{ accessFlags := 16409, nameIndex := 5, descriptorIndex := 6, attributes := #[] }, { accessFlags := 16409, nameIndex := 9, descriptorIndex := 6, attributes := #[] }, { accessFlags := 16409, nameIndex := 12, descriptorIndex := 6, attributes := #[] }, { accessFlags := 16409, nameIndex := 15, descriptorIndex := 6, attributes := #[] }, { accessFlags := 16409, nameIndex := 18, descriptorIndex := 6, attributes := #[] }, { accessFlags := 16409, nameIndex := 21, descriptorIndex := 6, attributes := #[] }, { accessFlags := 16409, nameIndex := 24, descriptorIndex := 6, attributes := #[] }, { accessFlags := 16409, nameIndex := 27, descriptorIndex := 6, attributes := #[] }, { accessFlags := 16409, nameIndex := 30, descriptorIndex := 6, attributes := #[] }, { accessFlags := 16409, nameIndex := 33, descriptorIndex := 6, attributes := #[] }, { accessFlags := 16409, nameIndex := 36, descriptorIndex := 6, attributes := #[] }, { accessFlags := 16409, nameIndex := 39, descriptorIndex := 6, attributes := #[] }, { accessFlags := 18, nameIndex := 61, descriptorIndex := 62, attributes := #[] }, { accessFlags := 18, nameIndex := 65, descriptorIndex := 66, attributes := #[] }, { accessFlags := 4122, nameIndex := 42, descriptorIndex := 43, attributes := #[] }])
  fields := #[{ name := "CONTROLLER", type := (.object "com/example/kindred_consent/kindredconsent/engine/EReason"), accessFlags := 16409, slot := 0, constantValue := 0 }, { name := "WEIGHTED", type := (.object "com/example/kindred_consent/kindredconsent/engine/EReason"), accessFlags := 16409, slot := 1, constantValue := 0 }, { name := "OWNER_OVERRIDES", type := (.object "com/example/kindred_consent/kindredconsent/engine/EReason"), accessFlags := 16409, slot := 2, constantValue := 0 }, { name := "FULL_CONSENSUS_PERMIT", type := (.object "com/example/kindred_consent/kindredconsent/engine/EReason"), accessFlags := 16409, slot := 3, constantValue := 0 }, { name := "MAJORITY_PERMIT", type := (.object "com/example/kindred_consent/kindredconsent/engine/EReason"), accessFlags := 16409, slot := 4, constantValue := 0 }, { name := "STRONG_MAJORITY_PERMIT", type := (.object "com/example/kindred_consent/kindredconsent/engine/EReason"), accessFlags := 16409, slot := 5, constantValue := 0 }, { name := "SUPER_MAJORITY_PERMIT", type := (.object "com/example/kindred_consent/kindredconsent/engine/EReason"), accessFlags := 16409, slot := 6, constantValue := 0 }, { name := "SOURCE", type := (.object "com/example/kindred_consent/kindredconsent/engine/EReason"), accessFlags := 16409, slot := 7, constantValue := 0 }, { name := "RESHARE_REFUSED", type := (.object "com/example/kindred_consent/kindredconsent/engine/EReason"), accessFlags := 16409, slot := 8, constantValue := 0 }, { name := "UNNAMED", type := (.object "com/example/kindred_consent/kindredconsent/engine/EReason"), accessFlags := 16409, slot := 9, constantValue := 0 }, { name := "NOT_VIEWER", type := (.object "com/example/kindred_consent/kindredconsent/engine/EReason"), accessFlags := 16409, slot := 10, constantValue := 0 }, { name := "NO_THRESHOLD", type := (.object "com/example/kindred_consent/kindredconsent/engine/EReason"), accessFlags := 16409, slot := 11, constantValue := 0 }, { name := "m_sWord", type := (.object "java/lang/String"), accessFlags := 18, slot := 3, constantValue := 0 }, { name := "m_eRule", type := (.object "com/example/kindred_consent/kindredconsent/model/EResolutionRule"), accessFlags := 18, slot := 4, constantValue := 0 }, { name := "$VALUES", type := (.array (.object "com/example/kindred_consent/kindredconsent/engine/EReason")), accessFlags := 4122, slot := 12, constantValue := 0 }]
  methods := #[k7m0, k7m1, k7m2]
  instanceTypes := #[(.object "java/lang/String"), .int, .int, (.object "java/lang/String"), (.object "com/example/kindred_consent/kindredconsent/model/EResolutionRule")]
  staticTypes := #[(.object "com/example/kindred_consent/kindredconsent/engine/EReason"), (.object "com/example/kindred_consent/kindredconsent/engine/EReason"), (.object "com/example/kindred_consent/kindredconsent/engine/EReason"), (.object "com/example/kindred_consent/kindredconsent/engine/EReason"), (.object "com/example/kindred_consent/kindredconsent/engine/EReason"), (.object "com/example/kindred_consent/kindredconsent/engine/EReason"), (.object "com/example/kindred_consent/kindredconsent/engine/EReason"), (.object "com/example/kindred_consent/kindredconsent/engine/EReason"), (.object "com/example/kindred_consent/kindredconsent/engine/EReason"), (.object "com/example/kindred_consent/kindredconsent/engine/EReason"), (.object "com/example/kindred_consent/kindredconsent/engine/EReason"), (.object "com/example/kindred_consent/kindredconsent/engine/EReason"), (.array (.object "com/example/kindred_consent/kindredconsent/engine/EReason"))]
  resolved := Array.replicate 164 none
  statics := some 1 }

def pool8 : Array CpInfo := pool [(1, .class_ 2), (0, u "java/lang/Cloneable"), (0, .class_ 4), (0, u "java/lang/Object")] 2

/-- java/lang/Cloneable -/
def k8 : Class := { plain "java/lang/Cloneable" (some 0) with
  accessFlags := 1537
  interfaces := #[]
  cf := some (fileOf pool8 1 #[] #[] 1537 3 #[] #[])
  fields := #[]
  methods := #[]
  instanceTypes := #[]
  staticTypes := #[]
  resolved := Array.replicate 7 none
  statics := none }

/-- the primitive byte -/
def k9 : Class := { plain "byte" none with kind := .primitive 'B', accessFlags := 0x411 }
/-- [B -/
def k10 : Class := { plain "[B" (some 0) with kind := .array 9 .byte, interfaces := #[8, 4], accessFlags := 1041 }

/-- the primitive int -/
def k11 : Class := { plain "int" none with kind := .primitive 'I', accessFlags := 0x411 }
/-- [I -/
def k12 : Class := { plain "[I" (some 0) with kind := .array 11 .int, interfaces := #[8, 4], accessFlags := 1041 }

/-- [Lcom/example/kindred_consent/kindredconsent/engine/EReason; -/
def k13 : Class := { plain "[Lcom/example/kindred_consent/kindredconsent/engine/EReason;" (some 0) with kind := .array 7 (.object "com/example/kindred_consent/kindredconsent/engine/EReason"), interfaces := #[8, 4], accessFlags := 1041 }

def heap : Heap := #[{ cls := 6, slots := #[.ref 3, .ref 17, .ref 18, .ref 16, .ref 20, .ref 19, .null], vm := .statics 6 },
  { cls := 7, slots := #[.ref 5, .ref 4, .ref 6, .ref 7, .ref 8, .ref 9, .ref 10, .ref 11, .ref 12, .ref 13, .ref 14, .ref 15, .ref 2], vm := .statics 7 },
  { cls := 13, slots := #[.ref 5, .ref 4, .ref 6, .ref 7, .ref 8, .ref 9, .ref 10, .ref 11, .ref 12, .ref 13, .ref 14, .ref 15], vm := .none },
  { cls := 6, slots := #[.null, .int 0, .int 0, .null], vm := .none },
  { cls := 7, slots := #[.null, .int 0, .int 0, .null, .ref 3], vm := .none },
  { cls := 7, slots := #[.null, .int 0, .int 0, .null, .null], vm := .none },
  { cls := 7, slots := #[.null, .int 0, .int 0, .null, .ref 17], vm := .none },
  { cls := 7, slots := #[.null, .int 0, .int 0, .null, .ref 18], vm := .none },
  { cls := 7, slots := #[.null, .int 0, .int 0, .null, .ref 16], vm := .none },
  { cls := 7, slots := #[.null, .int 0, .int 0, .null, .ref 20], vm := .none },
  { cls := 7, slots := #[.null, .int 0, .int 0, .null, .ref 19], vm := .none },
  { cls := 7, slots := #[.null, .int 0, .int 0, .null, .null], vm := .none },
  { cls := 7, slots := #[.null, .int 0, .int 0, .null, .null], vm := .none },
  { cls := 7, slots := #[.null, .int 0, .int 0, .null, .null], vm := .none },
  { cls := 7, slots := #[.null, .int 0, .int 0, .null, .null], vm := .none },
  { cls := 7, slots := #[.null, .int 0, .int 0, .null, .null], vm := .none },
  { cls := 6, slots := #[.null, .int 3, .int 0, .null], vm := .none },
  { cls := 6, slots := #[.null, .int 1, .int 0, .null], vm := .none },
  { cls := 6, slots := #[.null, .int 2, .int 0, .null], vm := .none },
  { cls := 6, slots := #[.null, .int 5, .int 0, .null], vm := .none },
  { cls := 6, slots := #[.null, .int 4, .int 0, .null], vm := .none }]
def classes : Array Class := #[k0, k1, k2, k3, k4, k5, k6, k7, k8, k9, k10, k11, k12, k13]
def interned : List (Array UInt16 × Addr) := []
def slotsUsed : Nat := 116
def theMethod : MethodId := ⟨1, 1⟩
def args0 : Array Value := #[.int 5]
def aboutOver (below : List Frame) : State where
  vm := { classes := classes, interned := interned.toArray }
  heap := heap
  slotsUsed := slotsUsed
  threads := #[{ frames := .invoking theMethod args0 :: below }]
def below0 : List Frame := [.native { method := ⟨0, 0⟩, args := #[] }]
def about1 : State := aboutOver below0
def p0 : Program := .bare "" "" ""
def e0 : Env := launch0.env 0 0 0
theorem w_frames : about1.frames = Frame.invoking theMethod args0 :: below0 := rfl
set_option maxRecDepth 65536 in
theorem w_args : argsFit about1.vm theMethod args0 = true := by decide +kernel
set_option maxRecDepth 65536 in
theorem w_heap : heapFits about1 = true := by decide +kernel
set_option maxRecDepth 65536 in
theorem w_runnable : about1.curStatus? = some .runnable := by decide +kernel
set_option maxRecDepth 65536 in
theorem w_alone : about1.alone = true := by decide +kernel
set_option maxRecDepth 65536 in
theorem w_named : about1.methodNamed? x = some theMethod := by decide +kernel
set_option maxRecDepth 65536 in
theorem w_hears : about1.hears theMethod below0 = true := by decide +kernel
set_option maxRecDepth 65536 in
theorem w_ripe : about1.ripe theMethod args0 below0 = true := by decide +kernel
theorem w_running : about1.status = .running := rfl
set_option maxRecDepth 65536 in
theorem w_room : about1.hasRoom e0.platform room_1 = true :=
  launch0.hasRoom_least _ room_1 (by decide +kernel) (by decide +kernel) (by decide +kernel) (by decide +kernel) (by decide +kernel) (by decide +kernel)
theorem allAtoms_all (ts : List Jvm.Cond) (a : Array Jvm.Value) (st : Jvm.State) : (allAtoms ts).before a st = ts.all (fun c => c.before a st) := by
  induction ts with
  | nil => rfl
  | cons c t ih =>
    show (Jvm.Cond.and c (allAtoms t)).before a st = _
    rw [Jvm.Cond.before_and, ih, List.all_cons]
def words1 : List Jvm.Cond := Jvm.Cond.code x code maxLocals ret :: tables_1
/-- a 'code' word, met by the world's own term for the bytes: nothing is compared byte by byte -/
theorem code_word {y : MethodName} {bytes : ByteArray} {mx : Nat} {rt : Option FieldType} {a : Array Value} {s : State} {m : MethodId} {meth : Method} {c : Code} (h1 : s.methodNamed? y = some m) (h2 : s.vm.method? m = some meth) (h3 : meth.code = some c) (h4 : c.code = bytes)
    (h5 : (c.maxLocals == mx && c.exceptionTable.isEmpty && decide (c.maxStack ≤ mostOperands) && decide (meth.sig.returnType = rt) && !meth.locks && decide (parseMethodDescriptor y.desc = some meth.sig)) = true) : (Jvm.Cond.code y bytes mx rt).before a s = true := by
  simp only [Bool.and_eq_true, beq_iff_eq, Bool.not_eq_true', decide_eq_true_eq] at h5
  obtain ⟨⟨⟨⟨⟨g1, g2⟩, g3⟩, g4⟩, g5⟩, g6⟩ := h5
  simp [Cond.before, Cond.holds, Cond.value, h1, h2, h3, h4, g1, g2, g3, g4, g5, g6]
def isCode : Jvm.Cond → Bool
  | .code _ _ _ _ => true
  | _ => false
theorem all_split {L : List Jvm.Cond} {P : Jvm.Cond → Bool} (h1 : L.all (fun c => isCode c || P c) = true) (h2 : ∀ c ∈ L.filter isCode, P c = true) : L.all P = true := by
  refine List.all_eq_true.mpr fun c hc => ?_
  have h := List.all_eq_true.mp h1 c hc
  rcases Bool.eq_false_or_eq_true (isCode c) with hi | hi
  · exact h2 c (List.mem_filter.mpr ⟨hc, hi⟩)
  · simpa [hi] using h
set_option maxRecDepth 65536 in
theorem w_c0 : (Jvm.Cond.code x code maxLocals ret).before args0 about1 = true := code_word (m := ⟨1, 1⟩) (meth := k1m1) (c := k1c1) (by decide +kernel) rfl rfl rfl (by decide +kernel)
set_option maxRecDepth 65536 in
theorem w_c1 : (Jvm.Cond.code ({ cls := "com/example/kindred_consent/kindredconsent/engine/EReason", name := "forRule", desc := "(Lcom/example/kindred_consent/kindredconsent/model/EResolutionRule;)Lcom/example/kindred_consent/kindredconsent/engine/EReason;" } : Jvm.MethodName) prog_7_method_8_code (5 : Nat) (Option.some (Jvm.ClassFile.FieldType.object "com/example/kindred_consent/kindredconsent/engine/EReason"))).before args0 about1 = true := code_word (m := ⟨7, 2⟩) (meth := k7m2) (c := k7c2) (by decide +kernel) rfl rfl rfl (by decide +kernel)
set_option maxRecDepth 65536 in
theorem w_c2 : (Jvm.Cond.code ({ cls := "com/example/kindred_consent/kindredconsent/engine/EReason", name := "values", desc := "()[Lcom/example/kindred_consent/kindredconsent/engine/EReason;" } : Jvm.MethodName) prog_7_method_1_code (0 : Nat) (Option.some (Jvm.ClassFile.FieldType.array (Jvm.ClassFile.FieldType.object "com/example/kindred_consent/kindredconsent/engine/EReason")))).before args0 about1 = true := code_word (m := ⟨7, 0⟩) (meth := k7m0) (c := k7c0) (by decide +kernel) rfl rfl rfl (by decide +kernel)
set_option maxRecDepth 65536 in
theorem w_c3 : (Jvm.Cond.code ({ cls := "com/example/kindred_consent/kindredconsent/engine/EReason", name := "getRule", desc := "()Lcom/example/kindred_consent/kindredconsent/model/EResolutionRule;" } : Jvm.MethodName) prog_7_method_6_code (1 : Nat) (Option.some (Jvm.ClassFile.FieldType.object "com/example/kindred_consent/kindredconsent/model/EResolutionRule"))).before args0 about1 = true := code_word (m := ⟨7, 1⟩) (meth := k7m1) (c := k7c1) (by decide +kernel) rfl rfl rfl (by decide +kernel)
def codes1 : List Jvm.Cond := [Jvm.Cond.code x code maxLocals ret, Jvm.Cond.code ({ cls := "com/example/kindred_consent/kindredconsent/engine/EReason", name := "forRule", desc := "(Lcom/example/kindred_consent/kindredconsent/model/EResolutionRule;)Lcom/example/kindred_consent/kindredconsent/engine/EReason;" } : Jvm.MethodName) prog_7_method_8_code (5 : Nat) (Option.some (Jvm.ClassFile.FieldType.object "com/example/kindred_consent/kindredconsent/engine/EReason")), Jvm.Cond.code ({ cls := "com/example/kindred_consent/kindredconsent/engine/EReason", name := "values", desc := "()[Lcom/example/kindred_consent/kindredconsent/engine/EReason;" } : Jvm.MethodName) prog_7_method_1_code (0 : Nat) (Option.some (Jvm.ClassFile.FieldType.array (Jvm.ClassFile.FieldType.object "com/example/kindred_consent/kindredconsent/engine/EReason"))), Jvm.Cond.code ({ cls := "com/example/kindred_consent/kindredconsent/engine/EReason", name := "getRule", desc := "()Lcom/example/kindred_consent/kindredconsent/model/EResolutionRule;" } : Jvm.MethodName) prog_7_method_6_code (1 : Nat) (Option.some (Jvm.ClassFile.FieldType.object "com/example/kindred_consent/kindredconsent/model/EResolutionRule"))]
set_option maxRecDepth 65536 in
theorem codes_eq : words1.filter isCode = codes1 := rfl
theorem w_codes : ∀ c ∈ words1.filter isCode, c.before args0 about1 = true := by
  rw [codes_eq]
  intro c hc
  simp only [codes1, List.mem_cons, List.not_mem_nil, or_false] at hc
  rcases hc with rfl | rfl | rfl | rfl
  · exact w_c0
  · exact w_c1
  · exact w_c2
  · exact w_c3
set_option maxRecDepth 65536 in
theorem w_t1 : (words1.take 24).all (fun c => isCode c || c.before args0 about1) = true := by decide +kernel
set_option maxRecDepth 65536 in
theorem w_t2 : ((words1.drop 24).take 24).all (fun c => isCode c || c.before args0 about1) = true := by decide +kernel
set_option maxRecDepth 65536 in
theorem w_t3 : ((words1.drop 24).drop 24).all (fun c => isCode c || c.before args0 about1) = true := by decide +kernel
theorem w_tables : (allAtoms (Jvm.Cond.code x code maxLocals ret :: tables_1)).before args0 about1 = true := by
  rw [allAtoms_all]
  show words1.all (fun c => c.before args0 about1) = true
  refine all_split ?_ w_codes
  rw [← List.take_append_drop 24 words1, List.all_append, w_t1, ← List.take_append_drop 24 (words1.drop 24), List.all_append, w_t2, w_t3]
  rfl
set_option maxRecDepth 65536 in
theorem w_case : (Jvm.Cond.and given_1 narrow_1).before args0 about1 = true := by decide +kernel
theorem w_applies : (headSpec (Jvm.Cond.code x code maxLocals ret :: tables_1) room_1).applies x e0.platform about1 = true :=
  (Spec.applies_iff w_frames).mpr ⟨w_running, w_runnable, w_alone, w_named, w_hears, w_ripe, w_room, w_tables⟩
theorem atStart : AtStart classFile x code maxLocals ret World_1 tables_1 room_1 Calls_1 rest_1 Pre_1 launch0 p0 e0 about1 theMethod args0 below0 :=
  ⟨lists_1, trivial, launch0.admits_env _ _ _, launch0.least_env, fairChoices_fair.cas, fairChoices_fair.clock, w_frames, w_args, w_heap, w_applies, trivial, trivial, w_case⟩
end start1
theorem witness_1 : WitnessClaimed_1 := ⟨start1.p0, start1.e0, start1.about1, start1.theMethod, start1.args0, start1.below0, start1.atStart⟩
end Jvm.Pilot.@@N@@
