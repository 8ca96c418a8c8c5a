import JvmDerived
import JvmDerived.Pilot.@@N@@Statement
import JvmDerived.Pilot.@@N@@Code
set_option linter.unusedVariables false
set_option linter.unusedSimpArgs false
namespace Jvm.Pilot.@@N@@
open Jvm Jvm.ClassFile Sem Op Lib Jvm.Free Jvm.Stand Jvm.LawKit Jvm.RoadKit Bundle Jvm.Pilot.@@N@@.Jvm.D
theorem own_le {Z : State} {n0 : Nat} {h : Heap} (O : Old Z n0 h) : n0 ≤ h.size := O.1 ▸ O.2.1
theorem pn_com_example_kindred_consent_kindredconsent_engine_EReason : plainName "com/example/kindred_consent/kindredconsent/engine/EReason" = true := by first | (simp [plainName, overriddenIn]; done) | decide +kernel
theorem pn_com_example_kindred_consent_kindredconsent_engine_EReasonIsCountedPinLaw : plainName "com/example/kindred_consent/kindredconsent/engine/EReasonIsCountedPinLaw" = true := by first | (simp [plainName, overriddenIn]; done) | decide +kernel
theorem pd___Z : parseMethodDescriptor "()Z" = some ⟨[], some .boolean⟩ := by decide +kernel
theorem pd__I_Lcom_example_kindred_consent_kindredconsent_engine_EReason_ : parseMethodDescriptor "(I)Lcom/example/kindred_consent/kindredconsent/engine/EReason;" = some ⟨[.int], some (.object "com/example/kindred_consent/kindredconsent/engine/EReason")⟩ := by decide +kernel
theorem d1_0 : decode method_2_code 0 = .ok (.iload_n 0, 1) := by decide +kernel
theorem d1_1 : decode method_2_code 1 = .ok (.ifCond .ne 7, 3) := by decide +kernel
theorem d1_4 : decode method_2_code 4 = .ok (.getstatic 7, 3) := by decide +kernel
theorem d1_7 : decode method_2_code 7 = .ok (.areturn, 1) := by decide +kernel
theorem d1_8 : decode method_2_code 8 = .ok (.iload_n 0, 1) := by decide +kernel
theorem d1_9 : decode method_2_code 9 = .ok (.iconst 1, 1) := by decide +kernel
theorem d1_10 : decode method_2_code 10 = .ok (.if_icmp .ne 7, 3) := by decide +kernel
theorem d1_13 : decode method_2_code 13 = .ok (.getstatic 13, 3) := by decide +kernel
theorem d1_16 : decode method_2_code 16 = .ok (.areturn, 1) := by decide +kernel
theorem d1_17 : decode method_2_code 17 = .ok (.iload_n 0, 1) := by decide +kernel
theorem d1_18 : decode method_2_code 18 = .ok (.iconst 2, 1) := by decide +kernel
theorem d1_19 : decode method_2_code 19 = .ok (.if_icmp .ne 7, 3) := by decide +kernel
theorem d1_22 : decode method_2_code 22 = .ok (.getstatic 16, 3) := by decide +kernel
theorem d1_25 : decode method_2_code 25 = .ok (.areturn, 1) := by decide +kernel
theorem d1_26 : decode method_2_code 26 = .ok (.iload_n 0, 1) := by decide +kernel
theorem d1_27 : decode method_2_code 27 = .ok (.iconst 3, 1) := by decide +kernel
theorem d1_28 : decode method_2_code 28 = .ok (.if_icmp .ne 7, 3) := by decide +kernel
theorem d1_31 : decode method_2_code 31 = .ok (.getstatic 19, 3) := by decide +kernel
theorem d1_34 : decode method_2_code 34 = .ok (.areturn, 1) := by decide +kernel
theorem d1_35 : decode method_2_code 35 = .ok (.iload_n 0, 1) := by decide +kernel
theorem d1_36 : decode method_2_code 36 = .ok (.iconst 4, 1) := by decide +kernel
theorem d1_37 : decode method_2_code 37 = .ok (.if_icmp .ne 7, 3) := by decide +kernel
theorem d1_40 : decode method_2_code 40 = .ok (.getstatic 22, 3) := by decide +kernel
theorem d1_43 : decode method_2_code 43 = .ok (.areturn, 1) := by decide +kernel
theorem d1_44 : decode method_2_code 44 = .ok (.iload_n 0, 1) := by decide +kernel
theorem d1_45 : decode method_2_code 45 = .ok (.iconst 5, 1) := by decide +kernel
theorem d1_46 : decode method_2_code 46 = .ok (.if_icmp .ne 7, 3) := by decide +kernel
theorem d1_49 : decode method_2_code 49 = .ok (.getstatic 25, 3) := by decide +kernel
theorem d1_52 : decode method_2_code 52 = .ok (.areturn, 1) := by decide +kernel
theorem d1_53 : decode method_2_code 53 = .ok (.iload_n 0, 1) := by decide +kernel
theorem d1_54 : decode method_2_code 54 = .ok (.bipush 6, 2) := by decide +kernel
theorem d1_56 : decode method_2_code 56 = .ok (.if_icmp .ne 7, 3) := by decide +kernel
theorem d1_59 : decode method_2_code 59 = .ok (.getstatic 28, 3) := by decide +kernel
theorem d1_62 : decode method_2_code 62 = .ok (.areturn, 1) := by decide +kernel
theorem d1_63 : decode method_2_code 63 = .ok (.iload_n 0, 1) := by decide +kernel
theorem d1_64 : decode method_2_code 64 = .ok (.bipush 7, 2) := by decide +kernel
theorem d1_66 : decode method_2_code 66 = .ok (.if_icmp .ne 7, 3) := by decide +kernel
theorem d1_69 : decode method_2_code 69 = .ok (.getstatic 31, 3) := by decide +kernel
theorem d1_72 : decode method_2_code 72 = .ok (.areturn, 1) := by decide +kernel
theorem d1_73 : decode method_2_code 73 = .ok (.iload_n 0, 1) := by decide +kernel
theorem d1_74 : decode method_2_code 74 = .ok (.bipush 8, 2) := by decide +kernel
theorem d1_76 : decode method_2_code 76 = .ok (.if_icmp .ne 7, 3) := by decide +kernel
theorem d1_79 : decode method_2_code 79 = .ok (.getstatic 34, 3) := by decide +kernel
theorem d1_82 : decode method_2_code 82 = .ok (.areturn, 1) := by decide +kernel
theorem d1_83 : decode method_2_code 83 = .ok (.iload_n 0, 1) := by decide +kernel
theorem d1_84 : decode method_2_code 84 = .ok (.bipush 9, 2) := by decide +kernel
theorem d1_86 : decode method_2_code 86 = .ok (.if_icmp .ne 7, 3) := by decide +kernel
theorem d1_89 : decode method_2_code 89 = .ok (.getstatic 37, 3) := by decide +kernel
theorem d1_92 : decode method_2_code 92 = .ok (.areturn, 1) := by decide +kernel
theorem d1_93 : decode method_2_code 93 = .ok (.iload_n 0, 1) := by decide +kernel
theorem d1_94 : decode method_2_code 94 = .ok (.bipush 10, 2) := by decide +kernel
theorem d1_96 : decode method_2_code 96 = .ok (.if_icmp .ne 7, 3) := by decide +kernel
theorem d1_99 : decode method_2_code 99 = .ok (.getstatic 40, 3) := by decide +kernel
theorem d1_102 : decode method_2_code 102 = .ok (.areturn, 1) := by decide +kernel
theorem d1_103 : decode method_2_code 103 = .ok (.getstatic 43, 3) := by decide +kernel
theorem d1_106 : decode method_2_code 106 = .ok (.areturn, 1) := by decide +kernel
theorem d2_0 : decode prog_7_method_7_code 0 = .ok (.aload_n 0, 1) := by decide +kernel
theorem d2_1 : decode prog_7_method_7_code 1 = .ok (.getfield 63, 3) := by decide +kernel
theorem d2_4 : decode prog_7_method_7_code 4 = .ok (.ifnull 17, 3) := by decide +kernel
theorem d2_7 : decode prog_7_method_7_code 7 = .ok (.aload_n 0, 1) := by decide +kernel
theorem d2_8 : decode prog_7_method_7_code 8 = .ok (.getfield 63, 3) := by decide +kernel
theorem d2_11 : decode prog_7_method_7_code 11 = .ok (.getstatic 73, 3) := by decide +kernel
theorem d2_14 : decode prog_7_method_7_code 14 = .ok (.if_acmp .eq 7, 3) := by decide +kernel
theorem d2_17 : decode prog_7_method_7_code 17 = .ok (.iconst 1, 1) := by decide +kernel
theorem d2_18 : decode prog_7_method_7_code 18 = .ok (.goto 4, 3) := by decide +kernel
theorem d2_21 : decode prog_7_method_7_code 21 = .ok (.iconst 0, 1) := by decide +kernel
theorem d2_22 : decode prog_7_method_7_code 22 = .ok (.ireturn, 1) := by decide +kernel
section OwnWords
variable {args : Array Value} {s : State} {t u : Term} {a b : Addr} {C n d K : String}
theorem own_exa (h : (Jvm.Cond.exactly t K).value args s none s [] = some true) (ev : t.eval args s none [] s = some (.ref a)) : Exa s s.heap a K := Exa.start ev h
theorem own_fi {k : Int32} (ev : t.eval args s none [] s = some (.ref a)) (h : (Jvm.Cond.eq (.field t C n d) (.int k)).value args s none s [] = some true) : Fld s s.heap a C n d (.int k) := by
  refine Fld.start ?_
  have e := fld_at (C := C) (n := n) (dd := d) ev
  simp only [Cond.value, e] at h
  cases hv : s.fieldOf? a C n d with
  | none => simp [hv] at h
  | some z => cases z <;> simp [hv, Term.eval] at h ⊢; exact h
theorem own_fn (ev : t.eval args s none [] s = some (.ref a)) (h : (Jvm.Cond.eq (.field t C n d) .null).value args s none s [] = some true) : Fld s s.heap a C n d .null :=
  Fld.start ((fld_at ev).symm.trans (null_v h))
theorem own_fr (ev : t.eval args s none [] s = some (.ref a)) (ev' : u.eval args s none [] s = some (.ref b)) (h : (Jvm.Cond.eq (.field t C n d) u).value args s none s [] = some true) : Fld s s.heap a C n d (.ref b) := by
  refine Fld.start ?_
  have e := fld_at (C := C) (n := n) (dd := d) ev
  simp only [Cond.value, e, ev'] at h
  cases hv : s.fieldOf? a C n d with
  | none => simp [hv] at h
  | some z => cases z <;> simp [hv] at h ⊢; exact h
end OwnWords
theorem own_k (x : Int32) : (x &&& (2147483647 : Int32)) % (12 : Int32) = (0 : Int32) ∨ (x &&& (2147483647 : Int32)) % (12 : Int32) = (1 : Int32) ∨ (x &&& (2147483647 : Int32)) % (12 : Int32) = (2 : Int32) ∨ (x &&& (2147483647 : Int32)) % (12 : Int32) = (3 : Int32) ∨ (x &&& (2147483647 : Int32)) % (12 : Int32) = (4 : Int32) ∨ (x &&& (2147483647 : Int32)) % (12 : Int32) = (5 : Int32) ∨ (x &&& (2147483647 : Int32)) % (12 : Int32) = (6 : Int32) ∨ (x &&& (2147483647 : Int32)) % (12 : Int32) = (7 : Int32) ∨ (x &&& (2147483647 : Int32)) % (12 : Int32) = (8 : Int32) ∨ (x &&& (2147483647 : Int32)) % (12 : Int32) = (9 : Int32) ∨ (x &&& (2147483647 : Int32)) % (12 : Int32) = (10 : Int32) ∨ (x &&& (2147483647 : Int32)) % (12 : Int32) = (11 : Int32) := by
  have e := c_mask x 2147483647 31 (by decide) (by decide)
  have r := (c_irem (x &&& 2147483647) 12 12 rfl).1 (by omega)
  have h : ((x &&& (2147483647 : Int32)) % (12 : Int32)).toInt = 0 ∨ ((x &&& (2147483647 : Int32)) % (12 : Int32)).toInt = 1 ∨ ((x &&& (2147483647 : Int32)) % (12 : Int32)).toInt = 2 ∨ ((x &&& (2147483647 : Int32)) % (12 : Int32)).toInt = 3 ∨ ((x &&& (2147483647 : Int32)) % (12 : Int32)).toInt = 4 ∨ ((x &&& (2147483647 : Int32)) % (12 : Int32)).toInt = 5 ∨ ((x &&& (2147483647 : Int32)) % (12 : Int32)).toInt = 6 ∨ ((x &&& (2147483647 : Int32)) % (12 : Int32)).toInt = 7 ∨ ((x &&& (2147483647 : Int32)) % (12 : Int32)).toInt = 8 ∨ ((x &&& (2147483647 : Int32)) % (12 : Int32)).toInt = 9 ∨ ((x &&& (2147483647 : Int32)) % (12 : Int32)).toInt = 10 ∨ ((x &&& (2147483647 : Int32)) % (12 : Int32)).toInt = 11 := by omega
  rcases h with h | h | h | h | h | h | h | h | h | h | h | h
  · exact (Or.inl (Int32.toInt_inj.mp (h.trans rfl)))
  · exact (Or.inr (Or.inl (Int32.toInt_inj.mp (h.trans rfl))))
  · exact (Or.inr (Or.inr (Or.inl (Int32.toInt_inj.mp (h.trans rfl)))))
  · exact (Or.inr (Or.inr (Or.inr (Or.inl (Int32.toInt_inj.mp (h.trans rfl))))))
  · exact (Or.inr (Or.inr (Or.inr (Or.inr (Or.inl (Int32.toInt_inj.mp (h.trans rfl)))))))
  · exact (Or.inr (Or.inr (Or.inr (Or.inr (Or.inr (Or.inl (Int32.toInt_inj.mp (h.trans rfl))))))))
  · exact (Or.inr (Or.inr (Or.inr (Or.inr (Or.inr (Or.inr (Or.inl (Int32.toInt_inj.mp (h.trans rfl)))))))))
  · exact (Or.inr (Or.inr (Or.inr (Or.inr (Or.inr (Or.inr (Or.inr (Or.inl (Int32.toInt_inj.mp (h.trans rfl))))))))))
  · exact (Or.inr (Or.inr (Or.inr (Or.inr (Or.inr (Or.inr (Or.inr (Or.inr (Or.inl (Int32.toInt_inj.mp (h.trans rfl)))))))))))
  · exact (Or.inr (Or.inr (Or.inr (Or.inr (Or.inr (Or.inr (Or.inr (Or.inr (Or.inr (Or.inl (Int32.toInt_inj.mp (h.trans rfl))))))))))))
  · exact (Or.inr (Or.inr (Or.inr (Or.inr (Or.inr (Or.inr (Or.inr (Or.inr (Or.inr (Or.inr (Or.inl (Int32.toInt_inj.mp (h.trans rfl)))))))))))))
  · exact (Or.inr (Or.inr (Or.inr (Or.inr (Or.inr (Or.inr (Or.inr (Or.inr (Or.inr (Or.inr (Or.inr (Int32.toInt_inj.mp (h.trans rfl)))))))))))))
def OwnEnv (Z : State) (w_CONTROLLER w_FULL_CONSENSUS_PERMIT w_FULL_CONSENSUS_PERMIT_EResolutionRule w_WEIGHTED w_OWNER_OVERRIDES w_OWNER_OVERRIDES_EResolutionRule w_SOURCE w_NO_THRESHOLD w_MAJORITY_PERMIT w_MAJORITY_PERMIT_EResolutionRule w_RESHARE_REFUSED w_WEIGHTED_EReason w_NOT_VIEWER w_UNNAMED w_SUPER_MAJORITY_PERMIT w_SUPER_MAJORITY_PERMIT_EResolutionRule w_STRONG_MAJORITY_PERMIT w_STRONG_MAJORITY_PERMIT_EResolutionRule : Addr) : Prop := Sta Z Z.heap "com/example/kindred_consent/kindredconsent/engine/EReason" "CONTROLLER" "Lcom/example/kindred_consent/kindredconsent/engine/EReason;" (.ref w_CONTROLLER) ∧ Exa Z Z.heap w_CONTROLLER "com/example/kindred_consent/kindredconsent/engine/EReason" ∧ Sta Z Z.heap "com/example/kindred_consent/kindredconsent/engine/EReason" "FULL_CONSENSUS_PERMIT" "Lcom/example/kindred_consent/kindredconsent/engine/EReason;" (.ref w_FULL_CONSENSUS_PERMIT) ∧ Exa Z Z.heap w_FULL_CONSENSUS_PERMIT "com/example/kindred_consent/kindredconsent/engine/EReason" ∧ Sta Z Z.heap "com/example/kindred_consent/kindredconsent/model/EResolutionRule" "FULL_CONSENSUS_PERMIT" "Lcom/example/kindred_consent/kindredconsent/model/EResolutionRule;" (.ref w_FULL_CONSENSUS_PERMIT_EResolutionRule) ∧ Exa Z Z.heap w_FULL_CONSENSUS_PERMIT_EResolutionRule "com/example/kindred_consent/kindredconsent/model/EResolutionRule" ∧ Sta Z Z.heap "com/example/kindred_consent/kindredconsent/model/EResolutionRule" "WEIGHTED" "Lcom/example/kindred_consent/kindredconsent/model/EResolutionRule;" (.ref w_WEIGHTED) ∧ Exa Z Z.heap w_WEIGHTED "com/example/kindred_consent/kindredconsent/model/EResolutionRule" ∧ Sta Z Z.heap "com/example/kindred_consent/kindredconsent/engine/EReason" "OWNER_OVERRIDES" "Lcom/example/kindred_consent/kindredconsent/engine/EReason;" (.ref w_OWNER_OVERRIDES) ∧ Exa Z Z.heap w_OWNER_OVERRIDES "com/example/kindred_consent/kindredconsent/engine/EReason" ∧ Sta Z Z.heap "com/example/kindred_consent/kindredconsent/model/EResolutionRule" "OWNER_OVERRIDES" "Lcom/example/kindred_consent/kindredconsent/model/EResolutionRule;" (.ref w_OWNER_OVERRIDES_EResolutionRule) ∧ Exa Z Z.heap w_OWNER_OVERRIDES_EResolutionRule "com/example/kindred_consent/kindredconsent/model/EResolutionRule" ∧ Sta Z Z.heap "com/example/kindred_consent/kindredconsent/engine/EReason" "SOURCE" "Lcom/example/kindred_consent/kindredconsent/engine/EReason;" (.ref w_SOURCE) ∧ Exa Z Z.heap w_SOURCE "com/example/kindred_consent/kindredconsent/engine/EReason" ∧ Sta Z Z.heap "com/example/kindred_consent/kindredconsent/engine/EReason" "NO_THRESHOLD" "Lcom/example/kindred_consent/kindredconsent/engine/EReason;" (.ref w_NO_THRESHOLD) ∧ Exa Z Z.heap w_NO_THRESHOLD "com/example/kindred_consent/kindredconsent/engine/EReason" ∧ Sta Z Z.heap "com/example/kindred_consent/kindredconsent/engine/EReason" "MAJORITY_PERMIT" "Lcom/example/kindred_consent/kindredconsent/engine/EReason;" (.ref w_MAJORITY_PERMIT) ∧ Exa Z Z.heap w_MAJORITY_PERMIT "com/example/kindred_consent/kindredconsent/engine/EReason" ∧ Sta Z Z.heap "com/example/kindred_consent/kindredconsent/model/EResolutionRule" "MAJORITY_PERMIT" "Lcom/example/kindred_consent/kindredconsent/model/EResolutionRule;" (.ref w_MAJORITY_PERMIT_EResolutionRule) ∧ Exa Z Z.heap w_MAJORITY_PERMIT_EResolutionRule "com/example/kindred_consent/kindredconsent/model/EResolutionRule" ∧ Sta Z Z.heap "com/example/kindred_consent/kindredconsent/engine/EReason" "RESHARE_REFUSED" "Lcom/example/kindred_consent/kindredconsent/engine/EReason;" (.ref w_RESHARE_REFUSED) ∧ Exa Z Z.heap w_RESHARE_REFUSED "com/example/kindred_consent/kindredconsent/engine/EReason" ∧ Sta Z Z.heap "com/example/kindred_consent/kindredconsent/engine/EReason" "WEIGHTED" "Lcom/example/kindred_consent/kindredconsent/engine/EReason;" (.ref w_WEIGHTED_EReason) ∧ Exa Z Z.heap w_WEIGHTED_EReason "com/example/kindred_consent/kindredconsent/engine/EReason" ∧ Sta Z Z.heap "com/example/kindred_consent/kindredconsent/engine/EReason" "NOT_VIEWER" "Lcom/example/kindred_consent/kindredconsent/engine/EReason;" (.ref w_NOT_VIEWER) ∧ Exa Z Z.heap w_NOT_VIEWER "com/example/kindred_consent/kindredconsent/engine/EReason" ∧ Sta Z Z.heap "com/example/kindred_consent/kindredconsent/engine/EReason" "UNNAMED" "Lcom/example/kindred_consent/kindredconsent/engine/EReason;" (.ref w_UNNAMED) ∧ Exa Z Z.heap w_UNNAMED "com/example/kindred_consent/kindredconsent/engine/EReason" ∧ Sta Z Z.heap "com/example/kindred_consent/kindredconsent/engine/EReason" "SUPER_MAJORITY_PERMIT" "Lcom/example/kindred_consent/kindredconsent/engine/EReason;" (.ref w_SUPER_MAJORITY_PERMIT) ∧ Exa Z Z.heap w_SUPER_MAJORITY_PERMIT "com/example/kindred_consent/kindredconsent/engine/EReason" ∧ Sta Z Z.heap "com/example/kindred_consent/kindredconsent/model/EResolutionRule" "SUPER_MAJORITY_PERMIT" "Lcom/example/kindred_consent/kindredconsent/model/EResolutionRule;" (.ref w_SUPER_MAJORITY_PERMIT_EResolutionRule) ∧ Exa Z Z.heap w_SUPER_MAJORITY_PERMIT_EResolutionRule "com/example/kindred_consent/kindredconsent/model/EResolutionRule" ∧ Sta Z Z.heap "com/example/kindred_consent/kindredconsent/engine/EReason" "STRONG_MAJORITY_PERMIT" "Lcom/example/kindred_consent/kindredconsent/engine/EReason;" (.ref w_STRONG_MAJORITY_PERMIT) ∧ Exa Z Z.heap w_STRONG_MAJORITY_PERMIT "com/example/kindred_consent/kindredconsent/engine/EReason" ∧ Sta Z Z.heap "com/example/kindred_consent/kindredconsent/model/EResolutionRule" "STRONG_MAJORITY_PERMIT" "Lcom/example/kindred_consent/kindredconsent/model/EResolutionRule;" (.ref w_STRONG_MAJORITY_PERMIT_EResolutionRule) ∧ Exa Z Z.heap w_STRONG_MAJORITY_PERMIT_EResolutionRule "com/example/kindred_consent/kindredconsent/model/EResolutionRule" ∧ Fld Z Z.heap w_CONTROLLER "com/example/kindred_consent/kindredconsent/engine/EReason" "m_eRule" "Lcom/example/kindred_consent/kindredconsent/model/EResolutionRule;" .null ∧ Fld Z Z.heap w_FULL_CONSENSUS_PERMIT "com/example/kindred_consent/kindredconsent/engine/EReason" "m_eRule" "Lcom/example/kindred_consent/kindredconsent/model/EResolutionRule;" (.ref w_FULL_CONSENSUS_PERMIT_EResolutionRule) ∧ Fld Z Z.heap w_FULL_CONSENSUS_PERMIT_EResolutionRule "java/lang/Enum" "ordinal" "I" (.int (2 : Int32)) ∧ Fld Z Z.heap w_WEIGHTED "java/lang/Enum" "ordinal" "I" (.int (0 : Int32)) ∧ Fld Z Z.heap w_OWNER_OVERRIDES "com/example/kindred_consent/kindredconsent/engine/EReason" "m_eRule" "Lcom/example/kindred_consent/kindredconsent/model/EResolutionRule;" (.ref w_OWNER_OVERRIDES_EResolutionRule) ∧ Fld Z Z.heap w_OWNER_OVERRIDES_EResolutionRule "java/lang/Enum" "ordinal" "I" (.int (1 : Int32)) ∧ Fld Z Z.heap w_SOURCE "com/example/kindred_consent/kindredconsent/engine/EReason" "m_eRule" "Lcom/example/kindred_consent/kindredconsent/model/EResolutionRule;" .null ∧ Fld Z Z.heap w_NO_THRESHOLD "com/example/kindred_consent/kindredconsent/engine/EReason" "m_eRule" "Lcom/example/kindred_consent/kindredconsent/model/EResolutionRule;" .null ∧ Fld Z Z.heap w_MAJORITY_PERMIT "com/example/kindred_consent/kindredconsent/engine/EReason" "m_eRule" "Lcom/example/kindred_consent/kindredconsent/model/EResolutionRule;" (.ref w_MAJORITY_PERMIT_EResolutionRule) ∧ Fld Z Z.heap w_MAJORITY_PERMIT_EResolutionRule "java/lang/Enum" "ordinal" "I" (.int (3 : Int32)) ∧ Fld Z Z.heap w_RESHARE_REFUSED "com/example/kindred_consent/kindredconsent/engine/EReason" "m_eRule" "Lcom/example/kindred_consent/kindredconsent/model/EResolutionRule;" .null ∧ Fld Z Z.heap w_WEIGHTED_EReason "com/example/kindred_consent/kindredconsent/engine/EReason" "m_eRule" "Lcom/example/kindred_consent/kindredconsent/model/EResolutionRule;" (.ref w_WEIGHTED) ∧ Fld Z Z.heap w_NOT_VIEWER "com/example/kindred_consent/kindredconsent/engine/EReason" "m_eRule" "Lcom/example/kindred_consent/kindredconsent/model/EResolutionRule;" .null ∧ Fld Z Z.heap w_UNNAMED "com/example/kindred_consent/kindredconsent/engine/EReason" "m_eRule" "Lcom/example/kindred_consent/kindredconsent/model/EResolutionRule;" .null ∧ Fld Z Z.heap w_SUPER_MAJORITY_PERMIT "com/example/kindred_consent/kindredconsent/engine/EReason" "m_eRule" "Lcom/example/kindred_consent/kindredconsent/model/EResolutionRule;" (.ref w_SUPER_MAJORITY_PERMIT_EResolutionRule) ∧ Fld Z Z.heap w_SUPER_MAJORITY_PERMIT_EResolutionRule "java/lang/Enum" "ordinal" "I" (.int (5 : Int32)) ∧ Fld Z Z.heap w_STRONG_MAJORITY_PERMIT "com/example/kindred_consent/kindredconsent/engine/EReason" "m_eRule" "Lcom/example/kindred_consent/kindredconsent/model/EResolutionRule;" (.ref w_STRONG_MAJORITY_PERMIT_EResolutionRule) ∧ Fld Z Z.heap w_STRONG_MAJORITY_PERMIT_EResolutionRule "java/lang/Enum" "ordinal" "I" (.int (4 : Int32))
theorem ef_pick_0 (m : MethodId)  : entryFrame m #[(.int (0 : Int32))] 1 = mkF m 0 #[.val (.int (0 : Int32))] [] := by first | (simp [entryFrame, mkF, argsToLocals, Value.category]; done) | rfl
def Q_pick_0 (Z : State) (w_CONTROLLER w_FULL_CONSENSUS_PERMIT w_FULL_CONSENSUS_PERMIT_EResolutionRule w_WEIGHTED w_OWNER_OVERRIDES w_OWNER_OVERRIDES_EResolutionRule w_SOURCE w_NO_THRESHOLD w_MAJORITY_PERMIT w_MAJORITY_PERMIT_EResolutionRule w_RESHARE_REFUSED w_WEIGHTED_EReason w_NOT_VIEWER w_UNNAMED w_SUPER_MAJORITY_PERMIT w_SUPER_MAJORITY_PERMIT_EResolutionRule w_STRONG_MAJORITY_PERMIT w_STRONG_MAJORITY_PERMIT_EResolutionRule : Addr) (h0 : Heap) (n0 : Nat) (v : Option Value) (h : Heap) (L : List Loc) : Prop := v = some (.ref w_CONTROLLER) ∧ Fr n0 L ∧ h = h0
set_option maxRecDepth 65536 in
set_option maxHeartbeats 40000000 in
theorem pick_0 (l : Launch) (Z : State) (a0 : Array Value) (hw : ∀ d ∈ tables_1, d.before a0 Z = true) (ws : List Jvm.Cond) (w_CONTROLLER w_FULL_CONSENSUS_PERMIT w_FULL_CONSENSUS_PERMIT_EResolutionRule w_WEIGHTED w_OWNER_OVERRIDES w_OWNER_OVERRIDES_EResolutionRule w_SOURCE w_NO_THRESHOLD w_MAJORITY_PERMIT w_MAJORITY_PERMIT_EResolutionRule w_RESHARE_REFUSED w_WEIGHTED_EReason w_NOT_VIEWER w_UNNAMED w_SUPER_MAJORITY_PERMIT w_SUPER_MAJORITY_PERMIT_EResolutionRule w_STRONG_MAJORITY_PERMIT w_STRONG_MAJORITY_PERMIT_EResolutionRule : Addr) (h0 : Heap) (n0 : Nat) (O0 : Old Z n0 h0) (hE : OwnEnv Z w_CONTROLLER w_FULL_CONSENSUS_PERMIT w_FULL_CONSENSUS_PERMIT_EResolutionRule w_WEIGHTED w_OWNER_OVERRIDES w_OWNER_OVERRIDES_EResolutionRule w_SOURCE w_NO_THRESHOLD w_MAJORITY_PERMIT w_MAJORITY_PERMIT_EResolutionRule w_RESHARE_REFUSED w_WEIGHTED_EReason w_NOT_VIEWER w_UNNAMED w_SUPER_MAJORITY_PERMIT w_SUPER_MAJORITY_PERMIT_EResolutionRule w_STRONG_MAJORITY_PERMIT w_STRONG_MAJORITY_PERMIT_EResolutionRule) :
    MetFree l (⟨"com/example/kindred_consent/kindredconsent/engine/EReasonIsCountedPinLaw", "pick", "(I)Lcom/example/kindred_consent/kindredconsent/engine/EReason;"⟩ : MethodName) (head1 (Jvm.Cond.code (⟨"com/example/kindred_consent/kindredconsent/engine/EReasonIsCountedPinLaw", "pick", "(I)Lcom/example/kindred_consent/kindredconsent/engine/EReason;"⟩ : MethodName) method_2_code 1 (some (.object "com/example/kindred_consent/kindredconsent/engine/EReason")) :: ws) ({ frames := 0, cells := 0, slots := 0, locals := 0 } : Room)) (fun a U => a = #[(.int (0 : Int32))] ∧ Z.Warmed39 U.vm ∧ U.heap = h0) (fun _ _ _ _ _ => True) (fun _ U o U' => ∃ v L, o = .returned v ∧ Q_pick_0 Z w_CONTROLLER w_FULL_CONSENSUS_PERMIT w_FULL_CONSENSUS_PERMIT_EResolutionRule w_WEIGHTED w_OWNER_OVERRIDES w_OWNER_OVERRIDES_EResolutionRule w_SOURCE w_NO_THRESHOLD w_MAJORITY_PERMIT w_MAJORITY_PERMIT_EResolutionRule w_RESHARE_REFUSED w_WEIGHTED_EReason w_NOT_VIEWER w_UNNAMED w_SUPER_MAJORITY_PERMIT w_SUPER_MAJORITY_PERMIT_EResolutionRule w_STRONG_MAJORITY_PERMIT w_STRONG_MAJORITY_PERMIT_EResolutionRule h0 n0 v U'.heap L ∧ FrameEnd U o U' L ({ frames := 0, cells := 0, slots := 0, locals := 0 } : Room).cells ({ frames := 0, cells := 0, slots := 0, locals := 0 } : Room).slots) := by
  refine MetFree.of_bodySF (plainFor_of_name pn_com_example_kindred_consent_kindredconsent_engine_EReasonIsCountedPinLaw) hisR ?_
  intro p e s m args below meth c s₁ Bd hml0 hP hK
  obtain ⟨rfl, hZ, hh⟩ := hP
  have hx := Bd.exec
  have hby := Bd.bytes
  have hml : c.maxLocals = 1 := hml0
  have hown : s.vm.findClass "com/example/kindred_consent/kindredconsent/engine/EReasonIsCountedPinLaw" = some m.cls := findClass_of_methodNamed Bd.named
  have hnm := (name_of_methodNamed Bd.named Bd.method).1
  have X0 : Stand p l e ({ frames := 0, cells := 0, slots := 0, locals := 0 } : Room) s m #[(.int (0 : Int32))] below meth c s₁ [] 0 0 := Stand.of_body Bd
  have e0 : s₁.heap = h0 := by rw [← hh, Bd.state]; rfl
  have N0 := Fr.nil n0
  have pre0 : ∀ t, Steps p.tables e below (s₁.setTop (mkF m 0 #[.val (.int (0 : Int32))] [])) t → Steps p.tables e below (s₁.setTop (entryFrame m #[(.int (0 : Int32))] 1)) t := fun t k => castTop (ef_pick_0 m ) k
  have hE_ := hE; obtain ⟨S_w_CONTROLLER, E_w_CONTROLLER, S_w_FULL_CONSENSUS_PERMIT, E_w_FULL_CONSENSUS_PERMIT, S_w_FULL_CONSENSUS_PERMIT_EResolutionRule, E_w_FULL_CONSENSUS_PERMIT_EResolutionRule, S_w_WEIGHTED, E_w_WEIGHTED, S_w_OWNER_OVERRIDES, E_w_OWNER_OVERRIDES, S_w_OWNER_OVERRIDES_EResolutionRule, E_w_OWNER_OVERRIDES_EResolutionRule, S_w_SOURCE, E_w_SOURCE, S_w_NO_THRESHOLD, E_w_NO_THRESHOLD, S_w_MAJORITY_PERMIT, E_w_MAJORITY_PERMIT, S_w_MAJORITY_PERMIT_EResolutionRule, E_w_MAJORITY_PERMIT_EResolutionRule, S_w_RESHARE_REFUSED, E_w_RESHARE_REFUSED, S_w_WEIGHTED_EReason, E_w_WEIGHTED_EReason, S_w_NOT_VIEWER, E_w_NOT_VIEWER, S_w_UNNAMED, E_w_UNNAMED, S_w_SUPER_MAJORITY_PERMIT, E_w_SUPER_MAJORITY_PERMIT, S_w_SUPER_MAJORITY_PERMIT_EResolutionRule, E_w_SUPER_MAJORITY_PERMIT_EResolutionRule, S_w_STRONG_MAJORITY_PERMIT, E_w_STRONG_MAJORITY_PERMIT, S_w_STRONG_MAJORITY_PERMIT_EResolutionRule, E_w_STRONG_MAJORITY_PERMIT_EResolutionRule, F_m_eRule_w_CONTROLLER, F_m_eRule_w_FULL_CONSENSUS_PERMIT, F_ordinal_w_FULL_CONSENSUS_PERMIT_EResolutionRule, F_ordinal_w_WEIGHTED, F_m_eRule_w_OWNER_OVERRIDES, F_ordinal_w_OWNER_OVERRIDES_EResolutionRule, F_m_eRule_w_SOURCE, F_m_eRule_w_NO_THRESHOLD, F_m_eRule_w_MAJORITY_PERMIT, F_ordinal_w_MAJORITY_PERMIT_EResolutionRule, F_m_eRule_w_RESHARE_REFUSED, F_m_eRule_w_WEIGHTED_EReason, F_m_eRule_w_NOT_VIEWER, F_m_eRule_w_UNNAMED, F_m_eRule_w_SUPER_MAJORITY_PERMIT, F_ordinal_w_SUPER_MAJORITY_PERMIT_EResolutionRule, F_m_eRule_w_STRONG_MAJORITY_PERMIT, F_ordinal_w_STRONG_MAJORITY_PERMIT_EResolutionRule⟩ := hE_
  obtain ⟨T1, X1, e1, st1⟩ := getS2 X0 hx hZ hown (host := "") (Or.inl (hw _ (List.mem_of_getElem? (i := 5) rfl))) Via.refl e0 (S_w_CONTROLLER.ext O0.2) (g := (mkF m 4 #[.val (.int (0 : Int32))] [])) rfl (hb hby d1_4)
  obtain ⟨fs, hr, hrun, hended, hW, hsame⟩ := X1.leave (v := some (.ref w_CONTROLLER)) (fun h => by rw [Bd.returns] at h; cases h)
  refine ⟨_, _, pre0 _ ?_, hrun, hended, _, _, rfl, ?_, ⟨_, rfl⟩, hW, hsame.mono (by decide) (by decide)⟩
  · show Steps p.tables e below (s₁.setTop (mkF m 0 #[.val (.int (0 : Int32))] [])) _
    refine XS.iloadN X0.here hx rfl (hb hby d1_0) rfl ?_
    show Steps p.tables e below (s₁.setTop (mkF m 1 #[.val (.int (0 : Int32))] [(.int (0 : Int32))])) _
    refine XS.ifNo X0.here hx rfl (hb hby d1_1) rfl ((if0 _ _).trans (teq (by decide : (0 : Int32) = (0 : Int32))).2) ?_
    show Steps p.tables e below (s₁.setTop (mkF m 4 #[.val (.int (0 : Int32))] [])) _
    refine st1 _ ?_
    show Steps p.tables e below (T1.setTop (mkF m 7 #[.val (.int (0 : Int32))] [(.ref w_CONTROLLER)])) _
    jvm_step X1.here [X1.here.top, hx, (hb hby d1_7), X1.method', Bd.returns, Value.isRef, FieldType.isReference]
    first | (intro acts; rw [hr _ acts rfl rfl rfl]) | rw [hr _ _ rfl rfl rfl]
    exact Steps.refl _
  · show Q_pick_0 Z w_CONTROLLER w_FULL_CONSENSUS_PERMIT w_FULL_CONSENSUS_PERMIT_EResolutionRule w_WEIGHTED w_OWNER_OVERRIDES w_OWNER_OVERRIDES_EResolutionRule w_SOURCE w_NO_THRESHOLD w_MAJORITY_PERMIT w_MAJORITY_PERMIT_EResolutionRule w_RESHARE_REFUSED w_WEIGHTED_EReason w_NOT_VIEWER w_UNNAMED w_SUPER_MAJORITY_PERMIT w_SUPER_MAJORITY_PERMIT_EResolutionRule w_STRONG_MAJORITY_PERMIT w_STRONG_MAJORITY_PERMIT_EResolutionRule h0 n0 _ T1.heap _
    rw [e1]
    exact ⟨rfl, N0, rfl⟩
theorem ef_ic_CONTROLLER (m : MethodId) (w_CONTROLLER : Addr) : entryFrame m #[(.ref w_CONTROLLER)] 1 = mkF m 0 #[.val (.ref w_CONTROLLER)] [] := by first | (simp [entryFrame, mkF, argsToLocals, Value.category]; done) | rfl
def Q_ic_CONTROLLER (Z : State) (w_CONTROLLER w_FULL_CONSENSUS_PERMIT w_FULL_CONSENSUS_PERMIT_EResolutionRule w_WEIGHTED w_OWNER_OVERRIDES w_OWNER_OVERRIDES_EResolutionRule w_SOURCE w_NO_THRESHOLD w_MAJORITY_PERMIT w_MAJORITY_PERMIT_EResolutionRule w_RESHARE_REFUSED w_WEIGHTED_EReason w_NOT_VIEWER w_UNNAMED w_SUPER_MAJORITY_PERMIT w_SUPER_MAJORITY_PERMIT_EResolutionRule w_STRONG_MAJORITY_PERMIT w_STRONG_MAJORITY_PERMIT_EResolutionRule : Addr) (h0 : Heap) (n0 : Nat) (v : Option Value) (h : Heap) (L : List Loc) : Prop := v = some (.int (0 : Int32)) ∧ Fr n0 L ∧ h = h0
set_option maxRecDepth 65536 in
set_option maxHeartbeats 40000000 in
theorem ic_CONTROLLER (l : Launch) (Z : State) (a0 : Array Value) (hw : ∀ d ∈ tables_1, d.before a0 Z = true) (ws : List Jvm.Cond) (w_CONTROLLER w_FULL_CONSENSUS_PERMIT w_FULL_CONSENSUS_PERMIT_EResolutionRule w_WEIGHTED w_OWNER_OVERRIDES w_OWNER_OVERRIDES_EResolutionRule w_SOURCE w_NO_THRESHOLD w_MAJORITY_PERMIT w_MAJORITY_PERMIT_EResolutionRule w_RESHARE_REFUSED w_WEIGHTED_EReason w_NOT_VIEWER w_UNNAMED w_SUPER_MAJORITY_PERMIT w_SUPER_MAJORITY_PERMIT_EResolutionRule w_STRONG_MAJORITY_PERMIT w_STRONG_MAJORITY_PERMIT_EResolutionRule : Addr) (h0 : Heap) (n0 : Nat) (O0 : Old Z n0 h0) (hE : OwnEnv Z w_CONTROLLER w_FULL_CONSENSUS_PERMIT w_FULL_CONSENSUS_PERMIT_EResolutionRule w_WEIGHTED w_OWNER_OVERRIDES w_OWNER_OVERRIDES_EResolutionRule w_SOURCE w_NO_THRESHOLD w_MAJORITY_PERMIT w_MAJORITY_PERMIT_EResolutionRule w_RESHARE_REFUSED w_WEIGHTED_EReason w_NOT_VIEWER w_UNNAMED w_SUPER_MAJORITY_PERMIT w_SUPER_MAJORITY_PERMIT_EResolutionRule w_STRONG_MAJORITY_PERMIT w_STRONG_MAJORITY_PERMIT_EResolutionRule) :
    MetFree l (⟨"com/example/kindred_consent/kindredconsent/engine/EReason", "isCounted", "()Z"⟩ : MethodName) (head1 (Jvm.Cond.code (⟨"com/example/kindred_consent/kindredconsent/engine/EReason", "isCounted", "()Z"⟩ : MethodName) prog_7_method_7_code 1 (some .boolean) :: ws) ({ frames := 0, cells := 0, slots := 0, locals := 0 } : Room)) (fun a U => a = #[(.ref w_CONTROLLER)] ∧ Z.Warmed39 U.vm ∧ U.heap = h0) (fun _ _ _ _ _ => True) (fun _ U o U' => ∃ v L, o = .returned v ∧ Q_ic_CONTROLLER Z w_CONTROLLER w_FULL_CONSENSUS_PERMIT w_FULL_CONSENSUS_PERMIT_EResolutionRule w_WEIGHTED w_OWNER_OVERRIDES w_OWNER_OVERRIDES_EResolutionRule w_SOURCE w_NO_THRESHOLD w_MAJORITY_PERMIT w_MAJORITY_PERMIT_EResolutionRule w_RESHARE_REFUSED w_WEIGHTED_EReason w_NOT_VIEWER w_UNNAMED w_SUPER_MAJORITY_PERMIT w_SUPER_MAJORITY_PERMIT_EResolutionRule w_STRONG_MAJORITY_PERMIT w_STRONG_MAJORITY_PERMIT_EResolutionRule h0 n0 v U'.heap L ∧ FrameEnd U o U' L ({ frames := 0, cells := 0, slots := 0, locals := 0 } : Room).cells ({ frames := 0, cells := 0, slots := 0, locals := 0 } : Room).slots) := by
  refine MetFree.of_bodySF (plainFor_of_name pn_com_example_kindred_consent_kindredconsent_engine_EReason) hisR ?_
  intro p e s m args below meth c s₁ Bd hml0 hP hK
  obtain ⟨rfl, hZ, hh⟩ := hP
  have hx := Bd.exec
  have hby := Bd.bytes
  have hml : c.maxLocals = 1 := hml0
  have hown : s.vm.findClass "com/example/kindred_consent/kindredconsent/engine/EReason" = some m.cls := findClass_of_methodNamed Bd.named
  have hnm := (name_of_methodNamed Bd.named Bd.method).1
  have X0 : Stand p l e ({ frames := 0, cells := 0, slots := 0, locals := 0 } : Room) s m #[(.ref w_CONTROLLER)] below meth c s₁ [] 0 0 := Stand.of_body Bd
  have e0 : s₁.heap = h0 := by rw [← hh, Bd.state]; rfl
  have N0 := Fr.nil n0
  have pre0 : ∀ t, Steps p.tables e below (s₁.setTop (mkF m 0 #[.val (.ref w_CONTROLLER)] [])) t → Steps p.tables e below (s₁.setTop (entryFrame m #[(.ref w_CONTROLLER)] 1)) t := fun t k => castTop (ef_ic_CONTROLLER m w_CONTROLLER) k
  have hE_ := hE; obtain ⟨S_w_CONTROLLER, E_w_CONTROLLER, S_w_FULL_CONSENSUS_PERMIT, E_w_FULL_CONSENSUS_PERMIT, S_w_FULL_CONSENSUS_PERMIT_EResolutionRule, E_w_FULL_CONSENSUS_PERMIT_EResolutionRule, S_w_WEIGHTED, E_w_WEIGHTED, S_w_OWNER_OVERRIDES, E_w_OWNER_OVERRIDES, S_w_OWNER_OVERRIDES_EResolutionRule, E_w_OWNER_OVERRIDES_EResolutionRule, S_w_SOURCE, E_w_SOURCE, S_w_NO_THRESHOLD, E_w_NO_THRESHOLD, S_w_MAJORITY_PERMIT, E_w_MAJORITY_PERMIT, S_w_MAJORITY_PERMIT_EResolutionRule, E_w_MAJORITY_PERMIT_EResolutionRule, S_w_RESHARE_REFUSED, E_w_RESHARE_REFUSED, S_w_WEIGHTED_EReason, E_w_WEIGHTED_EReason, S_w_NOT_VIEWER, E_w_NOT_VIEWER, S_w_UNNAMED, E_w_UNNAMED, S_w_SUPER_MAJORITY_PERMIT, E_w_SUPER_MAJORITY_PERMIT, S_w_SUPER_MAJORITY_PERMIT_EResolutionRule, E_w_SUPER_MAJORITY_PERMIT_EResolutionRule, S_w_STRONG_MAJORITY_PERMIT, E_w_STRONG_MAJORITY_PERMIT, S_w_STRONG_MAJORITY_PERMIT_EResolutionRule, E_w_STRONG_MAJORITY_PERMIT_EResolutionRule, F_m_eRule_w_CONTROLLER, F_m_eRule_w_FULL_CONSENSUS_PERMIT, F_ordinal_w_FULL_CONSENSUS_PERMIT_EResolutionRule, F_ordinal_w_WEIGHTED, F_m_eRule_w_OWNER_OVERRIDES, F_ordinal_w_OWNER_OVERRIDES_EResolutionRule, F_m_eRule_w_SOURCE, F_m_eRule_w_NO_THRESHOLD, F_m_eRule_w_MAJORITY_PERMIT, F_ordinal_w_MAJORITY_PERMIT_EResolutionRule, F_m_eRule_w_RESHARE_REFUSED, F_m_eRule_w_WEIGHTED_EReason, F_m_eRule_w_NOT_VIEWER, F_m_eRule_w_UNNAMED, F_m_eRule_w_SUPER_MAJORITY_PERMIT, F_ordinal_w_SUPER_MAJORITY_PERMIT_EResolutionRule, F_m_eRule_w_STRONG_MAJORITY_PERMIT, F_ordinal_w_STRONG_MAJORITY_PERMIT_EResolutionRule⟩ := hE_
  obtain ⟨T1, X1, e1, st1⟩ := getF X0 hx hZ hown (host := "") (Or.inl (hw _ (List.mem_of_getElem? (i := 13) rfl))) Via.refl e0 (F_m_eRule_w_CONTROLLER.ext O0.2) (g := (mkF m 1 #[.val (.ref w_CONTROLLER)] [(.ref w_CONTROLLER)])) rfl rfl (hb hby d2_1)
  obtain ⟨fs, hr, hrun, hended, hW, hsame⟩ := X1.leave (v := some (.int (0 : Int32))) (fun h => by rw [Bd.returns] at h; cases h)
  refine ⟨_, _, pre0 _ ?_, hrun, hended, _, _, rfl, ?_, ⟨_, rfl⟩, hW, hsame.mono (by decide) (by decide)⟩
  · show Steps p.tables e below (s₁.setTop (mkF m 0 #[.val (.ref w_CONTROLLER)] [])) _
    refine XS.aloadN X0.here hx rfl (hb hby d2_0) rfl rfl ?_
    show Steps p.tables e below (s₁.setTop (mkF m 1 #[.val (.ref w_CONTROLLER)] [(.ref w_CONTROLLER)])) _
    refine st1 _ ?_
    show Steps p.tables e below (T1.setTop (mkF m 4 #[.val (.ref w_CONTROLLER)] [.null])) _
    refine XS.ifnullYes X1.here hx rfl (pc0 := 4) (pc' := 21) rfl (hb hby d2_4) rfl (by decide) (by decide) ?_
    show Steps p.tables e below (T1.setTop (mkF m 21 #[.val (.ref w_CONTROLLER)] [])) _
    refine XS.iconst X1.here hx rfl (hb hby d2_21) ?_
    show Steps p.tables e below (T1.setTop (mkF m 22 #[.val (.ref w_CONTROLLER)] [(.int (0 : Int32))])) _
    exact retN X1 hx (t := .boolean) Bd.returns (by simp) (hb hby d2_22) hr
  · show Q_ic_CONTROLLER Z w_CONTROLLER w_FULL_CONSENSUS_PERMIT w_FULL_CONSENSUS_PERMIT_EResolutionRule w_WEIGHTED w_OWNER_OVERRIDES w_OWNER_OVERRIDES_EResolutionRule w_SOURCE w_NO_THRESHOLD w_MAJORITY_PERMIT w_MAJORITY_PERMIT_EResolutionRule w_RESHARE_REFUSED w_WEIGHTED_EReason w_NOT_VIEWER w_UNNAMED w_SUPER_MAJORITY_PERMIT w_SUPER_MAJORITY_PERMIT_EResolutionRule w_STRONG_MAJORITY_PERMIT w_STRONG_MAJORITY_PERMIT_EResolutionRule h0 n0 _ T1.heap _
    rw [e1]
    exact ⟨rfl, N0, rfl⟩
theorem ef_pick_1 (m : MethodId)  : entryFrame m #[(.int (1 : Int32))] 1 = mkF m 0 #[.val (.int (1 : Int32))] [] := by first | (simp [entryFrame, mkF, argsToLocals, Value.category]; done) | rfl
def Q_pick_1 (Z : State) (w_CONTROLLER w_FULL_CONSENSUS_PERMIT w_FULL_CONSENSUS_PERMIT_EResolutionRule w_WEIGHTED w_OWNER_OVERRIDES w_OWNER_OVERRIDES_EResolutionRule w_SOURCE w_NO_THRESHOLD w_MAJORITY_PERMIT w_MAJORITY_PERMIT_EResolutionRule w_RESHARE_REFUSED w_WEIGHTED_EReason w_NOT_VIEWER w_UNNAMED w_SUPER_MAJORITY_PERMIT w_SUPER_MAJORITY_PERMIT_EResolutionRule w_STRONG_MAJORITY_PERMIT w_STRONG_MAJORITY_PERMIT_EResolutionRule : Addr) (h0 : Heap) (n0 : Nat) (v : Option Value) (h : Heap) (L : List Loc) : Prop := v = some (.ref w_WEIGHTED_EReason) ∧ Fr n0 L ∧ h = h0
set_option maxRecDepth 65536 in
set_option maxHeartbeats 40000000 in
theorem pick_1 (l : Launch) (Z : State) (a0 : Array Value) (hw : ∀ d ∈ tables_1, d.before a0 Z = true) (ws : List Jvm.Cond) (w_CONTROLLER w_FULL_CONSENSUS_PERMIT w_FULL_CONSENSUS_PERMIT_EResolutionRule w_WEIGHTED w_OWNER_OVERRIDES w_OWNER_OVERRIDES_EResolutionRule w_SOURCE w_NO_THRESHOLD w_MAJORITY_PERMIT w_MAJORITY_PERMIT_EResolutionRule w_RESHARE_REFUSED w_WEIGHTED_EReason w_NOT_VIEWER w_UNNAMED w_SUPER_MAJORITY_PERMIT w_SUPER_MAJORITY_PERMIT_EResolutionRule w_STRONG_MAJORITY_PERMIT w_STRONG_MAJORITY_PERMIT_EResolutionRule : Addr) (h0 : Heap) (n0 : Nat) (O0 : Old Z n0 h0) (hE : OwnEnv Z w_CONTROLLER w_FULL_CONSENSUS_PERMIT w_FULL_CONSENSUS_PERMIT_EResolutionRule w_WEIGHTED w_OWNER_OVERRIDES w_OWNER_OVERRIDES_EResolutionRule w_SOURCE w_NO_THRESHOLD w_MAJORITY_PERMIT w_MAJORITY_PERMIT_EResolutionRule w_RESHARE_REFUSED w_WEIGHTED_EReason w_NOT_VIEWER w_UNNAMED w_SUPER_MAJORITY_PERMIT w_SUPER_MAJORITY_PERMIT_EResolutionRule w_STRONG_MAJORITY_PERMIT w_STRONG_MAJORITY_PERMIT_EResolutionRule) :
    MetFree l (⟨"com/example/kindred_consent/kindredconsent/engine/EReasonIsCountedPinLaw", "pick", "(I)Lcom/example/kindred_consent/kindredconsent/engine/EReason;"⟩ : MethodName) (head1 (Jvm.Cond.code (⟨"com/example/kindred_consent/kindredconsent/engine/EReasonIsCountedPinLaw", "pick", "(I)Lcom/example/kindred_consent/kindredconsent/engine/EReason;"⟩ : MethodName) method_2_code 1 (some (.object "com/example/kindred_consent/kindredconsent/engine/EReason")) :: ws) ({ frames := 0, cells := 0, slots := 0, locals := 0 } : Room)) (fun a U => a = #[(.int (1 : Int32))] ∧ Z.Warmed39 U.vm ∧ U.heap = h0) (fun _ _ _ _ _ => True) (fun _ U o U' => ∃ v L, o = .returned v ∧ Q_pick_1 Z w_CONTROLLER w_FULL_CONSENSUS_PERMIT w_FULL_CONSENSUS_PERMIT_EResolutionRule w_WEIGHTED w_OWNER_OVERRIDES w_OWNER_OVERRIDES_EResolutionRule w_SOURCE w_NO_THRESHOLD w_MAJORITY_PERMIT w_MAJORITY_PERMIT_EResolutionRule w_RESHARE_REFUSED w_WEIGHTED_EReason w_NOT_VIEWER w_UNNAMED w_SUPER_MAJORITY_PERMIT w_SUPER_MAJORITY_PERMIT_EResolutionRule w_STRONG_MAJORITY_PERMIT w_STRONG_MAJORITY_PERMIT_EResolutionRule h0 n0 v U'.heap L ∧ FrameEnd U o U' L ({ frames := 0, cells := 0, slots := 0, locals := 0 } : Room).cells ({ frames := 0, cells := 0, slots := 0, locals := 0 } : Room).slots) := by
  refine MetFree.of_bodySF (plainFor_of_name pn_com_example_kindred_consent_kindredconsent_engine_EReasonIsCountedPinLaw) hisR ?_
  intro p e s m args below meth c s₁ Bd hml0 hP hK
  obtain ⟨rfl, hZ, hh⟩ := hP
  have hx := Bd.exec
  have hby := Bd.bytes
  have hml : c.maxLocals = 1 := hml0
  have hown : s.vm.findClass "com/example/kindred_consent/kindredconsent/engine/EReasonIsCountedPinLaw" = some m.cls := findClass_of_methodNamed Bd.named
  have hnm := (name_of_methodNamed Bd.named Bd.method).1
  have X0 : Stand p l e ({ frames := 0, cells := 0, slots := 0, locals := 0 } : Room) s m #[(.int (1 : Int32))] below meth c s₁ [] 0 0 := Stand.of_body Bd
  have e0 : s₁.heap = h0 := by rw [← hh, Bd.state]; rfl
  have N0 := Fr.nil n0
  have pre0 : ∀ t, Steps p.tables e below (s₁.setTop (mkF m 0 #[.val (.int (1 : Int32))] [])) t → Steps p.tables e below (s₁.setTop (entryFrame m #[(.int (1 : Int32))] 1)) t := fun t k => castTop (ef_pick_1 m ) k
  have hE_ := hE; obtain ⟨S_w_CONTROLLER, E_w_CONTROLLER, S_w_FULL_CONSENSUS_PERMIT, E_w_FULL_CONSENSUS_PERMIT, S_w_FULL_CONSENSUS_PERMIT_EResolutionRule, E_w_FULL_CONSENSUS_PERMIT_EResolutionRule, S_w_WEIGHTED, E_w_WEIGHTED, S_w_OWNER_OVERRIDES, E_w_OWNER_OVERRIDES, S_w_OWNER_OVERRIDES_EResolutionRule, E_w_OWNER_OVERRIDES_EResolutionRule, S_w_SOURCE, E_w_SOURCE, S_w_NO_THRESHOLD, E_w_NO_THRESHOLD, S_w_MAJORITY_PERMIT, E_w_MAJORITY_PERMIT, S_w_MAJORITY_PERMIT_EResolutionRule, E_w_MAJORITY_PERMIT_EResolutionRule, S_w_RESHARE_REFUSED, E_w_RESHARE_REFUSED, S_w_WEIGHTED_EReason, E_w_WEIGHTED_EReason, S_w_NOT_VIEWER, E_w_NOT_VIEWER, S_w_UNNAMED, E_w_UNNAMED, S_w_SUPER_MAJORITY_PERMIT, E_w_SUPER_MAJORITY_PERMIT, S_w_SUPER_MAJORITY_PERMIT_EResolutionRule, E_w_SUPER_MAJORITY_PERMIT_EResolutionRule, S_w_STRONG_MAJORITY_PERMIT, E_w_STRONG_MAJORITY_PERMIT, S_w_STRONG_MAJORITY_PERMIT_EResolutionRule, E_w_STRONG_MAJORITY_PERMIT_EResolutionRule, F_m_eRule_w_CONTROLLER, F_m_eRule_w_FULL_CONSENSUS_PERMIT, F_ordinal_w_FULL_CONSENSUS_PERMIT_EResolutionRule, F_ordinal_w_WEIGHTED, F_m_eRule_w_OWNER_OVERRIDES, F_ordinal_w_OWNER_OVERRIDES_EResolutionRule, F_m_eRule_w_SOURCE, F_m_eRule_w_NO_THRESHOLD, F_m_eRule_w_MAJORITY_PERMIT, F_ordinal_w_MAJORITY_PERMIT_EResolutionRule, F_m_eRule_w_RESHARE_REFUSED, F_m_eRule_w_WEIGHTED_EReason, F_m_eRule_w_NOT_VIEWER, F_m_eRule_w_UNNAMED, F_m_eRule_w_SUPER_MAJORITY_PERMIT, F_ordinal_w_SUPER_MAJORITY_PERMIT_EResolutionRule, F_m_eRule_w_STRONG_MAJORITY_PERMIT, F_ordinal_w_STRONG_MAJORITY_PERMIT_EResolutionRule⟩ := hE_
  obtain ⟨T1, X1, e1, st1⟩ := getS2 X0 hx hZ hown (host := "") (Or.inl (hw _ (List.mem_of_getElem? (i := 33) rfl))) Via.refl e0 (S_w_WEIGHTED_EReason.ext O0.2) (g := (mkF m 13 #[.val (.int (1 : Int32))] [])) rfl (hb hby d1_13)
  obtain ⟨fs, hr, hrun, hended, hW, hsame⟩ := X1.leave (v := some (.ref w_WEIGHTED_EReason)) (fun h => by rw [Bd.returns] at h; cases h)
  refine ⟨_, _, pre0 _ ?_, hrun, hended, _, _, rfl, ?_, ⟨_, rfl⟩, hW, hsame.mono (by decide) (by decide)⟩
  · show Steps p.tables e below (s₁.setTop (mkF m 0 #[.val (.int (1 : Int32))] [])) _
    refine XS.iloadN X0.here hx rfl (hb hby d1_0) rfl ?_
    show Steps p.tables e below (s₁.setTop (mkF m 1 #[.val (.int (1 : Int32))] [(.int (1 : Int32))])) _
    refine XS.ifYes X0.here hx rfl (pc0 := 1) (pc' := 8) rfl (hb hby d1_1) rfl ((if0 _ _).trans (feq (by decide : ¬ ((1 : Int32) = (0 : Int32)))).2) (by decide) (by decide) ?_
    show Steps p.tables e below (s₁.setTop (mkF m 8 #[.val (.int (1 : Int32))] [])) _
    refine XS.iloadN X0.here hx rfl (hb hby d1_8) rfl ?_
    show Steps p.tables e below (s₁.setTop (mkF m 9 #[.val (.int (1 : Int32))] [(.int (1 : Int32))])) _
    refine XS.iconst X0.here hx rfl (hb hby d1_9) ?_
    show Steps p.tables e below (s₁.setTop (mkF m 10 #[.val (.int (1 : Int32))] [(.int (1 : Int32)), (.int (1 : Int32))])) _
    refine XS.icmpNo X0.here hx rfl (hb hby d1_10) rfl (teq (by decide : (1 : Int32) = (1 : Int32))).2 ?_
    show Steps p.tables e below (s₁.setTop (mkF m 13 #[.val (.int (1 : Int32))] [])) _
    refine st1 _ ?_
    show Steps p.tables e below (T1.setTop (mkF m 16 #[.val (.int (1 : Int32))] [(.ref w_WEIGHTED_EReason)])) _
    jvm_step X1.here [X1.here.top, hx, (hb hby d1_16), X1.method', Bd.returns, Value.isRef, FieldType.isReference]
    first | (intro acts; rw [hr _ acts rfl rfl rfl]) | rw [hr _ _ rfl rfl rfl]
    exact Steps.refl _
  · show Q_pick_1 Z w_CONTROLLER w_FULL_CONSENSUS_PERMIT w_FULL_CONSENSUS_PERMIT_EResolutionRule w_WEIGHTED w_OWNER_OVERRIDES w_OWNER_OVERRIDES_EResolutionRule w_SOURCE w_NO_THRESHOLD w_MAJORITY_PERMIT w_MAJORITY_PERMIT_EResolutionRule w_RESHARE_REFUSED w_WEIGHTED_EReason w_NOT_VIEWER w_UNNAMED w_SUPER_MAJORITY_PERMIT w_SUPER_MAJORITY_PERMIT_EResolutionRule w_STRONG_MAJORITY_PERMIT w_STRONG_MAJORITY_PERMIT_EResolutionRule h0 n0 _ T1.heap _
    rw [e1]
    exact ⟨rfl, N0, rfl⟩
theorem ef_ic_WEIGHTED (m : MethodId) (w_WEIGHTED_EReason : Addr) : entryFrame m #[(.ref w_WEIGHTED_EReason)] 1 = mkF m 0 #[.val (.ref w_WEIGHTED_EReason)] [] := by first | (simp [entryFrame, mkF, argsToLocals, Value.category]; done) | rfl
def Q_ic_WEIGHTED (Z : State) (w_CONTROLLER w_FULL_CONSENSUS_PERMIT w_FULL_CONSENSUS_PERMIT_EResolutionRule w_WEIGHTED w_OWNER_OVERRIDES w_OWNER_OVERRIDES_EResolutionRule w_SOURCE w_NO_THRESHOLD w_MAJORITY_PERMIT w_MAJORITY_PERMIT_EResolutionRule w_RESHARE_REFUSED w_WEIGHTED_EReason w_NOT_VIEWER w_UNNAMED w_SUPER_MAJORITY_PERMIT w_SUPER_MAJORITY_PERMIT_EResolutionRule w_STRONG_MAJORITY_PERMIT w_STRONG_MAJORITY_PERMIT_EResolutionRule : Addr) (h0 : Heap) (n0 : Nat) (v : Option Value) (h : Heap) (L : List Loc) : Prop := v = some (.int (0 : Int32)) ∧ Fr n0 L ∧ h = h0
set_option maxRecDepth 65536 in
set_option maxHeartbeats 40000000 in
theorem ic_WEIGHTED (l : Launch) (Z : State) (a0 : Array Value) (hw : ∀ d ∈ tables_1, d.before a0 Z = true) (ws : List Jvm.Cond) (w_CONTROLLER w_FULL_CONSENSUS_PERMIT w_FULL_CONSENSUS_PERMIT_EResolutionRule w_WEIGHTED w_OWNER_OVERRIDES w_OWNER_OVERRIDES_EResolutionRule w_SOURCE w_NO_THRESHOLD w_MAJORITY_PERMIT w_MAJORITY_PERMIT_EResolutionRule w_RESHARE_REFUSED w_WEIGHTED_EReason w_NOT_VIEWER w_UNNAMED w_SUPER_MAJORITY_PERMIT w_SUPER_MAJORITY_PERMIT_EResolutionRule w_STRONG_MAJORITY_PERMIT w_STRONG_MAJORITY_PERMIT_EResolutionRule : Addr) (h0 : Heap) (n0 : Nat) (O0 : Old Z n0 h0) (hE : OwnEnv Z w_CONTROLLER w_FULL_CONSENSUS_PERMIT w_FULL_CONSENSUS_PERMIT_EResolutionRule w_WEIGHTED w_OWNER_OVERRIDES w_OWNER_OVERRIDES_EResolutionRule w_SOURCE w_NO_THRESHOLD w_MAJORITY_PERMIT w_MAJORITY_PERMIT_EResolutionRule w_RESHARE_REFUSED w_WEIGHTED_EReason w_NOT_VIEWER w_UNNAMED w_SUPER_MAJORITY_PERMIT w_SUPER_MAJORITY_PERMIT_EResolutionRule w_STRONG_MAJORITY_PERMIT w_STRONG_MAJORITY_PERMIT_EResolutionRule) :
    MetFree l (⟨"com/example/kindred_consent/kindredconsent/engine/EReason", "isCounted", "()Z"⟩ : MethodName) (head1 (Jvm.Cond.code (⟨"com/example/kindred_consent/kindredconsent/engine/EReason", "isCounted", "()Z"⟩ : MethodName) prog_7_method_7_code 1 (some .boolean) :: ws) ({ frames := 0, cells := 0, slots := 0, locals := 0 } : Room)) (fun a U => a = #[(.ref w_WEIGHTED_EReason)] ∧ Z.Warmed39 U.vm ∧ U.heap = h0) (fun _ _ _ _ _ => True) (fun _ U o U' => ∃ v L, o = .returned v ∧ Q_ic_WEIGHTED Z w_CONTROLLER w_FULL_CONSENSUS_PERMIT w_FULL_CONSENSUS_PERMIT_EResolutionRule w_WEIGHTED w_OWNER_OVERRIDES w_OWNER_OVERRIDES_EResolutionRule w_SOURCE w_NO_THRESHOLD w_MAJORITY_PERMIT w_MAJORITY_PERMIT_EResolutionRule w_RESHARE_REFUSED w_WEIGHTED_EReason w_NOT_VIEWER w_UNNAMED w_SUPER_MAJORITY_PERMIT w_SUPER_MAJORITY_PERMIT_EResolutionRule w_STRONG_MAJORITY_PERMIT w_STRONG_MAJORITY_PERMIT_EResolutionRule h0 n0 v U'.heap L ∧ FrameEnd U o U' L ({ frames := 0, cells := 0, slots := 0, locals := 0 } : Room).cells ({ frames := 0, cells := 0, slots := 0, locals := 0 } : Room).slots) := by
  refine MetFree.of_bodySF (plainFor_of_name pn_com_example_kindred_consent_kindredconsent_engine_EReason) hisR ?_
  intro p e s m args below meth c s₁ Bd hml0 hP hK
  obtain ⟨rfl, hZ, hh⟩ := hP
  have hx := Bd.exec
  have hby := Bd.bytes
  have hml : c.maxLocals = 1 := hml0
  have hown : s.vm.findClass "com/example/kindred_consent/kindredconsent/engine/EReason" = some m.cls := findClass_of_methodNamed Bd.named
  have hnm := (name_of_methodNamed Bd.named Bd.method).1
  have X0 : Stand p l e ({ frames := 0, cells := 0, slots := 0, locals := 0 } : Room) s m #[(.ref w_WEIGHTED_EReason)] below meth c s₁ [] 0 0 := Stand.of_body Bd
  have e0 : s₁.heap = h0 := by rw [← hh, Bd.state]; rfl
  have N0 := Fr.nil n0
  have pre0 : ∀ t, Steps p.tables e below (s₁.setTop (mkF m 0 #[.val (.ref w_WEIGHTED_EReason)] [])) t → Steps p.tables e below (s₁.setTop (entryFrame m #[(.ref w_WEIGHTED_EReason)] 1)) t := fun t k => castTop (ef_ic_WEIGHTED m w_WEIGHTED_EReason) k
  have hE_ := hE; obtain ⟨S_w_CONTROLLER, E_w_CONTROLLER, S_w_FULL_CONSENSUS_PERMIT, E_w_FULL_CONSENSUS_PERMIT, S_w_FULL_CONSENSUS_PERMIT_EResolutionRule, E_w_FULL_CONSENSUS_PERMIT_EResolutionRule, S_w_WEIGHTED, E_w_WEIGHTED, S_w_OWNER_OVERRIDES, E_w_OWNER_OVERRIDES, S_w_OWNER_OVERRIDES_EResolutionRule, E_w_OWNER_OVERRIDES_EResolutionRule, S_w_SOURCE, E_w_SOURCE, S_w_NO_THRESHOLD, E_w_NO_THRESHOLD, S_w_MAJORITY_PERMIT, E_w_MAJORITY_PERMIT, S_w_MAJORITY_PERMIT_EResolutionRule, E_w_MAJORITY_PERMIT_EResolutionRule, S_w_RESHARE_REFUSED, E_w_RESHARE_REFUSED, S_w_WEIGHTED_EReason, E_w_WEIGHTED_EReason, S_w_NOT_VIEWER, E_w_NOT_VIEWER, S_w_UNNAMED, E_w_UNNAMED, S_w_SUPER_MAJORITY_PERMIT, E_w_SUPER_MAJORITY_PERMIT, S_w_SUPER_MAJORITY_PERMIT_EResolutionRule, E_w_SUPER_MAJORITY_PERMIT_EResolutionRule, S_w_STRONG_MAJORITY_PERMIT, E_w_STRONG_MAJORITY_PERMIT, S_w_STRONG_MAJORITY_PERMIT_EResolutionRule, E_w_STRONG_MAJORITY_PERMIT_EResolutionRule, F_m_eRule_w_CONTROLLER, F_m_eRule_w_FULL_CONSENSUS_PERMIT, F_ordinal_w_FULL_CONSENSUS_PERMIT_EResolutionRule, F_ordinal_w_WEIGHTED, F_m_eRule_w_OWNER_OVERRIDES, F_ordinal_w_OWNER_OVERRIDES_EResolutionRule, F_m_eRule_w_SOURCE, F_m_eRule_w_NO_THRESHOLD, F_m_eRule_w_MAJORITY_PERMIT, F_ordinal_w_MAJORITY_PERMIT_EResolutionRule, F_m_eRule_w_RESHARE_REFUSED, F_m_eRule_w_WEIGHTED_EReason, F_m_eRule_w_NOT_VIEWER, F_m_eRule_w_UNNAMED, F_m_eRule_w_SUPER_MAJORITY_PERMIT, F_ordinal_w_SUPER_MAJORITY_PERMIT_EResolutionRule, F_m_eRule_w_STRONG_MAJORITY_PERMIT, F_ordinal_w_STRONG_MAJORITY_PERMIT_EResolutionRule⟩ := hE_
  obtain ⟨T1, X1, e1, st1⟩ := getF X0 hx hZ hown (host := "") (Or.inl (hw _ (List.mem_of_getElem? (i := 13) rfl))) Via.refl e0 (F_m_eRule_w_WEIGHTED_EReason.ext O0.2) (g := (mkF m 1 #[.val (.ref w_WEIGHTED_EReason)] [(.ref w_WEIGHTED_EReason)])) rfl rfl (hb hby d2_1)
  obtain ⟨T2, X2, e2, st2⟩ := getF X1 hx hZ hown (host := "") (Or.inl (hw _ (List.mem_of_getElem? (i := 13) rfl))) Via.refl e1 (F_m_eRule_w_WEIGHTED_EReason.ext O0.2) (g := (mkF m 8 #[.val (.ref w_WEIGHTED_EReason)] [(.ref w_WEIGHTED_EReason)])) rfl rfl (hb hby d2_8)
  obtain ⟨T3, X3, e3, st3⟩ := getS2 X2 hx hZ hown (host := "") (Or.inl (hw _ (List.mem_of_getElem? (i := 19) rfl))) Via.refl e2 (S_w_WEIGHTED.ext O0.2) (g := (mkF m 11 #[.val (.ref w_WEIGHTED_EReason)] [(.ref w_WEIGHTED)])) rfl (hb hby d2_11)
  obtain ⟨fs, hr, hrun, hended, hW, hsame⟩ := X3.leave (v := some (.int (0 : Int32))) (fun h => by rw [Bd.returns] at h; cases h)
  refine ⟨_, _, pre0 _ ?_, hrun, hended, _, _, rfl, ?_, ⟨_, rfl⟩, hW, hsame.mono (by decide) (by decide)⟩
  · show Steps p.tables e below (s₁.setTop (mkF m 0 #[.val (.ref w_WEIGHTED_EReason)] [])) _
    refine XS.aloadN X0.here hx rfl (hb hby d2_0) rfl rfl ?_
    show Steps p.tables e below (s₁.setTop (mkF m 1 #[.val (.ref w_WEIGHTED_EReason)] [(.ref w_WEIGHTED_EReason)])) _
    refine st1 _ ?_
    show Steps p.tables e below (T1.setTop (mkF m 4 #[.val (.ref w_WEIGHTED_EReason)] [(.ref w_WEIGHTED)])) _
    refine XS.ifnullNo X1.here hx rfl (hb hby d2_4) rfl ?_
    show Steps p.tables e below (T1.setTop (mkF m 7 #[.val (.ref w_WEIGHTED_EReason)] [])) _
    refine XS.aloadN X1.here hx rfl (hb hby d2_7) rfl rfl ?_
    show Steps p.tables e below (T1.setTop (mkF m 8 #[.val (.ref w_WEIGHTED_EReason)] [(.ref w_WEIGHTED_EReason)])) _
    refine st2 _ ?_
    show Steps p.tables e below (T2.setTop (mkF m 11 #[.val (.ref w_WEIGHTED_EReason)] [(.ref w_WEIGHTED)])) _
    refine st3 _ ?_
    show Steps p.tables e below (T3.setTop (mkF m 14 #[.val (.ref w_WEIGHTED_EReason)] [(.ref w_WEIGHTED), (.ref w_WEIGHTED)])) _
    refine Jvm.RoadKit.acmp (g := (mkF m 14 #[.val (.ref w_WEIGHTED_EReason)] [(.ref w_WEIGHTED), (.ref w_WEIGHTED)])) X3 hx rfl rfl rfl (pc0 := 14) (pc' := 21) (same := true) rfl (hb hby d2_14) rfl (decide_eq_true (congrArg Value.ref (rfl : w_WEIGHTED = w_WEIGHTED))) (by decide) (by decide) ?_
    show Steps p.tables e below (T3.setTop (mkF m 21 #[.val (.ref w_WEIGHTED_EReason)] [])) _
    refine XS.iconst X3.here hx rfl (hb hby d2_21) ?_
    show Steps p.tables e below (T3.setTop (mkF m 22 #[.val (.ref w_WEIGHTED_EReason)] [(.int (0 : Int32))])) _
    exact retN X3 hx (t := .boolean) Bd.returns (by simp) (hb hby d2_22) hr
  · show Q_ic_WEIGHTED Z w_CONTROLLER w_FULL_CONSENSUS_PERMIT w_FULL_CONSENSUS_PERMIT_EResolutionRule w_WEIGHTED w_OWNER_OVERRIDES w_OWNER_OVERRIDES_EResolutionRule w_SOURCE w_NO_THRESHOLD w_MAJORITY_PERMIT w_MAJORITY_PERMIT_EResolutionRule w_RESHARE_REFUSED w_WEIGHTED_EReason w_NOT_VIEWER w_UNNAMED w_SUPER_MAJORITY_PERMIT w_SUPER_MAJORITY_PERMIT_EResolutionRule w_STRONG_MAJORITY_PERMIT w_STRONG_MAJORITY_PERMIT_EResolutionRule h0 n0 _ T3.heap _
    rw [e3]
    exact ⟨rfl, N0, rfl⟩
theorem ef_pick_2 (m : MethodId)  : entryFrame m #[(.int (2 : Int32))] 1 = mkF m 0 #[.val (.int (2 : Int32))] [] := by first | (simp [entryFrame, mkF, argsToLocals, Value.category]; done) | rfl
def Q_pick_2 (Z : State) (w_CONTROLLER w_FULL_CONSENSUS_PERMIT w_FULL_CONSENSUS_PERMIT_EResolutionRule w_WEIGHTED w_OWNER_OVERRIDES w_OWNER_OVERRIDES_EResolutionRule w_SOURCE w_NO_THRESHOLD w_MAJORITY_PERMIT w_MAJORITY_PERMIT_EResolutionRule w_RESHARE_REFUSED w_WEIGHTED_EReason w_NOT_VIEWER w_UNNAMED w_SUPER_MAJORITY_PERMIT w_SUPER_MAJORITY_PERMIT_EResolutionRule w_STRONG_MAJORITY_PERMIT w_STRONG_MAJORITY_PERMIT_EResolutionRule : Addr) (h0 : Heap) (n0 : Nat) (v : Option Value) (h : Heap) (L : List Loc) : Prop := v = some (.ref w_OWNER_OVERRIDES) ∧ Fr n0 L ∧ h = h0
set_option maxRecDepth 65536 in
set_option maxHeartbeats 40000000 in
theorem pick_2 (l : Launch) (Z : State) (a0 : Array Value) (hw : ∀ d ∈ tables_1, d.before a0 Z = true) (ws : List Jvm.Cond) (w_CONTROLLER w_FULL_CONSENSUS_PERMIT w_FULL_CONSENSUS_PERMIT_EResolutionRule w_WEIGHTED w_OWNER_OVERRIDES w_OWNER_OVERRIDES_EResolutionRule w_SOURCE w_NO_THRESHOLD w_MAJORITY_PERMIT w_MAJORITY_PERMIT_EResolutionRule w_RESHARE_REFUSED w_WEIGHTED_EReason w_NOT_VIEWER w_UNNAMED w_SUPER_MAJORITY_PERMIT w_SUPER_MAJORITY_PERMIT_EResolutionRule w_STRONG_MAJORITY_PERMIT w_STRONG_MAJORITY_PERMIT_EResolutionRule : Addr) (h0 : Heap) (n0 : Nat) (O0 : Old Z n0 h0) (hE : OwnEnv Z w_CONTROLLER w_FULL_CONSENSUS_PERMIT w_FULL_CONSENSUS_PERMIT_EResolutionRule w_WEIGHTED w_OWNER_OVERRIDES w_OWNER_OVERRIDES_EResolutionRule w_SOURCE w_NO_THRESHOLD w_MAJORITY_PERMIT w_MAJORITY_PERMIT_EResolutionRule w_RESHARE_REFUSED w_WEIGHTED_EReason w_NOT_VIEWER w_UNNAMED w_SUPER_MAJORITY_PERMIT w_SUPER_MAJORITY_PERMIT_EResolutionRule w_STRONG_MAJORITY_PERMIT w_STRONG_MAJORITY_PERMIT_EResolutionRule) :
    MetFree l (⟨"com/example/kindred_consent/kindredconsent/engine/EReasonIsCountedPinLaw", "pick", "(I)Lcom/example/kindred_consent/kindredconsent/engine/EReason;"⟩ : MethodName) (head1 (Jvm.Cond.code (⟨"com/example/kindred_consent/kindredconsent/engine/EReasonIsCountedPinLaw", "pick", "(I)Lcom/example/kindred_consent/kindredconsent/engine/EReason;"⟩ : MethodName) method_2_code 1 (some (.object "com/example/kindred_consent/kindredconsent/engine/EReason")) :: ws) ({ frames := 0, cells := 0, slots := 0, locals := 0 } : Room)) (fun a U => a = #[(.int (2 : Int32))] ∧ Z.Warmed39 U.vm ∧ U.heap = h0) (fun _ _ _ _ _ => True) (fun _ U o U' => ∃ v L, o = .returned v ∧ Q_pick_2 Z w_CONTROLLER w_FULL_CONSENSUS_PERMIT w_FULL_CONSENSUS_PERMIT_EResolutionRule w_WEIGHTED w_OWNER_OVERRIDES w_OWNER_OVERRIDES_EResolutionRule w_SOURCE w_NO_THRESHOLD w_MAJORITY_PERMIT w_MAJORITY_PERMIT_EResolutionRule w_RESHARE_REFUSED w_WEIGHTED_EReason w_NOT_VIEWER w_UNNAMED w_SUPER_MAJORITY_PERMIT w_SUPER_MAJORITY_PERMIT_EResolutionRule w_STRONG_MAJORITY_PERMIT w_STRONG_MAJORITY_PERMIT_EResolutionRule h0 n0 v U'.heap L ∧ FrameEnd U o U' L ({ frames := 0, cells := 0, slots := 0, locals := 0 } : Room).cells ({ frames := 0, cells := 0, slots := 0, locals := 0 } : Room).slots) := by
  refine MetFree.of_bodySF (plainFor_of_name pn_com_example_kindred_consent_kindredconsent_engine_EReasonIsCountedPinLaw) hisR ?_
  intro p e s m args below meth c s₁ Bd hml0 hP hK
  obtain ⟨rfl, hZ, hh⟩ := hP
  have hx := Bd.exec
  have hby := Bd.bytes
  have hml : c.maxLocals = 1 := hml0
  have hown : s.vm.findClass "com/example/kindred_consent/kindredconsent/engine/EReasonIsCountedPinLaw" = some m.cls := findClass_of_methodNamed Bd.named
  have hnm := (name_of_methodNamed Bd.named Bd.method).1
  have X0 : Stand p l e ({ frames := 0, cells := 0, slots := 0, locals := 0 } : Room) s m #[(.int (2 : Int32))] below meth c s₁ [] 0 0 := Stand.of_body Bd
  have e0 : s₁.heap = h0 := by rw [← hh, Bd.state]; rfl
  have N0 := Fr.nil n0
  have pre0 : ∀ t, Steps p.tables e below (s₁.setTop (mkF m 0 #[.val (.int (2 : Int32))] [])) t → Steps p.tables e below (s₁.setTop (entryFrame m #[(.int (2 : Int32))] 1)) t := fun t k => castTop (ef_pick_2 m ) k
  have hE_ := hE; obtain ⟨S_w_CONTROLLER, E_w_CONTROLLER, S_w_FULL_CONSENSUS_PERMIT, E_w_FULL_CONSENSUS_PERMIT, S_w_FULL_CONSENSUS_PERMIT_EResolutionRule, E_w_FULL_CONSENSUS_PERMIT_EResolutionRule, S_w_WEIGHTED, E_w_WEIGHTED, S_w_OWNER_OVERRIDES, E_w_OWNER_OVERRIDES, S_w_OWNER_OVERRIDES_EResolutionRule, E_w_OWNER_OVERRIDES_EResolutionRule, S_w_SOURCE, E_w_SOURCE, S_w_NO_THRESHOLD, E_w_NO_THRESHOLD, S_w_MAJORITY_PERMIT, E_w_MAJORITY_PERMIT, S_w_MAJORITY_PERMIT_EResolutionRule, E_w_MAJORITY_PERMIT_EResolutionRule, S_w_RESHARE_REFUSED, E_w_RESHARE_REFUSED, S_w_WEIGHTED_EReason, E_w_WEIGHTED_EReason, S_w_NOT_VIEWER, E_w_NOT_VIEWER, S_w_UNNAMED, E_w_UNNAMED, S_w_SUPER_MAJORITY_PERMIT, E_w_SUPER_MAJORITY_PERMIT, S_w_SUPER_MAJORITY_PERMIT_EResolutionRule, E_w_SUPER_MAJORITY_PERMIT_EResolutionRule, S_w_STRONG_MAJORITY_PERMIT, E_w_STRONG_MAJORITY_PERMIT, S_w_STRONG_MAJORITY_PERMIT_EResolutionRule, E_w_STRONG_MAJORITY_PERMIT_EResolutionRule, F_m_eRule_w_CONTROLLER, F_m_eRule_w_FULL_CONSENSUS_PERMIT, F_ordinal_w_FULL_CONSENSUS_PERMIT_EResolutionRule, F_ordinal_w_WEIGHTED, F_m_eRule_w_OWNER_OVERRIDES, F_ordinal_w_OWNER_OVERRIDES_EResolutionRule, F_m_eRule_w_SOURCE, F_m_eRule_w_NO_THRESHOLD, F_m_eRule_w_MAJORITY_PERMIT, F_ordinal_w_MAJORITY_PERMIT_EResolutionRule, F_m_eRule_w_RESHARE_REFUSED, F_m_eRule_w_WEIGHTED_EReason, F_m_eRule_w_NOT_VIEWER, F_m_eRule_w_UNNAMED, F_m_eRule_w_SUPER_MAJORITY_PERMIT, F_ordinal_w_SUPER_MAJORITY_PERMIT_EResolutionRule, F_m_eRule_w_STRONG_MAJORITY_PERMIT, F_ordinal_w_STRONG_MAJORITY_PERMIT_EResolutionRule⟩ := hE_
  obtain ⟨T1, X1, e1, st1⟩ := getS2 X0 hx hZ hown (host := "") (Or.inl (hw _ (List.mem_of_getElem? (i := 21) rfl))) Via.refl e0 (S_w_OWNER_OVERRIDES.ext O0.2) (g := (mkF m 22 #[.val (.int (2 : Int32))] [])) rfl (hb hby d1_22)
  obtain ⟨fs, hr, hrun, hended, hW, hsame⟩ := X1.leave (v := some (.ref w_OWNER_OVERRIDES)) (fun h => by rw [Bd.returns] at h; cases h)
  refine ⟨_, _, pre0 _ ?_, hrun, hended, _, _, rfl, ?_, ⟨_, rfl⟩, hW, hsame.mono (by decide) (by decide)⟩
  · show Steps p.tables e below (s₁.setTop (mkF m 0 #[.val (.int (2 : Int32))] [])) _
    refine XS.iloadN X0.here hx rfl (hb hby d1_0) rfl ?_
    show Steps p.tables e below (s₁.setTop (mkF m 1 #[.val (.int (2 : Int32))] [(.int (2 : Int32))])) _
    refine XS.ifYes X0.here hx rfl (pc0 := 1) (pc' := 8) rfl (hb hby d1_1) rfl ((if0 _ _).trans (feq (by decide : ¬ ((2 : Int32) = (0 : Int32)))).2) (by decide) (by decide) ?_
    show Steps p.tables e below (s₁.setTop (mkF m 8 #[.val (.int (2 : Int32))] [])) _
    refine XS.iloadN X0.here hx rfl (hb hby d1_8) rfl ?_
    show Steps p.tables e below (s₁.setTop (mkF m 9 #[.val (.int (2 : Int32))] [(.int (2 : Int32))])) _
    refine XS.iconst X0.here hx rfl (hb hby d1_9) ?_
    show Steps p.tables e below (s₁.setTop (mkF m 10 #[.val (.int (2 : Int32))] [(.int (1 : Int32)), (.int (2 : Int32))])) _
    refine XS.icmpYes X0.here hx rfl (pc0 := 10) (pc' := 17) rfl (hb hby d1_10) rfl (feq (by decide : ¬ ((2 : Int32) = (1 : Int32)))).2 (by decide) (by decide) ?_
    show Steps p.tables e below (s₁.setTop (mkF m 17 #[.val (.int (2 : Int32))] [])) _
    refine XS.iloadN X0.here hx rfl (hb hby d1_17) rfl ?_
    show Steps p.tables e below (s₁.setTop (mkF m 18 #[.val (.int (2 : Int32))] [(.int (2 : Int32))])) _
    refine XS.iconst X0.here hx rfl (hb hby d1_18) ?_
    show Steps p.tables e below (s₁.setTop (mkF m 19 #[.val (.int (2 : Int32))] [(.int (2 : Int32)), (.int (2 : Int32))])) _
    refine XS.icmpNo X0.here hx rfl (hb hby d1_19) rfl (teq (by decide : (2 : Int32) = (2 : Int32))).2 ?_
    show Steps p.tables e below (s₁.setTop (mkF m 22 #[.val (.int (2 : Int32))] [])) _
    refine st1 _ ?_
    show Steps p.tables e below (T1.setTop (mkF m 25 #[.val (.int (2 : Int32))] [(.ref w_OWNER_OVERRIDES)])) _
    jvm_step X1.here [X1.here.top, hx, (hb hby d1_25), X1.method', Bd.returns, Value.isRef, FieldType.isReference]
    first | (intro acts; rw [hr _ acts rfl rfl rfl]) | rw [hr _ _ rfl rfl rfl]
    exact Steps.refl _
  · show Q_pick_2 Z w_CONTROLLER w_FULL_CONSENSUS_PERMIT w_FULL_CONSENSUS_PERMIT_EResolutionRule w_WEIGHTED w_OWNER_OVERRIDES w_OWNER_OVERRIDES_EResolutionRule w_SOURCE w_NO_THRESHOLD w_MAJORITY_PERMIT w_MAJORITY_PERMIT_EResolutionRule w_RESHARE_REFUSED w_WEIGHTED_EReason w_NOT_VIEWER w_UNNAMED w_SUPER_MAJORITY_PERMIT w_SUPER_MAJORITY_PERMIT_EResolutionRule w_STRONG_MAJORITY_PERMIT w_STRONG_MAJORITY_PERMIT_EResolutionRule h0 n0 _ T1.heap _
    rw [e1]
    exact ⟨rfl, N0, rfl⟩
theorem ef_ic_OWNER_OVERRIDES (m : MethodId) (w_OWNER_OVERRIDES : Addr) : entryFrame m #[(.ref w_OWNER_OVERRIDES)] 1 = mkF m 0 #[.val (.ref w_OWNER_OVERRIDES)] [] := by first | (simp [entryFrame, mkF, argsToLocals, Value.category]; done) | rfl
def Q_ic_OWNER_OVERRIDES (Z : State) (w_CONTROLLER w_FULL_CONSENSUS_PERMIT w_FULL_CONSENSUS_PERMIT_EResolutionRule w_WEIGHTED w_OWNER_OVERRIDES w_OWNER_OVERRIDES_EResolutionRule w_SOURCE w_NO_THRESHOLD w_MAJORITY_PERMIT w_MAJORITY_PERMIT_EResolutionRule w_RESHARE_REFUSED w_WEIGHTED_EReason w_NOT_VIEWER w_UNNAMED w_SUPER_MAJORITY_PERMIT w_SUPER_MAJORITY_PERMIT_EResolutionRule w_STRONG_MAJORITY_PERMIT w_STRONG_MAJORITY_PERMIT_EResolutionRule : Addr) (h0 : Heap) (n0 : Nat) (v : Option Value) (h : Heap) (L : List Loc) : Prop := v = some (.int (1 : Int32)) ∧ Fr n0 L ∧ h = h0
set_option maxRecDepth 65536 in
set_option maxHeartbeats 40000000 in
theorem ic_OWNER_OVERRIDES (l : Launch) (Z : State) (a0 : Array Value) (hw : ∀ d ∈ tables_1, d.before a0 Z = true) (ws : List Jvm.Cond) (w_CONTROLLER w_FULL_CONSENSUS_PERMIT w_FULL_CONSENSUS_PERMIT_EResolutionRule w_WEIGHTED w_OWNER_OVERRIDES w_OWNER_OVERRIDES_EResolutionRule w_SOURCE w_NO_THRESHOLD w_MAJORITY_PERMIT w_MAJORITY_PERMIT_EResolutionRule w_RESHARE_REFUSED w_WEIGHTED_EReason w_NOT_VIEWER w_UNNAMED w_SUPER_MAJORITY_PERMIT w_SUPER_MAJORITY_PERMIT_EResolutionRule w_STRONG_MAJORITY_PERMIT w_STRONG_MAJORITY_PERMIT_EResolutionRule : Addr) (h0 : Heap) (n0 : Nat) (O0 : Old Z n0 h0) (hE : OwnEnv Z w_CONTROLLER w_FULL_CONSENSUS_PERMIT w_FULL_CONSENSUS_PERMIT_EResolutionRule w_WEIGHTED w_OWNER_OVERRIDES w_OWNER_OVERRIDES_EResolutionRule w_SOURCE w_NO_THRESHOLD w_MAJORITY_PERMIT w_MAJORITY_PERMIT_EResolutionRule w_RESHARE_REFUSED w_WEIGHTED_EReason w_NOT_VIEWER w_UNNAMED w_SUPER_MAJORITY_PERMIT w_SUPER_MAJORITY_PERMIT_EResolutionRule w_STRONG_MAJORITY_PERMIT w_STRONG_MAJORITY_PERMIT_EResolutionRule) :
    MetFree l (⟨"com/example/kindred_consent/kindredconsent/engine/EReason", "isCounted", "()Z"⟩ : MethodName) (head1 (Jvm.Cond.code (⟨"com/example/kindred_consent/kindredconsent/engine/EReason", "isCounted", "()Z"⟩ : MethodName) prog_7_method_7_code 1 (some .boolean) :: ws) ({ frames := 0, cells := 0, slots := 0, locals := 0 } : Room)) (fun a U => a = #[(.ref w_OWNER_OVERRIDES)] ∧ Z.Warmed39 U.vm ∧ U.heap = h0) (fun _ _ _ _ _ => True) (fun _ U o U' => ∃ v L, o = .returned v ∧ Q_ic_OWNER_OVERRIDES Z w_CONTROLLER w_FULL_CONSENSUS_PERMIT w_FULL_CONSENSUS_PERMIT_EResolutionRule w_WEIGHTED w_OWNER_OVERRIDES w_OWNER_OVERRIDES_EResolutionRule w_SOURCE w_NO_THRESHOLD w_MAJORITY_PERMIT w_MAJORITY_PERMIT_EResolutionRule w_RESHARE_REFUSED w_WEIGHTED_EReason w_NOT_VIEWER w_UNNAMED w_SUPER_MAJORITY_PERMIT w_SUPER_MAJORITY_PERMIT_EResolutionRule w_STRONG_MAJORITY_PERMIT w_STRONG_MAJORITY_PERMIT_EResolutionRule h0 n0 v U'.heap L ∧ FrameEnd U o U' L ({ frames := 0, cells := 0, slots := 0, locals := 0 } : Room).cells ({ frames := 0, cells := 0, slots := 0, locals := 0 } : Room).slots) := by
  refine MetFree.of_bodySF (plainFor_of_name pn_com_example_kindred_consent_kindredconsent_engine_EReason) hisR ?_
  intro p e s m args below meth c s₁ Bd hml0 hP hK
  obtain ⟨rfl, hZ, hh⟩ := hP
  have hx := Bd.exec
  have hby := Bd.bytes
  have hml : c.maxLocals = 1 := hml0
  have hown : s.vm.findClass "com/example/kindred_consent/kindredconsent/engine/EReason" = some m.cls := findClass_of_methodNamed Bd.named
  have hnm := (name_of_methodNamed Bd.named Bd.method).1
  have X0 : Stand p l e ({ frames := 0, cells := 0, slots := 0, locals := 0 } : Room) s m #[(.ref w_OWNER_OVERRIDES)] below meth c s₁ [] 0 0 := Stand.of_body Bd
  have e0 : s₁.heap = h0 := by rw [← hh, Bd.state]; rfl
  have N0 := Fr.nil n0
  have pre0 : ∀ t, Steps p.tables e below (s₁.setTop (mkF m 0 #[.val (.ref w_OWNER_OVERRIDES)] [])) t → Steps p.tables e below (s₁.setTop (entryFrame m #[(.ref w_OWNER_OVERRIDES)] 1)) t := fun t k => castTop (ef_ic_OWNER_OVERRIDES m w_OWNER_OVERRIDES) k
  have hE_ := hE; obtain ⟨S_w_CONTROLLER, E_w_CONTROLLER, S_w_FULL_CONSENSUS_PERMIT, E_w_FULL_CONSENSUS_PERMIT, S_w_FULL_CONSENSUS_PERMIT_EResolutionRule, E_w_FULL_CONSENSUS_PERMIT_EResolutionRule, S_w_WEIGHTED, E_w_WEIGHTED, S_w_OWNER_OVERRIDES, E_w_OWNER_OVERRIDES, S_w_OWNER_OVERRIDES_EResolutionRule, E_w_OWNER_OVERRIDES_EResolutionRule, S_w_SOURCE, E_w_SOURCE, S_w_NO_THRESHOLD, E_w_NO_THRESHOLD, S_w_MAJORITY_PERMIT, E_w_MAJORITY_PERMIT, S_w_MAJORITY_PERMIT_EResolutionRule, E_w_MAJORITY_PERMIT_EResolutionRule, S_w_RESHARE_REFUSED, E_w_RESHARE_REFUSED, S_w_WEIGHTED_EReason, E_w_WEIGHTED_EReason, S_w_NOT_VIEWER, E_w_NOT_VIEWER, S_w_UNNAMED, E_w_UNNAMED, S_w_SUPER_MAJORITY_PERMIT, E_w_SUPER_MAJORITY_PERMIT, S_w_SUPER_MAJORITY_PERMIT_EResolutionRule, E_w_SUPER_MAJORITY_PERMIT_EResolutionRule, S_w_STRONG_MAJORITY_PERMIT, E_w_STRONG_MAJORITY_PERMIT, S_w_STRONG_MAJORITY_PERMIT_EResolutionRule, E_w_STRONG_MAJORITY_PERMIT_EResolutionRule, F_m_eRule_w_CONTROLLER, F_m_eRule_w_FULL_CONSENSUS_PERMIT, F_ordinal_w_FULL_CONSENSUS_PERMIT_EResolutionRule, F_ordinal_w_WEIGHTED, F_m_eRule_w_OWNER_OVERRIDES, F_ordinal_w_OWNER_OVERRIDES_EResolutionRule, F_m_eRule_w_SOURCE, F_m_eRule_w_NO_THRESHOLD, F_m_eRule_w_MAJORITY_PERMIT, F_ordinal_w_MAJORITY_PERMIT_EResolutionRule, F_m_eRule_w_RESHARE_REFUSED, F_m_eRule_w_WEIGHTED_EReason, F_m_eRule_w_NOT_VIEWER, F_m_eRule_w_UNNAMED, F_m_eRule_w_SUPER_MAJORITY_PERMIT, F_ordinal_w_SUPER_MAJORITY_PERMIT_EResolutionRule, F_m_eRule_w_STRONG_MAJORITY_PERMIT, F_ordinal_w_STRONG_MAJORITY_PERMIT_EResolutionRule⟩ := hE_
  obtain ⟨T1, X1, e1, st1⟩ := getF X0 hx hZ hown (host := "") (Or.inl (hw _ (List.mem_of_getElem? (i := 13) rfl))) Via.refl e0 (F_m_eRule_w_OWNER_OVERRIDES.ext O0.2) (g := (mkF m 1 #[.val (.ref w_OWNER_OVERRIDES)] [(.ref w_OWNER_OVERRIDES)])) rfl rfl (hb hby d2_1)
  obtain ⟨T2, X2, e2, st2⟩ := getF X1 hx hZ hown (host := "") (Or.inl (hw _ (List.mem_of_getElem? (i := 13) rfl))) Via.refl e1 (F_m_eRule_w_OWNER_OVERRIDES.ext O0.2) (g := (mkF m 8 #[.val (.ref w_OWNER_OVERRIDES)] [(.ref w_OWNER_OVERRIDES)])) rfl rfl (hb hby d2_8)
  obtain ⟨T3, X3, e3, st3⟩ := getS2 X2 hx hZ hown (host := "") (Or.inl (hw _ (List.mem_of_getElem? (i := 19) rfl))) Via.refl e2 (S_w_WEIGHTED.ext O0.2) (g := (mkF m 11 #[.val (.ref w_OWNER_OVERRIDES)] [(.ref w_OWNER_OVERRIDES_EResolutionRule)])) rfl (hb hby d2_11)
  obtain ⟨fs, hr, hrun, hended, hW, hsame⟩ := X3.leave (v := some (.int (1 : Int32))) (fun h => by rw [Bd.returns] at h; cases h)
  refine ⟨_, _, pre0 _ ?_, hrun, hended, _, _, rfl, ?_, ⟨_, rfl⟩, hW, hsame.mono (by decide) (by decide)⟩
  · show Steps p.tables e below (s₁.setTop (mkF m 0 #[.val (.ref w_OWNER_OVERRIDES)] [])) _
    refine XS.aloadN X0.here hx rfl (hb hby d2_0) rfl rfl ?_
    show Steps p.tables e below (s₁.setTop (mkF m 1 #[.val (.ref w_OWNER_OVERRIDES)] [(.ref w_OWNER_OVERRIDES)])) _
    refine st1 _ ?_
    show Steps p.tables e below (T1.setTop (mkF m 4 #[.val (.ref w_OWNER_OVERRIDES)] [(.ref w_OWNER_OVERRIDES_EResolutionRule)])) _
    refine XS.ifnullNo X1.here hx rfl (hb hby d2_4) rfl ?_
    show Steps p.tables e below (T1.setTop (mkF m 7 #[.val (.ref w_OWNER_OVERRIDES)] [])) _
    refine XS.aloadN X1.here hx rfl (hb hby d2_7) rfl rfl ?_
    show Steps p.tables e below (T1.setTop (mkF m 8 #[.val (.ref w_OWNER_OVERRIDES)] [(.ref w_OWNER_OVERRIDES)])) _
    refine st2 _ ?_
    show Steps p.tables e below (T2.setTop (mkF m 11 #[.val (.ref w_OWNER_OVERRIDES)] [(.ref w_OWNER_OVERRIDES_EResolutionRule)])) _
    refine st3 _ ?_
    show Steps p.tables e below (T3.setTop (mkF m 14 #[.val (.ref w_OWNER_OVERRIDES)] [(.ref w_WEIGHTED), (.ref w_OWNER_OVERRIDES_EResolutionRule)])) _
    refine Jvm.RoadKit.acmp (g := (mkF m 14 #[.val (.ref w_OWNER_OVERRIDES)] [(.ref w_WEIGHTED), (.ref w_OWNER_OVERRIDES_EResolutionRule)])) X3 hx rfl rfl rfl (pc0 := 14) (pc' := 17) (same := false) rfl (hb hby d2_14) rfl (decide_eq_false fun q => (Ne.symm (Fld.ne F_ordinal_w_WEIGHTED F_ordinal_w_OWNER_OVERRIDES_EResolutionRule (by decide))) (Value.ref.inj q)) (by decide) (by decide) ?_
    show Steps p.tables e below (T3.setTop (mkF m 17 #[.val (.ref w_OWNER_OVERRIDES)] [])) _
    refine XS.iconst X3.here hx rfl (hb hby d2_17) ?_
    show Steps p.tables e below (T3.setTop (mkF m 18 #[.val (.ref w_OWNER_OVERRIDES)] [(.int (1 : Int32))])) _
    refine XS.goto X3.here hx rfl (pc0 := 18) (pc' := 22) rfl (hb hby d2_18) (by decide) (by decide) ?_
    show Steps p.tables e below (T3.setTop (mkF m 22 #[.val (.ref w_OWNER_OVERRIDES)] [(.int (1 : Int32))])) _
    exact retN X3 hx (t := .boolean) Bd.returns (by simp) (hb hby d2_22) hr
  · show Q_ic_OWNER_OVERRIDES Z w_CONTROLLER w_FULL_CONSENSUS_PERMIT w_FULL_CONSENSUS_PERMIT_EResolutionRule w_WEIGHTED w_OWNER_OVERRIDES w_OWNER_OVERRIDES_EResolutionRule w_SOURCE w_NO_THRESHOLD w_MAJORITY_PERMIT w_MAJORITY_PERMIT_EResolutionRule w_RESHARE_REFUSED w_WEIGHTED_EReason w_NOT_VIEWER w_UNNAMED w_SUPER_MAJORITY_PERMIT w_SUPER_MAJORITY_PERMIT_EResolutionRule w_STRONG_MAJORITY_PERMIT w_STRONG_MAJORITY_PERMIT_EResolutionRule h0 n0 _ T3.heap _
    rw [e3]
    exact ⟨rfl, N0, rfl⟩
theorem ef_pick_3 (m : MethodId)  : entryFrame m #[(.int (3 : Int32))] 1 = mkF m 0 #[.val (.int (3 : Int32))] [] := by first | (simp [entryFrame, mkF, argsToLocals, Value.category]; done) | rfl
def Q_pick_3 (Z : State) (w_CONTROLLER w_FULL_CONSENSUS_PERMIT w_FULL_CONSENSUS_PERMIT_EResolutionRule w_WEIGHTED w_OWNER_OVERRIDES w_OWNER_OVERRIDES_EResolutionRule w_SOURCE w_NO_THRESHOLD w_MAJORITY_PERMIT w_MAJORITY_PERMIT_EResolutionRule w_RESHARE_REFUSED w_WEIGHTED_EReason w_NOT_VIEWER w_UNNAMED w_SUPER_MAJORITY_PERMIT w_SUPER_MAJORITY_PERMIT_EResolutionRule w_STRONG_MAJORITY_PERMIT w_STRONG_MAJORITY_PERMIT_EResolutionRule : Addr) (h0 : Heap) (n0 : Nat) (v : Option Value) (h : Heap) (L : List Loc) : Prop := v = some (.ref w_FULL_CONSENSUS_PERMIT) ∧ Fr n0 L ∧ h = h0
set_option maxRecDepth 65536 in
set_option maxHeartbeats 40000000 in
theorem pick_3 (l : Launch) (Z : State) (a0 : Array Value) (hw : ∀ d ∈ tables_1, d.before a0 Z = true) (ws : List Jvm.Cond) (w_CONTROLLER w_FULL_CONSENSUS_PERMIT w_FULL_CONSENSUS_PERMIT_EResolutionRule w_WEIGHTED w_OWNER_OVERRIDES w_OWNER_OVERRIDES_EResolutionRule w_SOURCE w_NO_THRESHOLD w_MAJORITY_PERMIT w_MAJORITY_PERMIT_EResolutionRule w_RESHARE_REFUSED w_WEIGHTED_EReason w_NOT_VIEWER w_UNNAMED w_SUPER_MAJORITY_PERMIT w_SUPER_MAJORITY_PERMIT_EResolutionRule w_STRONG_MAJORITY_PERMIT w_STRONG_MAJORITY_PERMIT_EResolutionRule : Addr) (h0 : Heap) (n0 : Nat) (O0 : Old Z n0 h0) (hE : OwnEnv Z w_CONTROLLER w_FULL_CONSENSUS_PERMIT w_FULL_CONSENSUS_PERMIT_EResolutionRule w_WEIGHTED w_OWNER_OVERRIDES w_OWNER_OVERRIDES_EResolutionRule w_SOURCE w_NO_THRESHOLD w_MAJORITY_PERMIT w_MAJORITY_PERMIT_EResolutionRule w_RESHARE_REFUSED w_WEIGHTED_EReason w_NOT_VIEWER w_UNNAMED w_SUPER_MAJORITY_PERMIT w_SUPER_MAJORITY_PERMIT_EResolutionRule w_STRONG_MAJORITY_PERMIT w_STRONG_MAJORITY_PERMIT_EResolutionRule) :
    MetFree l (⟨"com/example/kindred_consent/kindredconsent/engine/EReasonIsCountedPinLaw", "pick", "(I)Lcom/example/kindred_consent/kindredconsent/engine/EReason;"⟩ : MethodName) (head1 (Jvm.Cond.code (⟨"com/example/kindred_consent/kindredconsent/engine/EReasonIsCountedPinLaw", "pick", "(I)Lcom/example/kindred_consent/kindredconsent/engine/EReason;"⟩ : MethodName) method_2_code 1 (some (.object "com/example/kindred_consent/kindredconsent/engine/EReason")) :: ws) ({ frames := 0, cells := 0, slots := 0, locals := 0 } : Room)) (fun a U => a = #[(.int (3 : Int32))] ∧ Z.Warmed39 U.vm ∧ U.heap = h0) (fun _ _ _ _ _ => True) (fun _ U o U' => ∃ v L, o = .returned v ∧ Q_pick_3 Z w_CONTROLLER w_FULL_CONSENSUS_PERMIT w_FULL_CONSENSUS_PERMIT_EResolutionRule w_WEIGHTED w_OWNER_OVERRIDES w_OWNER_OVERRIDES_EResolutionRule w_SOURCE w_NO_THRESHOLD w_MAJORITY_PERMIT w_MAJORITY_PERMIT_EResolutionRule w_RESHARE_REFUSED w_WEIGHTED_EReason w_NOT_VIEWER w_UNNAMED w_SUPER_MAJORITY_PERMIT w_SUPER_MAJORITY_PERMIT_EResolutionRule w_STRONG_MAJORITY_PERMIT w_STRONG_MAJORITY_PERMIT_EResolutionRule h0 n0 v U'.heap L ∧ FrameEnd U o U' L ({ frames := 0, cells := 0, slots := 0, locals := 0 } : Room).cells ({ frames := 0, cells := 0, slots := 0, locals := 0 } : Room).slots) := by
  refine MetFree.of_bodySF (plainFor_of_name pn_com_example_kindred_consent_kindredconsent_engine_EReasonIsCountedPinLaw) hisR ?_
  intro p e s m args below meth c s₁ Bd hml0 hP hK
  obtain ⟨rfl, hZ, hh⟩ := hP
  have hx := Bd.exec
  have hby := Bd.bytes
  have hml : c.maxLocals = 1 := hml0
  have hown : s.vm.findClass "com/example/kindred_consent/kindredconsent/engine/EReasonIsCountedPinLaw" = some m.cls := findClass_of_methodNamed Bd.named
  have hnm := (name_of_methodNamed Bd.named Bd.method).1
  have X0 : Stand p l e ({ frames := 0, cells := 0, slots := 0, locals := 0 } : Room) s m #[(.int (3 : Int32))] below meth c s₁ [] 0 0 := Stand.of_body Bd
  have e0 : s₁.heap = h0 := by rw [← hh, Bd.state]; rfl
  have N0 := Fr.nil n0
  have pre0 : ∀ t, Steps p.tables e below (s₁.setTop (mkF m 0 #[.val (.int (3 : Int32))] [])) t → Steps p.tables e below (s₁.setTop (entryFrame m #[(.int (3 : Int32))] 1)) t := fun t k => castTop (ef_pick_3 m ) k
  have hE_ := hE; obtain ⟨S_w_CONTROLLER, E_w_CONTROLLER, S_w_FULL_CONSENSUS_PERMIT, E_w_FULL_CONSENSUS_PERMIT, S_w_FULL_CONSENSUS_PERMIT_EResolutionRule, E_w_FULL_CONSENSUS_PERMIT_EResolutionRule, S_w_WEIGHTED, E_w_WEIGHTED, S_w_OWNER_OVERRIDES, E_w_OWNER_OVERRIDES, S_w_OWNER_OVERRIDES_EResolutionRule, E_w_OWNER_OVERRIDES_EResolutionRule, S_w_SOURCE, E_w_SOURCE, S_w_NO_THRESHOLD, E_w_NO_THRESHOLD, S_w_MAJORITY_PERMIT, E_w_MAJORITY_PERMIT, S_w_MAJORITY_PERMIT_EResolutionRule, E_w_MAJORITY_PERMIT_EResolutionRule, S_w_RESHARE_REFUSED, E_w_RESHARE_REFUSED, S_w_WEIGHTED_EReason, E_w_WEIGHTED_EReason, S_w_NOT_VIEWER, E_w_NOT_VIEWER, S_w_UNNAMED, E_w_UNNAMED, S_w_SUPER_MAJORITY_PERMIT, E_w_SUPER_MAJORITY_PERMIT, S_w_SUPER_MAJORITY_PERMIT_EResolutionRule, E_w_SUPER_MAJORITY_PERMIT_EResolutionRule, S_w_STRONG_MAJORITY_PERMIT, E_w_STRONG_MAJORITY_PERMIT, S_w_STRONG_MAJORITY_PERMIT_EResolutionRule, E_w_STRONG_MAJORITY_PERMIT_EResolutionRule, F_m_eRule_w_CONTROLLER, F_m_eRule_w_FULL_CONSENSUS_PERMIT, F_ordinal_w_FULL_CONSENSUS_PERMIT_EResolutionRule, F_ordinal_w_WEIGHTED, F_m_eRule_w_OWNER_OVERRIDES, F_ordinal_w_OWNER_OVERRIDES_EResolutionRule, F_m_eRule_w_SOURCE, F_m_eRule_w_NO_THRESHOLD, F_m_eRule_w_MAJORITY_PERMIT, F_ordinal_w_MAJORITY_PERMIT_EResolutionRule, F_m_eRule_w_RESHARE_REFUSED, F_m_eRule_w_WEIGHTED_EReason, F_m_eRule_w_NOT_VIEWER, F_m_eRule_w_UNNAMED, F_m_eRule_w_SUPER_MAJORITY_PERMIT, F_ordinal_w_SUPER_MAJORITY_PERMIT_EResolutionRule, F_m_eRule_w_STRONG_MAJORITY_PERMIT, F_ordinal_w_STRONG_MAJORITY_PERMIT_EResolutionRule⟩ := hE_
  obtain ⟨T1, X1, e1, st1⟩ := getS2 X0 hx hZ hown (host := "") (Or.inl (hw _ (List.mem_of_getElem? (i := 15) rfl))) Via.refl e0 (S_w_FULL_CONSENSUS_PERMIT.ext O0.2) (g := (mkF m 31 #[.val (.int (3 : Int32))] [])) rfl (hb hby d1_31)
  obtain ⟨fs, hr, hrun, hended, hW, hsame⟩ := X1.leave (v := some (.ref w_FULL_CONSENSUS_PERMIT)) (fun h => by rw [Bd.returns] at h; cases h)
  refine ⟨_, _, pre0 _ ?_, hrun, hended, _, _, rfl, ?_, ⟨_, rfl⟩, hW, hsame.mono (by decide) (by decide)⟩
  · show Steps p.tables e below (s₁.setTop (mkF m 0 #[.val (.int (3 : Int32))] [])) _
    refine XS.iloadN X0.here hx rfl (hb hby d1_0) rfl ?_
    show Steps p.tables e below (s₁.setTop (mkF m 1 #[.val (.int (3 : Int32))] [(.int (3 : Int32))])) _
    refine XS.ifYes X0.here hx rfl (pc0 := 1) (pc' := 8) rfl (hb hby d1_1) rfl ((if0 _ _).trans (feq (by decide : ¬ ((3 : Int32) = (0 : Int32)))).2) (by decide) (by decide) ?_
    show Steps p.tables e below (s₁.setTop (mkF m 8 #[.val (.int (3 : Int32))] [])) _
    refine XS.iloadN X0.here hx rfl (hb hby d1_8) rfl ?_
    show Steps p.tables e below (s₁.setTop (mkF m 9 #[.val (.int (3 : Int32))] [(.int (3 : Int32))])) _
    refine XS.iconst X0.here hx rfl (hb hby d1_9) ?_
    show Steps p.tables e below (s₁.setTop (mkF m 10 #[.val (.int (3 : Int32))] [(.int (1 : Int32)), (.int (3 : Int32))])) _
    refine XS.icmpYes X0.here hx rfl (pc0 := 10) (pc' := 17) rfl (hb hby d1_10) rfl (feq (by decide : ¬ ((3 : Int32) = (1 : Int32)))).2 (by decide) (by decide) ?_
    show Steps p.tables e below (s₁.setTop (mkF m 17 #[.val (.int (3 : Int32))] [])) _
    refine XS.iloadN X0.here hx rfl (hb hby d1_17) rfl ?_
    show Steps p.tables e below (s₁.setTop (mkF m 18 #[.val (.int (3 : Int32))] [(.int (3 : Int32))])) _
    refine XS.iconst X0.here hx rfl (hb hby d1_18) ?_
    show Steps p.tables e below (s₁.setTop (mkF m 19 #[.val (.int (3 : Int32))] [(.int (2 : Int32)), (.int (3 : Int32))])) _
    refine XS.icmpYes X0.here hx rfl (pc0 := 19) (pc' := 26) rfl (hb hby d1_19) rfl (feq (by decide : ¬ ((3 : Int32) = (2 : Int32)))).2 (by decide) (by decide) ?_
    show Steps p.tables e below (s₁.setTop (mkF m 26 #[.val (.int (3 : Int32))] [])) _
    refine XS.iloadN X0.here hx rfl (hb hby d1_26) rfl ?_
    show Steps p.tables e below (s₁.setTop (mkF m 27 #[.val (.int (3 : Int32))] [(.int (3 : Int32))])) _
    refine XS.iconst X0.here hx rfl (hb hby d1_27) ?_
    show Steps p.tables e below (s₁.setTop (mkF m 28 #[.val (.int (3 : Int32))] [(.int (3 : Int32)), (.int (3 : Int32))])) _
    refine XS.icmpNo X0.here hx rfl (hb hby d1_28) rfl (teq (by decide : (3 : Int32) = (3 : Int32))).2 ?_
    show Steps p.tables e below (s₁.setTop (mkF m 31 #[.val (.int (3 : Int32))] [])) _
    refine st1 _ ?_
    show Steps p.tables e below (T1.setTop (mkF m 34 #[.val (.int (3 : Int32))] [(.ref w_FULL_CONSENSUS_PERMIT)])) _
    jvm_step X1.here [X1.here.top, hx, (hb hby d1_34), X1.method', Bd.returns, Value.isRef, FieldType.isReference]
    first | (intro acts; rw [hr _ acts rfl rfl rfl]) | rw [hr _ _ rfl rfl rfl]
    exact Steps.refl _
  · show Q_pick_3 Z w_CONTROLLER w_FULL_CONSENSUS_PERMIT w_FULL_CONSENSUS_PERMIT_EResolutionRule w_WEIGHTED w_OWNER_OVERRIDES w_OWNER_OVERRIDES_EResolutionRule w_SOURCE w_NO_THRESHOLD w_MAJORITY_PERMIT w_MAJORITY_PERMIT_EResolutionRule w_RESHARE_REFUSED w_WEIGHTED_EReason w_NOT_VIEWER w_UNNAMED w_SUPER_MAJORITY_PERMIT w_SUPER_MAJORITY_PERMIT_EResolutionRule w_STRONG_MAJORITY_PERMIT w_STRONG_MAJORITY_PERMIT_EResolutionRule h0 n0 _ T1.heap _
    rw [e1]
    exact ⟨rfl, N0, rfl⟩
theorem ef_ic_FULL_CONSENSUS_PERMIT (m : MethodId) (w_FULL_CONSENSUS_PERMIT : Addr) : entryFrame m #[(.ref w_FULL_CONSENSUS_PERMIT)] 1 = mkF m 0 #[.val (.ref w_FULL_CONSENSUS_PERMIT)] [] := by first | (simp [entryFrame, mkF, argsToLocals, Value.category]; done) | rfl
def Q_ic_FULL_CONSENSUS_PERMIT (Z : State) (w_CONTROLLER w_FULL_CONSENSUS_PERMIT w_FULL_CONSENSUS_PERMIT_EResolutionRule w_WEIGHTED w_OWNER_OVERRIDES w_OWNER_OVERRIDES_EResolutionRule w_SOURCE w_NO_THRESHOLD w_MAJORITY_PERMIT w_MAJORITY_PERMIT_EResolutionRule w_RESHARE_REFUSED w_WEIGHTED_EReason w_NOT_VIEWER w_UNNAMED w_SUPER_MAJORITY_PERMIT w_SUPER_MAJORITY_PERMIT_EResolutionRule w_STRONG_MAJORITY_PERMIT w_STRONG_MAJORITY_PERMIT_EResolutionRule : Addr) (h0 : Heap) (n0 : Nat) (v : Option Value) (h : Heap) (L : List Loc) : Prop := v = some (.int (1 : Int32)) ∧ Fr n0 L ∧ h = h0
set_option maxRecDepth 65536 in
set_option maxHeartbeats 40000000 in
theorem ic_FULL_CONSENSUS_PERMIT (l : Launch) (Z : State) (a0 : Array Value) (hw : ∀ d ∈ tables_1, d.before a0 Z = true) (ws : List Jvm.Cond) (w_CONTROLLER w_FULL_CONSENSUS_PERMIT w_FULL_CONSENSUS_PERMIT_EResolutionRule w_WEIGHTED w_OWNER_OVERRIDES w_OWNER_OVERRIDES_EResolutionRule w_SOURCE w_NO_THRESHOLD w_MAJORITY_PERMIT w_MAJORITY_PERMIT_EResolutionRule w_RESHARE_REFUSED w_WEIGHTED_EReason w_NOT_VIEWER w_UNNAMED w_SUPER_MAJORITY_PERMIT w_SUPER_MAJORITY_PERMIT_EResolutionRule w_STRONG_MAJORITY_PERMIT w_STRONG_MAJORITY_PERMIT_EResolutionRule : Addr) (h0 : Heap) (n0 : Nat) (O0 : Old Z n0 h0) (hE : OwnEnv Z w_CONTROLLER w_FULL_CONSENSUS_PERMIT w_FULL_CONSENSUS_PERMIT_EResolutionRule w_WEIGHTED w_OWNER_OVERRIDES w_OWNER_OVERRIDES_EResolutionRule w_SOURCE w_NO_THRESHOLD w_MAJORITY_PERMIT w_MAJORITY_PERMIT_EResolutionRule w_RESHARE_REFUSED w_WEIGHTED_EReason w_NOT_VIEWER w_UNNAMED w_SUPER_MAJORITY_PERMIT w_SUPER_MAJORITY_PERMIT_EResolutionRule w_STRONG_MAJORITY_PERMIT w_STRONG_MAJORITY_PERMIT_EResolutionRule) :
    MetFree l (⟨"com/example/kindred_consent/kindredconsent/engine/EReason", "isCounted", "()Z"⟩ : MethodName) (head1 (Jvm.Cond.code (⟨"com/example/kindred_consent/kindredconsent/engine/EReason", "isCounted", "()Z"⟩ : MethodName) prog_7_method_7_code 1 (some .boolean) :: ws) ({ frames := 0, cells := 0, slots := 0, locals := 0 } : Room)) (fun a U => a = #[(.ref w_FULL_CONSENSUS_PERMIT)] ∧ Z.Warmed39 U.vm ∧ U.heap = h0) (fun _ _ _ _ _ => True) (fun _ U o U' => ∃ v L, o = .returned v ∧ Q_ic_FULL_CONSENSUS_PERMIT Z w_CONTROLLER w_FULL_CONSENSUS_PERMIT w_FULL_CONSENSUS_PERMIT_EResolutionRule w_WEIGHTED w_OWNER_OVERRIDES w_OWNER_OVERRIDES_EResolutionRule w_SOURCE w_NO_THRESHOLD w_MAJORITY_PERMIT w_MAJORITY_PERMIT_EResolutionRule w_RESHARE_REFUSED w_WEIGHTED_EReason w_NOT_VIEWER w_UNNAMED w_SUPER_MAJORITY_PERMIT w_SUPER_MAJORITY_PERMIT_EResolutionRule w_STRONG_MAJORITY_PERMIT w_STRONG_MAJORITY_PERMIT_EResolutionRule h0 n0 v U'.heap L ∧ FrameEnd U o U' L ({ frames := 0, cells := 0, slots := 0, locals := 0 } : Room).cells ({ frames := 0, cells := 0, slots := 0, locals := 0 } : Room).slots) := by
  refine MetFree.of_bodySF (plainFor_of_name pn_com_example_kindred_consent_kindredconsent_engine_EReason) hisR ?_
  intro p e s m args below meth c s₁ Bd hml0 hP hK
  obtain ⟨rfl, hZ, hh⟩ := hP
  have hx := Bd.exec
  have hby := Bd.bytes
  have hml : c.maxLocals = 1 := hml0
  have hown : s.vm.findClass "com/example/kindred_consent/kindredconsent/engine/EReason" = some m.cls := findClass_of_methodNamed Bd.named
  have hnm := (name_of_methodNamed Bd.named Bd.method).1
  have X0 : Stand p l e ({ frames := 0, cells := 0, slots := 0, locals := 0 } : Room) s m #[(.ref w_FULL_CONSENSUS_PERMIT)] below meth c s₁ [] 0 0 := Stand.of_body Bd
  have e0 : s₁.heap = h0 := by rw [← hh, Bd.state]; rfl
  have N0 := Fr.nil n0
  have pre0 : ∀ t, Steps p.tables e below (s₁.setTop (mkF m 0 #[.val (.ref w_FULL_CONSENSUS_PERMIT)] [])) t → Steps p.tables e below (s₁.setTop (entryFrame m #[(.ref w_FULL_CONSENSUS_PERMIT)] 1)) t := fun t k => castTop (ef_ic_FULL_CONSENSUS_PERMIT m w_FULL_CONSENSUS_PERMIT) k
  have hE_ := hE; obtain ⟨S_w_CONTROLLER, E_w_CONTROLLER, S_w_FULL_CONSENSUS_PERMIT, E_w_FULL_CONSENSUS_PERMIT, S_w_FULL_CONSENSUS_PERMIT_EResolutionRule, E_w_FULL_CONSENSUS_PERMIT_EResolutionRule, S_w_WEIGHTED, E_w_WEIGHTED, S_w_OWNER_OVERRIDES, E_w_OWNER_OVERRIDES, S_w_OWNER_OVERRIDES_EResolutionRule, E_w_OWNER_OVERRIDES_EResolutionRule, S_w_SOURCE, E_w_SOURCE, S_w_NO_THRESHOLD, E_w_NO_THRESHOLD, S_w_MAJORITY_PERMIT, E_w_MAJORITY_PERMIT, S_w_MAJORITY_PERMIT_EResolutionRule, E_w_MAJORITY_PERMIT_EResolutionRule, S_w_RESHARE_REFUSED, E_w_RESHARE_REFUSED, S_w_WEIGHTED_EReason, E_w_WEIGHTED_EReason, S_w_NOT_VIEWER, E_w_NOT_VIEWER, S_w_UNNAMED, E_w_UNNAMED, S_w_SUPER_MAJORITY_PERMIT, E_w_SUPER_MAJORITY_PERMIT, S_w_SUPER_MAJORITY_PERMIT_EResolutionRule, E_w_SUPER_MAJORITY_PERMIT_EResolutionRule, S_w_STRONG_MAJORITY_PERMIT, E_w_STRONG_MAJORITY_PERMIT, S_w_STRONG_MAJORITY_PERMIT_EResolutionRule, E_w_STRONG_MAJORITY_PERMIT_EResolutionRule, F_m_eRule_w_CONTROLLER, F_m_eRule_w_FULL_CONSENSUS_PERMIT, F_ordinal_w_FULL_CONSENSUS_PERMIT_EResolutionRule, F_ordinal_w_WEIGHTED, F_m_eRule_w_OWNER_OVERRIDES, F_ordinal_w_OWNER_OVERRIDES_EResolutionRule, F_m_eRule_w_SOURCE, F_m_eRule_w_NO_THRESHOLD, F_m_eRule_w_MAJORITY_PERMIT, F_ordinal_w_MAJORITY_PERMIT_EResolutionRule, F_m_eRule_w_RESHARE_REFUSED, F_m_eRule_w_WEIGHTED_EReason, F_m_eRule_w_NOT_VIEWER, F_m_eRule_w_UNNAMED, F_m_eRule_w_SUPER_MAJORITY_PERMIT, F_ordinal_w_SUPER_MAJORITY_PERMIT_EResolutionRule, F_m_eRule_w_STRONG_MAJORITY_PERMIT, F_ordinal_w_STRONG_MAJORITY_PERMIT_EResolutionRule⟩ := hE_
  obtain ⟨T1, X1, e1, st1⟩ := getF X0 hx hZ hown (host := "") (Or.inl (hw _ (List.mem_of_getElem? (i := 13) rfl))) Via.refl e0 (F_m_eRule_w_FULL_CONSENSUS_PERMIT.ext O0.2) (g := (mkF m 1 #[.val (.ref w_FULL_CONSENSUS_PERMIT)] [(.ref w_FULL_CONSENSUS_PERMIT)])) rfl rfl (hb hby d2_1)
  obtain ⟨T2, X2, e2, st2⟩ := getF X1 hx hZ hown (host := "") (Or.inl (hw _ (List.mem_of_getElem? (i := 13) rfl))) Via.refl e1 (F_m_eRule_w_FULL_CONSENSUS_PERMIT.ext O0.2) (g := (mkF m 8 #[.val (.ref w_FULL_CONSENSUS_PERMIT)] [(.ref w_FULL_CONSENSUS_PERMIT)])) rfl rfl (hb hby d2_8)
  obtain ⟨T3, X3, e3, st3⟩ := getS2 X2 hx hZ hown (host := "") (Or.inl (hw _ (List.mem_of_getElem? (i := 19) rfl))) Via.refl e2 (S_w_WEIGHTED.ext O0.2) (g := (mkF m 11 #[.val (.ref w_FULL_CONSENSUS_PERMIT)] [(.ref w_FULL_CONSENSUS_PERMIT_EResolutionRule)])) rfl (hb hby d2_11)
  obtain ⟨fs, hr, hrun, hended, hW, hsame⟩ := X3.leave (v := some (.int (1 : Int32))) (fun h => by rw [Bd.returns] at h; cases h)
  refine ⟨_, _, pre0 _ ?_, hrun, hended, _, _, rfl, ?_, ⟨_, rfl⟩, hW, hsame.mono (by decide) (by decide)⟩
  · show Steps p.tables e below (s₁.setTop (mkF m 0 #[.val (.ref w_FULL_CONSENSUS_PERMIT)] [])) _
    refine XS.aloadN X0.here hx rfl (hb hby d2_0) rfl rfl ?_
    show Steps p.tables e below (s₁.setTop (mkF m 1 #[.val (.ref w_FULL_CONSENSUS_PERMIT)] [(.ref w_FULL_CONSENSUS_PERMIT)])) _
    refine st1 _ ?_
    show Steps p.tables e below (T1.setTop (mkF m 4 #[.val (.ref w_FULL_CONSENSUS_PERMIT)] [(.ref w_FULL_CONSENSUS_PERMIT_EResolutionRule)])) _
    refine XS.ifnullNo X1.here hx rfl (hb hby d2_4) rfl ?_
    show Steps p.tables e below (T1.setTop (mkF m 7 #[.val (.ref w_FULL_CONSENSUS_PERMIT)] [])) _
    refine XS.aloadN X1.here hx rfl (hb hby d2_7) rfl rfl ?_
    show Steps p.tables e below (T1.setTop (mkF m 8 #[.val (.ref w_FULL_CONSENSUS_PERMIT)] [(.ref w_FULL_CONSENSUS_PERMIT)])) _
    refine st2 _ ?_
    show Steps p.tables e below (T2.setTop (mkF m 11 #[.val (.ref w_FULL_CONSENSUS_PERMIT)] [(.ref w_FULL_CONSENSUS_PERMIT_EResolutionRule)])) _
    refine st3 _ ?_
    show Steps p.tables e below (T3.setTop (mkF m 14 #[.val (.ref w_FULL_CONSENSUS_PERMIT)] [(.ref w_WEIGHTED), (.ref w_FULL_CONSENSUS_PERMIT_EResolutionRule)])) _
    refine Jvm.RoadKit.acmp (g := (mkF m 14 #[.val (.ref w_FULL_CONSENSUS_PERMIT)] [(.ref w_WEIGHTED), (.ref w_FULL_CONSENSUS_PERMIT_EResolutionRule)])) X3 hx rfl rfl rfl (pc0 := 14) (pc' := 17) (same := false) rfl (hb hby d2_14) rfl (decide_eq_false fun q => (Fld.ne F_ordinal_w_FULL_CONSENSUS_PERMIT_EResolutionRule F_ordinal_w_WEIGHTED (by decide)) (Value.ref.inj q)) (by decide) (by decide) ?_
    show Steps p.tables e below (T3.setTop (mkF m 17 #[.val (.ref w_FULL_CONSENSUS_PERMIT)] [])) _
    refine XS.iconst X3.here hx rfl (hb hby d2_17) ?_
    show Steps p.tables e below (T3.setTop (mkF m 18 #[.val (.ref w_FULL_CONSENSUS_PERMIT)] [(.int (1 : Int32))])) _
    refine XS.goto X3.here hx rfl (pc0 := 18) (pc' := 22) rfl (hb hby d2_18) (by decide) (by decide) ?_
    show Steps p.tables e below (T3.setTop (mkF m 22 #[.val (.ref w_FULL_CONSENSUS_PERMIT)] [(.int (1 : Int32))])) _
    exact retN X3 hx (t := .boolean) Bd.returns (by simp) (hb hby d2_22) hr
  · show Q_ic_FULL_CONSENSUS_PERMIT Z w_CONTROLLER w_FULL_CONSENSUS_PERMIT w_FULL_CONSENSUS_PERMIT_EResolutionRule w_WEIGHTED w_OWNER_OVERRIDES w_OWNER_OVERRIDES_EResolutionRule w_SOURCE w_NO_THRESHOLD w_MAJORITY_PERMIT w_MAJORITY_PERMIT_EResolutionRule w_RESHARE_REFUSED w_WEIGHTED_EReason w_NOT_VIEWER w_UNNAMED w_SUPER_MAJORITY_PERMIT w_SUPER_MAJORITY_PERMIT_EResolutionRule w_STRONG_MAJORITY_PERMIT w_STRONG_MAJORITY_PERMIT_EResolutionRule h0 n0 _ T3.heap _
    rw [e3]
    exact ⟨rfl, N0, rfl⟩
theorem ef_pick_4 (m : MethodId)  : entryFrame m #[(.int (4 : Int32))] 1 = mkF m 0 #[.val (.int (4 : Int32))] [] := by first | (simp [entryFrame, mkF, argsToLocals, Value.category]; done) | rfl
def Q_pick_4 (Z : State) (w_CONTROLLER w_FULL_CONSENSUS_PERMIT w_FULL_CONSENSUS_PERMIT_EResolutionRule w_WEIGHTED w_OWNER_OVERRIDES w_OWNER_OVERRIDES_EResolutionRule w_SOURCE w_NO_THRESHOLD w_MAJORITY_PERMIT w_MAJORITY_PERMIT_EResolutionRule w_RESHARE_REFUSED w_WEIGHTED_EReason w_NOT_VIEWER w_UNNAMED w_SUPER_MAJORITY_PERMIT w_SUPER_MAJORITY_PERMIT_EResolutionRule w_STRONG_MAJORITY_PERMIT w_STRONG_MAJORITY_PERMIT_EResolutionRule : Addr) (h0 : Heap) (n0 : Nat) (v : Option Value) (h : Heap) (L : List Loc) : Prop := v = some (.ref w_MAJORITY_PERMIT) ∧ Fr n0 L ∧ h = h0
set_option maxRecDepth 65536 in
set_option maxHeartbeats 40000000 in
theorem pick_4 (l : Launch) (Z : State) (a0 : Array Value) (hw : ∀ d ∈ tables_1, d.before a0 Z = true) (ws : List Jvm.Cond) (w_CONTROLLER w_FULL_CONSENSUS_PERMIT w_FULL_CONSENSUS_PERMIT_EResolutionRule w_WEIGHTED w_OWNER_OVERRIDES w_OWNER_OVERRIDES_EResolutionRule w_SOURCE w_NO_THRESHOLD w_MAJORITY_PERMIT w_MAJORITY_PERMIT_EResolutionRule w_RESHARE_REFUSED w_WEIGHTED_EReason w_NOT_VIEWER w_UNNAMED w_SUPER_MAJORITY_PERMIT w_SUPER_MAJORITY_PERMIT_EResolutionRule w_STRONG_MAJORITY_PERMIT w_STRONG_MAJORITY_PERMIT_EResolutionRule : Addr) (h0 : Heap) (n0 : Nat) (O0 : Old Z n0 h0) (hE : OwnEnv Z w_CONTROLLER w_FULL_CONSENSUS_PERMIT w_FULL_CONSENSUS_PERMIT_EResolutionRule w_WEIGHTED w_OWNER_OVERRIDES w_OWNER_OVERRIDES_EResolutionRule w_SOURCE w_NO_THRESHOLD w_MAJORITY_PERMIT w_MAJORITY_PERMIT_EResolutionRule w_RESHARE_REFUSED w_WEIGHTED_EReason w_NOT_VIEWER w_UNNAMED w_SUPER_MAJORITY_PERMIT w_SUPER_MAJORITY_PERMIT_EResolutionRule w_STRONG_MAJORITY_PERMIT w_STRONG_MAJORITY_PERMIT_EResolutionRule) :
    MetFree l (⟨"com/example/kindred_consent/kindredconsent/engine/EReasonIsCountedPinLaw", "pick", "(I)Lcom/example/kindred_consent/kindredconsent/engine/EReason;"⟩ : MethodName) (head1 (Jvm.Cond.code (⟨"com/example/kindred_consent/kindredconsent/engine/EReasonIsCountedPinLaw", "pick", "(I)Lcom/example/kindred_consent/kindredconsent/engine/EReason;"⟩ : MethodName) method_2_code 1 (some (.object "com/example/kindred_consent/kindredconsent/engine/EReason")) :: ws) ({ frames := 0, cells := 0, slots := 0, locals := 0 } : Room)) (fun a U => a = #[(.int (4 : Int32))] ∧ Z.Warmed39 U.vm ∧ U.heap = h0) (fun _ _ _ _ _ => True) (fun _ U o U' => ∃ v L, o = .returned v ∧ Q_pick_4 Z w_CONTROLLER w_FULL_CONSENSUS_PERMIT w_FULL_CONSENSUS_PERMIT_EResolutionRule w_WEIGHTED w_OWNER_OVERRIDES w_OWNER_OVERRIDES_EResolutionRule w_SOURCE w_NO_THRESHOLD w_MAJORITY_PERMIT w_MAJORITY_PERMIT_EResolutionRule w_RESHARE_REFUSED w_WEIGHTED_EReason w_NOT_VIEWER w_UNNAMED w_SUPER_MAJORITY_PERMIT w_SUPER_MAJORITY_PERMIT_EResolutionRule w_STRONG_MAJORITY_PERMIT w_STRONG_MAJORITY_PERMIT_EResolutionRule h0 n0 v U'.heap L ∧ FrameEnd U o U' L ({ frames := 0, cells := 0, slots := 0, locals := 0 } : Room).cells ({ frames := 0, cells := 0, slots := 0, locals := 0 } : Room).slots) := by
  refine MetFree.of_bodySF (plainFor_of_name pn_com_example_kindred_consent_kindredconsent_engine_EReasonIsCountedPinLaw) hisR ?_
  intro p e s m args below meth c s₁ Bd hml0 hP hK
  obtain ⟨rfl, hZ, hh⟩ := hP
  have hx := Bd.exec
  have hby := Bd.bytes
  have hml : c.maxLocals = 1 := hml0
  have hown : s.vm.findClass "com/example/kindred_consent/kindredconsent/engine/EReasonIsCountedPinLaw" = some m.cls := findClass_of_methodNamed Bd.named
  have hnm := (name_of_methodNamed Bd.named Bd.method).1
  have X0 : Stand p l e ({ frames := 0, cells := 0, slots := 0, locals := 0 } : Room) s m #[(.int (4 : Int32))] below meth c s₁ [] 0 0 := Stand.of_body Bd
  have e0 : s₁.heap = h0 := by rw [← hh, Bd.state]; rfl
  have N0 := Fr.nil n0
  have pre0 : ∀ t, Steps p.tables e below (s₁.setTop (mkF m 0 #[.val (.int (4 : Int32))] [])) t → Steps p.tables e below (s₁.setTop (entryFrame m #[(.int (4 : Int32))] 1)) t := fun t k => castTop (ef_pick_4 m ) k
  have hE_ := hE; obtain ⟨S_w_CONTROLLER, E_w_CONTROLLER, S_w_FULL_CONSENSUS_PERMIT, E_w_FULL_CONSENSUS_PERMIT, S_w_FULL_CONSENSUS_PERMIT_EResolutionRule, E_w_FULL_CONSENSUS_PERMIT_EResolutionRule, S_w_WEIGHTED, E_w_WEIGHTED, S_w_OWNER_OVERRIDES, E_w_OWNER_OVERRIDES, S_w_OWNER_OVERRIDES_EResolutionRule, E_w_OWNER_OVERRIDES_EResolutionRule, S_w_SOURCE, E_w_SOURCE, S_w_NO_THRESHOLD, E_w_NO_THRESHOLD, S_w_MAJORITY_PERMIT, E_w_MAJORITY_PERMIT, S_w_MAJORITY_PERMIT_EResolutionRule, E_w_MAJORITY_PERMIT_EResolutionRule, S_w_RESHARE_REFUSED, E_w_RESHARE_REFUSED, S_w_WEIGHTED_EReason, E_w_WEIGHTED_EReason, S_w_NOT_VIEWER, E_w_NOT_VIEWER, S_w_UNNAMED, E_w_UNNAMED, S_w_SUPER_MAJORITY_PERMIT, E_w_SUPER_MAJORITY_PERMIT, S_w_SUPER_MAJORITY_PERMIT_EResolutionRule, E_w_SUPER_MAJORITY_PERMIT_EResolutionRule, S_w_STRONG_MAJORITY_PERMIT, E_w_STRONG_MAJORITY_PERMIT, S_w_STRONG_MAJORITY_PERMIT_EResolutionRule, E_w_STRONG_MAJORITY_PERMIT_EResolutionRule, F_m_eRule_w_CONTROLLER, F_m_eRule_w_FULL_CONSENSUS_PERMIT, F_ordinal_w_FULL_CONSENSUS_PERMIT_EResolutionRule, F_ordinal_w_WEIGHTED, F_m_eRule_w_OWNER_OVERRIDES, F_ordinal_w_OWNER_OVERRIDES_EResolutionRule, F_m_eRule_w_SOURCE, F_m_eRule_w_NO_THRESHOLD, F_m_eRule_w_MAJORITY_PERMIT, F_ordinal_w_MAJORITY_PERMIT_EResolutionRule, F_m_eRule_w_RESHARE_REFUSED, F_m_eRule_w_WEIGHTED_EReason, F_m_eRule_w_NOT_VIEWER, F_m_eRule_w_UNNAMED, F_m_eRule_w_SUPER_MAJORITY_PERMIT, F_ordinal_w_SUPER_MAJORITY_PERMIT_EResolutionRule, F_m_eRule_w_STRONG_MAJORITY_PERMIT, F_ordinal_w_STRONG_MAJORITY_PERMIT_EResolutionRule⟩ := hE_
  obtain ⟨T1, X1, e1, st1⟩ := getS2 X0 hx hZ hown (host := "") (Or.inl (hw _ (List.mem_of_getElem? (i := 28) rfl))) Via.refl e0 (S_w_MAJORITY_PERMIT.ext O0.2) (g := (mkF m 40 #[.val (.int (4 : Int32))] [])) rfl (hb hby d1_40)
  obtain ⟨fs, hr, hrun, hended, hW, hsame⟩ := X1.leave (v := some (.ref w_MAJORITY_PERMIT)) (fun h => by rw [Bd.returns] at h; cases h)
  refine ⟨_, _, pre0 _ ?_, hrun, hended, _, _, rfl, ?_, ⟨_, rfl⟩, hW, hsame.mono (by decide) (by decide)⟩
  · show Steps p.tables e below (s₁.setTop (mkF m 0 #[.val (.int (4 : Int32))] [])) _
    refine XS.iloadN X0.here hx rfl (hb hby d1_0) rfl ?_
    show Steps p.tables e below (s₁.setTop (mkF m 1 #[.val (.int (4 : Int32))] [(.int (4 : Int32))])) _
    refine XS.ifYes X0.here hx rfl (pc0 := 1) (pc' := 8) rfl (hb hby d1_1) rfl ((if0 _ _).trans (feq (by decide : ¬ ((4 : Int32) = (0 : Int32)))).2) (by decide) (by decide) ?_
    show Steps p.tables e below (s₁.setTop (mkF m 8 #[.val (.int (4 : Int32))] [])) _
    refine XS.iloadN X0.here hx rfl (hb hby d1_8) rfl ?_
    show Steps p.tables e below (s₁.setTop (mkF m 9 #[.val (.int (4 : Int32))] [(.int (4 : Int32))])) _
    refine XS.iconst X0.here hx rfl (hb hby d1_9) ?_
    show Steps p.tables e below (s₁.setTop (mkF m 10 #[.val (.int (4 : Int32))] [(.int (1 : Int32)), (.int (4 : Int32))])) _
    refine XS.icmpYes X0.here hx rfl (pc0 := 10) (pc' := 17) rfl (hb hby d1_10) rfl (feq (by decide : ¬ ((4 : Int32) = (1 : Int32)))).2 (by decide) (by decide) ?_
    show Steps p.tables e below (s₁.setTop (mkF m 17 #[.val (.int (4 : Int32))] [])) _
    refine XS.iloadN X0.here hx rfl (hb hby d1_17) rfl ?_
    show Steps p.tables e below (s₁.setTop (mkF m 18 #[.val (.int (4 : Int32))] [(.int (4 : Int32))])) _
    refine XS.iconst X0.here hx rfl (hb hby d1_18) ?_
    show Steps p.tables e below (s₁.setTop (mkF m 19 #[.val (.int (4 : Int32))] [(.int (2 : Int32)), (.int (4 : Int32))])) _
    refine XS.icmpYes X0.here hx rfl (pc0 := 19) (pc' := 26) rfl (hb hby d1_19) rfl (feq (by decide : ¬ ((4 : Int32) = (2 : Int32)))).2 (by decide) (by decide) ?_
    show Steps p.tables e below (s₁.setTop (mkF m 26 #[.val (.int (4 : Int32))] [])) _
    refine XS.iloadN X0.here hx rfl (hb hby d1_26) rfl ?_
    show Steps p.tables e below (s₁.setTop (mkF m 27 #[.val (.int (4 : Int32))] [(.int (4 : Int32))])) _
    refine XS.iconst X0.here hx rfl (hb hby d1_27) ?_
    show Steps p.tables e below (s₁.setTop (mkF m 28 #[.val (.int (4 : Int32))] [(.int (3 : Int32)), (.int (4 : Int32))])) _
    refine XS.icmpYes X0.here hx rfl (pc0 := 28) (pc' := 35) rfl (hb hby d1_28) rfl (feq (by decide : ¬ ((4 : Int32) = (3 : Int32)))).2 (by decide) (by decide) ?_
    show Steps p.tables e below (s₁.setTop (mkF m 35 #[.val (.int (4 : Int32))] [])) _
    refine XS.iloadN X0.here hx rfl (hb hby d1_35) rfl ?_
    show Steps p.tables e below (s₁.setTop (mkF m 36 #[.val (.int (4 : Int32))] [(.int (4 : Int32))])) _
    refine XS.iconst X0.here hx rfl (hb hby d1_36) ?_
    show Steps p.tables e below (s₁.setTop (mkF m 37 #[.val (.int (4 : Int32))] [(.int (4 : Int32)), (.int (4 : Int32))])) _
    refine XS.icmpNo X0.here hx rfl (hb hby d1_37) rfl (teq (by decide : (4 : Int32) = (4 : Int32))).2 ?_
    show Steps p.tables e below (s₁.setTop (mkF m 40 #[.val (.int (4 : Int32))] [])) _
    refine st1 _ ?_
    show Steps p.tables e below (T1.setTop (mkF m 43 #[.val (.int (4 : Int32))] [(.ref w_MAJORITY_PERMIT)])) _
    jvm_step X1.here [X1.here.top, hx, (hb hby d1_43), X1.method', Bd.returns, Value.isRef, FieldType.isReference]
    first | (intro acts; rw [hr _ acts rfl rfl rfl]) | rw [hr _ _ rfl rfl rfl]
    exact Steps.refl _
  · show Q_pick_4 Z w_CONTROLLER w_FULL_CONSENSUS_PERMIT w_FULL_CONSENSUS_PERMIT_EResolutionRule w_WEIGHTED w_OWNER_OVERRIDES w_OWNER_OVERRIDES_EResolutionRule w_SOURCE w_NO_THRESHOLD w_MAJORITY_PERMIT w_MAJORITY_PERMIT_EResolutionRule w_RESHARE_REFUSED w_WEIGHTED_EReason w_NOT_VIEWER w_UNNAMED w_SUPER_MAJORITY_PERMIT w_SUPER_MAJORITY_PERMIT_EResolutionRule w_STRONG_MAJORITY_PERMIT w_STRONG_MAJORITY_PERMIT_EResolutionRule h0 n0 _ T1.heap _
    rw [e1]
    exact ⟨rfl, N0, rfl⟩
theorem ef_ic_MAJORITY_PERMIT (m : MethodId) (w_MAJORITY_PERMIT : Addr) : entryFrame m #[(.ref w_MAJORITY_PERMIT)] 1 = mkF m 0 #[.val (.ref w_MAJORITY_PERMIT)] [] := by first | (simp [entryFrame, mkF, argsToLocals, Value.category]; done) | rfl
def Q_ic_MAJORITY_PERMIT (Z : State) (w_CONTROLLER w_FULL_CONSENSUS_PERMIT w_FULL_CONSENSUS_PERMIT_EResolutionRule w_WEIGHTED w_OWNER_OVERRIDES w_OWNER_OVERRIDES_EResolutionRule w_SOURCE w_NO_THRESHOLD w_MAJORITY_PERMIT w_MAJORITY_PERMIT_EResolutionRule w_RESHARE_REFUSED w_WEIGHTED_EReason w_NOT_VIEWER w_UNNAMED w_SUPER_MAJORITY_PERMIT w_SUPER_MAJORITY_PERMIT_EResolutionRule w_STRONG_MAJORITY_PERMIT w_STRONG_MAJORITY_PERMIT_EResolutionRule : Addr) (h0 : Heap) (n0 : Nat) (v : Option Value) (h : Heap) (L : List Loc) : Prop := v = some (.int (1 : Int32)) ∧ Fr n0 L ∧ h = h0
set_option maxRecDepth 65536 in
set_option maxHeartbeats 40000000 in
theorem ic_MAJORITY_PERMIT (l : Launch) (Z : State) (a0 : Array Value) (hw : ∀ d ∈ tables_1, d.before a0 Z = true) (ws : List Jvm.Cond) (w_CONTROLLER w_FULL_CONSENSUS_PERMIT w_FULL_CONSENSUS_PERMIT_EResolutionRule w_WEIGHTED w_OWNER_OVERRIDES w_OWNER_OVERRIDES_EResolutionRule w_SOURCE w_NO_THRESHOLD w_MAJORITY_PERMIT w_MAJORITY_PERMIT_EResolutionRule w_RESHARE_REFUSED w_WEIGHTED_EReason w_NOT_VIEWER w_UNNAMED w_SUPER_MAJORITY_PERMIT w_SUPER_MAJORITY_PERMIT_EResolutionRule w_STRONG_MAJORITY_PERMIT w_STRONG_MAJORITY_PERMIT_EResolutionRule : Addr) (h0 : Heap) (n0 : Nat) (O0 : Old Z n0 h0) (hE : OwnEnv Z w_CONTROLLER w_FULL_CONSENSUS_PERMIT w_FULL_CONSENSUS_PERMIT_EResolutionRule w_WEIGHTED w_OWNER_OVERRIDES w_OWNER_OVERRIDES_EResolutionRule w_SOURCE w_NO_THRESHOLD w_MAJORITY_PERMIT w_MAJORITY_PERMIT_EResolutionRule w_RESHARE_REFUSED w_WEIGHTED_EReason w_NOT_VIEWER w_UNNAMED w_SUPER_MAJORITY_PERMIT w_SUPER_MAJORITY_PERMIT_EResolutionRule w_STRONG_MAJORITY_PERMIT w_STRONG_MAJORITY_PERMIT_EResolutionRule) :
    MetFree l (⟨"com/example/kindred_consent/kindredconsent/engine/EReason", "isCounted", "()Z"⟩ : MethodName) (head1 (Jvm.Cond.code (⟨"com/example/kindred_consent/kindredconsent/engine/EReason", "isCounted", "()Z"⟩ : MethodName) prog_7_method_7_code 1 (some .boolean) :: ws) ({ frames := 0, cells := 0, slots := 0, locals := 0 } : Room)) (fun a U => a = #[(.ref w_MAJORITY_PERMIT)] ∧ Z.Warmed39 U.vm ∧ U.heap = h0) (fun _ _ _ _ _ => True) (fun _ U o U' => ∃ v L, o = .returned v ∧ Q_ic_MAJORITY_PERMIT Z w_CONTROLLER w_FULL_CONSENSUS_PERMIT w_FULL_CONSENSUS_PERMIT_EResolutionRule w_WEIGHTED w_OWNER_OVERRIDES w_OWNER_OVERRIDES_EResolutionRule w_SOURCE w_NO_THRESHOLD w_MAJORITY_PERMIT w_MAJORITY_PERMIT_EResolutionRule w_RESHARE_REFUSED w_WEIGHTED_EReason w_NOT_VIEWER w_UNNAMED w_SUPER_MAJORITY_PERMIT w_SUPER_MAJORITY_PERMIT_EResolutionRule w_STRONG_MAJORITY_PERMIT w_STRONG_MAJORITY_PERMIT_EResolutionRule h0 n0 v U'.heap L ∧ FrameEnd U o U' L ({ frames := 0, cells := 0, slots := 0, locals := 0 } : Room).cells ({ frames := 0, cells := 0, slots := 0, locals := 0 } : Room).slots) := by
  refine MetFree.of_bodySF (plainFor_of_name pn_com_example_kindred_consent_kindredconsent_engine_EReason) hisR ?_
  intro p e s m args below meth c s₁ Bd hml0 hP hK
  obtain ⟨rfl, hZ, hh⟩ := hP
  have hx := Bd.exec
  have hby := Bd.bytes
  have hml : c.maxLocals = 1 := hml0
  have hown : s.vm.findClass "com/example/kindred_consent/kindredconsent/engine/EReason" = some m.cls := findClass_of_methodNamed Bd.named
  have hnm := (name_of_methodNamed Bd.named Bd.method).1
  have X0 : Stand p l e ({ frames := 0, cells := 0, slots := 0, locals := 0 } : Room) s m #[(.ref w_MAJORITY_PERMIT)] below meth c s₁ [] 0 0 := Stand.of_body Bd
  have e0 : s₁.heap = h0 := by rw [← hh, Bd.state]; rfl
  have N0 := Fr.nil n0
  have pre0 : ∀ t, Steps p.tables e below (s₁.setTop (mkF m 0 #[.val (.ref w_MAJORITY_PERMIT)] [])) t → Steps p.tables e below (s₁.setTop (entryFrame m #[(.ref w_MAJORITY_PERMIT)] 1)) t := fun t k => castTop (ef_ic_MAJORITY_PERMIT m w_MAJORITY_PERMIT) k
  have hE_ := hE; obtain ⟨S_w_CONTROLLER, E_w_CONTROLLER, S_w_FULL_CONSENSUS_PERMIT, E_w_FULL_CONSENSUS_PERMIT, S_w_FULL_CONSENSUS_PERMIT_EResolutionRule, E_w_FULL_CONSENSUS_PERMIT_EResolutionRule, S_w_WEIGHTED, E_w_WEIGHTED, S_w_OWNER_OVERRIDES, E_w_OWNER_OVERRIDES, S_w_OWNER_OVERRIDES_EResolutionRule, E_w_OWNER_OVERRIDES_EResolutionRule, S_w_SOURCE, E_w_SOURCE, S_w_NO_THRESHOLD, E_w_NO_THRESHOLD, S_w_MAJORITY_PERMIT, E_w_MAJORITY_PERMIT, S_w_MAJORITY_PERMIT_EResolutionRule, E_w_MAJORITY_PERMIT_EResolutionRule, S_w_RESHARE_REFUSED, E_w_RESHARE_REFUSED, S_w_WEIGHTED_EReason, E_w_WEIGHTED_EReason, S_w_NOT_VIEWER, E_w_NOT_VIEWER, S_w_UNNAMED, E_w_UNNAMED, S_w_SUPER_MAJORITY_PERMIT, E_w_SUPER_MAJORITY_PERMIT, S_w_SUPER_MAJORITY_PERMIT_EResolutionRule, E_w_SUPER_MAJORITY_PERMIT_EResolutionRule, S_w_STRONG_MAJORITY_PERMIT, E_w_STRONG_MAJORITY_PERMIT, S_w_STRONG_MAJORITY_PERMIT_EResolutionRule, E_w_STRONG_MAJORITY_PERMIT_EResolutionRule, F_m_eRule_w_CONTROLLER, F_m_eRule_w_FULL_CONSENSUS_PERMIT, F_ordinal_w_FULL_CONSENSUS_PERMIT_EResolutionRule, F_ordinal_w_WEIGHTED, F_m_eRule_w_OWNER_OVERRIDES, F_ordinal_w_OWNER_OVERRIDES_EResolutionRule, F_m_eRule_w_SOURCE, F_m_eRule_w_NO_THRESHOLD, F_m_eRule_w_MAJORITY_PERMIT, F_ordinal_w_MAJORITY_PERMIT_EResolutionRule, F_m_eRule_w_RESHARE_REFUSED, F_m_eRule_w_WEIGHTED_EReason, F_m_eRule_w_NOT_VIEWER, F_m_eRule_w_UNNAMED, F_m_eRule_w_SUPER_MAJORITY_PERMIT, F_ordinal_w_SUPER_MAJORITY_PERMIT_EResolutionRule, F_m_eRule_w_STRONG_MAJORITY_PERMIT, F_ordinal_w_STRONG_MAJORITY_PERMIT_EResolutionRule⟩ := hE_
  obtain ⟨T1, X1, e1, st1⟩ := getF X0 hx hZ hown (host := "") (Or.inl (hw _ (List.mem_of_getElem? (i := 13) rfl))) Via.refl e0 (F_m_eRule_w_MAJORITY_PERMIT.ext O0.2) (g := (mkF m 1 #[.val (.ref w_MAJORITY_PERMIT)] [(.ref w_MAJORITY_PERMIT)])) rfl rfl (hb hby d2_1)
  obtain ⟨T2, X2, e2, st2⟩ := getF X1 hx hZ hown (host := "") (Or.inl (hw _ (List.mem_of_getElem? (i := 13) rfl))) Via.refl e1 (F_m_eRule_w_MAJORITY_PERMIT.ext O0.2) (g := (mkF m 8 #[.val (.ref w_MAJORITY_PERMIT)] [(.ref w_MAJORITY_PERMIT)])) rfl rfl (hb hby d2_8)
  obtain ⟨T3, X3, e3, st3⟩ := getS2 X2 hx hZ hown (host := "") (Or.inl (hw _ (List.mem_of_getElem? (i := 19) rfl))) Via.refl e2 (S_w_WEIGHTED.ext O0.2) (g := (mkF m 11 #[.val (.ref w_MAJORITY_PERMIT)] [(.ref w_MAJORITY_PERMIT_EResolutionRule)])) rfl (hb hby d2_11)
  obtain ⟨fs, hr, hrun, hended, hW, hsame⟩ := X3.leave (v := some (.int (1 : Int32))) (fun h => by rw [Bd.returns] at h; cases h)
  refine ⟨_, _, pre0 _ ?_, hrun, hended, _, _, rfl, ?_, ⟨_, rfl⟩, hW, hsame.mono (by decide) (by decide)⟩
  · show Steps p.tables e below (s₁.setTop (mkF m 0 #[.val (.ref w_MAJORITY_PERMIT)] [])) _
    refine XS.aloadN X0.here hx rfl (hb hby d2_0) rfl rfl ?_
    show Steps p.tables e below (s₁.setTop (mkF m 1 #[.val (.ref w_MAJORITY_PERMIT)] [(.ref w_MAJORITY_PERMIT)])) _
    refine st1 _ ?_
    show Steps p.tables e below (T1.setTop (mkF m 4 #[.val (.ref w_MAJORITY_PERMIT)] [(.ref w_MAJORITY_PERMIT_EResolutionRule)])) _
    refine XS.ifnullNo X1.here hx rfl (hb hby d2_4) rfl ?_
    show Steps p.tables e below (T1.setTop (mkF m 7 #[.val (.ref w_MAJORITY_PERMIT)] [])) _
    refine XS.aloadN X1.here hx rfl (hb hby d2_7) rfl rfl ?_
    show Steps p.tables e below (T1.setTop (mkF m 8 #[.val (.ref w_MAJORITY_PERMIT)] [(.ref w_MAJORITY_PERMIT)])) _
    refine st2 _ ?_
    show Steps p.tables e below (T2.setTop (mkF m 11 #[.val (.ref w_MAJORITY_PERMIT)] [(.ref w_MAJORITY_PERMIT_EResolutionRule)])) _
    refine st3 _ ?_
    show Steps p.tables e below (T3.setTop (mkF m 14 #[.val (.ref w_MAJORITY_PERMIT)] [(.ref w_WEIGHTED), (.ref w_MAJORITY_PERMIT_EResolutionRule)])) _
    refine Jvm.RoadKit.acmp (g := (mkF m 14 #[.val (.ref w_MAJORITY_PERMIT)] [(.ref w_WEIGHTED), (.ref w_MAJORITY_PERMIT_EResolutionRule)])) X3 hx rfl rfl rfl (pc0 := 14) (pc' := 17) (same := false) rfl (hb hby d2_14) rfl (decide_eq_false fun q => (Ne.symm (Fld.ne F_ordinal_w_WEIGHTED F_ordinal_w_MAJORITY_PERMIT_EResolutionRule (by decide))) (Value.ref.inj q)) (by decide) (by decide) ?_
    show Steps p.tables e below (T3.setTop (mkF m 17 #[.val (.ref w_MAJORITY_PERMIT)] [])) _
    refine XS.iconst X3.here hx rfl (hb hby d2_17) ?_
    show Steps p.tables e below (T3.setTop (mkF m 18 #[.val (.ref w_MAJORITY_PERMIT)] [(.int (1 : Int32))])) _
    refine XS.goto X3.here hx rfl (pc0 := 18) (pc' := 22) rfl (hb hby d2_18) (by decide) (by decide) ?_
    show Steps p.tables e below (T3.setTop (mkF m 22 #[.val (.ref w_MAJORITY_PERMIT)] [(.int (1 : Int32))])) _
    exact retN X3 hx (t := .boolean) Bd.returns (by simp) (hb hby d2_22) hr
  · show Q_ic_MAJORITY_PERMIT Z w_CONTROLLER w_FULL_CONSENSUS_PERMIT w_FULL_CONSENSUS_PERMIT_EResolutionRule w_WEIGHTED w_OWNER_OVERRIDES w_OWNER_OVERRIDES_EResolutionRule w_SOURCE w_NO_THRESHOLD w_MAJORITY_PERMIT w_MAJORITY_PERMIT_EResolutionRule w_RESHARE_REFUSED w_WEIGHTED_EReason w_NOT_VIEWER w_UNNAMED w_SUPER_MAJORITY_PERMIT w_SUPER_MAJORITY_PERMIT_EResolutionRule w_STRONG_MAJORITY_PERMIT w_STRONG_MAJORITY_PERMIT_EResolutionRule h0 n0 _ T3.heap _
    rw [e3]
    exact ⟨rfl, N0, rfl⟩
theorem ef_pick_5 (m : MethodId)  : entryFrame m #[(.int (5 : Int32))] 1 = mkF m 0 #[.val (.int (5 : Int32))] [] := by first | (simp [entryFrame, mkF, argsToLocals, Value.category]; done) | rfl
def Q_pick_5 (Z : State) (w_CONTROLLER w_FULL_CONSENSUS_PERMIT w_FULL_CONSENSUS_PERMIT_EResolutionRule w_WEIGHTED w_OWNER_OVERRIDES w_OWNER_OVERRIDES_EResolutionRule w_SOURCE w_NO_THRESHOLD w_MAJORITY_PERMIT w_MAJORITY_PERMIT_EResolutionRule w_RESHARE_REFUSED w_WEIGHTED_EReason w_NOT_VIEWER w_UNNAMED w_SUPER_MAJORITY_PERMIT w_SUPER_MAJORITY_PERMIT_EResolutionRule w_STRONG_MAJORITY_PERMIT w_STRONG_MAJORITY_PERMIT_EResolutionRule : Addr) (h0 : Heap) (n0 : Nat) (v : Option Value) (h : Heap) (L : List Loc) : Prop := v = some (.ref w_STRONG_MAJORITY_PERMIT) ∧ Fr n0 L ∧ h = h0
set_option maxRecDepth 65536 in
set_option maxHeartbeats 40000000 in
theorem pick_5 (l : Launch) (Z : State) (a0 : Array Value) (hw : ∀ d ∈ tables_1, d.before a0 Z = true) (ws : List Jvm.Cond) (w_CONTROLLER w_FULL_CONSENSUS_PERMIT w_FULL_CONSENSUS_PERMIT_EResolutionRule w_WEIGHTED w_OWNER_OVERRIDES w_OWNER_OVERRIDES_EResolutionRule w_SOURCE w_NO_THRESHOLD w_MAJORITY_PERMIT w_MAJORITY_PERMIT_EResolutionRule w_RESHARE_REFUSED w_WEIGHTED_EReason w_NOT_VIEWER w_UNNAMED w_SUPER_MAJORITY_PERMIT w_SUPER_MAJORITY_PERMIT_EResolutionRule w_STRONG_MAJORITY_PERMIT w_STRONG_MAJORITY_PERMIT_EResolutionRule : Addr) (h0 : Heap) (n0 : Nat) (O0 : Old Z n0 h0) (hE : OwnEnv Z w_CONTROLLER w_FULL_CONSENSUS_PERMIT w_FULL_CONSENSUS_PERMIT_EResolutionRule w_WEIGHTED w_OWNER_OVERRIDES w_OWNER_OVERRIDES_EResolutionRule w_SOURCE w_NO_THRESHOLD w_MAJORITY_PERMIT w_MAJORITY_PERMIT_EResolutionRule w_RESHARE_REFUSED w_WEIGHTED_EReason w_NOT_VIEWER w_UNNAMED w_SUPER_MAJORITY_PERMIT w_SUPER_MAJORITY_PERMIT_EResolutionRule w_STRONG_MAJORITY_PERMIT w_STRONG_MAJORITY_PERMIT_EResolutionRule) :
    MetFree l (⟨"com/example/kindred_consent/kindredconsent/engine/EReasonIsCountedPinLaw", "pick", "(I)Lcom/example/kindred_consent/kindredconsent/engine/EReason;"⟩ : MethodName) (head1 (Jvm.Cond.code (⟨"com/example/kindred_consent/kindredconsent/engine/EReasonIsCountedPinLaw", "pick", "(I)Lcom/example/kindred_consent/kindredconsent/engine/EReason;"⟩ : MethodName) method_2_code 1 (some (.object "com/example/kindred_consent/kindredconsent/engine/EReason")) :: ws) ({ frames := 0, cells := 0, slots := 0, locals := 0 } : Room)) (fun a U => a = #[(.int (5 : Int32))] ∧ Z.Warmed39 U.vm ∧ U.heap = h0) (fun _ _ _ _ _ => True) (fun _ U o U' => ∃ v L, o = .returned v ∧ Q_pick_5 Z w_CONTROLLER w_FULL_CONSENSUS_PERMIT w_FULL_CONSENSUS_PERMIT_EResolutionRule w_WEIGHTED w_OWNER_OVERRIDES w_OWNER_OVERRIDES_EResolutionRule w_SOURCE w_NO_THRESHOLD w_MAJORITY_PERMIT w_MAJORITY_PERMIT_EResolutionRule w_RESHARE_REFUSED w_WEIGHTED_EReason w_NOT_VIEWER w_UNNAMED w_SUPER_MAJORITY_PERMIT w_SUPER_MAJORITY_PERMIT_EResolutionRule w_STRONG_MAJORITY_PERMIT w_STRONG_MAJORITY_PERMIT_EResolutionRule h0 n0 v U'.heap L ∧ FrameEnd U o U' L ({ frames := 0, cells := 0, slots := 0, locals := 0 } : Room).cells ({ frames := 0, cells := 0, slots := 0, locals := 0 } : Room).slots) := by
  refine MetFree.of_bodySF (plainFor_of_name pn_com_example_kindred_consent_kindredconsent_engine_EReasonIsCountedPinLaw) hisR ?_
  intro p e s m args below meth c s₁ Bd hml0 hP hK
  obtain ⟨rfl, hZ, hh⟩ := hP
  have hx := Bd.exec
  have hby := Bd.bytes
  have hml : c.maxLocals = 1 := hml0
  have hown : s.vm.findClass "com/example/kindred_consent/kindredconsent/engine/EReasonIsCountedPinLaw" = some m.cls := findClass_of_methodNamed Bd.named
  have hnm := (name_of_methodNamed Bd.named Bd.method).1
  have X0 : Stand p l e ({ frames := 0, cells := 0, slots := 0, locals := 0 } : Room) s m #[(.int (5 : Int32))] below meth c s₁ [] 0 0 := Stand.of_body Bd
  have e0 : s₁.heap = h0 := by rw [← hh, Bd.state]; rfl
  have N0 := Fr.nil n0
  have pre0 : ∀ t, Steps p.tables e below (s₁.setTop (mkF m 0 #[.val (.int (5 : Int32))] [])) t → Steps p.tables e below (s₁.setTop (entryFrame m #[(.int (5 : Int32))] 1)) t := fun t k => castTop (ef_pick_5 m ) k
  have hE_ := hE; obtain ⟨S_w_CONTROLLER, E_w_CONTROLLER, S_w_FULL_CONSENSUS_PERMIT, E_w_FULL_CONSENSUS_PERMIT, S_w_FULL_CONSENSUS_PERMIT_EResolutionRule, E_w_FULL_CONSENSUS_PERMIT_EResolutionRule, S_w_WEIGHTED, E_w_WEIGHTED, S_w_OWNER_OVERRIDES, E_w_OWNER_OVERRIDES, S_w_OWNER_OVERRIDES_EResolutionRule, E_w_OWNER_OVERRIDES_EResolutionRule, S_w_SOURCE, E_w_SOURCE, S_w_NO_THRESHOLD, E_w_NO_THRESHOLD, S_w_MAJORITY_PERMIT, E_w_MAJORITY_PERMIT, S_w_MAJORITY_PERMIT_EResolutionRule, E_w_MAJORITY_PERMIT_EResolutionRule, S_w_RESHARE_REFUSED, E_w_RESHARE_REFUSED, S_w_WEIGHTED_EReason, E_w_WEIGHTED_EReason, S_w_NOT_VIEWER, E_w_NOT_VIEWER, S_w_UNNAMED, E_w_UNNAMED, S_w_SUPER_MAJORITY_PERMIT, E_w_SUPER_MAJORITY_PERMIT, S_w_SUPER_MAJORITY_PERMIT_EResolutionRule, E_w_SUPER_MAJORITY_PERMIT_EResolutionRule, S_w_STRONG_MAJORITY_PERMIT, E_w_STRONG_MAJORITY_PERMIT, S_w_STRONG_MAJORITY_PERMIT_EResolutionRule, E_w_STRONG_MAJORITY_PERMIT_EResolutionRule, F_m_eRule_w_CONTROLLER, F_m_eRule_w_FULL_CONSENSUS_PERMIT, F_ordinal_w_FULL_CONSENSUS_PERMIT_EResolutionRule, F_ordinal_w_WEIGHTED, F_m_eRule_w_OWNER_OVERRIDES, F_ordinal_w_OWNER_OVERRIDES_EResolutionRule, F_m_eRule_w_SOURCE, F_m_eRule_w_NO_THRESHOLD, F_m_eRule_w_MAJORITY_PERMIT, F_ordinal_w_MAJORITY_PERMIT_EResolutionRule, F_m_eRule_w_RESHARE_REFUSED, F_m_eRule_w_WEIGHTED_EReason, F_m_eRule_w_NOT_VIEWER, F_m_eRule_w_UNNAMED, F_m_eRule_w_SUPER_MAJORITY_PERMIT, F_ordinal_w_SUPER_MAJORITY_PERMIT_EResolutionRule, F_m_eRule_w_STRONG_MAJORITY_PERMIT, F_ordinal_w_STRONG_MAJORITY_PERMIT_EResolutionRule⟩ := hE_
  obtain ⟨T1, X1, e1, st1⟩ := getS2 X0 hx hZ hown (host := "") (Or.inl (hw _ (List.mem_of_getElem? (i := 42) rfl))) Via.refl e0 (S_w_STRONG_MAJORITY_PERMIT.ext O0.2) (g := (mkF m 49 #[.val (.int (5 : Int32))] [])) rfl (hb hby d1_49)
  obtain ⟨fs, hr, hrun, hended, hW, hsame⟩ := X1.leave (v := some (.ref w_STRONG_MAJORITY_PERMIT)) (fun h => by rw [Bd.returns] at h; cases h)
  refine ⟨_, _, pre0 _ ?_, hrun, hended, _, _, rfl, ?_, ⟨_, rfl⟩, hW, hsame.mono (by decide) (by decide)⟩
  · show Steps p.tables e below (s₁.setTop (mkF m 0 #[.val (.int (5 : Int32))] [])) _
    refine XS.iloadN X0.here hx rfl (hb hby d1_0) rfl ?_
    show Steps p.tables e below (s₁.setTop (mkF m 1 #[.val (.int (5 : Int32))] [(.int (5 : Int32))])) _
    refine XS.ifYes X0.here hx rfl (pc0 := 1) (pc' := 8) rfl (hb hby d1_1) rfl ((if0 _ _).trans (feq (by decide : ¬ ((5 : Int32) = (0 : Int32)))).2) (by decide) (by decide) ?_
    show Steps p.tables e below (s₁.setTop (mkF m 8 #[.val (.int (5 : Int32))] [])) _
    refine XS.iloadN X0.here hx rfl (hb hby d1_8) rfl ?_
    show Steps p.tables e below (s₁.setTop (mkF m 9 #[.val (.int (5 : Int32))] [(.int (5 : Int32))])) _
    refine XS.iconst X0.here hx rfl (hb hby d1_9) ?_
    show Steps p.tables e below (s₁.setTop (mkF m 10 #[.val (.int (5 : Int32))] [(.int (1 : Int32)), (.int (5 : Int32))])) _
    refine XS.icmpYes X0.here hx rfl (pc0 := 10) (pc' := 17) rfl (hb hby d1_10) rfl (feq (by decide : ¬ ((5 : Int32) = (1 : Int32)))).2 (by decide) (by decide) ?_
    show Steps p.tables e below (s₁.setTop (mkF m 17 #[.val (.int (5 : Int32))] [])) _
    refine XS.iloadN X0.here hx rfl (hb hby d1_17) rfl ?_
    show Steps p.tables e below (s₁.setTop (mkF m 18 #[.val (.int (5 : Int32))] [(.int (5 : Int32))])) _
    refine XS.iconst X0.here hx rfl (hb hby d1_18) ?_
    show Steps p.tables e below (s₁.setTop (mkF m 19 #[.val (.int (5 : Int32))] [(.int (2 : Int32)), (.int (5 : Int32))])) _
    refine XS.icmpYes X0.here hx rfl (pc0 := 19) (pc' := 26) rfl (hb hby d1_19) rfl (feq (by decide : ¬ ((5 : Int32) = (2 : Int32)))).2 (by decide) (by decide) ?_
    show Steps p.tables e below (s₁.setTop (mkF m 26 #[.val (.int (5 : Int32))] [])) _
    refine XS.iloadN X0.here hx rfl (hb hby d1_26) rfl ?_
    show Steps p.tables e below (s₁.setTop (mkF m 27 #[.val (.int (5 : Int32))] [(.int (5 : Int32))])) _
    refine XS.iconst X0.here hx rfl (hb hby d1_27) ?_
    show Steps p.tables e below (s₁.setTop (mkF m 28 #[.val (.int (5 : Int32))] [(.int (3 : Int32)), (.int (5 : Int32))])) _
    refine XS.icmpYes X0.here hx rfl (pc0 := 28) (pc' := 35) rfl (hb hby d1_28) rfl (feq (by decide : ¬ ((5 : Int32) = (3 : Int32)))).2 (by decide) (by decide) ?_
    show Steps p.tables e below (s₁.setTop (mkF m 35 #[.val (.int (5 : Int32))] [])) _
    refine XS.iloadN X0.here hx rfl (hb hby d1_35) rfl ?_
    show Steps p.tables e below (s₁.setTop (mkF m 36 #[.val (.int (5 : Int32))] [(.int (5 : Int32))])) _
    refine XS.iconst X0.here hx rfl (hb hby d1_36) ?_
    show Steps p.tables e below (s₁.setTop (mkF m 37 #[.val (.int (5 : Int32))] [(.int (4 : Int32)), (.int (5 : Int32))])) _
    refine XS.icmpYes X0.here hx rfl (pc0 := 37) (pc' := 44) rfl (hb hby d1_37) rfl (feq (by decide : ¬ ((5 : Int32) = (4 : Int32)))).2 (by decide) (by decide) ?_
    show Steps p.tables e below (s₁.setTop (mkF m 44 #[.val (.int (5 : Int32))] [])) _
    refine XS.iloadN X0.here hx rfl (hb hby d1_44) rfl ?_
    show Steps p.tables e below (s₁.setTop (mkF m 45 #[.val (.int (5 : Int32))] [(.int (5 : Int32))])) _
    refine XS.iconst X0.here hx rfl (hb hby d1_45) ?_
    show Steps p.tables e below (s₁.setTop (mkF m 46 #[.val (.int (5 : Int32))] [(.int (5 : Int32)), (.int (5 : Int32))])) _
    refine XS.icmpNo X0.here hx rfl (hb hby d1_46) rfl (teq (by decide : (5 : Int32) = (5 : Int32))).2 ?_
    show Steps p.tables e below (s₁.setTop (mkF m 49 #[.val (.int (5 : Int32))] [])) _
    refine st1 _ ?_
    show Steps p.tables e below (T1.setTop (mkF m 52 #[.val (.int (5 : Int32))] [(.ref w_STRONG_MAJORITY_PERMIT)])) _
    jvm_step X1.here [X1.here.top, hx, (hb hby d1_52), X1.method', Bd.returns, Value.isRef, FieldType.isReference]
    first | (intro acts; rw [hr _ acts rfl rfl rfl]) | rw [hr _ _ rfl rfl rfl]
    exact Steps.refl _
  · show Q_pick_5 Z w_CONTROLLER w_FULL_CONSENSUS_PERMIT w_FULL_CONSENSUS_PERMIT_EResolutionRule w_WEIGHTED w_OWNER_OVERRIDES w_OWNER_OVERRIDES_EResolutionRule w_SOURCE w_NO_THRESHOLD w_MAJORITY_PERMIT w_MAJORITY_PERMIT_EResolutionRule w_RESHARE_REFUSED w_WEIGHTED_EReason w_NOT_VIEWER w_UNNAMED w_SUPER_MAJORITY_PERMIT w_SUPER_MAJORITY_PERMIT_EResolutionRule w_STRONG_MAJORITY_PERMIT w_STRONG_MAJORITY_PERMIT_EResolutionRule h0 n0 _ T1.heap _
    rw [e1]
    exact ⟨rfl, N0, rfl⟩
theorem ef_ic_STRONG_MAJORITY_PERMIT (m : MethodId) (w_STRONG_MAJORITY_PERMIT : Addr) : entryFrame m #[(.ref w_STRONG_MAJORITY_PERMIT)] 1 = mkF m 0 #[.val (.ref w_STRONG_MAJORITY_PERMIT)] [] := by first | (simp [entryFrame, mkF, argsToLocals, Value.category]; done) | rfl
def Q_ic_STRONG_MAJORITY_PERMIT (Z : State) (w_CONTROLLER w_FULL_CONSENSUS_PERMIT w_FULL_CONSENSUS_PERMIT_EResolutionRule w_WEIGHTED w_OWNER_OVERRIDES w_OWNER_OVERRIDES_EResolutionRule w_SOURCE w_NO_THRESHOLD w_MAJORITY_PERMIT w_MAJORITY_PERMIT_EResolutionRule w_RESHARE_REFUSED w_WEIGHTED_EReason w_NOT_VIEWER w_UNNAMED w_SUPER_MAJORITY_PERMIT w_SUPER_MAJORITY_PERMIT_EResolutionRule w_STRONG_MAJORITY_PERMIT w_STRONG_MAJORITY_PERMIT_EResolutionRule : Addr) (h0 : Heap) (n0 : Nat) (v : Option Value) (h : Heap) (L : List Loc) : Prop := v = some (.int (1 : Int32)) ∧ Fr n0 L ∧ h = h0
set_option maxRecDepth 65536 in
set_option maxHeartbeats 40000000 in
theorem ic_STRONG_MAJORITY_PERMIT (l : Launch) (Z : State) (a0 : Array Value) (hw : ∀ d ∈ tables_1, d.before a0 Z = true) (ws : List Jvm.Cond) (w_CONTROLLER w_FULL_CONSENSUS_PERMIT w_FULL_CONSENSUS_PERMIT_EResolutionRule w_WEIGHTED w_OWNER_OVERRIDES w_OWNER_OVERRIDES_EResolutionRule w_SOURCE w_NO_THRESHOLD w_MAJORITY_PERMIT w_MAJORITY_PERMIT_EResolutionRule w_RESHARE_REFUSED w_WEIGHTED_EReason w_NOT_VIEWER w_UNNAMED w_SUPER_MAJORITY_PERMIT w_SUPER_MAJORITY_PERMIT_EResolutionRule w_STRONG_MAJORITY_PERMIT w_STRONG_MAJORITY_PERMIT_EResolutionRule : Addr) (h0 : Heap) (n0 : Nat) (O0 : Old Z n0 h0) (hE : OwnEnv Z w_CONTROLLER w_FULL_CONSENSUS_PERMIT w_FULL_CONSENSUS_PERMIT_EResolutionRule w_WEIGHTED w_OWNER_OVERRIDES w_OWNER_OVERRIDES_EResolutionRule w_SOURCE w_NO_THRESHOLD w_MAJORITY_PERMIT w_MAJORITY_PERMIT_EResolutionRule w_RESHARE_REFUSED w_WEIGHTED_EReason w_NOT_VIEWER w_UNNAMED w_SUPER_MAJORITY_PERMIT w_SUPER_MAJORITY_PERMIT_EResolutionRule w_STRONG_MAJORITY_PERMIT w_STRONG_MAJORITY_PERMIT_EResolutionRule) :
    MetFree l (⟨"com/example/kindred_consent/kindredconsent/engine/EReason", "isCounted", "()Z"⟩ : MethodName) (head1 (Jvm.Cond.code (⟨"com/example/kindred_consent/kindredconsent/engine/EReason", "isCounted", "()Z"⟩ : MethodName) prog_7_method_7_code 1 (some .boolean) :: ws) ({ frames := 0, cells := 0, slots := 0, locals := 0 } : Room)) (fun a U => a = #[(.ref w_STRONG_MAJORITY_PERMIT)] ∧ Z.Warmed39 U.vm ∧ U.heap = h0) (fun _ _ _ _ _ => True) (fun _ U o U' => ∃ v L, o = .returned v ∧ Q_ic_STRONG_MAJORITY_PERMIT Z w_CONTROLLER w_FULL_CONSENSUS_PERMIT w_FULL_CONSENSUS_PERMIT_EResolutionRule w_WEIGHTED w_OWNER_OVERRIDES w_OWNER_OVERRIDES_EResolutionRule w_SOURCE w_NO_THRESHOLD w_MAJORITY_PERMIT w_MAJORITY_PERMIT_EResolutionRule w_RESHARE_REFUSED w_WEIGHTED_EReason w_NOT_VIEWER w_UNNAMED w_SUPER_MAJORITY_PERMIT w_SUPER_MAJORITY_PERMIT_EResolutionRule w_STRONG_MAJORITY_PERMIT w_STRONG_MAJORITY_PERMIT_EResolutionRule h0 n0 v U'.heap L ∧ FrameEnd U o U' L ({ frames := 0, cells := 0, slots := 0, locals := 0 } : Room).cells ({ frames := 0, cells := 0, slots := 0, locals := 0 } : Room).slots) := by
  refine MetFree.of_bodySF (plainFor_of_name pn_com_example_kindred_consent_kindredconsent_engine_EReason) hisR ?_
  intro p e s m args below meth c s₁ Bd hml0 hP hK
  obtain ⟨rfl, hZ, hh⟩ := hP
  have hx := Bd.exec
  have hby := Bd.bytes
  have hml : c.maxLocals = 1 := hml0
  have hown : s.vm.findClass "com/example/kindred_consent/kindredconsent/engine/EReason" = some m.cls := findClass_of_methodNamed Bd.named
  have hnm := (name_of_methodNamed Bd.named Bd.method).1
  have X0 : Stand p l e ({ frames := 0, cells := 0, slots := 0, locals := 0 } : Room) s m #[(.ref w_STRONG_MAJORITY_PERMIT)] below meth c s₁ [] 0 0 := Stand.of_body Bd
  have e0 : s₁.heap = h0 := by rw [← hh, Bd.state]; rfl
  have N0 := Fr.nil n0
  have pre0 : ∀ t, Steps p.tables e below (s₁.setTop (mkF m 0 #[.val (.ref w_STRONG_MAJORITY_PERMIT)] [])) t → Steps p.tables e below (s₁.setTop (entryFrame m #[(.ref w_STRONG_MAJORITY_PERMIT)] 1)) t := fun t k => castTop (ef_ic_STRONG_MAJORITY_PERMIT m w_STRONG_MAJORITY_PERMIT) k
  have hE_ := hE; obtain ⟨S_w_CONTROLLER, E_w_CONTROLLER, S_w_FULL_CONSENSUS_PERMIT, E_w_FULL_CONSENSUS_PERMIT, S_w_FULL_CONSENSUS_PERMIT_EResolutionRule, E_w_FULL_CONSENSUS_PERMIT_EResolutionRule, S_w_WEIGHTED, E_w_WEIGHTED, S_w_OWNER_OVERRIDES, E_w_OWNER_OVERRIDES, S_w_OWNER_OVERRIDES_EResolutionRule, E_w_OWNER_OVERRIDES_EResolutionRule, S_w_SOURCE, E_w_SOURCE, S_w_NO_THRESHOLD, E_w_NO_THRESHOLD, S_w_MAJORITY_PERMIT, E_w_MAJORITY_PERMIT, S_w_MAJORITY_PERMIT_EResolutionRule, E_w_MAJORITY_PERMIT_EResolutionRule, S_w_RESHARE_REFUSED, E_w_RESHARE_REFUSED, S_w_WEIGHTED_EReason, E_w_WEIGHTED_EReason, S_w_NOT_VIEWER, E_w_NOT_VIEWER, S_w_UNNAMED, E_w_UNNAMED, S_w_SUPER_MAJORITY_PERMIT, E_w_SUPER_MAJORITY_PERMIT, S_w_SUPER_MAJORITY_PERMIT_EResolutionRule, E_w_SUPER_MAJORITY_PERMIT_EResolutionRule, S_w_STRONG_MAJORITY_PERMIT, E_w_STRONG_MAJORITY_PERMIT, S_w_STRONG_MAJORITY_PERMIT_EResolutionRule, E_w_STRONG_MAJORITY_PERMIT_EResolutionRule, F_m_eRule_w_CONTROLLER, F_m_eRule_w_FULL_CONSENSUS_PERMIT, F_ordinal_w_FULL_CONSENSUS_PERMIT_EResolutionRule, F_ordinal_w_WEIGHTED, F_m_eRule_w_OWNER_OVERRIDES, F_ordinal_w_OWNER_OVERRIDES_EResolutionRule, F_m_eRule_w_SOURCE, F_m_eRule_w_NO_THRESHOLD, F_m_eRule_w_MAJORITY_PERMIT, F_ordinal_w_MAJORITY_PERMIT_EResolutionRule, F_m_eRule_w_RESHARE_REFUSED, F_m_eRule_w_WEIGHTED_EReason, F_m_eRule_w_NOT_VIEWER, F_m_eRule_w_UNNAMED, F_m_eRule_w_SUPER_MAJORITY_PERMIT, F_ordinal_w_SUPER_MAJORITY_PERMIT_EResolutionRule, F_m_eRule_w_STRONG_MAJORITY_PERMIT, F_ordinal_w_STRONG_MAJORITY_PERMIT_EResolutionRule⟩ := hE_
  obtain ⟨T1, X1, e1, st1⟩ := getF X0 hx hZ hown (host := "") (Or.inl (hw _ (List.mem_of_getElem? (i := 13) rfl))) Via.refl e0 (F_m_eRule_w_STRONG_MAJORITY_PERMIT.ext O0.2) (g := (mkF m 1 #[.val (.ref w_STRONG_MAJORITY_PERMIT)] [(.ref w_STRONG_MAJORITY_PERMIT)])) rfl rfl (hb hby d2_1)
  obtain ⟨T2, X2, e2, st2⟩ := getF X1 hx hZ hown (host := "") (Or.inl (hw _ (List.mem_of_getElem? (i := 13) rfl))) Via.refl e1 (F_m_eRule_w_STRONG_MAJORITY_PERMIT.ext O0.2) (g := (mkF m 8 #[.val (.ref w_STRONG_MAJORITY_PERMIT)] [(.ref w_STRONG_MAJORITY_PERMIT)])) rfl rfl (hb hby d2_8)
  obtain ⟨T3, X3, e3, st3⟩ := getS2 X2 hx hZ hown (host := "") (Or.inl (hw _ (List.mem_of_getElem? (i := 19) rfl))) Via.refl e2 (S_w_WEIGHTED.ext O0.2) (g := (mkF m 11 #[.val (.ref w_STRONG_MAJORITY_PERMIT)] [(.ref w_STRONG_MAJORITY_PERMIT_EResolutionRule)])) rfl (hb hby d2_11)
  obtain ⟨fs, hr, hrun, hended, hW, hsame⟩ := X3.leave (v := some (.int (1 : Int32))) (fun h => by rw [Bd.returns] at h; cases h)
  refine ⟨_, _, pre0 _ ?_, hrun, hended, _, _, rfl, ?_, ⟨_, rfl⟩, hW, hsame.mono (by decide) (by decide)⟩
  · show Steps p.tables e below (s₁.setTop (mkF m 0 #[.val (.ref w_STRONG_MAJORITY_PERMIT)] [])) _
    refine XS.aloadN X0.here hx rfl (hb hby d2_0) rfl rfl ?_
    show Steps p.tables e below (s₁.setTop (mkF m 1 #[.val (.ref w_STRONG_MAJORITY_PERMIT)] [(.ref w_STRONG_MAJORITY_PERMIT)])) _
    refine st1 _ ?_
    show Steps p.tables e below (T1.setTop (mkF m 4 #[.val (.ref w_STRONG_MAJORITY_PERMIT)] [(.ref w_STRONG_MAJORITY_PERMIT_EResolutionRule)])) _
    refine XS.ifnullNo X1.here hx rfl (hb hby d2_4) rfl ?_
    show Steps p.tables e below (T1.setTop (mkF m 7 #[.val (.ref w_STRONG_MAJORITY_PERMIT)] [])) _
    refine XS.aloadN X1.here hx rfl (hb hby d2_7) rfl rfl ?_
    show Steps p.tables e below (T1.setTop (mkF m 8 #[.val (.ref w_STRONG_MAJORITY_PERMIT)] [(.ref w_STRONG_MAJORITY_PERMIT)])) _
    refine st2 _ ?_
    show Steps p.tables e below (T2.setTop (mkF m 11 #[.val (.ref w_STRONG_MAJORITY_PERMIT)] [(.ref w_STRONG_MAJORITY_PERMIT_EResolutionRule)])) _
    refine st3 _ ?_
    show Steps p.tables e below (T3.setTop (mkF m 14 #[.val (.ref w_STRONG_MAJORITY_PERMIT)] [(.ref w_WEIGHTED), (.ref w_STRONG_MAJORITY_PERMIT_EResolutionRule)])) _
    refine Jvm.RoadKit.acmp (g := (mkF m 14 #[.val (.ref w_STRONG_MAJORITY_PERMIT)] [(.ref w_WEIGHTED), (.ref w_STRONG_MAJORITY_PERMIT_EResolutionRule)])) X3 hx rfl rfl rfl (pc0 := 14) (pc' := 17) (same := false) rfl (hb hby d2_14) rfl (decide_eq_false fun q => (Ne.symm (Fld.ne F_ordinal_w_WEIGHTED F_ordinal_w_STRONG_MAJORITY_PERMIT_EResolutionRule (by decide))) (Value.ref.inj q)) (by decide) (by decide) ?_
    show Steps p.tables e below (T3.setTop (mkF m 17 #[.val (.ref w_STRONG_MAJORITY_PERMIT)] [])) _
    refine XS.iconst X3.here hx rfl (hb hby d2_17) ?_
    show Steps p.tables e below (T3.setTop (mkF m 18 #[.val (.ref w_STRONG_MAJORITY_PERMIT)] [(.int (1 : Int32))])) _
    refine XS.goto X3.here hx rfl (pc0 := 18) (pc' := 22) rfl (hb hby d2_18) (by decide) (by decide) ?_
    show Steps p.tables e below (T3.setTop (mkF m 22 #[.val (.ref w_STRONG_MAJORITY_PERMIT)] [(.int (1 : Int32))])) _
    exact retN X3 hx (t := .boolean) Bd.returns (by simp) (hb hby d2_22) hr
  · show Q_ic_STRONG_MAJORITY_PERMIT Z w_CONTROLLER w_FULL_CONSENSUS_PERMIT w_FULL_CONSENSUS_PERMIT_EResolutionRule w_WEIGHTED w_OWNER_OVERRIDES w_OWNER_OVERRIDES_EResolutionRule w_SOURCE w_NO_THRESHOLD w_MAJORITY_PERMIT w_MAJORITY_PERMIT_EResolutionRule w_RESHARE_REFUSED w_WEIGHTED_EReason w_NOT_VIEWER w_UNNAMED w_SUPER_MAJORITY_PERMIT w_SUPER_MAJORITY_PERMIT_EResolutionRule w_STRONG_MAJORITY_PERMIT w_STRONG_MAJORITY_PERMIT_EResolutionRule h0 n0 _ T3.heap _
    rw [e3]
    exact ⟨rfl, N0, rfl⟩
theorem ef_pick_6 (m : MethodId)  : entryFrame m #[(.int (6 : Int32))] 1 = mkF m 0 #[.val (.int (6 : Int32))] [] := by first | (simp [entryFrame, mkF, argsToLocals, Value.category]; done) | rfl
def Q_pick_6 (Z : State) (w_CONTROLLER w_FULL_CONSENSUS_PERMIT w_FULL_CONSENSUS_PERMIT_EResolutionRule w_WEIGHTED w_OWNER_OVERRIDES w_OWNER_OVERRIDES_EResolutionRule w_SOURCE w_NO_THRESHOLD w_MAJORITY_PERMIT w_MAJORITY_PERMIT_EResolutionRule w_RESHARE_REFUSED w_WEIGHTED_EReason w_NOT_VIEWER w_UNNAMED w_SUPER_MAJORITY_PERMIT w_SUPER_MAJORITY_PERMIT_EResolutionRule w_STRONG_MAJORITY_PERMIT w_STRONG_MAJORITY_PERMIT_EResolutionRule : Addr) (h0 : Heap) (n0 : Nat) (v : Option Value) (h : Heap) (L : List Loc) : Prop := v = some (.ref w_SUPER_MAJORITY_PERMIT) ∧ Fr n0 L ∧ h = h0
set_option maxRecDepth 65536 in
set_option maxHeartbeats 40000000 in
theorem pick_6 (l : Launch) (Z : State) (a0 : Array Value) (hw : ∀ d ∈ tables_1, d.before a0 Z = true) (ws : List Jvm.Cond) (w_CONTROLLER w_FULL_CONSENSUS_PERMIT w_FULL_CONSENSUS_PERMIT_EResolutionRule w_WEIGHTED w_OWNER_OVERRIDES w_OWNER_OVERRIDES_EResolutionRule w_SOURCE w_NO_THRESHOLD w_MAJORITY_PERMIT w_MAJORITY_PERMIT_EResolutionRule w_RESHARE_REFUSED w_WEIGHTED_EReason w_NOT_VIEWER w_UNNAMED w_SUPER_MAJORITY_PERMIT w_SUPER_MAJORITY_PERMIT_EResolutionRule w_STRONG_MAJORITY_PERMIT w_STRONG_MAJORITY_PERMIT_EResolutionRule : Addr) (h0 : Heap) (n0 : Nat) (O0 : Old Z n0 h0) (hE : OwnEnv Z w_CONTROLLER w_FULL_CONSENSUS_PERMIT w_FULL_CONSENSUS_PERMIT_EResolutionRule w_WEIGHTED w_OWNER_OVERRIDES w_OWNER_OVERRIDES_EResolutionRule w_SOURCE w_NO_THRESHOLD w_MAJORITY_PERMIT w_MAJORITY_PERMIT_EResolutionRule w_RESHARE_REFUSED w_WEIGHTED_EReason w_NOT_VIEWER w_UNNAMED w_SUPER_MAJORITY_PERMIT w_SUPER_MAJORITY_PERMIT_EResolutionRule w_STRONG_MAJORITY_PERMIT w_STRONG_MAJORITY_PERMIT_EResolutionRule) :
    MetFree l (⟨"com/example/kindred_consent/kindredconsent/engine/EReasonIsCountedPinLaw", "pick", "(I)Lcom/example/kindred_consent/kindredconsent/engine/EReason;"⟩ : MethodName) (head1 (Jvm.Cond.code (⟨"com/example/kindred_consent/kindredconsent/engine/EReasonIsCountedPinLaw", "pick", "(I)Lcom/example/kindred_consent/kindredconsent/engine/EReason;"⟩ : MethodName) method_2_code 1 (some (.object "com/example/kindred_consent/kindredconsent/engine/EReason")) :: ws) ({ frames := 0, cells := 0, slots := 0, locals := 0 } : Room)) (fun a U => a = #[(.int (6 : Int32))] ∧ Z.Warmed39 U.vm ∧ U.heap = h0) (fun _ _ _ _ _ => True) (fun _ U o U' => ∃ v L, o = .returned v ∧ Q_pick_6 Z w_CONTROLLER w_FULL_CONSENSUS_PERMIT w_FULL_CONSENSUS_PERMIT_EResolutionRule w_WEIGHTED w_OWNER_OVERRIDES w_OWNER_OVERRIDES_EResolutionRule w_SOURCE w_NO_THRESHOLD w_MAJORITY_PERMIT w_MAJORITY_PERMIT_EResolutionRule w_RESHARE_REFUSED w_WEIGHTED_EReason w_NOT_VIEWER w_UNNAMED w_SUPER_MAJORITY_PERMIT w_SUPER_MAJORITY_PERMIT_EResolutionRule w_STRONG_MAJORITY_PERMIT w_STRONG_MAJORITY_PERMIT_EResolutionRule h0 n0 v U'.heap L ∧ FrameEnd U o U' L ({ frames := 0, cells := 0, slots := 0, locals := 0 } : Room).cells ({ frames := 0, cells := 0, slots := 0, locals := 0 } : Room).slots) := by
  refine MetFree.of_bodySF (plainFor_of_name pn_com_example_kindred_consent_kindredconsent_engine_EReasonIsCountedPinLaw) hisR ?_
  intro p e s m args below meth c s₁ Bd hml0 hP hK
  obtain ⟨rfl, hZ, hh⟩ := hP
  have hx := Bd.exec
  have hby := Bd.bytes
  have hml : c.maxLocals = 1 := hml0
  have hown : s.vm.findClass "com/example/kindred_consent/kindredconsent/engine/EReasonIsCountedPinLaw" = some m.cls := findClass_of_methodNamed Bd.named
  have hnm := (name_of_methodNamed Bd.named Bd.method).1
  have X0 : Stand p l e ({ frames := 0, cells := 0, slots := 0, locals := 0 } : Room) s m #[(.int (6 : Int32))] below meth c s₁ [] 0 0 := Stand.of_body Bd
  have e0 : s₁.heap = h0 := by rw [← hh, Bd.state]; rfl
  have N0 := Fr.nil n0
  have pre0 : ∀ t, Steps p.tables e below (s₁.setTop (mkF m 0 #[.val (.int (6 : Int32))] [])) t → Steps p.tables e below (s₁.setTop (entryFrame m #[(.int (6 : Int32))] 1)) t := fun t k => castTop (ef_pick_6 m ) k
  have hE_ := hE; obtain ⟨S_w_CONTROLLER, E_w_CONTROLLER, S_w_FULL_CONSENSUS_PERMIT, E_w_FULL_CONSENSUS_PERMIT, S_w_FULL_CONSENSUS_PERMIT_EResolutionRule, E_w_FULL_CONSENSUS_PERMIT_EResolutionRule, S_w_WEIGHTED, E_w_WEIGHTED, S_w_OWNER_OVERRIDES, E_w_OWNER_OVERRIDES, S_w_OWNER_OVERRIDES_EResolutionRule, E_w_OWNER_OVERRIDES_EResolutionRule, S_w_SOURCE, E_w_SOURCE, S_w_NO_THRESHOLD, E_w_NO_THRESHOLD, S_w_MAJORITY_PERMIT, E_w_MAJORITY_PERMIT, S_w_MAJORITY_PERMIT_EResolutionRule, E_w_MAJORITY_PERMIT_EResolutionRule, S_w_RESHARE_REFUSED, E_w_RESHARE_REFUSED, S_w_WEIGHTED_EReason, E_w_WEIGHTED_EReason, S_w_NOT_VIEWER, E_w_NOT_VIEWER, S_w_UNNAMED, E_w_UNNAMED, S_w_SUPER_MAJORITY_PERMIT, E_w_SUPER_MAJORITY_PERMIT, S_w_SUPER_MAJORITY_PERMIT_EResolutionRule, E_w_SUPER_MAJORITY_PERMIT_EResolutionRule, S_w_STRONG_MAJORITY_PERMIT, E_w_STRONG_MAJORITY_PERMIT, S_w_STRONG_MAJORITY_PERMIT_EResolutionRule, E_w_STRONG_MAJORITY_PERMIT_EResolutionRule, F_m_eRule_w_CONTROLLER, F_m_eRule_w_FULL_CONSENSUS_PERMIT, F_ordinal_w_FULL_CONSENSUS_PERMIT_EResolutionRule, F_ordinal_w_WEIGHTED, F_m_eRule_w_OWNER_OVERRIDES, F_ordinal_w_OWNER_OVERRIDES_EResolutionRule, F_m_eRule_w_SOURCE, F_m_eRule_w_NO_THRESHOLD, F_m_eRule_w_MAJORITY_PERMIT, F_ordinal_w_MAJORITY_PERMIT_EResolutionRule, F_m_eRule_w_RESHARE_REFUSED, F_m_eRule_w_WEIGHTED_EReason, F_m_eRule_w_NOT_VIEWER, F_m_eRule_w_UNNAMED, F_m_eRule_w_SUPER_MAJORITY_PERMIT, F_ordinal_w_SUPER_MAJORITY_PERMIT_EResolutionRule, F_m_eRule_w_STRONG_MAJORITY_PERMIT, F_ordinal_w_STRONG_MAJORITY_PERMIT_EResolutionRule⟩ := hE_
  obtain ⟨T1, X1, e1, st1⟩ := getS2 X0 hx hZ hown (host := "") (Or.inl (hw _ (List.mem_of_getElem? (i := 39) rfl))) Via.refl e0 (S_w_SUPER_MAJORITY_PERMIT.ext O0.2) (g := (mkF m 59 #[.val (.int (6 : Int32))] [])) rfl (hb hby d1_59)
  obtain ⟨fs, hr, hrun, hended, hW, hsame⟩ := X1.leave (v := some (.ref w_SUPER_MAJORITY_PERMIT)) (fun h => by rw [Bd.returns] at h; cases h)
  refine ⟨_, _, pre0 _ ?_, hrun, hended, _, _, rfl, ?_, ⟨_, rfl⟩, hW, hsame.mono (by decide) (by decide)⟩
  · show Steps p.tables e below (s₁.setTop (mkF m 0 #[.val (.int (6 : Int32))] [])) _
    refine XS.iloadN X0.here hx rfl (hb hby d1_0) rfl ?_
    show Steps p.tables e below (s₁.setTop (mkF m 1 #[.val (.int (6 : Int32))] [(.int (6 : Int32))])) _
    refine XS.ifYes X0.here hx rfl (pc0 := 1) (pc' := 8) rfl (hb hby d1_1) rfl ((if0 _ _).trans (feq (by decide : ¬ ((6 : Int32) = (0 : Int32)))).2) (by decide) (by decide) ?_
    show Steps p.tables e below (s₁.setTop (mkF m 8 #[.val (.int (6 : Int32))] [])) _
    refine XS.iloadN X0.here hx rfl (hb hby d1_8) rfl ?_
    show Steps p.tables e below (s₁.setTop (mkF m 9 #[.val (.int (6 : Int32))] [(.int (6 : Int32))])) _
    refine XS.iconst X0.here hx rfl (hb hby d1_9) ?_
    show Steps p.tables e below (s₁.setTop (mkF m 10 #[.val (.int (6 : Int32))] [(.int (1 : Int32)), (.int (6 : Int32))])) _
    refine XS.icmpYes X0.here hx rfl (pc0 := 10) (pc' := 17) rfl (hb hby d1_10) rfl (feq (by decide : ¬ ((6 : Int32) = (1 : Int32)))).2 (by decide) (by decide) ?_
    show Steps p.tables e below (s₁.setTop (mkF m 17 #[.val (.int (6 : Int32))] [])) _
    refine XS.iloadN X0.here hx rfl (hb hby d1_17) rfl ?_
    show Steps p.tables e below (s₁.setTop (mkF m 18 #[.val (.int (6 : Int32))] [(.int (6 : Int32))])) _
    refine XS.iconst X0.here hx rfl (hb hby d1_18) ?_
    show Steps p.tables e below (s₁.setTop (mkF m 19 #[.val (.int (6 : Int32))] [(.int (2 : Int32)), (.int (6 : Int32))])) _
    refine XS.icmpYes X0.here hx rfl (pc0 := 19) (pc' := 26) rfl (hb hby d1_19) rfl (feq (by decide : ¬ ((6 : Int32) = (2 : Int32)))).2 (by decide) (by decide) ?_
    show Steps p.tables e below (s₁.setTop (mkF m 26 #[.val (.int (6 : Int32))] [])) _
    refine XS.iloadN X0.here hx rfl (hb hby d1_26) rfl ?_
    show Steps p.tables e below (s₁.setTop (mkF m 27 #[.val (.int (6 : Int32))] [(.int (6 : Int32))])) _
    refine XS.iconst X0.here hx rfl (hb hby d1_27) ?_
    show Steps p.tables e below (s₁.setTop (mkF m 28 #[.val (.int (6 : Int32))] [(.int (3 : Int32)), (.int (6 : Int32))])) _
    refine XS.icmpYes X0.here hx rfl (pc0 := 28) (pc' := 35) rfl (hb hby d1_28) rfl (feq (by decide : ¬ ((6 : Int32) = (3 : Int32)))).2 (by decide) (by decide) ?_
    show Steps p.tables e below (s₁.setTop (mkF m 35 #[.val (.int (6 : Int32))] [])) _
    refine XS.iloadN X0.here hx rfl (hb hby d1_35) rfl ?_
    show Steps p.tables e below (s₁.setTop (mkF m 36 #[.val (.int (6 : Int32))] [(.int (6 : Int32))])) _
    refine XS.iconst X0.here hx rfl (hb hby d1_36) ?_
    show Steps p.tables e below (s₁.setTop (mkF m 37 #[.val (.int (6 : Int32))] [(.int (4 : Int32)), (.int (6 : Int32))])) _
    refine XS.icmpYes X0.here hx rfl (pc0 := 37) (pc' := 44) rfl (hb hby d1_37) rfl (feq (by decide : ¬ ((6 : Int32) = (4 : Int32)))).2 (by decide) (by decide) ?_
    show Steps p.tables e below (s₁.setTop (mkF m 44 #[.val (.int (6 : Int32))] [])) _
    refine XS.iloadN X0.here hx rfl (hb hby d1_44) rfl ?_
    show Steps p.tables e below (s₁.setTop (mkF m 45 #[.val (.int (6 : Int32))] [(.int (6 : Int32))])) _
    refine XS.iconst X0.here hx rfl (hb hby d1_45) ?_
    show Steps p.tables e below (s₁.setTop (mkF m 46 #[.val (.int (6 : Int32))] [(.int (5 : Int32)), (.int (6 : Int32))])) _
    refine XS.icmpYes X0.here hx rfl (pc0 := 46) (pc' := 53) rfl (hb hby d1_46) rfl (feq (by decide : ¬ ((6 : Int32) = (5 : Int32)))).2 (by decide) (by decide) ?_
    show Steps p.tables e below (s₁.setTop (mkF m 53 #[.val (.int (6 : Int32))] [])) _
    refine XS.iloadN X0.here hx rfl (hb hby d1_53) rfl ?_
    show Steps p.tables e below (s₁.setTop (mkF m 54 #[.val (.int (6 : Int32))] [(.int (6 : Int32))])) _
    refine XS.bipush X0.here hx rfl (hb hby d1_54) ?_
    show Steps p.tables e below (s₁.setTop (mkF m 56 #[.val (.int (6 : Int32))] [(.int (6 : Int32)), (.int (6 : Int32))])) _
    refine XS.icmpNo X0.here hx rfl (hb hby d1_56) rfl (teq (by decide : (6 : Int32) = (6 : Int32))).2 ?_
    show Steps p.tables e below (s₁.setTop (mkF m 59 #[.val (.int (6 : Int32))] [])) _
    refine st1 _ ?_
    show Steps p.tables e below (T1.setTop (mkF m 62 #[.val (.int (6 : Int32))] [(.ref w_SUPER_MAJORITY_PERMIT)])) _
    jvm_step X1.here [X1.here.top, hx, (hb hby d1_62), X1.method', Bd.returns, Value.isRef, FieldType.isReference]
    first | (intro acts; rw [hr _ acts rfl rfl rfl]) | rw [hr _ _ rfl rfl rfl]
    exact Steps.refl _
  · show Q_pick_6 Z w_CONTROLLER w_FULL_CONSENSUS_PERMIT w_FULL_CONSENSUS_PERMIT_EResolutionRule w_WEIGHTED w_OWNER_OVERRIDES w_OWNER_OVERRIDES_EResolutionRule w_SOURCE w_NO_THRESHOLD w_MAJORITY_PERMIT w_MAJORITY_PERMIT_EResolutionRule w_RESHARE_REFUSED w_WEIGHTED_EReason w_NOT_VIEWER w_UNNAMED w_SUPER_MAJORITY_PERMIT w_SUPER_MAJORITY_PERMIT_EResolutionRule w_STRONG_MAJORITY_PERMIT w_STRONG_MAJORITY_PERMIT_EResolutionRule h0 n0 _ T1.heap _
    rw [e1]
    exact ⟨rfl, N0, rfl⟩
theorem ef_ic_SUPER_MAJORITY_PERMIT (m : MethodId) (w_SUPER_MAJORITY_PERMIT : Addr) : entryFrame m #[(.ref w_SUPER_MAJORITY_PERMIT)] 1 = mkF m 0 #[.val (.ref w_SUPER_MAJORITY_PERMIT)] [] := by first | (simp [entryFrame, mkF, argsToLocals, Value.category]; done) | rfl
def Q_ic_SUPER_MAJORITY_PERMIT (Z : State) (w_CONTROLLER w_FULL_CONSENSUS_PERMIT w_FULL_CONSENSUS_PERMIT_EResolutionRule w_WEIGHTED w_OWNER_OVERRIDES w_OWNER_OVERRIDES_EResolutionRule w_SOURCE w_NO_THRESHOLD w_MAJORITY_PERMIT w_MAJORITY_PERMIT_EResolutionRule w_RESHARE_REFUSED w_WEIGHTED_EReason w_NOT_VIEWER w_UNNAMED w_SUPER_MAJORITY_PERMIT w_SUPER_MAJORITY_PERMIT_EResolutionRule w_STRONG_MAJORITY_PERMIT w_STRONG_MAJORITY_PERMIT_EResolutionRule : Addr) (h0 : Heap) (n0 : Nat) (v : Option Value) (h : Heap) (L : List Loc) : Prop := v = some (.int (1 : Int32)) ∧ Fr n0 L ∧ h = h0
set_option maxRecDepth 65536 in
set_option maxHeartbeats 40000000 in
theorem ic_SUPER_MAJORITY_PERMIT (l : Launch) (Z : State) (a0 : Array Value) (hw : ∀ d ∈ tables_1, d.before a0 Z = true) (ws : List Jvm.Cond) (w_CONTROLLER w_FULL_CONSENSUS_PERMIT w_FULL_CONSENSUS_PERMIT_EResolutionRule w_WEIGHTED w_OWNER_OVERRIDES w_OWNER_OVERRIDES_EResolutionRule w_SOURCE w_NO_THRESHOLD w_MAJORITY_PERMIT w_MAJORITY_PERMIT_EResolutionRule w_RESHARE_REFUSED w_WEIGHTED_EReason w_NOT_VIEWER w_UNNAMED w_SUPER_MAJORITY_PERMIT w_SUPER_MAJORITY_PERMIT_EResolutionRule w_STRONG_MAJORITY_PERMIT w_STRONG_MAJORITY_PERMIT_EResolutionRule : Addr) (h0 : Heap) (n0 : Nat) (O0 : Old Z n0 h0) (hE : OwnEnv Z w_CONTROLLER w_FULL_CONSENSUS_PERMIT w_FULL_CONSENSUS_PERMIT_EResolutionRule w_WEIGHTED w_OWNER_OVERRIDES w_OWNER_OVERRIDES_EResolutionRule w_SOURCE w_NO_THRESHOLD w_MAJORITY_PERMIT w_MAJORITY_PERMIT_EResolutionRule w_RESHARE_REFUSED w_WEIGHTED_EReason w_NOT_VIEWER w_UNNAMED w_SUPER_MAJORITY_PERMIT w_SUPER_MAJORITY_PERMIT_EResolutionRule w_STRONG_MAJORITY_PERMIT w_STRONG_MAJORITY_PERMIT_EResolutionRule) :
    MetFree l (⟨"com/example/kindred_consent/kindredconsent/engine/EReason", "isCounted", "()Z"⟩ : MethodName) (head1 (Jvm.Cond.code (⟨"com/example/kindred_consent/kindredconsent/engine/EReason", "isCounted", "()Z"⟩ : MethodName) prog_7_method_7_code 1 (some .boolean) :: ws) ({ frames := 0, cells := 0, slots := 0, locals := 0 } : Room)) (fun a U => a = #[(.ref w_SUPER_MAJORITY_PERMIT)] ∧ Z.Warmed39 U.vm ∧ U.heap = h0) (fun _ _ _ _ _ => True) (fun _ U o U' => ∃ v L, o = .returned v ∧ Q_ic_SUPER_MAJORITY_PERMIT Z w_CONTROLLER w_FULL_CONSENSUS_PERMIT w_FULL_CONSENSUS_PERMIT_EResolutionRule w_WEIGHTED w_OWNER_OVERRIDES w_OWNER_OVERRIDES_EResolutionRule w_SOURCE w_NO_THRESHOLD w_MAJORITY_PERMIT w_MAJORITY_PERMIT_EResolutionRule w_RESHARE_REFUSED w_WEIGHTED_EReason w_NOT_VIEWER w_UNNAMED w_SUPER_MAJORITY_PERMIT w_SUPER_MAJORITY_PERMIT_EResolutionRule w_STRONG_MAJORITY_PERMIT w_STRONG_MAJORITY_PERMIT_EResolutionRule h0 n0 v U'.heap L ∧ FrameEnd U o U' L ({ frames := 0, cells := 0, slots := 0, locals := 0 } : Room).cells ({ frames := 0, cells := 0, slots := 0, locals := 0 } : Room).slots) := by
  refine MetFree.of_bodySF (plainFor_of_name pn_com_example_kindred_consent_kindredconsent_engine_EReason) hisR ?_
  intro p e s m args below meth c s₁ Bd hml0 hP hK
  obtain ⟨rfl, hZ, hh⟩ := hP
  have hx := Bd.exec
  have hby := Bd.bytes
  have hml : c.maxLocals = 1 := hml0
  have hown : s.vm.findClass "com/example/kindred_consent/kindredconsent/engine/EReason" = some m.cls := findClass_of_methodNamed Bd.named
  have hnm := (name_of_methodNamed Bd.named Bd.method).1
  have X0 : Stand p l e ({ frames := 0, cells := 0, slots := 0, locals := 0 } : Room) s m #[(.ref w_SUPER_MAJORITY_PERMIT)] below meth c s₁ [] 0 0 := Stand.of_body Bd
  have e0 : s₁.heap = h0 := by rw [← hh, Bd.state]; rfl
  have N0 := Fr.nil n0
  have pre0 : ∀ t, Steps p.tables e below (s₁.setTop (mkF m 0 #[.val (.ref w_SUPER_MAJORITY_PERMIT)] [])) t → Steps p.tables e below (s₁.setTop (entryFrame m #[(.ref w_SUPER_MAJORITY_PERMIT)] 1)) t := fun t k => castTop (ef_ic_SUPER_MAJORITY_PERMIT m w_SUPER_MAJORITY_PERMIT) k
  have hE_ := hE; obtain ⟨S_w_CONTROLLER, E_w_CONTROLLER, S_w_FULL_CONSENSUS_PERMIT, E_w_FULL_CONSENSUS_PERMIT, S_w_FULL_CONSENSUS_PERMIT_EResolutionRule, E_w_FULL_CONSENSUS_PERMIT_EResolutionRule, S_w_WEIGHTED, E_w_WEIGHTED, S_w_OWNER_OVERRIDES, E_w_OWNER_OVERRIDES, S_w_OWNER_OVERRIDES_EResolutionRule, E_w_OWNER_OVERRIDES_EResolutionRule, S_w_SOURCE, E_w_SOURCE, S_w_NO_THRESHOLD, E_w_NO_THRESHOLD, S_w_MAJORITY_PERMIT, E_w_MAJORITY_PERMIT, S_w_MAJORITY_PERMIT_EResolutionRule, E_w_MAJORITY_PERMIT_EResolutionRule, S_w_RESHARE_REFUSED, E_w_RESHARE_REFUSED, S_w_WEIGHTED_EReason, E_w_WEIGHTED_EReason, S_w_NOT_VIEWER, E_w_NOT_VIEWER, S_w_UNNAMED, E_w_UNNAMED, S_w_SUPER_MAJORITY_PERMIT, E_w_SUPER_MAJORITY_PERMIT, S_w_SUPER_MAJORITY_PERMIT_EResolutionRule, E_w_SUPER_MAJORITY_PERMIT_EResolutionRule, S_w_STRONG_MAJORITY_PERMIT, E_w_STRONG_MAJORITY_PERMIT, S_w_STRONG_MAJORITY_PERMIT_EResolutionRule, E_w_STRONG_MAJORITY_PERMIT_EResolutionRule, F_m_eRule_w_CONTROLLER, F_m_eRule_w_FULL_CONSENSUS_PERMIT, F_ordinal_w_FULL_CONSENSUS_PERMIT_EResolutionRule, F_ordinal_w_WEIGHTED, F_m_eRule_w_OWNER_OVERRIDES, F_ordinal_w_OWNER_OVERRIDES_EResolutionRule, F_m_eRule_w_SOURCE, F_m_eRule_w_NO_THRESHOLD, F_m_eRule_w_MAJORITY_PERMIT, F_ordinal_w_MAJORITY_PERMIT_EResolutionRule, F_m_eRule_w_RESHARE_REFUSED, F_m_eRule_w_WEIGHTED_EReason, F_m_eRule_w_NOT_VIEWER, F_m_eRule_w_UNNAMED, F_m_eRule_w_SUPER_MAJORITY_PERMIT, F_ordinal_w_SUPER_MAJORITY_PERMIT_EResolutionRule, F_m_eRule_w_STRONG_MAJORITY_PERMIT, F_ordinal_w_STRONG_MAJORITY_PERMIT_EResolutionRule⟩ := hE_
  obtain ⟨T1, X1, e1, st1⟩ := getF X0 hx hZ hown (host := "") (Or.inl (hw _ (List.mem_of_getElem? (i := 13) rfl))) Via.refl e0 (F_m_eRule_w_SUPER_MAJORITY_PERMIT.ext O0.2) (g := (mkF m 1 #[.val (.ref w_SUPER_MAJORITY_PERMIT)] [(.ref w_SUPER_MAJORITY_PERMIT)])) rfl rfl (hb hby d2_1)
  obtain ⟨T2, X2, e2, st2⟩ := getF X1 hx hZ hown (host := "") (Or.inl (hw _ (List.mem_of_getElem? (i := 13) rfl))) Via.refl e1 (F_m_eRule_w_SUPER_MAJORITY_PERMIT.ext O0.2) (g := (mkF m 8 #[.val (.ref w_SUPER_MAJORITY_PERMIT)] [(.ref w_SUPER_MAJORITY_PERMIT)])) rfl rfl (hb hby d2_8)
  obtain ⟨T3, X3, e3, st3⟩ := getS2 X2 hx hZ hown (host := "") (Or.inl (hw _ (List.mem_of_getElem? (i := 19) rfl))) Via.refl e2 (S_w_WEIGHTED.ext O0.2) (g := (mkF m 11 #[.val (.ref w_SUPER_MAJORITY_PERMIT)] [(.ref w_SUPER_MAJORITY_PERMIT_EResolutionRule)])) rfl (hb hby d2_11)
  obtain ⟨fs, hr, hrun, hended, hW, hsame⟩ := X3.leave (v := some (.int (1 : Int32))) (fun h => by rw [Bd.returns] at h; cases h)
  refine ⟨_, _, pre0 _ ?_, hrun, hended, _, _, rfl, ?_, ⟨_, rfl⟩, hW, hsame.mono (by decide) (by decide)⟩
  · show Steps p.tables e below (s₁.setTop (mkF m 0 #[.val (.ref w_SUPER_MAJORITY_PERMIT)] [])) _
    refine XS.aloadN X0.here hx rfl (hb hby d2_0) rfl rfl ?_
    show Steps p.tables e below (s₁.setTop (mkF m 1 #[.val (.ref w_SUPER_MAJORITY_PERMIT)] [(.ref w_SUPER_MAJORITY_PERMIT)])) _
    refine st1 _ ?_
    show Steps p.tables e below (T1.setTop (mkF m 4 #[.val (.ref w_SUPER_MAJORITY_PERMIT)] [(.ref w_SUPER_MAJORITY_PERMIT_EResolutionRule)])) _
    refine XS.ifnullNo X1.here hx rfl (hb hby d2_4) rfl ?_
    show Steps p.tables e below (T1.setTop (mkF m 7 #[.val (.ref w_SUPER_MAJORITY_PERMIT)] [])) _
    refine XS.aloadN X1.here hx rfl (hb hby d2_7) rfl rfl ?_
    show Steps p.tables e below (T1.setTop (mkF m 8 #[.val (.ref w_SUPER_MAJORITY_PERMIT)] [(.ref w_SUPER_MAJORITY_PERMIT)])) _
    refine st2 _ ?_
    show Steps p.tables e below (T2.setTop (mkF m 11 #[.val (.ref w_SUPER_MAJORITY_PERMIT)] [(.ref w_SUPER_MAJORITY_PERMIT_EResolutionRule)])) _
    refine st3 _ ?_
    show Steps p.tables e below (T3.setTop (mkF m 14 #[.val (.ref w_SUPER_MAJORITY_PERMIT)] [(.ref w_WEIGHTED), (.ref w_SUPER_MAJORITY_PERMIT_EResolutionRule)])) _
    refine Jvm.RoadKit.acmp (g := (mkF m 14 #[.val (.ref w_SUPER_MAJORITY_PERMIT)] [(.ref w_WEIGHTED), (.ref w_SUPER_MAJORITY_PERMIT_EResolutionRule)])) X3 hx rfl rfl rfl (pc0 := 14) (pc' := 17) (same := false) rfl (hb hby d2_14) rfl (decide_eq_false fun q => (Ne.symm (Fld.ne F_ordinal_w_WEIGHTED F_ordinal_w_SUPER_MAJORITY_PERMIT_EResolutionRule (by decide))) (Value.ref.inj q)) (by decide) (by decide) ?_
    show Steps p.tables e below (T3.setTop (mkF m 17 #[.val (.ref w_SUPER_MAJORITY_PERMIT)] [])) _
    refine XS.iconst X3.here hx rfl (hb hby d2_17) ?_
    show Steps p.tables e below (T3.setTop (mkF m 18 #[.val (.ref w_SUPER_MAJORITY_PERMIT)] [(.int (1 : Int32))])) _
    refine XS.goto X3.here hx rfl (pc0 := 18) (pc' := 22) rfl (hb hby d2_18) (by decide) (by decide) ?_
    show Steps p.tables e below (T3.setTop (mkF m 22 #[.val (.ref w_SUPER_MAJORITY_PERMIT)] [(.int (1 : Int32))])) _
    exact retN X3 hx (t := .boolean) Bd.returns (by simp) (hb hby d2_22) hr
  · show Q_ic_SUPER_MAJORITY_PERMIT Z w_CONTROLLER w_FULL_CONSENSUS_PERMIT w_FULL_CONSENSUS_PERMIT_EResolutionRule w_WEIGHTED w_OWNER_OVERRIDES w_OWNER_OVERRIDES_EResolutionRule w_SOURCE w_NO_THRESHOLD w_MAJORITY_PERMIT w_MAJORITY_PERMIT_EResolutionRule w_RESHARE_REFUSED w_WEIGHTED_EReason w_NOT_VIEWER w_UNNAMED w_SUPER_MAJORITY_PERMIT w_SUPER_MAJORITY_PERMIT_EResolutionRule w_STRONG_MAJORITY_PERMIT w_STRONG_MAJORITY_PERMIT_EResolutionRule h0 n0 _ T3.heap _
    rw [e3]
    exact ⟨rfl, N0, rfl⟩
theorem ef_pick_7 (m : MethodId)  : entryFrame m #[(.int (7 : Int32))] 1 = mkF m 0 #[.val (.int (7 : Int32))] [] := by first | (simp [entryFrame, mkF, argsToLocals, Value.category]; done) | rfl
def Q_pick_7 (Z : State) (w_CONTROLLER w_FULL_CONSENSUS_PERMIT w_FULL_CONSENSUS_PERMIT_EResolutionRule w_WEIGHTED w_OWNER_OVERRIDES w_OWNER_OVERRIDES_EResolutionRule w_SOURCE w_NO_THRESHOLD w_MAJORITY_PERMIT w_MAJORITY_PERMIT_EResolutionRule w_RESHARE_REFUSED w_WEIGHTED_EReason w_NOT_VIEWER w_UNNAMED w_SUPER_MAJORITY_PERMIT w_SUPER_MAJORITY_PERMIT_EResolutionRule w_STRONG_MAJORITY_PERMIT w_STRONG_MAJORITY_PERMIT_EResolutionRule : Addr) (h0 : Heap) (n0 : Nat) (v : Option Value) (h : Heap) (L : List Loc) : Prop := v = some (.ref w_SOURCE) ∧ Fr n0 L ∧ h = h0
set_option maxRecDepth 65536 in
set_option maxHeartbeats 40000000 in
theorem pick_7 (l : Launch) (Z : State) (a0 : Array Value) (hw : ∀ d ∈ tables_1, d.before a0 Z = true) (ws : List Jvm.Cond) (w_CONTROLLER w_FULL_CONSENSUS_PERMIT w_FULL_CONSENSUS_PERMIT_EResolutionRule w_WEIGHTED w_OWNER_OVERRIDES w_OWNER_OVERRIDES_EResolutionRule w_SOURCE w_NO_THRESHOLD w_MAJORITY_PERMIT w_MAJORITY_PERMIT_EResolutionRule w_RESHARE_REFUSED w_WEIGHTED_EReason w_NOT_VIEWER w_UNNAMED w_SUPER_MAJORITY_PERMIT w_SUPER_MAJORITY_PERMIT_EResolutionRule w_STRONG_MAJORITY_PERMIT w_STRONG_MAJORITY_PERMIT_EResolutionRule : Addr) (h0 : Heap) (n0 : Nat) (O0 : Old Z n0 h0) (hE : OwnEnv Z w_CONTROLLER w_FULL_CONSENSUS_PERMIT w_FULL_CONSENSUS_PERMIT_EResolutionRule w_WEIGHTED w_OWNER_OVERRIDES w_OWNER_OVERRIDES_EResolutionRule w_SOURCE w_NO_THRESHOLD w_MAJORITY_PERMIT w_MAJORITY_PERMIT_EResolutionRule w_RESHARE_REFUSED w_WEIGHTED_EReason w_NOT_VIEWER w_UNNAMED w_SUPER_MAJORITY_PERMIT w_SUPER_MAJORITY_PERMIT_EResolutionRule w_STRONG_MAJORITY_PERMIT w_STRONG_MAJORITY_PERMIT_EResolutionRule) :
    MetFree l (⟨"com/example/kindred_consent/kindredconsent/engine/EReasonIsCountedPinLaw", "pick", "(I)Lcom/example/kindred_consent/kindredconsent/engine/EReason;"⟩ : MethodName) (head1 (Jvm.Cond.code (⟨"com/example/kindred_consent/kindredconsent/engine/EReasonIsCountedPinLaw", "pick", "(I)Lcom/example/kindred_consent/kindredconsent/engine/EReason;"⟩ : MethodName) method_2_code 1 (some (.object "com/example/kindred_consent/kindredconsent/engine/EReason")) :: ws) ({ frames := 0, cells := 0, slots := 0, locals := 0 } : Room)) (fun a U => a = #[(.int (7 : Int32))] ∧ Z.Warmed39 U.vm ∧ U.heap = h0) (fun _ _ _ _ _ => True) (fun _ U o U' => ∃ v L, o = .returned v ∧ Q_pick_7 Z w_CONTROLLER w_FULL_CONSENSUS_PERMIT w_FULL_CONSENSUS_PERMIT_EResolutionRule w_WEIGHTED w_OWNER_OVERRIDES w_OWNER_OVERRIDES_EResolutionRule w_SOURCE w_NO_THRESHOLD w_MAJORITY_PERMIT w_MAJORITY_PERMIT_EResolutionRule w_RESHARE_REFUSED w_WEIGHTED_EReason w_NOT_VIEWER w_UNNAMED w_SUPER_MAJORITY_PERMIT w_SUPER_MAJORITY_PERMIT_EResolutionRule w_STRONG_MAJORITY_PERMIT w_STRONG_MAJORITY_PERMIT_EResolutionRule h0 n0 v U'.heap L ∧ FrameEnd U o U' L ({ frames := 0, cells := 0, slots := 0, locals := 0 } : Room).cells ({ frames := 0, cells := 0, slots := 0, locals := 0 } : Room).slots) := by
  refine MetFree.of_bodySF (plainFor_of_name pn_com_example_kindred_consent_kindredconsent_engine_EReasonIsCountedPinLaw) hisR ?_
  intro p e s m args below meth c s₁ Bd hml0 hP hK
  obtain ⟨rfl, hZ, hh⟩ := hP
  have hx := Bd.exec
  have hby := Bd.bytes
  have hml : c.maxLocals = 1 := hml0
  have hown : s.vm.findClass "com/example/kindred_consent/kindredconsent/engine/EReasonIsCountedPinLaw" = some m.cls := findClass_of_methodNamed Bd.named
  have hnm := (name_of_methodNamed Bd.named Bd.method).1
  have X0 : Stand p l e ({ frames := 0, cells := 0, slots := 0, locals := 0 } : Room) s m #[(.int (7 : Int32))] below meth c s₁ [] 0 0 := Stand.of_body Bd
  have e0 : s₁.heap = h0 := by rw [← hh, Bd.state]; rfl
  have N0 := Fr.nil n0
  have pre0 : ∀ t, Steps p.tables e below (s₁.setTop (mkF m 0 #[.val (.int (7 : Int32))] [])) t → Steps p.tables e below (s₁.setTop (entryFrame m #[(.int (7 : Int32))] 1)) t := fun t k => castTop (ef_pick_7 m ) k
  have hE_ := hE; obtain ⟨S_w_CONTROLLER, E_w_CONTROLLER, S_w_FULL_CONSENSUS_PERMIT, E_w_FULL_CONSENSUS_PERMIT, S_w_FULL_CONSENSUS_PERMIT_EResolutionRule, E_w_FULL_CONSENSUS_PERMIT_EResolutionRule, S_w_WEIGHTED, E_w_WEIGHTED, S_w_OWNER_OVERRIDES, E_w_OWNER_OVERRIDES, S_w_OWNER_OVERRIDES_EResolutionRule, E_w_OWNER_OVERRIDES_EResolutionRule, S_w_SOURCE, E_w_SOURCE, S_w_NO_THRESHOLD, E_w_NO_THRESHOLD, S_w_MAJORITY_PERMIT, E_w_MAJORITY_PERMIT, S_w_MAJORITY_PERMIT_EResolutionRule, E_w_MAJORITY_PERMIT_EResolutionRule, S_w_RESHARE_REFUSED, E_w_RESHARE_REFUSED, S_w_WEIGHTED_EReason, E_w_WEIGHTED_EReason, S_w_NOT_VIEWER, E_w_NOT_VIEWER, S_w_UNNAMED, E_w_UNNAMED, S_w_SUPER_MAJORITY_PERMIT, E_w_SUPER_MAJORITY_PERMIT, S_w_SUPER_MAJORITY_PERMIT_EResolutionRule, E_w_SUPER_MAJORITY_PERMIT_EResolutionRule, S_w_STRONG_MAJORITY_PERMIT, E_w_STRONG_MAJORITY_PERMIT, S_w_STRONG_MAJORITY_PERMIT_EResolutionRule, E_w_STRONG_MAJORITY_PERMIT_EResolutionRule, F_m_eRule_w_CONTROLLER, F_m_eRule_w_FULL_CONSENSUS_PERMIT, F_ordinal_w_FULL_CONSENSUS_PERMIT_EResolutionRule, F_ordinal_w_WEIGHTED, F_m_eRule_w_OWNER_OVERRIDES, F_ordinal_w_OWNER_OVERRIDES_EResolutionRule, F_m_eRule_w_SOURCE, F_m_eRule_w_NO_THRESHOLD, F_m_eRule_w_MAJORITY_PERMIT, F_ordinal_w_MAJORITY_PERMIT_EResolutionRule, F_m_eRule_w_RESHARE_REFUSED, F_m_eRule_w_WEIGHTED_EReason, F_m_eRule_w_NOT_VIEWER, F_m_eRule_w_UNNAMED, F_m_eRule_w_SUPER_MAJORITY_PERMIT, F_ordinal_w_SUPER_MAJORITY_PERMIT_EResolutionRule, F_m_eRule_w_STRONG_MAJORITY_PERMIT, F_ordinal_w_STRONG_MAJORITY_PERMIT_EResolutionRule⟩ := hE_
  obtain ⟨T1, X1, e1, st1⟩ := getS2 X0 hx hZ hown (host := "") (Or.inl (hw _ (List.mem_of_getElem? (i := 24) rfl))) Via.refl e0 (S_w_SOURCE.ext O0.2) (g := (mkF m 69 #[.val (.int (7 : Int32))] [])) rfl (hb hby d1_69)
  obtain ⟨fs, hr, hrun, hended, hW, hsame⟩ := X1.leave (v := some (.ref w_SOURCE)) (fun h => by rw [Bd.returns] at h; cases h)
  refine ⟨_, _, pre0 _ ?_, hrun, hended, _, _, rfl, ?_, ⟨_, rfl⟩, hW, hsame.mono (by decide) (by decide)⟩
  · show Steps p.tables e below (s₁.setTop (mkF m 0 #[.val (.int (7 : Int32))] [])) _
    refine XS.iloadN X0.here hx rfl (hb hby d1_0) rfl ?_
    show Steps p.tables e below (s₁.setTop (mkF m 1 #[.val (.int (7 : Int32))] [(.int (7 : Int32))])) _
    refine XS.ifYes X0.here hx rfl (pc0 := 1) (pc' := 8) rfl (hb hby d1_1) rfl ((if0 _ _).trans (feq (by decide : ¬ ((7 : Int32) = (0 : Int32)))).2) (by decide) (by decide) ?_
    show Steps p.tables e below (s₁.setTop (mkF m 8 #[.val (.int (7 : Int32))] [])) _
    refine XS.iloadN X0.here hx rfl (hb hby d1_8) rfl ?_
    show Steps p.tables e below (s₁.setTop (mkF m 9 #[.val (.int (7 : Int32))] [(.int (7 : Int32))])) _
    refine XS.iconst X0.here hx rfl (hb hby d1_9) ?_
    show Steps p.tables e below (s₁.setTop (mkF m 10 #[.val (.int (7 : Int32))] [(.int (1 : Int32)), (.int (7 : Int32))])) _
    refine XS.icmpYes X0.here hx rfl (pc0 := 10) (pc' := 17) rfl (hb hby d1_10) rfl (feq (by decide : ¬ ((7 : Int32) = (1 : Int32)))).2 (by decide) (by decide) ?_
    show Steps p.tables e below (s₁.setTop (mkF m 17 #[.val (.int (7 : Int32))] [])) _
    refine XS.iloadN X0.here hx rfl (hb hby d1_17) rfl ?_
    show Steps p.tables e below (s₁.setTop (mkF m 18 #[.val (.int (7 : Int32))] [(.int (7 : Int32))])) _
    refine XS.iconst X0.here hx rfl (hb hby d1_18) ?_
    show Steps p.tables e below (s₁.setTop (mkF m 19 #[.val (.int (7 : Int32))] [(.int (2 : Int32)), (.int (7 : Int32))])) _
    refine XS.icmpYes X0.here hx rfl (pc0 := 19) (pc' := 26) rfl (hb hby d1_19) rfl (feq (by decide : ¬ ((7 : Int32) = (2 : Int32)))).2 (by decide) (by decide) ?_
    show Steps p.tables e below (s₁.setTop (mkF m 26 #[.val (.int (7 : Int32))] [])) _
    refine XS.iloadN X0.here hx rfl (hb hby d1_26) rfl ?_
    show Steps p.tables e below (s₁.setTop (mkF m 27 #[.val (.int (7 : Int32))] [(.int (7 : Int32))])) _
    refine XS.iconst X0.here hx rfl (hb hby d1_27) ?_
    show Steps p.tables e below (s₁.setTop (mkF m 28 #[.val (.int (7 : Int32))] [(.int (3 : Int32)), (.int (7 : Int32))])) _
    refine XS.icmpYes X0.here hx rfl (pc0 := 28) (pc' := 35) rfl (hb hby d1_28) rfl (feq (by decide : ¬ ((7 : Int32) = (3 : Int32)))).2 (by decide) (by decide) ?_
    show Steps p.tables e below (s₁.setTop (mkF m 35 #[.val (.int (7 : Int32))] [])) _
    refine XS.iloadN X0.here hx rfl (hb hby d1_35) rfl ?_
    show Steps p.tables e below (s₁.setTop (mkF m 36 #[.val (.int (7 : Int32))] [(.int (7 : Int32))])) _
    refine XS.iconst X0.here hx rfl (hb hby d1_36) ?_
    show Steps p.tables e below (s₁.setTop (mkF m 37 #[.val (.int (7 : Int32))] [(.int (4 : Int32)), (.int (7 : Int32))])) _
    refine XS.icmpYes X0.here hx rfl (pc0 := 37) (pc' := 44) rfl (hb hby d1_37) rfl (feq (by decide : ¬ ((7 : Int32) = (4 : Int32)))).2 (by decide) (by decide) ?_
    show Steps p.tables e below (s₁.setTop (mkF m 44 #[.val (.int (7 : Int32))] [])) _
    refine XS.iloadN X0.here hx rfl (hb hby d1_44) rfl ?_
    show Steps p.tables e below (s₁.setTop (mkF m 45 #[.val (.int (7 : Int32))] [(.int (7 : Int32))])) _
    refine XS.iconst X0.here hx rfl (hb hby d1_45) ?_
    show Steps p.tables e below (s₁.setTop (mkF m 46 #[.val (.int (7 : Int32))] [(.int (5 : Int32)), (.int (7 : Int32))])) _
    refine XS.icmpYes X0.here hx rfl (pc0 := 46) (pc' := 53) rfl (hb hby d1_46) rfl (feq (by decide : ¬ ((7 : Int32) = (5 : Int32)))).2 (by decide) (by decide) ?_
    show Steps p.tables e below (s₁.setTop (mkF m 53 #[.val (.int (7 : Int32))] [])) _
    refine XS.iloadN X0.here hx rfl (hb hby d1_53) rfl ?_
    show Steps p.tables e below (s₁.setTop (mkF m 54 #[.val (.int (7 : Int32))] [(.int (7 : Int32))])) _
    refine XS.bipush X0.here hx rfl (hb hby d1_54) ?_
    show Steps p.tables e below (s₁.setTop (mkF m 56 #[.val (.int (7 : Int32))] [(.int (6 : Int32)), (.int (7 : Int32))])) _
    refine XS.icmpYes X0.here hx rfl (pc0 := 56) (pc' := 63) rfl (hb hby d1_56) rfl (feq (by decide : ¬ ((7 : Int32) = (6 : Int32)))).2 (by decide) (by decide) ?_
    show Steps p.tables e below (s₁.setTop (mkF m 63 #[.val (.int (7 : Int32))] [])) _
    refine XS.iloadN X0.here hx rfl (hb hby d1_63) rfl ?_
    show Steps p.tables e below (s₁.setTop (mkF m 64 #[.val (.int (7 : Int32))] [(.int (7 : Int32))])) _
    refine XS.bipush X0.here hx rfl (hb hby d1_64) ?_
    show Steps p.tables e below (s₁.setTop (mkF m 66 #[.val (.int (7 : Int32))] [(.int (7 : Int32)), (.int (7 : Int32))])) _
    refine XS.icmpNo X0.here hx rfl (hb hby d1_66) rfl (teq (by decide : (7 : Int32) = (7 : Int32))).2 ?_
    show Steps p.tables e below (s₁.setTop (mkF m 69 #[.val (.int (7 : Int32))] [])) _
    refine st1 _ ?_
    show Steps p.tables e below (T1.setTop (mkF m 72 #[.val (.int (7 : Int32))] [(.ref w_SOURCE)])) _
    jvm_step X1.here [X1.here.top, hx, (hb hby d1_72), X1.method', Bd.returns, Value.isRef, FieldType.isReference]
    first | (intro acts; rw [hr _ acts rfl rfl rfl]) | rw [hr _ _ rfl rfl rfl]
    exact Steps.refl _
  · show Q_pick_7 Z w_CONTROLLER w_FULL_CONSENSUS_PERMIT w_FULL_CONSENSUS_PERMIT_EResolutionRule w_WEIGHTED w_OWNER_OVERRIDES w_OWNER_OVERRIDES_EResolutionRule w_SOURCE w_NO_THRESHOLD w_MAJORITY_PERMIT w_MAJORITY_PERMIT_EResolutionRule w_RESHARE_REFUSED w_WEIGHTED_EReason w_NOT_VIEWER w_UNNAMED w_SUPER_MAJORITY_PERMIT w_SUPER_MAJORITY_PERMIT_EResolutionRule w_STRONG_MAJORITY_PERMIT w_STRONG_MAJORITY_PERMIT_EResolutionRule h0 n0 _ T1.heap _
    rw [e1]
    exact ⟨rfl, N0, rfl⟩
theorem ef_ic_SOURCE (m : MethodId) (w_SOURCE : Addr) : entryFrame m #[(.ref w_SOURCE)] 1 = mkF m 0 #[.val (.ref w_SOURCE)] [] := by first | (simp [entryFrame, mkF, argsToLocals, Value.category]; done) | rfl
def Q_ic_SOURCE (Z : State) (w_CONTROLLER w_FULL_CONSENSUS_PERMIT w_FULL_CONSENSUS_PERMIT_EResolutionRule w_WEIGHTED w_OWNER_OVERRIDES w_OWNER_OVERRIDES_EResolutionRule w_SOURCE w_NO_THRESHOLD w_MAJORITY_PERMIT w_MAJORITY_PERMIT_EResolutionRule w_RESHARE_REFUSED w_WEIGHTED_EReason w_NOT_VIEWER w_UNNAMED w_SUPER_MAJORITY_PERMIT w_SUPER_MAJORITY_PERMIT_EResolutionRule w_STRONG_MAJORITY_PERMIT w_STRONG_MAJORITY_PERMIT_EResolutionRule : Addr) (h0 : Heap) (n0 : Nat) (v : Option Value) (h : Heap) (L : List Loc) : Prop := v = some (.int (0 : Int32)) ∧ Fr n0 L ∧ h = h0
set_option maxRecDepth 65536 in
set_option maxHeartbeats 40000000 in
theorem ic_SOURCE (l : Launch) (Z : State) (a0 : Array Value) (hw : ∀ d ∈ tables_1, d.before a0 Z = true) (ws : List Jvm.Cond) (w_CONTROLLER w_FULL_CONSENSUS_PERMIT w_FULL_CONSENSUS_PERMIT_EResolutionRule w_WEIGHTED w_OWNER_OVERRIDES w_OWNER_OVERRIDES_EResolutionRule w_SOURCE w_NO_THRESHOLD w_MAJORITY_PERMIT w_MAJORITY_PERMIT_EResolutionRule w_RESHARE_REFUSED w_WEIGHTED_EReason w_NOT_VIEWER w_UNNAMED w_SUPER_MAJORITY_PERMIT w_SUPER_MAJORITY_PERMIT_EResolutionRule w_STRONG_MAJORITY_PERMIT w_STRONG_MAJORITY_PERMIT_EResolutionRule : Addr) (h0 : Heap) (n0 : Nat) (O0 : Old Z n0 h0) (hE : OwnEnv Z w_CONTROLLER w_FULL_CONSENSUS_PERMIT w_FULL_CONSENSUS_PERMIT_EResolutionRule w_WEIGHTED w_OWNER_OVERRIDES w_OWNER_OVERRIDES_EResolutionRule w_SOURCE w_NO_THRESHOLD w_MAJORITY_PERMIT w_MAJORITY_PERMIT_EResolutionRule w_RESHARE_REFUSED w_WEIGHTED_EReason w_NOT_VIEWER w_UNNAMED w_SUPER_MAJORITY_PERMIT w_SUPER_MAJORITY_PERMIT_EResolutionRule w_STRONG_MAJORITY_PERMIT w_STRONG_MAJORITY_PERMIT_EResolutionRule) :
    MetFree l (⟨"com/example/kindred_consent/kindredconsent/engine/EReason", "isCounted", "()Z"⟩ : MethodName) (head1 (Jvm.Cond.code (⟨"com/example/kindred_consent/kindredconsent/engine/EReason", "isCounted", "()Z"⟩ : MethodName) prog_7_method_7_code 1 (some .boolean) :: ws) ({ frames := 0, cells := 0, slots := 0, locals := 0 } : Room)) (fun a U => a = #[(.ref w_SOURCE)] ∧ Z.Warmed39 U.vm ∧ U.heap = h0) (fun _ _ _ _ _ => True) (fun _ U o U' => ∃ v L, o = .returned v ∧ Q_ic_SOURCE Z w_CONTROLLER w_FULL_CONSENSUS_PERMIT w_FULL_CONSENSUS_PERMIT_EResolutionRule w_WEIGHTED w_OWNER_OVERRIDES w_OWNER_OVERRIDES_EResolutionRule w_SOURCE w_NO_THRESHOLD w_MAJORITY_PERMIT w_MAJORITY_PERMIT_EResolutionRule w_RESHARE_REFUSED w_WEIGHTED_EReason w_NOT_VIEWER w_UNNAMED w_SUPER_MAJORITY_PERMIT w_SUPER_MAJORITY_PERMIT_EResolutionRule w_STRONG_MAJORITY_PERMIT w_STRONG_MAJORITY_PERMIT_EResolutionRule h0 n0 v U'.heap L ∧ FrameEnd U o U' L ({ frames := 0, cells := 0, slots := 0, locals := 0 } : Room).cells ({ frames := 0, cells := 0, slots := 0, locals := 0 } : Room).slots) := by
  refine MetFree.of_bodySF (plainFor_of_name pn_com_example_kindred_consent_kindredconsent_engine_EReason) hisR ?_
  intro p e s m args below meth c s₁ Bd hml0 hP hK
  obtain ⟨rfl, hZ, hh⟩ := hP
  have hx := Bd.exec
  have hby := Bd.bytes
  have hml : c.maxLocals = 1 := hml0
  have hown : s.vm.findClass "com/example/kindred_consent/kindredconsent/engine/EReason" = some m.cls := findClass_of_methodNamed Bd.named
  have hnm := (name_of_methodNamed Bd.named Bd.method).1
  have X0 : Stand p l e ({ frames := 0, cells := 0, slots := 0, locals := 0 } : Room) s m #[(.ref w_SOURCE)] below meth c s₁ [] 0 0 := Stand.of_body Bd
  have e0 : s₁.heap = h0 := by rw [← hh, Bd.state]; rfl
  have N0 := Fr.nil n0
  have pre0 : ∀ t, Steps p.tables e below (s₁.setTop (mkF m 0 #[.val (.ref w_SOURCE)] [])) t → Steps p.tables e below (s₁.setTop (entryFrame m #[(.ref w_SOURCE)] 1)) t := fun t k => castTop (ef_ic_SOURCE m w_SOURCE) k
  have hE_ := hE; obtain ⟨S_w_CONTROLLER, E_w_CONTROLLER, S_w_FULL_CONSENSUS_PERMIT, E_w_FULL_CONSENSUS_PERMIT, S_w_FULL_CONSENSUS_PERMIT_EResolutionRule, E_w_FULL_CONSENSUS_PERMIT_EResolutionRule, S_w_WEIGHTED, E_w_WEIGHTED, S_w_OWNER_OVERRIDES, E_w_OWNER_OVERRIDES, S_w_OWNER_OVERRIDES_EResolutionRule, E_w_OWNER_OVERRIDES_EResolutionRule, S_w_SOURCE, E_w_SOURCE, S_w_NO_THRESHOLD, E_w_NO_THRESHOLD, S_w_MAJORITY_PERMIT, E_w_MAJORITY_PERMIT, S_w_MAJORITY_PERMIT_EResolutionRule, E_w_MAJORITY_PERMIT_EResolutionRule, S_w_RESHARE_REFUSED, E_w_RESHARE_REFUSED, S_w_WEIGHTED_EReason, E_w_WEIGHTED_EReason, S_w_NOT_VIEWER, E_w_NOT_VIEWER, S_w_UNNAMED, E_w_UNNAMED, S_w_SUPER_MAJORITY_PERMIT, E_w_SUPER_MAJORITY_PERMIT, S_w_SUPER_MAJORITY_PERMIT_EResolutionRule, E_w_SUPER_MAJORITY_PERMIT_EResolutionRule, S_w_STRONG_MAJORITY_PERMIT, E_w_STRONG_MAJORITY_PERMIT, S_w_STRONG_MAJORITY_PERMIT_EResolutionRule, E_w_STRONG_MAJORITY_PERMIT_EResolutionRule, F_m_eRule_w_CONTROLLER, F_m_eRule_w_FULL_CONSENSUS_PERMIT, F_ordinal_w_FULL_CONSENSUS_PERMIT_EResolutionRule, F_ordinal_w_WEIGHTED, F_m_eRule_w_OWNER_OVERRIDES, F_ordinal_w_OWNER_OVERRIDES_EResolutionRule, F_m_eRule_w_SOURCE, F_m_eRule_w_NO_THRESHOLD, F_m_eRule_w_MAJORITY_PERMIT, F_ordinal_w_MAJORITY_PERMIT_EResolutionRule, F_m_eRule_w_RESHARE_REFUSED, F_m_eRule_w_WEIGHTED_EReason, F_m_eRule_w_NOT_VIEWER, F_m_eRule_w_UNNAMED, F_m_eRule_w_SUPER_MAJORITY_PERMIT, F_ordinal_w_SUPER_MAJORITY_PERMIT_EResolutionRule, F_m_eRule_w_STRONG_MAJORITY_PERMIT, F_ordinal_w_STRONG_MAJORITY_PERMIT_EResolutionRule⟩ := hE_
  obtain ⟨T1, X1, e1, st1⟩ := getF X0 hx hZ hown (host := "") (Or.inl (hw _ (List.mem_of_getElem? (i := 13) rfl))) Via.refl e0 (F_m_eRule_w_SOURCE.ext O0.2) (g := (mkF m 1 #[.val (.ref w_SOURCE)] [(.ref w_SOURCE)])) rfl rfl (hb hby d2_1)
  obtain ⟨fs, hr, hrun, hended, hW, hsame⟩ := X1.leave (v := some (.int (0 : Int32))) (fun h => by rw [Bd.returns] at h; cases h)
  refine ⟨_, _, pre0 _ ?_, hrun, hended, _, _, rfl, ?_, ⟨_, rfl⟩, hW, hsame.mono (by decide) (by decide)⟩
  · show Steps p.tables e below (s₁.setTop (mkF m 0 #[.val (.ref w_SOURCE)] [])) _
    refine XS.aloadN X0.here hx rfl (hb hby d2_0) rfl rfl ?_
    show Steps p.tables e below (s₁.setTop (mkF m 1 #[.val (.ref w_SOURCE)] [(.ref w_SOURCE)])) _
    refine st1 _ ?_
    show Steps p.tables e below (T1.setTop (mkF m 4 #[.val (.ref w_SOURCE)] [.null])) _
    refine XS.ifnullYes X1.here hx rfl (pc0 := 4) (pc' := 21) rfl (hb hby d2_4) rfl (by decide) (by decide) ?_
    show Steps p.tables e below (T1.setTop (mkF m 21 #[.val (.ref w_SOURCE)] [])) _
    refine XS.iconst X1.here hx rfl (hb hby d2_21) ?_
    show Steps p.tables e below (T1.setTop (mkF m 22 #[.val (.ref w_SOURCE)] [(.int (0 : Int32))])) _
    exact retN X1 hx (t := .boolean) Bd.returns (by simp) (hb hby d2_22) hr
  · show Q_ic_SOURCE Z w_CONTROLLER w_FULL_CONSENSUS_PERMIT w_FULL_CONSENSUS_PERMIT_EResolutionRule w_WEIGHTED w_OWNER_OVERRIDES w_OWNER_OVERRIDES_EResolutionRule w_SOURCE w_NO_THRESHOLD w_MAJORITY_PERMIT w_MAJORITY_PERMIT_EResolutionRule w_RESHARE_REFUSED w_WEIGHTED_EReason w_NOT_VIEWER w_UNNAMED w_SUPER_MAJORITY_PERMIT w_SUPER_MAJORITY_PERMIT_EResolutionRule w_STRONG_MAJORITY_PERMIT w_STRONG_MAJORITY_PERMIT_EResolutionRule h0 n0 _ T1.heap _
    rw [e1]
    exact ⟨rfl, N0, rfl⟩
theorem ef_pick_8 (m : MethodId)  : entryFrame m #[(.int (8 : Int32))] 1 = mkF m 0 #[.val (.int (8 : Int32))] [] := by first | (simp [entryFrame, mkF, argsToLocals, Value.category]; done) | rfl
def Q_pick_8 (Z : State) (w_CONTROLLER w_FULL_CONSENSUS_PERMIT w_FULL_CONSENSUS_PERMIT_EResolutionRule w_WEIGHTED w_OWNER_OVERRIDES w_OWNER_OVERRIDES_EResolutionRule w_SOURCE w_NO_THRESHOLD w_MAJORITY_PERMIT w_MAJORITY_PERMIT_EResolutionRule w_RESHARE_REFUSED w_WEIGHTED_EReason w_NOT_VIEWER w_UNNAMED w_SUPER_MAJORITY_PERMIT w_SUPER_MAJORITY_PERMIT_EResolutionRule w_STRONG_MAJORITY_PERMIT w_STRONG_MAJORITY_PERMIT_EResolutionRule : Addr) (h0 : Heap) (n0 : Nat) (v : Option Value) (h : Heap) (L : List Loc) : Prop := v = some (.ref w_RESHARE_REFUSED) ∧ Fr n0 L ∧ h = h0
set_option maxRecDepth 65536 in
set_option maxHeartbeats 40000000 in
theorem pick_8 (l : Launch) (Z : State) (a0 : Array Value) (hw : ∀ d ∈ tables_1, d.before a0 Z = true) (ws : List Jvm.Cond) (w_CONTROLLER w_FULL_CONSENSUS_PERMIT w_FULL_CONSENSUS_PERMIT_EResolutionRule w_WEIGHTED w_OWNER_OVERRIDES w_OWNER_OVERRIDES_EResolutionRule w_SOURCE w_NO_THRESHOLD w_MAJORITY_PERMIT w_MAJORITY_PERMIT_EResolutionRule w_RESHARE_REFUSED w_WEIGHTED_EReason w_NOT_VIEWER w_UNNAMED w_SUPER_MAJORITY_PERMIT w_SUPER_MAJORITY_PERMIT_EResolutionRule w_STRONG_MAJORITY_PERMIT w_STRONG_MAJORITY_PERMIT_EResolutionRule : Addr) (h0 : Heap) (n0 : Nat) (O0 : Old Z n0 h0) (hE : OwnEnv Z w_CONTROLLER w_FULL_CONSENSUS_PERMIT w_FULL_CONSENSUS_PERMIT_EResolutionRule w_WEIGHTED w_OWNER_OVERRIDES w_OWNER_OVERRIDES_EResolutionRule w_SOURCE w_NO_THRESHOLD w_MAJORITY_PERMIT w_MAJORITY_PERMIT_EResolutionRule w_RESHARE_REFUSED w_WEIGHTED_EReason w_NOT_VIEWER w_UNNAMED w_SUPER_MAJORITY_PERMIT w_SUPER_MAJORITY_PERMIT_EResolutionRule w_STRONG_MAJORITY_PERMIT w_STRONG_MAJORITY_PERMIT_EResolutionRule) :
    MetFree l (⟨"com/example/kindred_consent/kindredconsent/engine/EReasonIsCountedPinLaw", "pick", "(I)Lcom/example/kindred_consent/kindredconsent/engine/EReason;"⟩ : MethodName) (head1 (Jvm.Cond.code (⟨"com/example/kindred_consent/kindredconsent/engine/EReasonIsCountedPinLaw", "pick", "(I)Lcom/example/kindred_consent/kindredconsent/engine/EReason;"⟩ : MethodName) method_2_code 1 (some (.object "com/example/kindred_consent/kindredconsent/engine/EReason")) :: ws) ({ frames := 0, cells := 0, slots := 0, locals := 0 } : Room)) (fun a U => a = #[(.int (8 : Int32))] ∧ Z.Warmed39 U.vm ∧ U.heap = h0) (fun _ _ _ _ _ => True) (fun _ U o U' => ∃ v L, o = .returned v ∧ Q_pick_8 Z w_CONTROLLER w_FULL_CONSENSUS_PERMIT w_FULL_CONSENSUS_PERMIT_EResolutionRule w_WEIGHTED w_OWNER_OVERRIDES w_OWNER_OVERRIDES_EResolutionRule w_SOURCE w_NO_THRESHOLD w_MAJORITY_PERMIT w_MAJORITY_PERMIT_EResolutionRule w_RESHARE_REFUSED w_WEIGHTED_EReason w_NOT_VIEWER w_UNNAMED w_SUPER_MAJORITY_PERMIT w_SUPER_MAJORITY_PERMIT_EResolutionRule w_STRONG_MAJORITY_PERMIT w_STRONG_MAJORITY_PERMIT_EResolutionRule h0 n0 v U'.heap L ∧ FrameEnd U o U' L ({ frames := 0, cells := 0, slots := 0, locals := 0 } : Room).cells ({ frames := 0, cells := 0, slots := 0, locals := 0 } : Room).slots) := by
  refine MetFree.of_bodySF (plainFor_of_name pn_com_example_kindred_consent_kindredconsent_engine_EReasonIsCountedPinLaw) hisR ?_
  intro p e s m args below meth c s₁ Bd hml0 hP hK
  obtain ⟨rfl, hZ, hh⟩ := hP
  have hx := Bd.exec
  have hby := Bd.bytes
  have hml : c.maxLocals = 1 := hml0
  have hown : s.vm.findClass "com/example/kindred_consent/kindredconsent/engine/EReasonIsCountedPinLaw" = some m.cls := findClass_of_methodNamed Bd.named
  have hnm := (name_of_methodNamed Bd.named Bd.method).1
  have X0 : Stand p l e ({ frames := 0, cells := 0, slots := 0, locals := 0 } : Room) s m #[(.int (8 : Int32))] below meth c s₁ [] 0 0 := Stand.of_body Bd
  have e0 : s₁.heap = h0 := by rw [← hh, Bd.state]; rfl
  have N0 := Fr.nil n0
  have pre0 : ∀ t, Steps p.tables e below (s₁.setTop (mkF m 0 #[.val (.int (8 : Int32))] [])) t → Steps p.tables e below (s₁.setTop (entryFrame m #[(.int (8 : Int32))] 1)) t := fun t k => castTop (ef_pick_8 m ) k
  have hE_ := hE; obtain ⟨S_w_CONTROLLER, E_w_CONTROLLER, S_w_FULL_CONSENSUS_PERMIT, E_w_FULL_CONSENSUS_PERMIT, S_w_FULL_CONSENSUS_PERMIT_EResolutionRule, E_w_FULL_CONSENSUS_PERMIT_EResolutionRule, S_w_WEIGHTED, E_w_WEIGHTED, S_w_OWNER_OVERRIDES, E_w_OWNER_OVERRIDES, S_w_OWNER_OVERRIDES_EResolutionRule, E_w_OWNER_OVERRIDES_EResolutionRule, S_w_SOURCE, E_w_SOURCE, S_w_NO_THRESHOLD, E_w_NO_THRESHOLD, S_w_MAJORITY_PERMIT, E_w_MAJORITY_PERMIT, S_w_MAJORITY_PERMIT_EResolutionRule, E_w_MAJORITY_PERMIT_EResolutionRule, S_w_RESHARE_REFUSED, E_w_RESHARE_REFUSED, S_w_WEIGHTED_EReason, E_w_WEIGHTED_EReason, S_w_NOT_VIEWER, E_w_NOT_VIEWER, S_w_UNNAMED, E_w_UNNAMED, S_w_SUPER_MAJORITY_PERMIT, E_w_SUPER_MAJORITY_PERMIT, S_w_SUPER_MAJORITY_PERMIT_EResolutionRule, E_w_SUPER_MAJORITY_PERMIT_EResolutionRule, S_w_STRONG_MAJORITY_PERMIT, E_w_STRONG_MAJORITY_PERMIT, S_w_STRONG_MAJORITY_PERMIT_EResolutionRule, E_w_STRONG_MAJORITY_PERMIT_EResolutionRule, F_m_eRule_w_CONTROLLER, F_m_eRule_w_FULL_CONSENSUS_PERMIT, F_ordinal_w_FULL_CONSENSUS_PERMIT_EResolutionRule, F_ordinal_w_WEIGHTED, F_m_eRule_w_OWNER_OVERRIDES, F_ordinal_w_OWNER_OVERRIDES_EResolutionRule, F_m_eRule_w_SOURCE, F_m_eRule_w_NO_THRESHOLD, F_m_eRule_w_MAJORITY_PERMIT, F_ordinal_w_MAJORITY_PERMIT_EResolutionRule, F_m_eRule_w_RESHARE_REFUSED, F_m_eRule_w_WEIGHTED_EReason, F_m_eRule_w_NOT_VIEWER, F_m_eRule_w_UNNAMED, F_m_eRule_w_SUPER_MAJORITY_PERMIT, F_ordinal_w_SUPER_MAJORITY_PERMIT_EResolutionRule, F_m_eRule_w_STRONG_MAJORITY_PERMIT, F_ordinal_w_STRONG_MAJORITY_PERMIT_EResolutionRule⟩ := hE_
  obtain ⟨T1, X1, e1, st1⟩ := getS2 X0 hx hZ hown (host := "") (Or.inl (hw _ (List.mem_of_getElem? (i := 31) rfl))) Via.refl e0 (S_w_RESHARE_REFUSED.ext O0.2) (g := (mkF m 79 #[.val (.int (8 : Int32))] [])) rfl (hb hby d1_79)
  obtain ⟨fs, hr, hrun, hended, hW, hsame⟩ := X1.leave (v := some (.ref w_RESHARE_REFUSED)) (fun h => by rw [Bd.returns] at h; cases h)
  refine ⟨_, _, pre0 _ ?_, hrun, hended, _, _, rfl, ?_, ⟨_, rfl⟩, hW, hsame.mono (by decide) (by decide)⟩
  · show Steps p.tables e below (s₁.setTop (mkF m 0 #[.val (.int (8 : Int32))] [])) _
    refine XS.iloadN X0.here hx rfl (hb hby d1_0) rfl ?_
    show Steps p.tables e below (s₁.setTop (mkF m 1 #[.val (.int (8 : Int32))] [(.int (8 : Int32))])) _
    refine XS.ifYes X0.here hx rfl (pc0 := 1) (pc' := 8) rfl (hb hby d1_1) rfl ((if0 _ _).trans (feq (by decide : ¬ ((8 : Int32) = (0 : Int32)))).2) (by decide) (by decide) ?_
    show Steps p.tables e below (s₁.setTop (mkF m 8 #[.val (.int (8 : Int32))] [])) _
    refine XS.iloadN X0.here hx rfl (hb hby d1_8) rfl ?_
    show Steps p.tables e below (s₁.setTop (mkF m 9 #[.val (.int (8 : Int32))] [(.int (8 : Int32))])) _
    refine XS.iconst X0.here hx rfl (hb hby d1_9) ?_
    show Steps p.tables e below (s₁.setTop (mkF m 10 #[.val (.int (8 : Int32))] [(.int (1 : Int32)), (.int (8 : Int32))])) _
    refine XS.icmpYes X0.here hx rfl (pc0 := 10) (pc' := 17) rfl (hb hby d1_10) rfl (feq (by decide : ¬ ((8 : Int32) = (1 : Int32)))).2 (by decide) (by decide) ?_
    show Steps p.tables e below (s₁.setTop (mkF m 17 #[.val (.int (8 : Int32))] [])) _
    refine XS.iloadN X0.here hx rfl (hb hby d1_17) rfl ?_
    show Steps p.tables e below (s₁.setTop (mkF m 18 #[.val (.int (8 : Int32))] [(.int (8 : Int32))])) _
    refine XS.iconst X0.here hx rfl (hb hby d1_18) ?_
    show Steps p.tables e below (s₁.setTop (mkF m 19 #[.val (.int (8 : Int32))] [(.int (2 : Int32)), (.int (8 : Int32))])) _
    refine XS.icmpYes X0.here hx rfl (pc0 := 19) (pc' := 26) rfl (hb hby d1_19) rfl (feq (by decide : ¬ ((8 : Int32) = (2 : Int32)))).2 (by decide) (by decide) ?_
    show Steps p.tables e below (s₁.setTop (mkF m 26 #[.val (.int (8 : Int32))] [])) _
    refine XS.iloadN X0.here hx rfl (hb hby d1_26) rfl ?_
    show Steps p.tables e below (s₁.setTop (mkF m 27 #[.val (.int (8 : Int32))] [(.int (8 : Int32))])) _
    refine XS.iconst X0.here hx rfl (hb hby d1_27) ?_
    show Steps p.tables e below (s₁.setTop (mkF m 28 #[.val (.int (8 : Int32))] [(.int (3 : Int32)), (.int (8 : Int32))])) _
    refine XS.icmpYes X0.here hx rfl (pc0 := 28) (pc' := 35) rfl (hb hby d1_28) rfl (feq (by decide : ¬ ((8 : Int32) = (3 : Int32)))).2 (by decide) (by decide) ?_
    show Steps p.tables e below (s₁.setTop (mkF m 35 #[.val (.int (8 : Int32))] [])) _
    refine XS.iloadN X0.here hx rfl (hb hby d1_35) rfl ?_
    show Steps p.tables e below (s₁.setTop (mkF m 36 #[.val (.int (8 : Int32))] [(.int (8 : Int32))])) _
    refine XS.iconst X0.here hx rfl (hb hby d1_36) ?_
    show Steps p.tables e below (s₁.setTop (mkF m 37 #[.val (.int (8 : Int32))] [(.int (4 : Int32)), (.int (8 : Int32))])) _
    refine XS.icmpYes X0.here hx rfl (pc0 := 37) (pc' := 44) rfl (hb hby d1_37) rfl (feq (by decide : ¬ ((8 : Int32) = (4 : Int32)))).2 (by decide) (by decide) ?_
    show Steps p.tables e below (s₁.setTop (mkF m 44 #[.val (.int (8 : Int32))] [])) _
    refine XS.iloadN X0.here hx rfl (hb hby d1_44) rfl ?_
    show Steps p.tables e below (s₁.setTop (mkF m 45 #[.val (.int (8 : Int32))] [(.int (8 : Int32))])) _
    refine XS.iconst X0.here hx rfl (hb hby d1_45) ?_
    show Steps p.tables e below (s₁.setTop (mkF m 46 #[.val (.int (8 : Int32))] [(.int (5 : Int32)), (.int (8 : Int32))])) _
    refine XS.icmpYes X0.here hx rfl (pc0 := 46) (pc' := 53) rfl (hb hby d1_46) rfl (feq (by decide : ¬ ((8 : Int32) = (5 : Int32)))).2 (by decide) (by decide) ?_
    show Steps p.tables e below (s₁.setTop (mkF m 53 #[.val (.int (8 : Int32))] [])) _
    refine XS.iloadN X0.here hx rfl (hb hby d1_53) rfl ?_
    show Steps p.tables e below (s₁.setTop (mkF m 54 #[.val (.int (8 : Int32))] [(.int (8 : Int32))])) _
    refine XS.bipush X0.here hx rfl (hb hby d1_54) ?_
    show Steps p.tables e below (s₁.setTop (mkF m 56 #[.val (.int (8 : Int32))] [(.int (6 : Int32)), (.int (8 : Int32))])) _
    refine XS.icmpYes X0.here hx rfl (pc0 := 56) (pc' := 63) rfl (hb hby d1_56) rfl (feq (by decide : ¬ ((8 : Int32) = (6 : Int32)))).2 (by decide) (by decide) ?_
    show Steps p.tables e below (s₁.setTop (mkF m 63 #[.val (.int (8 : Int32))] [])) _
    refine XS.iloadN X0.here hx rfl (hb hby d1_63) rfl ?_
    show Steps p.tables e below (s₁.setTop (mkF m 64 #[.val (.int (8 : Int32))] [(.int (8 : Int32))])) _
    refine XS.bipush X0.here hx rfl (hb hby d1_64) ?_
    show Steps p.tables e below (s₁.setTop (mkF m 66 #[.val (.int (8 : Int32))] [(.int (7 : Int32)), (.int (8 : Int32))])) _
    refine XS.icmpYes X0.here hx rfl (pc0 := 66) (pc' := 73) rfl (hb hby d1_66) rfl (feq (by decide : ¬ ((8 : Int32) = (7 : Int32)))).2 (by decide) (by decide) ?_
    show Steps p.tables e below (s₁.setTop (mkF m 73 #[.val (.int (8 : Int32))] [])) _
    refine XS.iloadN X0.here hx rfl (hb hby d1_73) rfl ?_
    show Steps p.tables e below (s₁.setTop (mkF m 74 #[.val (.int (8 : Int32))] [(.int (8 : Int32))])) _
    refine XS.bipush X0.here hx rfl (hb hby d1_74) ?_
    show Steps p.tables e below (s₁.setTop (mkF m 76 #[.val (.int (8 : Int32))] [(.int (8 : Int32)), (.int (8 : Int32))])) _
    refine XS.icmpNo X0.here hx rfl (hb hby d1_76) rfl (teq (by decide : (8 : Int32) = (8 : Int32))).2 ?_
    show Steps p.tables e below (s₁.setTop (mkF m 79 #[.val (.int (8 : Int32))] [])) _
    refine st1 _ ?_
    show Steps p.tables e below (T1.setTop (mkF m 82 #[.val (.int (8 : Int32))] [(.ref w_RESHARE_REFUSED)])) _
    jvm_step X1.here [X1.here.top, hx, (hb hby d1_82), X1.method', Bd.returns, Value.isRef, FieldType.isReference]
    first | (intro acts; rw [hr _ acts rfl rfl rfl]) | rw [hr _ _ rfl rfl rfl]
    exact Steps.refl _
  · show Q_pick_8 Z w_CONTROLLER w_FULL_CONSENSUS_PERMIT w_FULL_CONSENSUS_PERMIT_EResolutionRule w_WEIGHTED w_OWNER_OVERRIDES w_OWNER_OVERRIDES_EResolutionRule w_SOURCE w_NO_THRESHOLD w_MAJORITY_PERMIT w_MAJORITY_PERMIT_EResolutionRule w_RESHARE_REFUSED w_WEIGHTED_EReason w_NOT_VIEWER w_UNNAMED w_SUPER_MAJORITY_PERMIT w_SUPER_MAJORITY_PERMIT_EResolutionRule w_STRONG_MAJORITY_PERMIT w_STRONG_MAJORITY_PERMIT_EResolutionRule h0 n0 _ T1.heap _
    rw [e1]
    exact ⟨rfl, N0, rfl⟩
theorem ef_ic_RESHARE_REFUSED (m : MethodId) (w_RESHARE_REFUSED : Addr) : entryFrame m #[(.ref w_RESHARE_REFUSED)] 1 = mkF m 0 #[.val (.ref w_RESHARE_REFUSED)] [] := by first | (simp [entryFrame, mkF, argsToLocals, Value.category]; done) | rfl
def Q_ic_RESHARE_REFUSED (Z : State) (w_CONTROLLER w_FULL_CONSENSUS_PERMIT w_FULL_CONSENSUS_PERMIT_EResolutionRule w_WEIGHTED w_OWNER_OVERRIDES w_OWNER_OVERRIDES_EResolutionRule w_SOURCE w_NO_THRESHOLD w_MAJORITY_PERMIT w_MAJORITY_PERMIT_EResolutionRule w_RESHARE_REFUSED w_WEIGHTED_EReason w_NOT_VIEWER w_UNNAMED w_SUPER_MAJORITY_PERMIT w_SUPER_MAJORITY_PERMIT_EResolutionRule w_STRONG_MAJORITY_PERMIT w_STRONG_MAJORITY_PERMIT_EResolutionRule : Addr) (h0 : Heap) (n0 : Nat) (v : Option Value) (h : Heap) (L : List Loc) : Prop := v = some (.int (0 : Int32)) ∧ Fr n0 L ∧ h = h0
set_option maxRecDepth 65536 in
set_option maxHeartbeats 40000000 in
theorem ic_RESHARE_REFUSED (l : Launch) (Z : State) (a0 : Array Value) (hw : ∀ d ∈ tables_1, d.before a0 Z = true) (ws : List Jvm.Cond) (w_CONTROLLER w_FULL_CONSENSUS_PERMIT w_FULL_CONSENSUS_PERMIT_EResolutionRule w_WEIGHTED w_OWNER_OVERRIDES w_OWNER_OVERRIDES_EResolutionRule w_SOURCE w_NO_THRESHOLD w_MAJORITY_PERMIT w_MAJORITY_PERMIT_EResolutionRule w_RESHARE_REFUSED w_WEIGHTED_EReason w_NOT_VIEWER w_UNNAMED w_SUPER_MAJORITY_PERMIT w_SUPER_MAJORITY_PERMIT_EResolutionRule w_STRONG_MAJORITY_PERMIT w_STRONG_MAJORITY_PERMIT_EResolutionRule : Addr) (h0 : Heap) (n0 : Nat) (O0 : Old Z n0 h0) (hE : OwnEnv Z w_CONTROLLER w_FULL_CONSENSUS_PERMIT w_FULL_CONSENSUS_PERMIT_EResolutionRule w_WEIGHTED w_OWNER_OVERRIDES w_OWNER_OVERRIDES_EResolutionRule w_SOURCE w_NO_THRESHOLD w_MAJORITY_PERMIT w_MAJORITY_PERMIT_EResolutionRule w_RESHARE_REFUSED w_WEIGHTED_EReason w_NOT_VIEWER w_UNNAMED w_SUPER_MAJORITY_PERMIT w_SUPER_MAJORITY_PERMIT_EResolutionRule w_STRONG_MAJORITY_PERMIT w_STRONG_MAJORITY_PERMIT_EResolutionRule) :
    MetFree l (⟨"com/example/kindred_consent/kindredconsent/engine/EReason", "isCounted", "()Z"⟩ : MethodName) (head1 (Jvm.Cond.code (⟨"com/example/kindred_consent/kindredconsent/engine/EReason", "isCounted", "()Z"⟩ : MethodName) prog_7_method_7_code 1 (some .boolean) :: ws) ({ frames := 0, cells := 0, slots := 0, locals := 0 } : Room)) (fun a U => a = #[(.ref w_RESHARE_REFUSED)] ∧ Z.Warmed39 U.vm ∧ U.heap = h0) (fun _ _ _ _ _ => True) (fun _ U o U' => ∃ v L, o = .returned v ∧ Q_ic_RESHARE_REFUSED Z w_CONTROLLER w_FULL_CONSENSUS_PERMIT w_FULL_CONSENSUS_PERMIT_EResolutionRule w_WEIGHTED w_OWNER_OVERRIDES w_OWNER_OVERRIDES_EResolutionRule w_SOURCE w_NO_THRESHOLD w_MAJORITY_PERMIT w_MAJORITY_PERMIT_EResolutionRule w_RESHARE_REFUSED w_WEIGHTED_EReason w_NOT_VIEWER w_UNNAMED w_SUPER_MAJORITY_PERMIT w_SUPER_MAJORITY_PERMIT_EResolutionRule w_STRONG_MAJORITY_PERMIT w_STRONG_MAJORITY_PERMIT_EResolutionRule h0 n0 v U'.heap L ∧ FrameEnd U o U' L ({ frames := 0, cells := 0, slots := 0, locals := 0 } : Room).cells ({ frames := 0, cells := 0, slots := 0, locals := 0 } : Room).slots) := by
  refine MetFree.of_bodySF (plainFor_of_name pn_com_example_kindred_consent_kindredconsent_engine_EReason) hisR ?_
  intro p e s m args below meth c s₁ Bd hml0 hP hK
  obtain ⟨rfl, hZ, hh⟩ := hP
  have hx := Bd.exec
  have hby := Bd.bytes
  have hml : c.maxLocals = 1 := hml0
  have hown : s.vm.findClass "com/example/kindred_consent/kindredconsent/engine/EReason" = some m.cls := findClass_of_methodNamed Bd.named
  have hnm := (name_of_methodNamed Bd.named Bd.method).1
  have X0 : Stand p l e ({ frames := 0, cells := 0, slots := 0, locals := 0 } : Room) s m #[(.ref w_RESHARE_REFUSED)] below meth c s₁ [] 0 0 := Stand.of_body Bd
  have e0 : s₁.heap = h0 := by rw [← hh, Bd.state]; rfl
  have N0 := Fr.nil n0
  have pre0 : ∀ t, Steps p.tables e below (s₁.setTop (mkF m 0 #[.val (.ref w_RESHARE_REFUSED)] [])) t → Steps p.tables e below (s₁.setTop (entryFrame m #[(.ref w_RESHARE_REFUSED)] 1)) t := fun t k => castTop (ef_ic_RESHARE_REFUSED m w_RESHARE_REFUSED) k
  have hE_ := hE; obtain ⟨S_w_CONTROLLER, E_w_CONTROLLER, S_w_FULL_CONSENSUS_PERMIT, E_w_FULL_CONSENSUS_PERMIT, S_w_FULL_CONSENSUS_PERMIT_EResolutionRule, E_w_FULL_CONSENSUS_PERMIT_EResolutionRule, S_w_WEIGHTED, E_w_WEIGHTED, S_w_OWNER_OVERRIDES, E_w_OWNER_OVERRIDES, S_w_OWNER_OVERRIDES_EResolutionRule, E_w_OWNER_OVERRIDES_EResolutionRule, S_w_SOURCE, E_w_SOURCE, S_w_NO_THRESHOLD, E_w_NO_THRESHOLD, S_w_MAJORITY_PERMIT, E_w_MAJORITY_PERMIT, S_w_MAJORITY_PERMIT_EResolutionRule, E_w_MAJORITY_PERMIT_EResolutionRule, S_w_RESHARE_REFUSED, E_w_RESHARE_REFUSED, S_w_WEIGHTED_EReason, E_w_WEIGHTED_EReason, S_w_NOT_VIEWER, E_w_NOT_VIEWER, S_w_UNNAMED, E_w_UNNAMED, S_w_SUPER_MAJORITY_PERMIT, E_w_SUPER_MAJORITY_PERMIT, S_w_SUPER_MAJORITY_PERMIT_EResolutionRule, E_w_SUPER_MAJORITY_PERMIT_EResolutionRule, S_w_STRONG_MAJORITY_PERMIT, E_w_STRONG_MAJORITY_PERMIT, S_w_STRONG_MAJORITY_PERMIT_EResolutionRule, E_w_STRONG_MAJORITY_PERMIT_EResolutionRule, F_m_eRule_w_CONTROLLER, F_m_eRule_w_FULL_CONSENSUS_PERMIT, F_ordinal_w_FULL_CONSENSUS_PERMIT_EResolutionRule, F_ordinal_w_WEIGHTED, F_m_eRule_w_OWNER_OVERRIDES, F_ordinal_w_OWNER_OVERRIDES_EResolutionRule, F_m_eRule_w_SOURCE, F_m_eRule_w_NO_THRESHOLD, F_m_eRule_w_MAJORITY_PERMIT, F_ordinal_w_MAJORITY_PERMIT_EResolutionRule, F_m_eRule_w_RESHARE_REFUSED, F_m_eRule_w_WEIGHTED_EReason, F_m_eRule_w_NOT_VIEWER, F_m_eRule_w_UNNAMED, F_m_eRule_w_SUPER_MAJORITY_PERMIT, F_ordinal_w_SUPER_MAJORITY_PERMIT_EResolutionRule, F_m_eRule_w_STRONG_MAJORITY_PERMIT, F_ordinal_w_STRONG_MAJORITY_PERMIT_EResolutionRule⟩ := hE_
  obtain ⟨T1, X1, e1, st1⟩ := getF X0 hx hZ hown (host := "") (Or.inl (hw _ (List.mem_of_getElem? (i := 13) rfl))) Via.refl e0 (F_m_eRule_w_RESHARE_REFUSED.ext O0.2) (g := (mkF m 1 #[.val (.ref w_RESHARE_REFUSED)] [(.ref w_RESHARE_REFUSED)])) rfl rfl (hb hby d2_1)
  obtain ⟨fs, hr, hrun, hended, hW, hsame⟩ := X1.leave (v := some (.int (0 : Int32))) (fun h => by rw [Bd.returns] at h; cases h)
  refine ⟨_, _, pre0 _ ?_, hrun, hended, _, _, rfl, ?_, ⟨_, rfl⟩, hW, hsame.mono (by decide) (by decide)⟩
  · show Steps p.tables e below (s₁.setTop (mkF m 0 #[.val (.ref w_RESHARE_REFUSED)] [])) _
    refine XS.aloadN X0.here hx rfl (hb hby d2_0) rfl rfl ?_
    show Steps p.tables e below (s₁.setTop (mkF m 1 #[.val (.ref w_RESHARE_REFUSED)] [(.ref w_RESHARE_REFUSED)])) _
    refine st1 _ ?_
    show Steps p.tables e below (T1.setTop (mkF m 4 #[.val (.ref w_RESHARE_REFUSED)] [.null])) _
    refine XS.ifnullYes X1.here hx rfl (pc0 := 4) (pc' := 21) rfl (hb hby d2_4) rfl (by decide) (by decide) ?_
    show Steps p.tables e below (T1.setTop (mkF m 21 #[.val (.ref w_RESHARE_REFUSED)] [])) _
    refine XS.iconst X1.here hx rfl (hb hby d2_21) ?_
    show Steps p.tables e below (T1.setTop (mkF m 22 #[.val (.ref w_RESHARE_REFUSED)] [(.int (0 : Int32))])) _
    exact retN X1 hx (t := .boolean) Bd.returns (by simp) (hb hby d2_22) hr
  · show Q_ic_RESHARE_REFUSED Z w_CONTROLLER w_FULL_CONSENSUS_PERMIT w_FULL_CONSENSUS_PERMIT_EResolutionRule w_WEIGHTED w_OWNER_OVERRIDES w_OWNER_OVERRIDES_EResolutionRule w_SOURCE w_NO_THRESHOLD w_MAJORITY_PERMIT w_MAJORITY_PERMIT_EResolutionRule w_RESHARE_REFUSED w_WEIGHTED_EReason w_NOT_VIEWER w_UNNAMED w_SUPER_MAJORITY_PERMIT w_SUPER_MAJORITY_PERMIT_EResolutionRule w_STRONG_MAJORITY_PERMIT w_STRONG_MAJORITY_PERMIT_EResolutionRule h0 n0 _ T1.heap _
    rw [e1]
    exact ⟨rfl, N0, rfl⟩
theorem ef_pick_9 (m : MethodId)  : entryFrame m #[(.int (9 : Int32))] 1 = mkF m 0 #[.val (.int (9 : Int32))] [] := by first | (simp [entryFrame, mkF, argsToLocals, Value.category]; done) | rfl
def Q_pick_9 (Z : State) (w_CONTROLLER w_FULL_CONSENSUS_PERMIT w_FULL_CONSENSUS_PERMIT_EResolutionRule w_WEIGHTED w_OWNER_OVERRIDES w_OWNER_OVERRIDES_EResolutionRule w_SOURCE w_NO_THRESHOLD w_MAJORITY_PERMIT w_MAJORITY_PERMIT_EResolutionRule w_RESHARE_REFUSED w_WEIGHTED_EReason w_NOT_VIEWER w_UNNAMED w_SUPER_MAJORITY_PERMIT w_SUPER_MAJORITY_PERMIT_EResolutionRule w_STRONG_MAJORITY_PERMIT w_STRONG_MAJORITY_PERMIT_EResolutionRule : Addr) (h0 : Heap) (n0 : Nat) (v : Option Value) (h : Heap) (L : List Loc) : Prop := v = some (.ref w_UNNAMED) ∧ Fr n0 L ∧ h = h0
set_option maxRecDepth 65536 in
set_option maxHeartbeats 40000000 in
theorem pick_9 (l : Launch) (Z : State) (a0 : Array Value) (hw : ∀ d ∈ tables_1, d.before a0 Z = true) (ws : List Jvm.Cond) (w_CONTROLLER w_FULL_CONSENSUS_PERMIT w_FULL_CONSENSUS_PERMIT_EResolutionRule w_WEIGHTED w_OWNER_OVERRIDES w_OWNER_OVERRIDES_EResolutionRule w_SOURCE w_NO_THRESHOLD w_MAJORITY_PERMIT w_MAJORITY_PERMIT_EResolutionRule w_RESHARE_REFUSED w_WEIGHTED_EReason w_NOT_VIEWER w_UNNAMED w_SUPER_MAJORITY_PERMIT w_SUPER_MAJORITY_PERMIT_EResolutionRule w_STRONG_MAJORITY_PERMIT w_STRONG_MAJORITY_PERMIT_EResolutionRule : Addr) (h0 : Heap) (n0 : Nat) (O0 : Old Z n0 h0) (hE : OwnEnv Z w_CONTROLLER w_FULL_CONSENSUS_PERMIT w_FULL_CONSENSUS_PERMIT_EResolutionRule w_WEIGHTED w_OWNER_OVERRIDES w_OWNER_OVERRIDES_EResolutionRule w_SOURCE w_NO_THRESHOLD w_MAJORITY_PERMIT w_MAJORITY_PERMIT_EResolutionRule w_RESHARE_REFUSED w_WEIGHTED_EReason w_NOT_VIEWER w_UNNAMED w_SUPER_MAJORITY_PERMIT w_SUPER_MAJORITY_PERMIT_EResolutionRule w_STRONG_MAJORITY_PERMIT w_STRONG_MAJORITY_PERMIT_EResolutionRule) :
    MetFree l (⟨"com/example/kindred_consent/kindredconsent/engine/EReasonIsCountedPinLaw", "pick", "(I)Lcom/example/kindred_consent/kindredconsent/engine/EReason;"⟩ : MethodName) (head1 (Jvm.Cond.code (⟨"com/example/kindred_consent/kindredconsent/engine/EReasonIsCountedPinLaw", "pick", "(I)Lcom/example/kindred_consent/kindredconsent/engine/EReason;"⟩ : MethodName) method_2_code 1 (some (.object "com/example/kindred_consent/kindredconsent/engine/EReason")) :: ws) ({ frames := 0, cells := 0, slots := 0, locals := 0 } : Room)) (fun a U => a = #[(.int (9 : Int32))] ∧ Z.Warmed39 U.vm ∧ U.heap = h0) (fun _ _ _ _ _ => True) (fun _ U o U' => ∃ v L, o = .returned v ∧ Q_pick_9 Z w_CONTROLLER w_FULL_CONSENSUS_PERMIT w_FULL_CONSENSUS_PERMIT_EResolutionRule w_WEIGHTED w_OWNER_OVERRIDES w_OWNER_OVERRIDES_EResolutionRule w_SOURCE w_NO_THRESHOLD w_MAJORITY_PERMIT w_MAJORITY_PERMIT_EResolutionRule w_RESHARE_REFUSED w_WEIGHTED_EReason w_NOT_VIEWER w_UNNAMED w_SUPER_MAJORITY_PERMIT w_SUPER_MAJORITY_PERMIT_EResolutionRule w_STRONG_MAJORITY_PERMIT w_STRONG_MAJORITY_PERMIT_EResolutionRule h0 n0 v U'.heap L ∧ FrameEnd U o U' L ({ frames := 0, cells := 0, slots := 0, locals := 0 } : Room).cells ({ frames := 0, cells := 0, slots := 0, locals := 0 } : Room).slots) := by
  refine MetFree.of_bodySF (plainFor_of_name pn_com_example_kindred_consent_kindredconsent_engine_EReasonIsCountedPinLaw) hisR ?_
  intro p e s m args below meth c s₁ Bd hml0 hP hK
  obtain ⟨rfl, hZ, hh⟩ := hP
  have hx := Bd.exec
  have hby := Bd.bytes
  have hml : c.maxLocals = 1 := hml0
  have hown : s.vm.findClass "com/example/kindred_consent/kindredconsent/engine/EReasonIsCountedPinLaw" = some m.cls := findClass_of_methodNamed Bd.named
  have hnm := (name_of_methodNamed Bd.named Bd.method).1
  have X0 : Stand p l e ({ frames := 0, cells := 0, slots := 0, locals := 0 } : Room) s m #[(.int (9 : Int32))] below meth c s₁ [] 0 0 := Stand.of_body Bd
  have e0 : s₁.heap = h0 := by rw [← hh, Bd.state]; rfl
  have N0 := Fr.nil n0
  have pre0 : ∀ t, Steps p.tables e below (s₁.setTop (mkF m 0 #[.val (.int (9 : Int32))] [])) t → Steps p.tables e below (s₁.setTop (entryFrame m #[(.int (9 : Int32))] 1)) t := fun t k => castTop (ef_pick_9 m ) k
  have hE_ := hE; obtain ⟨S_w_CONTROLLER, E_w_CONTROLLER, S_w_FULL_CONSENSUS_PERMIT, E_w_FULL_CONSENSUS_PERMIT, S_w_FULL_CONSENSUS_PERMIT_EResolutionRule, E_w_FULL_CONSENSUS_PERMIT_EResolutionRule, S_w_WEIGHTED, E_w_WEIGHTED, S_w_OWNER_OVERRIDES, E_w_OWNER_OVERRIDES, S_w_OWNER_OVERRIDES_EResolutionRule, E_w_OWNER_OVERRIDES_EResolutionRule, S_w_SOURCE, E_w_SOURCE, S_w_NO_THRESHOLD, E_w_NO_THRESHOLD, S_w_MAJORITY_PERMIT, E_w_MAJORITY_PERMIT, S_w_MAJORITY_PERMIT_EResolutionRule, E_w_MAJORITY_PERMIT_EResolutionRule, S_w_RESHARE_REFUSED, E_w_RESHARE_REFUSED, S_w_WEIGHTED_EReason, E_w_WEIGHTED_EReason, S_w_NOT_VIEWER, E_w_NOT_VIEWER, S_w_UNNAMED, E_w_UNNAMED, S_w_SUPER_MAJORITY_PERMIT, E_w_SUPER_MAJORITY_PERMIT, S_w_SUPER_MAJORITY_PERMIT_EResolutionRule, E_w_SUPER_MAJORITY_PERMIT_EResolutionRule, S_w_STRONG_MAJORITY_PERMIT, E_w_STRONG_MAJORITY_PERMIT, S_w_STRONG_MAJORITY_PERMIT_EResolutionRule, E_w_STRONG_MAJORITY_PERMIT_EResolutionRule, F_m_eRule_w_CONTROLLER, F_m_eRule_w_FULL_CONSENSUS_PERMIT, F_ordinal_w_FULL_CONSENSUS_PERMIT_EResolutionRule, F_ordinal_w_WEIGHTED, F_m_eRule_w_OWNER_OVERRIDES, F_ordinal_w_OWNER_OVERRIDES_EResolutionRule, F_m_eRule_w_SOURCE, F_m_eRule_w_NO_THRESHOLD, F_m_eRule_w_MAJORITY_PERMIT, F_ordinal_w_MAJORITY_PERMIT_EResolutionRule, F_m_eRule_w_RESHARE_REFUSED, F_m_eRule_w_WEIGHTED_EReason, F_m_eRule_w_NOT_VIEWER, F_m_eRule_w_UNNAMED, F_m_eRule_w_SUPER_MAJORITY_PERMIT, F_ordinal_w_SUPER_MAJORITY_PERMIT_EResolutionRule, F_m_eRule_w_STRONG_MAJORITY_PERMIT, F_ordinal_w_STRONG_MAJORITY_PERMIT_EResolutionRule⟩ := hE_
  obtain ⟨T1, X1, e1, st1⟩ := getS2 X0 hx hZ hown (host := "") (Or.inl (hw _ (List.mem_of_getElem? (i := 37) rfl))) Via.refl e0 (S_w_UNNAMED.ext O0.2) (g := (mkF m 89 #[.val (.int (9 : Int32))] [])) rfl (hb hby d1_89)
  obtain ⟨fs, hr, hrun, hended, hW, hsame⟩ := X1.leave (v := some (.ref w_UNNAMED)) (fun h => by rw [Bd.returns] at h; cases h)
  refine ⟨_, _, pre0 _ ?_, hrun, hended, _, _, rfl, ?_, ⟨_, rfl⟩, hW, hsame.mono (by decide) (by decide)⟩
  · show Steps p.tables e below (s₁.setTop (mkF m 0 #[.val (.int (9 : Int32))] [])) _
    refine XS.iloadN X0.here hx rfl (hb hby d1_0) rfl ?_
    show Steps p.tables e below (s₁.setTop (mkF m 1 #[.val (.int (9 : Int32))] [(.int (9 : Int32))])) _
    refine XS.ifYes X0.here hx rfl (pc0 := 1) (pc' := 8) rfl (hb hby d1_1) rfl ((if0 _ _).trans (feq (by decide : ¬ ((9 : Int32) = (0 : Int32)))).2) (by decide) (by decide) ?_
    show Steps p.tables e below (s₁.setTop (mkF m 8 #[.val (.int (9 : Int32))] [])) _
    refine XS.iloadN X0.here hx rfl (hb hby d1_8) rfl ?_
    show Steps p.tables e below (s₁.setTop (mkF m 9 #[.val (.int (9 : Int32))] [(.int (9 : Int32))])) _
    refine XS.iconst X0.here hx rfl (hb hby d1_9) ?_
    show Steps p.tables e below (s₁.setTop (mkF m 10 #[.val (.int (9 : Int32))] [(.int (1 : Int32)), (.int (9 : Int32))])) _
    refine XS.icmpYes X0.here hx rfl (pc0 := 10) (pc' := 17) rfl (hb hby d1_10) rfl (feq (by decide : ¬ ((9 : Int32) = (1 : Int32)))).2 (by decide) (by decide) ?_
    show Steps p.tables e below (s₁.setTop (mkF m 17 #[.val (.int (9 : Int32))] [])) _
    refine XS.iloadN X0.here hx rfl (hb hby d1_17) rfl ?_
    show Steps p.tables e below (s₁.setTop (mkF m 18 #[.val (.int (9 : Int32))] [(.int (9 : Int32))])) _
    refine XS.iconst X0.here hx rfl (hb hby d1_18) ?_
    show Steps p.tables e below (s₁.setTop (mkF m 19 #[.val (.int (9 : Int32))] [(.int (2 : Int32)), (.int (9 : Int32))])) _
    refine XS.icmpYes X0.here hx rfl (pc0 := 19) (pc' := 26) rfl (hb hby d1_19) rfl (feq (by decide : ¬ ((9 : Int32) = (2 : Int32)))).2 (by decide) (by decide) ?_
    show Steps p.tables e below (s₁.setTop (mkF m 26 #[.val (.int (9 : Int32))] [])) _
    refine XS.iloadN X0.here hx rfl (hb hby d1_26) rfl ?_
    show Steps p.tables e below (s₁.setTop (mkF m 27 #[.val (.int (9 : Int32))] [(.int (9 : Int32))])) _
    refine XS.iconst X0.here hx rfl (hb hby d1_27) ?_
    show Steps p.tables e below (s₁.setTop (mkF m 28 #[.val (.int (9 : Int32))] [(.int (3 : Int32)), (.int (9 : Int32))])) _
    refine XS.icmpYes X0.here hx rfl (pc0 := 28) (pc' := 35) rfl (hb hby d1_28) rfl (feq (by decide : ¬ ((9 : Int32) = (3 : Int32)))).2 (by decide) (by decide) ?_
    show Steps p.tables e below (s₁.setTop (mkF m 35 #[.val (.int (9 : Int32))] [])) _
    refine XS.iloadN X0.here hx rfl (hb hby d1_35) rfl ?_
    show Steps p.tables e below (s₁.setTop (mkF m 36 #[.val (.int (9 : Int32))] [(.int (9 : Int32))])) _
    refine XS.iconst X0.here hx rfl (hb hby d1_36) ?_
    show Steps p.tables e below (s₁.setTop (mkF m 37 #[.val (.int (9 : Int32))] [(.int (4 : Int32)), (.int (9 : Int32))])) _
    refine XS.icmpYes X0.here hx rfl (pc0 := 37) (pc' := 44) rfl (hb hby d1_37) rfl (feq (by decide : ¬ ((9 : Int32) = (4 : Int32)))).2 (by decide) (by decide) ?_
    show Steps p.tables e below (s₁.setTop (mkF m 44 #[.val (.int (9 : Int32))] [])) _
    refine XS.iloadN X0.here hx rfl (hb hby d1_44) rfl ?_
    show Steps p.tables e below (s₁.setTop (mkF m 45 #[.val (.int (9 : Int32))] [(.int (9 : Int32))])) _
    refine XS.iconst X0.here hx rfl (hb hby d1_45) ?_
    show Steps p.tables e below (s₁.setTop (mkF m 46 #[.val (.int (9 : Int32))] [(.int (5 : Int32)), (.int (9 : Int32))])) _
    refine XS.icmpYes X0.here hx rfl (pc0 := 46) (pc' := 53) rfl (hb hby d1_46) rfl (feq (by decide : ¬ ((9 : Int32) = (5 : Int32)))).2 (by decide) (by decide) ?_
    show Steps p.tables e below (s₁.setTop (mkF m 53 #[.val (.int (9 : Int32))] [])) _
    refine XS.iloadN X0.here hx rfl (hb hby d1_53) rfl ?_
    show Steps p.tables e below (s₁.setTop (mkF m 54 #[.val (.int (9 : Int32))] [(.int (9 : Int32))])) _
    refine XS.bipush X0.here hx rfl (hb hby d1_54) ?_
    show Steps p.tables e below (s₁.setTop (mkF m 56 #[.val (.int (9 : Int32))] [(.int (6 : Int32)), (.int (9 : Int32))])) _
    refine XS.icmpYes X0.here hx rfl (pc0 := 56) (pc' := 63) rfl (hb hby d1_56) rfl (feq (by decide : ¬ ((9 : Int32) = (6 : Int32)))).2 (by decide) (by decide) ?_
    show Steps p.tables e below (s₁.setTop (mkF m 63 #[.val (.int (9 : Int32))] [])) _
    refine XS.iloadN X0.here hx rfl (hb hby d1_63) rfl ?_
    show Steps p.tables e below (s₁.setTop (mkF m 64 #[.val (.int (9 : Int32))] [(.int (9 : Int32))])) _
    refine XS.bipush X0.here hx rfl (hb hby d1_64) ?_
    show Steps p.tables e below (s₁.setTop (mkF m 66 #[.val (.int (9 : Int32))] [(.int (7 : Int32)), (.int (9 : Int32))])) _
    refine XS.icmpYes X0.here hx rfl (pc0 := 66) (pc' := 73) rfl (hb hby d1_66) rfl (feq (by decide : ¬ ((9 : Int32) = (7 : Int32)))).2 (by decide) (by decide) ?_
    show Steps p.tables e below (s₁.setTop (mkF m 73 #[.val (.int (9 : Int32))] [])) _
    refine XS.iloadN X0.here hx rfl (hb hby d1_73) rfl ?_
    show Steps p.tables e below (s₁.setTop (mkF m 74 #[.val (.int (9 : Int32))] [(.int (9 : Int32))])) _
    refine XS.bipush X0.here hx rfl (hb hby d1_74) ?_
    show Steps p.tables e below (s₁.setTop (mkF m 76 #[.val (.int (9 : Int32))] [(.int (8 : Int32)), (.int (9 : Int32))])) _
    refine XS.icmpYes X0.here hx rfl (pc0 := 76) (pc' := 83) rfl (hb hby d1_76) rfl (feq (by decide : ¬ ((9 : Int32) = (8 : Int32)))).2 (by decide) (by decide) ?_
    show Steps p.tables e below (s₁.setTop (mkF m 83 #[.val (.int (9 : Int32))] [])) _
    refine XS.iloadN X0.here hx rfl (hb hby d1_83) rfl ?_
    show Steps p.tables e below (s₁.setTop (mkF m 84 #[.val (.int (9 : Int32))] [(.int (9 : Int32))])) _
    refine XS.bipush X0.here hx rfl (hb hby d1_84) ?_
    show Steps p.tables e below (s₁.setTop (mkF m 86 #[.val (.int (9 : Int32))] [(.int (9 : Int32)), (.int (9 : Int32))])) _
    refine XS.icmpNo X0.here hx rfl (hb hby d1_86) rfl (teq (by decide : (9 : Int32) = (9 : Int32))).2 ?_
    show Steps p.tables e below (s₁.setTop (mkF m 89 #[.val (.int (9 : Int32))] [])) _
    refine st1 _ ?_
    show Steps p.tables e below (T1.setTop (mkF m 92 #[.val (.int (9 : Int32))] [(.ref w_UNNAMED)])) _
    jvm_step X1.here [X1.here.top, hx, (hb hby d1_92), X1.method', Bd.returns, Value.isRef, FieldType.isReference]
    first | (intro acts; rw [hr _ acts rfl rfl rfl]) | rw [hr _ _ rfl rfl rfl]
    exact Steps.refl _
  · show Q_pick_9 Z w_CONTROLLER w_FULL_CONSENSUS_PERMIT w_FULL_CONSENSUS_PERMIT_EResolutionRule w_WEIGHTED w_OWNER_OVERRIDES w_OWNER_OVERRIDES_EResolutionRule w_SOURCE w_NO_THRESHOLD w_MAJORITY_PERMIT w_MAJORITY_PERMIT_EResolutionRule w_RESHARE_REFUSED w_WEIGHTED_EReason w_NOT_VIEWER w_UNNAMED w_SUPER_MAJORITY_PERMIT w_SUPER_MAJORITY_PERMIT_EResolutionRule w_STRONG_MAJORITY_PERMIT w_STRONG_MAJORITY_PERMIT_EResolutionRule h0 n0 _ T1.heap _
    rw [e1]
    exact ⟨rfl, N0, rfl⟩
theorem ef_ic_UNNAMED (m : MethodId) (w_UNNAMED : Addr) : entryFrame m #[(.ref w_UNNAMED)] 1 = mkF m 0 #[.val (.ref w_UNNAMED)] [] := by first | (simp [entryFrame, mkF, argsToLocals, Value.category]; done) | rfl
def Q_ic_UNNAMED (Z : State) (w_CONTROLLER w_FULL_CONSENSUS_PERMIT w_FULL_CONSENSUS_PERMIT_EResolutionRule w_WEIGHTED w_OWNER_OVERRIDES w_OWNER_OVERRIDES_EResolutionRule w_SOURCE w_NO_THRESHOLD w_MAJORITY_PERMIT w_MAJORITY_PERMIT_EResolutionRule w_RESHARE_REFUSED w_WEIGHTED_EReason w_NOT_VIEWER w_UNNAMED w_SUPER_MAJORITY_PERMIT w_SUPER_MAJORITY_PERMIT_EResolutionRule w_STRONG_MAJORITY_PERMIT w_STRONG_MAJORITY_PERMIT_EResolutionRule : Addr) (h0 : Heap) (n0 : Nat) (v : Option Value) (h : Heap) (L : List Loc) : Prop := v = some (.int (0 : Int32)) ∧ Fr n0 L ∧ h = h0
set_option maxRecDepth 65536 in
set_option maxHeartbeats 40000000 in
theorem ic_UNNAMED (l : Launch) (Z : State) (a0 : Array Value) (hw : ∀ d ∈ tables_1, d.before a0 Z = true) (ws : List Jvm.Cond) (w_CONTROLLER w_FULL_CONSENSUS_PERMIT w_FULL_CONSENSUS_PERMIT_EResolutionRule w_WEIGHTED w_OWNER_OVERRIDES w_OWNER_OVERRIDES_EResolutionRule w_SOURCE w_NO_THRESHOLD w_MAJORITY_PERMIT w_MAJORITY_PERMIT_EResolutionRule w_RESHARE_REFUSED w_WEIGHTED_EReason w_NOT_VIEWER w_UNNAMED w_SUPER_MAJORITY_PERMIT w_SUPER_MAJORITY_PERMIT_EResolutionRule w_STRONG_MAJORITY_PERMIT w_STRONG_MAJORITY_PERMIT_EResolutionRule : Addr) (h0 : Heap) (n0 : Nat) (O0 : Old Z n0 h0) (hE : OwnEnv Z w_CONTROLLER w_FULL_CONSENSUS_PERMIT w_FULL_CONSENSUS_PERMIT_EResolutionRule w_WEIGHTED w_OWNER_OVERRIDES w_OWNER_OVERRIDES_EResolutionRule w_SOURCE w_NO_THRESHOLD w_MAJORITY_PERMIT w_MAJORITY_PERMIT_EResolutionRule w_RESHARE_REFUSED w_WEIGHTED_EReason w_NOT_VIEWER w_UNNAMED w_SUPER_MAJORITY_PERMIT w_SUPER_MAJORITY_PERMIT_EResolutionRule w_STRONG_MAJORITY_PERMIT w_STRONG_MAJORITY_PERMIT_EResolutionRule) :
    MetFree l (⟨"com/example/kindred_consent/kindredconsent/engine/EReason", "isCounted", "()Z"⟩ : MethodName) (head1 (Jvm.Cond.code (⟨"com/example/kindred_consent/kindredconsent/engine/EReason", "isCounted", "()Z"⟩ : MethodName) prog_7_method_7_code 1 (some .boolean) :: ws) ({ frames := 0, cells := 0, slots := 0, locals := 0 } : Room)) (fun a U => a = #[(.ref w_UNNAMED)] ∧ Z.Warmed39 U.vm ∧ U.heap = h0) (fun _ _ _ _ _ => True) (fun _ U o U' => ∃ v L, o = .returned v ∧ Q_ic_UNNAMED Z w_CONTROLLER w_FULL_CONSENSUS_PERMIT w_FULL_CONSENSUS_PERMIT_EResolutionRule w_WEIGHTED w_OWNER_OVERRIDES w_OWNER_OVERRIDES_EResolutionRule w_SOURCE w_NO_THRESHOLD w_MAJORITY_PERMIT w_MAJORITY_PERMIT_EResolutionRule w_RESHARE_REFUSED w_WEIGHTED_EReason w_NOT_VIEWER w_UNNAMED w_SUPER_MAJORITY_PERMIT w_SUPER_MAJORITY_PERMIT_EResolutionRule w_STRONG_MAJORITY_PERMIT w_STRONG_MAJORITY_PERMIT_EResolutionRule h0 n0 v U'.heap L ∧ FrameEnd U o U' L ({ frames := 0, cells := 0, slots := 0, locals := 0 } : Room).cells ({ frames := 0, cells := 0, slots := 0, locals := 0 } : Room).slots) := by
  refine MetFree.of_bodySF (plainFor_of_name pn_com_example_kindred_consent_kindredconsent_engine_EReason) hisR ?_
  intro p e s m args below meth c s₁ Bd hml0 hP hK
  obtain ⟨rfl, hZ, hh⟩ := hP
  have hx := Bd.exec
  have hby := Bd.bytes
  have hml : c.maxLocals = 1 := hml0
  have hown : s.vm.findClass "com/example/kindred_consent/kindredconsent/engine/EReason" = some m.cls := findClass_of_methodNamed Bd.named
  have hnm := (name_of_methodNamed Bd.named Bd.method).1
  have X0 : Stand p l e ({ frames := 0, cells := 0, slots := 0, locals := 0 } : Room) s m #[(.ref w_UNNAMED)] below meth c s₁ [] 0 0 := Stand.of_body Bd
  have e0 : s₁.heap = h0 := by rw [← hh, Bd.state]; rfl
  have N0 := Fr.nil n0
  have pre0 : ∀ t, Steps p.tables e below (s₁.setTop (mkF m 0 #[.val (.ref w_UNNAMED)] [])) t → Steps p.tables e below (s₁.setTop (entryFrame m #[(.ref w_UNNAMED)] 1)) t := fun t k => castTop (ef_ic_UNNAMED m w_UNNAMED) k
  have hE_ := hE; obtain ⟨S_w_CONTROLLER, E_w_CONTROLLER, S_w_FULL_CONSENSUS_PERMIT, E_w_FULL_CONSENSUS_PERMIT, S_w_FULL_CONSENSUS_PERMIT_EResolutionRule, E_w_FULL_CONSENSUS_PERMIT_EResolutionRule, S_w_WEIGHTED, E_w_WEIGHTED, S_w_OWNER_OVERRIDES, E_w_OWNER_OVERRIDES, S_w_OWNER_OVERRIDES_EResolutionRule, E_w_OWNER_OVERRIDES_EResolutionRule, S_w_SOURCE, E_w_SOURCE, S_w_NO_THRESHOLD, E_w_NO_THRESHOLD, S_w_MAJORITY_PERMIT, E_w_MAJORITY_PERMIT, S_w_MAJORITY_PERMIT_EResolutionRule, E_w_MAJORITY_PERMIT_EResolutionRule, S_w_RESHARE_REFUSED, E_w_RESHARE_REFUSED, S_w_WEIGHTED_EReason, E_w_WEIGHTED_EReason, S_w_NOT_VIEWER, E_w_NOT_VIEWER, S_w_UNNAMED, E_w_UNNAMED, S_w_SUPER_MAJORITY_PERMIT, E_w_SUPER_MAJORITY_PERMIT, S_w_SUPER_MAJORITY_PERMIT_EResolutionRule, E_w_SUPER_MAJORITY_PERMIT_EResolutionRule, S_w_STRONG_MAJORITY_PERMIT, E_w_STRONG_MAJORITY_PERMIT, S_w_STRONG_MAJORITY_PERMIT_EResolutionRule, E_w_STRONG_MAJORITY_PERMIT_EResolutionRule, F_m_eRule_w_CONTROLLER, F_m_eRule_w_FULL_CONSENSUS_PERMIT, F_ordinal_w_FULL_CONSENSUS_PERMIT_EResolutionRule, F_ordinal_w_WEIGHTED, F_m_eRule_w_OWNER_OVERRIDES, F_ordinal_w_OWNER_OVERRIDES_EResolutionRule, F_m_eRule_w_SOURCE, F_m_eRule_w_NO_THRESHOLD, F_m_eRule_w_MAJORITY_PERMIT, F_ordinal_w_MAJORITY_PERMIT_EResolutionRule, F_m_eRule_w_RESHARE_REFUSED, F_m_eRule_w_WEIGHTED_EReason, F_m_eRule_w_NOT_VIEWER, F_m_eRule_w_UNNAMED, F_m_eRule_w_SUPER_MAJORITY_PERMIT, F_ordinal_w_SUPER_MAJORITY_PERMIT_EResolutionRule, F_m_eRule_w_STRONG_MAJORITY_PERMIT, F_ordinal_w_STRONG_MAJORITY_PERMIT_EResolutionRule⟩ := hE_
  obtain ⟨T1, X1, e1, st1⟩ := getF X0 hx hZ hown (host := "") (Or.inl (hw _ (List.mem_of_getElem? (i := 13) rfl))) Via.refl e0 (F_m_eRule_w_UNNAMED.ext O0.2) (g := (mkF m 1 #[.val (.ref w_UNNAMED)] [(.ref w_UNNAMED)])) rfl rfl (hb hby d2_1)
  obtain ⟨fs, hr, hrun, hended, hW, hsame⟩ := X1.leave (v := some (.int (0 : Int32))) (fun h => by rw [Bd.returns] at h; cases h)
  refine ⟨_, _, pre0 _ ?_, hrun, hended, _, _, rfl, ?_, ⟨_, rfl⟩, hW, hsame.mono (by decide) (by decide)⟩
  · show Steps p.tables e below (s₁.setTop (mkF m 0 #[.val (.ref w_UNNAMED)] [])) _
    refine XS.aloadN X0.here hx rfl (hb hby d2_0) rfl rfl ?_
    show Steps p.tables e below (s₁.setTop (mkF m 1 #[.val (.ref w_UNNAMED)] [(.ref w_UNNAMED)])) _
    refine st1 _ ?_
    show Steps p.tables e below (T1.setTop (mkF m 4 #[.val (.ref w_UNNAMED)] [.null])) _
    refine XS.ifnullYes X1.here hx rfl (pc0 := 4) (pc' := 21) rfl (hb hby d2_4) rfl (by decide) (by decide) ?_
    show Steps p.tables e below (T1.setTop (mkF m 21 #[.val (.ref w_UNNAMED)] [])) _
    refine XS.iconst X1.here hx rfl (hb hby d2_21) ?_
    show Steps p.tables e below (T1.setTop (mkF m 22 #[.val (.ref w_UNNAMED)] [(.int (0 : Int32))])) _
    exact retN X1 hx (t := .boolean) Bd.returns (by simp) (hb hby d2_22) hr
  · show Q_ic_UNNAMED Z w_CONTROLLER w_FULL_CONSENSUS_PERMIT w_FULL_CONSENSUS_PERMIT_EResolutionRule w_WEIGHTED w_OWNER_OVERRIDES w_OWNER_OVERRIDES_EResolutionRule w_SOURCE w_NO_THRESHOLD w_MAJORITY_PERMIT w_MAJORITY_PERMIT_EResolutionRule w_RESHARE_REFUSED w_WEIGHTED_EReason w_NOT_VIEWER w_UNNAMED w_SUPER_MAJORITY_PERMIT w_SUPER_MAJORITY_PERMIT_EResolutionRule w_STRONG_MAJORITY_PERMIT w_STRONG_MAJORITY_PERMIT_EResolutionRule h0 n0 _ T1.heap _
    rw [e1]
    exact ⟨rfl, N0, rfl⟩
theorem ef_pick_10 (m : MethodId)  : entryFrame m #[(.int (10 : Int32))] 1 = mkF m 0 #[.val (.int (10 : Int32))] [] := by first | (simp [entryFrame, mkF, argsToLocals, Value.category]; done) | rfl
def Q_pick_10 (Z : State) (w_CONTROLLER w_FULL_CONSENSUS_PERMIT w_FULL_CONSENSUS_PERMIT_EResolutionRule w_WEIGHTED w_OWNER_OVERRIDES w_OWNER_OVERRIDES_EResolutionRule w_SOURCE w_NO_THRESHOLD w_MAJORITY_PERMIT w_MAJORITY_PERMIT_EResolutionRule w_RESHARE_REFUSED w_WEIGHTED_EReason w_NOT_VIEWER w_UNNAMED w_SUPER_MAJORITY_PERMIT w_SUPER_MAJORITY_PERMIT_EResolutionRule w_STRONG_MAJORITY_PERMIT w_STRONG_MAJORITY_PERMIT_EResolutionRule : Addr) (h0 : Heap) (n0 : Nat) (v : Option Value) (h : Heap) (L : List Loc) : Prop := v = some (.ref w_NOT_VIEWER) ∧ Fr n0 L ∧ h = h0
set_option maxRecDepth 65536 in
set_option maxHeartbeats 40000000 in
theorem pick_10 (l : Launch) (Z : State) (a0 : Array Value) (hw : ∀ d ∈ tables_1, d.before a0 Z = true) (ws : List Jvm.Cond) (w_CONTROLLER w_FULL_CONSENSUS_PERMIT w_FULL_CONSENSUS_PERMIT_EResolutionRule w_WEIGHTED w_OWNER_OVERRIDES w_OWNER_OVERRIDES_EResolutionRule w_SOURCE w_NO_THRESHOLD w_MAJORITY_PERMIT w_MAJORITY_PERMIT_EResolutionRule w_RESHARE_REFUSED w_WEIGHTED_EReason w_NOT_VIEWER w_UNNAMED w_SUPER_MAJORITY_PERMIT w_SUPER_MAJORITY_PERMIT_EResolutionRule w_STRONG_MAJORITY_PERMIT w_STRONG_MAJORITY_PERMIT_EResolutionRule : Addr) (h0 : Heap) (n0 : Nat) (O0 : Old Z n0 h0) (hE : OwnEnv Z w_CONTROLLER w_FULL_CONSENSUS_PERMIT w_FULL_CONSENSUS_PERMIT_EResolutionRule w_WEIGHTED w_OWNER_OVERRIDES w_OWNER_OVERRIDES_EResolutionRule w_SOURCE w_NO_THRESHOLD w_MAJORITY_PERMIT w_MAJORITY_PERMIT_EResolutionRule w_RESHARE_REFUSED w_WEIGHTED_EReason w_NOT_VIEWER w_UNNAMED w_SUPER_MAJORITY_PERMIT w_SUPER_MAJORITY_PERMIT_EResolutionRule w_STRONG_MAJORITY_PERMIT w_STRONG_MAJORITY_PERMIT_EResolutionRule) :
    MetFree l (⟨"com/example/kindred_consent/kindredconsent/engine/EReasonIsCountedPinLaw", "pick", "(I)Lcom/example/kindred_consent/kindredconsent/engine/EReason;"⟩ : MethodName) (head1 (Jvm.Cond.code (⟨"com/example/kindred_consent/kindredconsent/engine/EReasonIsCountedPinLaw", "pick", "(I)Lcom/example/kindred_consent/kindredconsent/engine/EReason;"⟩ : MethodName) method_2_code 1 (some (.object "com/example/kindred_consent/kindredconsent/engine/EReason")) :: ws) ({ frames := 0, cells := 0, slots := 0, locals := 0 } : Room)) (fun a U => a = #[(.int (10 : Int32))] ∧ Z.Warmed39 U.vm ∧ U.heap = h0) (fun _ _ _ _ _ => True) (fun _ U o U' => ∃ v L, o = .returned v ∧ Q_pick_10 Z w_CONTROLLER w_FULL_CONSENSUS_PERMIT w_FULL_CONSENSUS_PERMIT_EResolutionRule w_WEIGHTED w_OWNER_OVERRIDES w_OWNER_OVERRIDES_EResolutionRule w_SOURCE w_NO_THRESHOLD w_MAJORITY_PERMIT w_MAJORITY_PERMIT_EResolutionRule w_RESHARE_REFUSED w_WEIGHTED_EReason w_NOT_VIEWER w_UNNAMED w_SUPER_MAJORITY_PERMIT w_SUPER_MAJORITY_PERMIT_EResolutionRule w_STRONG_MAJORITY_PERMIT w_STRONG_MAJORITY_PERMIT_EResolutionRule h0 n0 v U'.heap L ∧ FrameEnd U o U' L ({ frames := 0, cells := 0, slots := 0, locals := 0 } : Room).cells ({ frames := 0, cells := 0, slots := 0, locals := 0 } : Room).slots) := by
  refine MetFree.of_bodySF (plainFor_of_name pn_com_example_kindred_consent_kindredconsent_engine_EReasonIsCountedPinLaw) hisR ?_
  intro p e s m args below meth c s₁ Bd hml0 hP hK
  obtain ⟨rfl, hZ, hh⟩ := hP
  have hx := Bd.exec
  have hby := Bd.bytes
  have hml : c.maxLocals = 1 := hml0
  have hown : s.vm.findClass "com/example/kindred_consent/kindredconsent/engine/EReasonIsCountedPinLaw" = some m.cls := findClass_of_methodNamed Bd.named
  have hnm := (name_of_methodNamed Bd.named Bd.method).1
  have X0 : Stand p l e ({ frames := 0, cells := 0, slots := 0, locals := 0 } : Room) s m #[(.int (10 : Int32))] below meth c s₁ [] 0 0 := Stand.of_body Bd
  have e0 : s₁.heap = h0 := by rw [← hh, Bd.state]; rfl
  have N0 := Fr.nil n0
  have pre0 : ∀ t, Steps p.tables e below (s₁.setTop (mkF m 0 #[.val (.int (10 : Int32))] [])) t → Steps p.tables e below (s₁.setTop (entryFrame m #[(.int (10 : Int32))] 1)) t := fun t k => castTop (ef_pick_10 m ) k
  have hE_ := hE; obtain ⟨S_w_CONTROLLER, E_w_CONTROLLER, S_w_FULL_CONSENSUS_PERMIT, E_w_FULL_CONSENSUS_PERMIT, S_w_FULL_CONSENSUS_PERMIT_EResolutionRule, E_w_FULL_CONSENSUS_PERMIT_EResolutionRule, S_w_WEIGHTED, E_w_WEIGHTED, S_w_OWNER_OVERRIDES, E_w_OWNER_OVERRIDES, S_w_OWNER_OVERRIDES_EResolutionRule, E_w_OWNER_OVERRIDES_EResolutionRule, S_w_SOURCE, E_w_SOURCE, S_w_NO_THRESHOLD, E_w_NO_THRESHOLD, S_w_MAJORITY_PERMIT, E_w_MAJORITY_PERMIT, S_w_MAJORITY_PERMIT_EResolutionRule, E_w_MAJORITY_PERMIT_EResolutionRule, S_w_RESHARE_REFUSED, E_w_RESHARE_REFUSED, S_w_WEIGHTED_EReason, E_w_WEIGHTED_EReason, S_w_NOT_VIEWER, E_w_NOT_VIEWER, S_w_UNNAMED, E_w_UNNAMED, S_w_SUPER_MAJORITY_PERMIT, E_w_SUPER_MAJORITY_PERMIT, S_w_SUPER_MAJORITY_PERMIT_EResolutionRule, E_w_SUPER_MAJORITY_PERMIT_EResolutionRule, S_w_STRONG_MAJORITY_PERMIT, E_w_STRONG_MAJORITY_PERMIT, S_w_STRONG_MAJORITY_PERMIT_EResolutionRule, E_w_STRONG_MAJORITY_PERMIT_EResolutionRule, F_m_eRule_w_CONTROLLER, F_m_eRule_w_FULL_CONSENSUS_PERMIT, F_ordinal_w_FULL_CONSENSUS_PERMIT_EResolutionRule, F_ordinal_w_WEIGHTED, F_m_eRule_w_OWNER_OVERRIDES, F_ordinal_w_OWNER_OVERRIDES_EResolutionRule, F_m_eRule_w_SOURCE, F_m_eRule_w_NO_THRESHOLD, F_m_eRule_w_MAJORITY_PERMIT, F_ordinal_w_MAJORITY_PERMIT_EResolutionRule, F_m_eRule_w_RESHARE_REFUSED, F_m_eRule_w_WEIGHTED_EReason, F_m_eRule_w_NOT_VIEWER, F_m_eRule_w_UNNAMED, F_m_eRule_w_SUPER_MAJORITY_PERMIT, F_ordinal_w_SUPER_MAJORITY_PERMIT_EResolutionRule, F_m_eRule_w_STRONG_MAJORITY_PERMIT, F_ordinal_w_STRONG_MAJORITY_PERMIT_EResolutionRule⟩ := hE_
  obtain ⟨T1, X1, e1, st1⟩ := getS2 X0 hx hZ hown (host := "") (Or.inl (hw _ (List.mem_of_getElem? (i := 35) rfl))) Via.refl e0 (S_w_NOT_VIEWER.ext O0.2) (g := (mkF m 99 #[.val (.int (10 : Int32))] [])) rfl (hb hby d1_99)
  obtain ⟨fs, hr, hrun, hended, hW, hsame⟩ := X1.leave (v := some (.ref w_NOT_VIEWER)) (fun h => by rw [Bd.returns] at h; cases h)
  refine ⟨_, _, pre0 _ ?_, hrun, hended, _, _, rfl, ?_, ⟨_, rfl⟩, hW, hsame.mono (by decide) (by decide)⟩
  · show Steps p.tables e below (s₁.setTop (mkF m 0 #[.val (.int (10 : Int32))] [])) _
    refine XS.iloadN X0.here hx rfl (hb hby d1_0) rfl ?_
    show Steps p.tables e below (s₁.setTop (mkF m 1 #[.val (.int (10 : Int32))] [(.int (10 : Int32))])) _
    refine XS.ifYes X0.here hx rfl (pc0 := 1) (pc' := 8) rfl (hb hby d1_1) rfl ((if0 _ _).trans (feq (by decide : ¬ ((10 : Int32) = (0 : Int32)))).2) (by decide) (by decide) ?_
    show Steps p.tables e below (s₁.setTop (mkF m 8 #[.val (.int (10 : Int32))] [])) _
    refine XS.iloadN X0.here hx rfl (hb hby d1_8) rfl ?_
    show Steps p.tables e below (s₁.setTop (mkF m 9 #[.val (.int (10 : Int32))] [(.int (10 : Int32))])) _
    refine XS.iconst X0.here hx rfl (hb hby d1_9) ?_
    show Steps p.tables e below (s₁.setTop (mkF m 10 #[.val (.int (10 : Int32))] [(.int (1 : Int32)), (.int (10 : Int32))])) _
    refine XS.icmpYes X0.here hx rfl (pc0 := 10) (pc' := 17) rfl (hb hby d1_10) rfl (feq (by decide : ¬ ((10 : Int32) = (1 : Int32)))).2 (by decide) (by decide) ?_
    show Steps p.tables e below (s₁.setTop (mkF m 17 #[.val (.int (10 : Int32))] [])) _
    refine XS.iloadN X0.here hx rfl (hb hby d1_17) rfl ?_
    show Steps p.tables e below (s₁.setTop (mkF m 18 #[.val (.int (10 : Int32))] [(.int (10 : Int32))])) _
    refine XS.iconst X0.here hx rfl (hb hby d1_18) ?_
    show Steps p.tables e below (s₁.setTop (mkF m 19 #[.val (.int (10 : Int32))] [(.int (2 : Int32)), (.int (10 : Int32))])) _
    refine XS.icmpYes X0.here hx rfl (pc0 := 19) (pc' := 26) rfl (hb hby d1_19) rfl (feq (by decide : ¬ ((10 : Int32) = (2 : Int32)))).2 (by decide) (by decide) ?_
    show Steps p.tables e below (s₁.setTop (mkF m 26 #[.val (.int (10 : Int32))] [])) _
    refine XS.iloadN X0.here hx rfl (hb hby d1_26) rfl ?_
    show Steps p.tables e below (s₁.setTop (mkF m 27 #[.val (.int (10 : Int32))] [(.int (10 : Int32))])) _
    refine XS.iconst X0.here hx rfl (hb hby d1_27) ?_
    show Steps p.tables e below (s₁.setTop (mkF m 28 #[.val (.int (10 : Int32))] [(.int (3 : Int32)), (.int (10 : Int32))])) _
    refine XS.icmpYes X0.here hx rfl (pc0 := 28) (pc' := 35) rfl (hb hby d1_28) rfl (feq (by decide : ¬ ((10 : Int32) = (3 : Int32)))).2 (by decide) (by decide) ?_
    show Steps p.tables e below (s₁.setTop (mkF m 35 #[.val (.int (10 : Int32))] [])) _
    refine XS.iloadN X0.here hx rfl (hb hby d1_35) rfl ?_
    show Steps p.tables e below (s₁.setTop (mkF m 36 #[.val (.int (10 : Int32))] [(.int (10 : Int32))])) _
    refine XS.iconst X0.here hx rfl (hb hby d1_36) ?_
    show Steps p.tables e below (s₁.setTop (mkF m 37 #[.val (.int (10 : Int32))] [(.int (4 : Int32)), (.int (10 : Int32))])) _
    refine XS.icmpYes X0.here hx rfl (pc0 := 37) (pc' := 44) rfl (hb hby d1_37) rfl (feq (by decide : ¬ ((10 : Int32) = (4 : Int32)))).2 (by decide) (by decide) ?_
    show Steps p.tables e below (s₁.setTop (mkF m 44 #[.val (.int (10 : Int32))] [])) _
    refine XS.iloadN X0.here hx rfl (hb hby d1_44) rfl ?_
    show Steps p.tables e below (s₁.setTop (mkF m 45 #[.val (.int (10 : Int32))] [(.int (10 : Int32))])) _
    refine XS.iconst X0.here hx rfl (hb hby d1_45) ?_
    show Steps p.tables e below (s₁.setTop (mkF m 46 #[.val (.int (10 : Int32))] [(.int (5 : Int32)), (.int (10 : Int32))])) _
    refine XS.icmpYes X0.here hx rfl (pc0 := 46) (pc' := 53) rfl (hb hby d1_46) rfl (feq (by decide : ¬ ((10 : Int32) = (5 : Int32)))).2 (by decide) (by decide) ?_
    show Steps p.tables e below (s₁.setTop (mkF m 53 #[.val (.int (10 : Int32))] [])) _
    refine XS.iloadN X0.here hx rfl (hb hby d1_53) rfl ?_
    show Steps p.tables e below (s₁.setTop (mkF m 54 #[.val (.int (10 : Int32))] [(.int (10 : Int32))])) _
    refine XS.bipush X0.here hx rfl (hb hby d1_54) ?_
    show Steps p.tables e below (s₁.setTop (mkF m 56 #[.val (.int (10 : Int32))] [(.int (6 : Int32)), (.int (10 : Int32))])) _
    refine XS.icmpYes X0.here hx rfl (pc0 := 56) (pc' := 63) rfl (hb hby d1_56) rfl (feq (by decide : ¬ ((10 : Int32) = (6 : Int32)))).2 (by decide) (by decide) ?_
    show Steps p.tables e below (s₁.setTop (mkF m 63 #[.val (.int (10 : Int32))] [])) _
    refine XS.iloadN X0.here hx rfl (hb hby d1_63) rfl ?_
    show Steps p.tables e below (s₁.setTop (mkF m 64 #[.val (.int (10 : Int32))] [(.int (10 : Int32))])) _
    refine XS.bipush X0.here hx rfl (hb hby d1_64) ?_
    show Steps p.tables e below (s₁.setTop (mkF m 66 #[.val (.int (10 : Int32))] [(.int (7 : Int32)), (.int (10 : Int32))])) _
    refine XS.icmpYes X0.here hx rfl (pc0 := 66) (pc' := 73) rfl (hb hby d1_66) rfl (feq (by decide : ¬ ((10 : Int32) = (7 : Int32)))).2 (by decide) (by decide) ?_
    show Steps p.tables e below (s₁.setTop (mkF m 73 #[.val (.int (10 : Int32))] [])) _
    refine XS.iloadN X0.here hx rfl (hb hby d1_73) rfl ?_
    show Steps p.tables e below (s₁.setTop (mkF m 74 #[.val (.int (10 : Int32))] [(.int (10 : Int32))])) _
    refine XS.bipush X0.here hx rfl (hb hby d1_74) ?_
    show Steps p.tables e below (s₁.setTop (mkF m 76 #[.val (.int (10 : Int32))] [(.int (8 : Int32)), (.int (10 : Int32))])) _
    refine XS.icmpYes X0.here hx rfl (pc0 := 76) (pc' := 83) rfl (hb hby d1_76) rfl (feq (by decide : ¬ ((10 : Int32) = (8 : Int32)))).2 (by decide) (by decide) ?_
    show Steps p.tables e below (s₁.setTop (mkF m 83 #[.val (.int (10 : Int32))] [])) _
    refine XS.iloadN X0.here hx rfl (hb hby d1_83) rfl ?_
    show Steps p.tables e below (s₁.setTop (mkF m 84 #[.val (.int (10 : Int32))] [(.int (10 : Int32))])) _
    refine XS.bipush X0.here hx rfl (hb hby d1_84) ?_
    show Steps p.tables e below (s₁.setTop (mkF m 86 #[.val (.int (10 : Int32))] [(.int (9 : Int32)), (.int (10 : Int32))])) _
    refine XS.icmpYes X0.here hx rfl (pc0 := 86) (pc' := 93) rfl (hb hby d1_86) rfl (feq (by decide : ¬ ((10 : Int32) = (9 : Int32)))).2 (by decide) (by decide) ?_
    show Steps p.tables e below (s₁.setTop (mkF m 93 #[.val (.int (10 : Int32))] [])) _
    refine XS.iloadN X0.here hx rfl (hb hby d1_93) rfl ?_
    show Steps p.tables e below (s₁.setTop (mkF m 94 #[.val (.int (10 : Int32))] [(.int (10 : Int32))])) _
    refine XS.bipush X0.here hx rfl (hb hby d1_94) ?_
    show Steps p.tables e below (s₁.setTop (mkF m 96 #[.val (.int (10 : Int32))] [(.int (10 : Int32)), (.int (10 : Int32))])) _
    refine XS.icmpNo X0.here hx rfl (hb hby d1_96) rfl (teq (by decide : (10 : Int32) = (10 : Int32))).2 ?_
    show Steps p.tables e below (s₁.setTop (mkF m 99 #[.val (.int (10 : Int32))] [])) _
    refine st1 _ ?_
    show Steps p.tables e below (T1.setTop (mkF m 102 #[.val (.int (10 : Int32))] [(.ref w_NOT_VIEWER)])) _
    jvm_step X1.here [X1.here.top, hx, (hb hby d1_102), X1.method', Bd.returns, Value.isRef, FieldType.isReference]
    first | (intro acts; rw [hr _ acts rfl rfl rfl]) | rw [hr _ _ rfl rfl rfl]
    exact Steps.refl _
  · show Q_pick_10 Z w_CONTROLLER w_FULL_CONSENSUS_PERMIT w_FULL_CONSENSUS_PERMIT_EResolutionRule w_WEIGHTED w_OWNER_OVERRIDES w_OWNER_OVERRIDES_EResolutionRule w_SOURCE w_NO_THRESHOLD w_MAJORITY_PERMIT w_MAJORITY_PERMIT_EResolutionRule w_RESHARE_REFUSED w_WEIGHTED_EReason w_NOT_VIEWER w_UNNAMED w_SUPER_MAJORITY_PERMIT w_SUPER_MAJORITY_PERMIT_EResolutionRule w_STRONG_MAJORITY_PERMIT w_STRONG_MAJORITY_PERMIT_EResolutionRule h0 n0 _ T1.heap _
    rw [e1]
    exact ⟨rfl, N0, rfl⟩
theorem ef_ic_NOT_VIEWER (m : MethodId) (w_NOT_VIEWER : Addr) : entryFrame m #[(.ref w_NOT_VIEWER)] 1 = mkF m 0 #[.val (.ref w_NOT_VIEWER)] [] := by first | (simp [entryFrame, mkF, argsToLocals, Value.category]; done) | rfl
def Q_ic_NOT_VIEWER (Z : State) (w_CONTROLLER w_FULL_CONSENSUS_PERMIT w_FULL_CONSENSUS_PERMIT_EResolutionRule w_WEIGHTED w_OWNER_OVERRIDES w_OWNER_OVERRIDES_EResolutionRule w_SOURCE w_NO_THRESHOLD w_MAJORITY_PERMIT w_MAJORITY_PERMIT_EResolutionRule w_RESHARE_REFUSED w_WEIGHTED_EReason w_NOT_VIEWER w_UNNAMED w_SUPER_MAJORITY_PERMIT w_SUPER_MAJORITY_PERMIT_EResolutionRule w_STRONG_MAJORITY_PERMIT w_STRONG_MAJORITY_PERMIT_EResolutionRule : Addr) (h0 : Heap) (n0 : Nat) (v : Option Value) (h : Heap) (L : List Loc) : Prop := v = some (.int (0 : Int32)) ∧ Fr n0 L ∧ h = h0
set_option maxRecDepth 65536 in
set_option maxHeartbeats 40000000 in
theorem ic_NOT_VIEWER (l : Launch) (Z : State) (a0 : Array Value) (hw : ∀ d ∈ tables_1, d.before a0 Z = true) (ws : List Jvm.Cond) (w_CONTROLLER w_FULL_CONSENSUS_PERMIT w_FULL_CONSENSUS_PERMIT_EResolutionRule w_WEIGHTED w_OWNER_OVERRIDES w_OWNER_OVERRIDES_EResolutionRule w_SOURCE w_NO_THRESHOLD w_MAJORITY_PERMIT w_MAJORITY_PERMIT_EResolutionRule w_RESHARE_REFUSED w_WEIGHTED_EReason w_NOT_VIEWER w_UNNAMED w_SUPER_MAJORITY_PERMIT w_SUPER_MAJORITY_PERMIT_EResolutionRule w_STRONG_MAJORITY_PERMIT w_STRONG_MAJORITY_PERMIT_EResolutionRule : Addr) (h0 : Heap) (n0 : Nat) (O0 : Old Z n0 h0) (hE : OwnEnv Z w_CONTROLLER w_FULL_CONSENSUS_PERMIT w_FULL_CONSENSUS_PERMIT_EResolutionRule w_WEIGHTED w_OWNER_OVERRIDES w_OWNER_OVERRIDES_EResolutionRule w_SOURCE w_NO_THRESHOLD w_MAJORITY_PERMIT w_MAJORITY_PERMIT_EResolutionRule w_RESHARE_REFUSED w_WEIGHTED_EReason w_NOT_VIEWER w_UNNAMED w_SUPER_MAJORITY_PERMIT w_SUPER_MAJORITY_PERMIT_EResolutionRule w_STRONG_MAJORITY_PERMIT w_STRONG_MAJORITY_PERMIT_EResolutionRule) :
    MetFree l (⟨"com/example/kindred_consent/kindredconsent/engine/EReason", "isCounted", "()Z"⟩ : MethodName) (head1 (Jvm.Cond.code (⟨"com/example/kindred_consent/kindredconsent/engine/EReason", "isCounted", "()Z"⟩ : MethodName) prog_7_method_7_code 1 (some .boolean) :: ws) ({ frames := 0, cells := 0, slots := 0, locals := 0 } : Room)) (fun a U => a = #[(.ref w_NOT_VIEWER)] ∧ Z.Warmed39 U.vm ∧ U.heap = h0) (fun _ _ _ _ _ => True) (fun _ U o U' => ∃ v L, o = .returned v ∧ Q_ic_NOT_VIEWER Z w_CONTROLLER w_FULL_CONSENSUS_PERMIT w_FULL_CONSENSUS_PERMIT_EResolutionRule w_WEIGHTED w_OWNER_OVERRIDES w_OWNER_OVERRIDES_EResolutionRule w_SOURCE w_NO_THRESHOLD w_MAJORITY_PERMIT w_MAJORITY_PERMIT_EResolutionRule w_RESHARE_REFUSED w_WEIGHTED_EReason w_NOT_VIEWER w_UNNAMED w_SUPER_MAJORITY_PERMIT w_SUPER_MAJORITY_PERMIT_EResolutionRule w_STRONG_MAJORITY_PERMIT w_STRONG_MAJORITY_PERMIT_EResolutionRule h0 n0 v U'.heap L ∧ FrameEnd U o U' L ({ frames := 0, cells := 0, slots := 0, locals := 0 } : Room).cells ({ frames := 0, cells := 0, slots := 0, locals := 0 } : Room).slots) := by
  refine MetFree.of_bodySF (plainFor_of_name pn_com_example_kindred_consent_kindredconsent_engine_EReason) hisR ?_
  intro p e s m args below meth c s₁ Bd hml0 hP hK
  obtain ⟨rfl, hZ, hh⟩ := hP
  have hx := Bd.exec
  have hby := Bd.bytes
  have hml : c.maxLocals = 1 := hml0
  have hown : s.vm.findClass "com/example/kindred_consent/kindredconsent/engine/EReason" = some m.cls := findClass_of_methodNamed Bd.named
  have hnm := (name_of_methodNamed Bd.named Bd.method).1
  have X0 : Stand p l e ({ frames := 0, cells := 0, slots := 0, locals := 0 } : Room) s m #[(.ref w_NOT_VIEWER)] below meth c s₁ [] 0 0 := Stand.of_body Bd
  have e0 : s₁.heap = h0 := by rw [← hh, Bd.state]; rfl
  have N0 := Fr.nil n0
  have pre0 : ∀ t, Steps p.tables e below (s₁.setTop (mkF m 0 #[.val (.ref w_NOT_VIEWER)] [])) t → Steps p.tables e below (s₁.setTop (entryFrame m #[(.ref w_NOT_VIEWER)] 1)) t := fun t k => castTop (ef_ic_NOT_VIEWER m w_NOT_VIEWER) k
  have hE_ := hE; obtain ⟨S_w_CONTROLLER, E_w_CONTROLLER, S_w_FULL_CONSENSUS_PERMIT, E_w_FULL_CONSENSUS_PERMIT, S_w_FULL_CONSENSUS_PERMIT_EResolutionRule, E_w_FULL_CONSENSUS_PERMIT_EResolutionRule, S_w_WEIGHTED, E_w_WEIGHTED, S_w_OWNER_OVERRIDES, E_w_OWNER_OVERRIDES, S_w_OWNER_OVERRIDES_EResolutionRule, E_w_OWNER_OVERRIDES_EResolutionRule, S_w_SOURCE, E_w_SOURCE, S_w_NO_THRESHOLD, E_w_NO_THRESHOLD, S_w_MAJORITY_PERMIT, E_w_MAJORITY_PERMIT, S_w_MAJORITY_PERMIT_EResolutionRule, E_w_MAJORITY_PERMIT_EResolutionRule, S_w_RESHARE_REFUSED, E_w_RESHARE_REFUSED, S_w_WEIGHTED_EReason, E_w_WEIGHTED_EReason, S_w_NOT_VIEWER, E_w_NOT_VIEWER, S_w_UNNAMED, E_w_UNNAMED, S_w_SUPER_MAJORITY_PERMIT, E_w_SUPER_MAJORITY_PERMIT, S_w_SUPER_MAJORITY_PERMIT_EResolutionRule, E_w_SUPER_MAJORITY_PERMIT_EResolutionRule, S_w_STRONG_MAJORITY_PERMIT, E_w_STRONG_MAJORITY_PERMIT, S_w_STRONG_MAJORITY_PERMIT_EResolutionRule, E_w_STRONG_MAJORITY_PERMIT_EResolutionRule, F_m_eRule_w_CONTROLLER, F_m_eRule_w_FULL_CONSENSUS_PERMIT, F_ordinal_w_FULL_CONSENSUS_PERMIT_EResolutionRule, F_ordinal_w_WEIGHTED, F_m_eRule_w_OWNER_OVERRIDES, F_ordinal_w_OWNER_OVERRIDES_EResolutionRule, F_m_eRule_w_SOURCE, F_m_eRule_w_NO_THRESHOLD, F_m_eRule_w_MAJORITY_PERMIT, F_ordinal_w_MAJORITY_PERMIT_EResolutionRule, F_m_eRule_w_RESHARE_REFUSED, F_m_eRule_w_WEIGHTED_EReason, F_m_eRule_w_NOT_VIEWER, F_m_eRule_w_UNNAMED, F_m_eRule_w_SUPER_MAJORITY_PERMIT, F_ordinal_w_SUPER_MAJORITY_PERMIT_EResolutionRule, F_m_eRule_w_STRONG_MAJORITY_PERMIT, F_ordinal_w_STRONG_MAJORITY_PERMIT_EResolutionRule⟩ := hE_
  obtain ⟨T1, X1, e1, st1⟩ := getF X0 hx hZ hown (host := "") (Or.inl (hw _ (List.mem_of_getElem? (i := 13) rfl))) Via.refl e0 (F_m_eRule_w_NOT_VIEWER.ext O0.2) (g := (mkF m 1 #[.val (.ref w_NOT_VIEWER)] [(.ref w_NOT_VIEWER)])) rfl rfl (hb hby d2_1)
  obtain ⟨fs, hr, hrun, hended, hW, hsame⟩ := X1.leave (v := some (.int (0 : Int32))) (fun h => by rw [Bd.returns] at h; cases h)
  refine ⟨_, _, pre0 _ ?_, hrun, hended, _, _, rfl, ?_, ⟨_, rfl⟩, hW, hsame.mono (by decide) (by decide)⟩
  · show Steps p.tables e below (s₁.setTop (mkF m 0 #[.val (.ref w_NOT_VIEWER)] [])) _
    refine XS.aloadN X0.here hx rfl (hb hby d2_0) rfl rfl ?_
    show Steps p.tables e below (s₁.setTop (mkF m 1 #[.val (.ref w_NOT_VIEWER)] [(.ref w_NOT_VIEWER)])) _
    refine st1 _ ?_
    show Steps p.tables e below (T1.setTop (mkF m 4 #[.val (.ref w_NOT_VIEWER)] [.null])) _
    refine XS.ifnullYes X1.here hx rfl (pc0 := 4) (pc' := 21) rfl (hb hby d2_4) rfl (by decide) (by decide) ?_
    show Steps p.tables e below (T1.setTop (mkF m 21 #[.val (.ref w_NOT_VIEWER)] [])) _
    refine XS.iconst X1.here hx rfl (hb hby d2_21) ?_
    show Steps p.tables e below (T1.setTop (mkF m 22 #[.val (.ref w_NOT_VIEWER)] [(.int (0 : Int32))])) _
    exact retN X1 hx (t := .boolean) Bd.returns (by simp) (hb hby d2_22) hr
  · show Q_ic_NOT_VIEWER Z w_CONTROLLER w_FULL_CONSENSUS_PERMIT w_FULL_CONSENSUS_PERMIT_EResolutionRule w_WEIGHTED w_OWNER_OVERRIDES w_OWNER_OVERRIDES_EResolutionRule w_SOURCE w_NO_THRESHOLD w_MAJORITY_PERMIT w_MAJORITY_PERMIT_EResolutionRule w_RESHARE_REFUSED w_WEIGHTED_EReason w_NOT_VIEWER w_UNNAMED w_SUPER_MAJORITY_PERMIT w_SUPER_MAJORITY_PERMIT_EResolutionRule w_STRONG_MAJORITY_PERMIT w_STRONG_MAJORITY_PERMIT_EResolutionRule h0 n0 _ T1.heap _
    rw [e1]
    exact ⟨rfl, N0, rfl⟩
theorem ef_pick_11 (m : MethodId)  : entryFrame m #[(.int (11 : Int32))] 1 = mkF m 0 #[.val (.int (11 : Int32))] [] := by first | (simp [entryFrame, mkF, argsToLocals, Value.category]; done) | rfl
def Q_pick_11 (Z : State) (w_CONTROLLER w_FULL_CONSENSUS_PERMIT w_FULL_CONSENSUS_PERMIT_EResolutionRule w_WEIGHTED w_OWNER_OVERRIDES w_OWNER_OVERRIDES_EResolutionRule w_SOURCE w_NO_THRESHOLD w_MAJORITY_PERMIT w_MAJORITY_PERMIT_EResolutionRule w_RESHARE_REFUSED w_WEIGHTED_EReason w_NOT_VIEWER w_UNNAMED w_SUPER_MAJORITY_PERMIT w_SUPER_MAJORITY_PERMIT_EResolutionRule w_STRONG_MAJORITY_PERMIT w_STRONG_MAJORITY_PERMIT_EResolutionRule : Addr) (h0 : Heap) (n0 : Nat) (v : Option Value) (h : Heap) (L : List Loc) : Prop := v = some (.ref w_NO_THRESHOLD) ∧ Fr n0 L ∧ h = h0
set_option maxRecDepth 65536 in
set_option maxHeartbeats 40000000 in
theorem pick_11 (l : Launch) (Z : State) (a0 : Array Value) (hw : ∀ d ∈ tables_1, d.before a0 Z = true) (ws : List Jvm.Cond) (w_CONTROLLER w_FULL_CONSENSUS_PERMIT w_FULL_CONSENSUS_PERMIT_EResolutionRule w_WEIGHTED w_OWNER_OVERRIDES w_OWNER_OVERRIDES_EResolutionRule w_SOURCE w_NO_THRESHOLD w_MAJORITY_PERMIT w_MAJORITY_PERMIT_EResolutionRule w_RESHARE_REFUSED w_WEIGHTED_EReason w_NOT_VIEWER w_UNNAMED w_SUPER_MAJORITY_PERMIT w_SUPER_MAJORITY_PERMIT_EResolutionRule w_STRONG_MAJORITY_PERMIT w_STRONG_MAJORITY_PERMIT_EResolutionRule : Addr) (h0 : Heap) (n0 : Nat) (O0 : Old Z n0 h0) (hE : OwnEnv Z w_CONTROLLER w_FULL_CONSENSUS_PERMIT w_FULL_CONSENSUS_PERMIT_EResolutionRule w_WEIGHTED w_OWNER_OVERRIDES w_OWNER_OVERRIDES_EResolutionRule w_SOURCE w_NO_THRESHOLD w_MAJORITY_PERMIT w_MAJORITY_PERMIT_EResolutionRule w_RESHARE_REFUSED w_WEIGHTED_EReason w_NOT_VIEWER w_UNNAMED w_SUPER_MAJORITY_PERMIT w_SUPER_MAJORITY_PERMIT_EResolutionRule w_STRONG_MAJORITY_PERMIT w_STRONG_MAJORITY_PERMIT_EResolutionRule) :
    MetFree l (⟨"com/example/kindred_consent/kindredconsent/engine/EReasonIsCountedPinLaw", "pick", "(I)Lcom/example/kindred_consent/kindredconsent/engine/EReason;"⟩ : MethodName) (head1 (Jvm.Cond.code (⟨"com/example/kindred_consent/kindredconsent/engine/EReasonIsCountedPinLaw", "pick", "(I)Lcom/example/kindred_consent/kindredconsent/engine/EReason;"⟩ : MethodName) method_2_code 1 (some (.object "com/example/kindred_consent/kindredconsent/engine/EReason")) :: ws) ({ frames := 0, cells := 0, slots := 0, locals := 0 } : Room)) (fun a U => a = #[(.int (11 : Int32))] ∧ Z.Warmed39 U.vm ∧ U.heap = h0) (fun _ _ _ _ _ => True) (fun _ U o U' => ∃ v L, o = .returned v ∧ Q_pick_11 Z w_CONTROLLER w_FULL_CONSENSUS_PERMIT w_FULL_CONSENSUS_PERMIT_EResolutionRule w_WEIGHTED w_OWNER_OVERRIDES w_OWNER_OVERRIDES_EResolutionRule w_SOURCE w_NO_THRESHOLD w_MAJORITY_PERMIT w_MAJORITY_PERMIT_EResolutionRule w_RESHARE_REFUSED w_WEIGHTED_EReason w_NOT_VIEWER w_UNNAMED w_SUPER_MAJORITY_PERMIT w_SUPER_MAJORITY_PERMIT_EResolutionRule w_STRONG_MAJORITY_PERMIT w_STRONG_MAJORITY_PERMIT_EResolutionRule h0 n0 v U'.heap L ∧ FrameEnd U o U' L ({ frames := 0, cells := 0, slots := 0, locals := 0 } : Room).cells ({ frames := 0, cells := 0, slots := 0, locals := 0 } : Room).slots) := by
  refine MetFree.of_bodySF (plainFor_of_name pn_com_example_kindred_consent_kindredconsent_engine_EReasonIsCountedPinLaw) hisR ?_
  intro p e s m args below meth c s₁ Bd hml0 hP hK
  obtain ⟨rfl, hZ, hh⟩ := hP
  have hx := Bd.exec
  have hby := Bd.bytes
  have hml : c.maxLocals = 1 := hml0
  have hown : s.vm.findClass "com/example/kindred_consent/kindredconsent/engine/EReasonIsCountedPinLaw" = some m.cls := findClass_of_methodNamed Bd.named
  have hnm := (name_of_methodNamed Bd.named Bd.method).1
  have X0 : Stand p l e ({ frames := 0, cells := 0, slots := 0, locals := 0 } : Room) s m #[(.int (11 : Int32))] below meth c s₁ [] 0 0 := Stand.of_body Bd
  have e0 : s₁.heap = h0 := by rw [← hh, Bd.state]; rfl
  have N0 := Fr.nil n0
  have pre0 : ∀ t, Steps p.tables e below (s₁.setTop (mkF m 0 #[.val (.int (11 : Int32))] [])) t → Steps p.tables e below (s₁.setTop (entryFrame m #[(.int (11 : Int32))] 1)) t := fun t k => castTop (ef_pick_11 m ) k
  have hE_ := hE; obtain ⟨S_w_CONTROLLER, E_w_CONTROLLER, S_w_FULL_CONSENSUS_PERMIT, E_w_FULL_CONSENSUS_PERMIT, S_w_FULL_CONSENSUS_PERMIT_EResolutionRule, E_w_FULL_CONSENSUS_PERMIT_EResolutionRule, S_w_WEIGHTED, E_w_WEIGHTED, S_w_OWNER_OVERRIDES, E_w_OWNER_OVERRIDES, S_w_OWNER_OVERRIDES_EResolutionRule, E_w_OWNER_OVERRIDES_EResolutionRule, S_w_SOURCE, E_w_SOURCE, S_w_NO_THRESHOLD, E_w_NO_THRESHOLD, S_w_MAJORITY_PERMIT, E_w_MAJORITY_PERMIT, S_w_MAJORITY_PERMIT_EResolutionRule, E_w_MAJORITY_PERMIT_EResolutionRule, S_w_RESHARE_REFUSED, E_w_RESHARE_REFUSED, S_w_WEIGHTED_EReason, E_w_WEIGHTED_EReason, S_w_NOT_VIEWER, E_w_NOT_VIEWER, S_w_UNNAMED, E_w_UNNAMED, S_w_SUPER_MAJORITY_PERMIT, E_w_SUPER_MAJORITY_PERMIT, S_w_SUPER_MAJORITY_PERMIT_EResolutionRule, E_w_SUPER_MAJORITY_PERMIT_EResolutionRule, S_w_STRONG_MAJORITY_PERMIT, E_w_STRONG_MAJORITY_PERMIT, S_w_STRONG_MAJORITY_PERMIT_EResolutionRule, E_w_STRONG_MAJORITY_PERMIT_EResolutionRule, F_m_eRule_w_CONTROLLER, F_m_eRule_w_FULL_CONSENSUS_PERMIT, F_ordinal_w_FULL_CONSENSUS_PERMIT_EResolutionRule, F_ordinal_w_WEIGHTED, F_m_eRule_w_OWNER_OVERRIDES, F_ordinal_w_OWNER_OVERRIDES_EResolutionRule, F_m_eRule_w_SOURCE, F_m_eRule_w_NO_THRESHOLD, F_m_eRule_w_MAJORITY_PERMIT, F_ordinal_w_MAJORITY_PERMIT_EResolutionRule, F_m_eRule_w_RESHARE_REFUSED, F_m_eRule_w_WEIGHTED_EReason, F_m_eRule_w_NOT_VIEWER, F_m_eRule_w_UNNAMED, F_m_eRule_w_SUPER_MAJORITY_PERMIT, F_ordinal_w_SUPER_MAJORITY_PERMIT_EResolutionRule, F_m_eRule_w_STRONG_MAJORITY_PERMIT, F_ordinal_w_STRONG_MAJORITY_PERMIT_EResolutionRule⟩ := hE_
  obtain ⟨T1, X1, e1, st1⟩ := getS2 X0 hx hZ hown (host := "") (Or.inl (hw _ (List.mem_of_getElem? (i := 26) rfl))) Via.refl e0 (S_w_NO_THRESHOLD.ext O0.2) (g := (mkF m 103 #[.val (.int (11 : Int32))] [])) rfl (hb hby d1_103)
  obtain ⟨fs, hr, hrun, hended, hW, hsame⟩ := X1.leave (v := some (.ref w_NO_THRESHOLD)) (fun h => by rw [Bd.returns] at h; cases h)
  refine ⟨_, _, pre0 _ ?_, hrun, hended, _, _, rfl, ?_, ⟨_, rfl⟩, hW, hsame.mono (by decide) (by decide)⟩
  · show Steps p.tables e below (s₁.setTop (mkF m 0 #[.val (.int (11 : Int32))] [])) _
    refine XS.iloadN X0.here hx rfl (hb hby d1_0) rfl ?_
    show Steps p.tables e below (s₁.setTop (mkF m 1 #[.val (.int (11 : Int32))] [(.int (11 : Int32))])) _
    refine XS.ifYes X0.here hx rfl (pc0 := 1) (pc' := 8) rfl (hb hby d1_1) rfl ((if0 _ _).trans (feq (by decide : ¬ ((11 : Int32) = (0 : Int32)))).2) (by decide) (by decide) ?_
    show Steps p.tables e below (s₁.setTop (mkF m 8 #[.val (.int (11 : Int32))] [])) _
    refine XS.iloadN X0.here hx rfl (hb hby d1_8) rfl ?_
    show Steps p.tables e below (s₁.setTop (mkF m 9 #[.val (.int (11 : Int32))] [(.int (11 : Int32))])) _
    refine XS.iconst X0.here hx rfl (hb hby d1_9) ?_
    show Steps p.tables e below (s₁.setTop (mkF m 10 #[.val (.int (11 : Int32))] [(.int (1 : Int32)), (.int (11 : Int32))])) _
    refine XS.icmpYes X0.here hx rfl (pc0 := 10) (pc' := 17) rfl (hb hby d1_10) rfl (feq (by decide : ¬ ((11 : Int32) = (1 : Int32)))).2 (by decide) (by decide) ?_
    show Steps p.tables e below (s₁.setTop (mkF m 17 #[.val (.int (11 : Int32))] [])) _
    refine XS.iloadN X0.here hx rfl (hb hby d1_17) rfl ?_
    show Steps p.tables e below (s₁.setTop (mkF m 18 #[.val (.int (11 : Int32))] [(.int (11 : Int32))])) _
    refine XS.iconst X0.here hx rfl (hb hby d1_18) ?_
    show Steps p.tables e below (s₁.setTop (mkF m 19 #[.val (.int (11 : Int32))] [(.int (2 : Int32)), (.int (11 : Int32))])) _
    refine XS.icmpYes X0.here hx rfl (pc0 := 19) (pc' := 26) rfl (hb hby d1_19) rfl (feq (by decide : ¬ ((11 : Int32) = (2 : Int32)))).2 (by decide) (by decide) ?_
    show Steps p.tables e below (s₁.setTop (mkF m 26 #[.val (.int (11 : Int32))] [])) _
    refine XS.iloadN X0.here hx rfl (hb hby d1_26) rfl ?_
    show Steps p.tables e below (s₁.setTop (mkF m 27 #[.val (.int (11 : Int32))] [(.int (11 : Int32))])) _
    refine XS.iconst X0.here hx rfl (hb hby d1_27) ?_
    show Steps p.tables e below (s₁.setTop (mkF m 28 #[.val (.int (11 : Int32))] [(.int (3 : Int32)), (.int (11 : Int32))])) _
    refine XS.icmpYes X0.here hx rfl (pc0 := 28) (pc' := 35) rfl (hb hby d1_28) rfl (feq (by decide : ¬ ((11 : Int32) = (3 : Int32)))).2 (by decide) (by decide) ?_
    show Steps p.tables e below (s₁.setTop (mkF m 35 #[.val (.int (11 : Int32))] [])) _
    refine XS.iloadN X0.here hx rfl (hb hby d1_35) rfl ?_
    show Steps p.tables e below (s₁.setTop (mkF m 36 #[.val (.int (11 : Int32))] [(.int (11 : Int32))])) _
    refine XS.iconst X0.here hx rfl (hb hby d1_36) ?_
    show Steps p.tables e below (s₁.setTop (mkF m 37 #[.val (.int (11 : Int32))] [(.int (4 : Int32)), (.int (11 : Int32))])) _
    refine XS.icmpYes X0.here hx rfl (pc0 := 37) (pc' := 44) rfl (hb hby d1_37) rfl (feq (by decide : ¬ ((11 : Int32) = (4 : Int32)))).2 (by decide) (by decide) ?_
    show Steps p.tables e below (s₁.setTop (mkF m 44 #[.val (.int (11 : Int32))] [])) _
    refine XS.iloadN X0.here hx rfl (hb hby d1_44) rfl ?_
    show Steps p.tables e below (s₁.setTop (mkF m 45 #[.val (.int (11 : Int32))] [(.int (11 : Int32))])) _
    refine XS.iconst X0.here hx rfl (hb hby d1_45) ?_
    show Steps p.tables e below (s₁.setTop (mkF m 46 #[.val (.int (11 : Int32))] [(.int (5 : Int32)), (.int (11 : Int32))])) _
    refine XS.icmpYes X0.here hx rfl (pc0 := 46) (pc' := 53) rfl (hb hby d1_46) rfl (feq (by decide : ¬ ((11 : Int32) = (5 : Int32)))).2 (by decide) (by decide) ?_
    show Steps p.tables e below (s₁.setTop (mkF m 53 #[.val (.int (11 : Int32))] [])) _
    refine XS.iloadN X0.here hx rfl (hb hby d1_53) rfl ?_
    show Steps p.tables e below (s₁.setTop (mkF m 54 #[.val (.int (11 : Int32))] [(.int (11 : Int32))])) _
    refine XS.bipush X0.here hx rfl (hb hby d1_54) ?_
    show Steps p.tables e below (s₁.setTop (mkF m 56 #[.val (.int (11 : Int32))] [(.int (6 : Int32)), (.int (11 : Int32))])) _
    refine XS.icmpYes X0.here hx rfl (pc0 := 56) (pc' := 63) rfl (hb hby d1_56) rfl (feq (by decide : ¬ ((11 : Int32) = (6 : Int32)))).2 (by decide) (by decide) ?_
    show Steps p.tables e below (s₁.setTop (mkF m 63 #[.val (.int (11 : Int32))] [])) _
    refine XS.iloadN X0.here hx rfl (hb hby d1_63) rfl ?_
    show Steps p.tables e below (s₁.setTop (mkF m 64 #[.val (.int (11 : Int32))] [(.int (11 : Int32))])) _
    refine XS.bipush X0.here hx rfl (hb hby d1_64) ?_
    show Steps p.tables e below (s₁.setTop (mkF m 66 #[.val (.int (11 : Int32))] [(.int (7 : Int32)), (.int (11 : Int32))])) _
    refine XS.icmpYes X0.here hx rfl (pc0 := 66) (pc' := 73) rfl (hb hby d1_66) rfl (feq (by decide : ¬ ((11 : Int32) = (7 : Int32)))).2 (by decide) (by decide) ?_
    show Steps p.tables e below (s₁.setTop (mkF m 73 #[.val (.int (11 : Int32))] [])) _
    refine XS.iloadN X0.here hx rfl (hb hby d1_73) rfl ?_
    show Steps p.tables e below (s₁.setTop (mkF m 74 #[.val (.int (11 : Int32))] [(.int (11 : Int32))])) _
    refine XS.bipush X0.here hx rfl (hb hby d1_74) ?_
    show Steps p.tables e below (s₁.setTop (mkF m 76 #[.val (.int (11 : Int32))] [(.int (8 : Int32)), (.int (11 : Int32))])) _
    refine XS.icmpYes X0.here hx rfl (pc0 := 76) (pc' := 83) rfl (hb hby d1_76) rfl (feq (by decide : ¬ ((11 : Int32) = (8 : Int32)))).2 (by decide) (by decide) ?_
    show Steps p.tables e below (s₁.setTop (mkF m 83 #[.val (.int (11 : Int32))] [])) _
    refine XS.iloadN X0.here hx rfl (hb hby d1_83) rfl ?_
    show Steps p.tables e below (s₁.setTop (mkF m 84 #[.val (.int (11 : Int32))] [(.int (11 : Int32))])) _
    refine XS.bipush X0.here hx rfl (hb hby d1_84) ?_
    show Steps p.tables e below (s₁.setTop (mkF m 86 #[.val (.int (11 : Int32))] [(.int (9 : Int32)), (.int (11 : Int32))])) _
    refine XS.icmpYes X0.here hx rfl (pc0 := 86) (pc' := 93) rfl (hb hby d1_86) rfl (feq (by decide : ¬ ((11 : Int32) = (9 : Int32)))).2 (by decide) (by decide) ?_
    show Steps p.tables e below (s₁.setTop (mkF m 93 #[.val (.int (11 : Int32))] [])) _
    refine XS.iloadN X0.here hx rfl (hb hby d1_93) rfl ?_
    show Steps p.tables e below (s₁.setTop (mkF m 94 #[.val (.int (11 : Int32))] [(.int (11 : Int32))])) _
    refine XS.bipush X0.here hx rfl (hb hby d1_94) ?_
    show Steps p.tables e below (s₁.setTop (mkF m 96 #[.val (.int (11 : Int32))] [(.int (10 : Int32)), (.int (11 : Int32))])) _
    refine XS.icmpYes X0.here hx rfl (pc0 := 96) (pc' := 103) rfl (hb hby d1_96) rfl (feq (by decide : ¬ ((11 : Int32) = (10 : Int32)))).2 (by decide) (by decide) ?_
    show Steps p.tables e below (s₁.setTop (mkF m 103 #[.val (.int (11 : Int32))] [])) _
    refine st1 _ ?_
    show Steps p.tables e below (T1.setTop (mkF m 106 #[.val (.int (11 : Int32))] [(.ref w_NO_THRESHOLD)])) _
    jvm_step X1.here [X1.here.top, hx, (hb hby d1_106), X1.method', Bd.returns, Value.isRef, FieldType.isReference]
    first | (intro acts; rw [hr _ acts rfl rfl rfl]) | rw [hr _ _ rfl rfl rfl]
    exact Steps.refl _
  · show Q_pick_11 Z w_CONTROLLER w_FULL_CONSENSUS_PERMIT w_FULL_CONSENSUS_PERMIT_EResolutionRule w_WEIGHTED w_OWNER_OVERRIDES w_OWNER_OVERRIDES_EResolutionRule w_SOURCE w_NO_THRESHOLD w_MAJORITY_PERMIT w_MAJORITY_PERMIT_EResolutionRule w_RESHARE_REFUSED w_WEIGHTED_EReason w_NOT_VIEWER w_UNNAMED w_SUPER_MAJORITY_PERMIT w_SUPER_MAJORITY_PERMIT_EResolutionRule w_STRONG_MAJORITY_PERMIT w_STRONG_MAJORITY_PERMIT_EResolutionRule h0 n0 _ T1.heap _
    rw [e1]
    exact ⟨rfl, N0, rfl⟩
theorem ef_ic_NO_THRESHOLD (m : MethodId) (w_NO_THRESHOLD : Addr) : entryFrame m #[(.ref w_NO_THRESHOLD)] 1 = mkF m 0 #[.val (.ref w_NO_THRESHOLD)] [] := by first | (simp [entryFrame, mkF, argsToLocals, Value.category]; done) | rfl
def Q_ic_NO_THRESHOLD (Z : State) (w_CONTROLLER w_FULL_CONSENSUS_PERMIT w_FULL_CONSENSUS_PERMIT_EResolutionRule w_WEIGHTED w_OWNER_OVERRIDES w_OWNER_OVERRIDES_EResolutionRule w_SOURCE w_NO_THRESHOLD w_MAJORITY_PERMIT w_MAJORITY_PERMIT_EResolutionRule w_RESHARE_REFUSED w_WEIGHTED_EReason w_NOT_VIEWER w_UNNAMED w_SUPER_MAJORITY_PERMIT w_SUPER_MAJORITY_PERMIT_EResolutionRule w_STRONG_MAJORITY_PERMIT w_STRONG_MAJORITY_PERMIT_EResolutionRule : Addr) (h0 : Heap) (n0 : Nat) (v : Option Value) (h : Heap) (L : List Loc) : Prop := v = some (.int (0 : Int32)) ∧ Fr n0 L ∧ h = h0
set_option maxRecDepth 65536 in
set_option maxHeartbeats 40000000 in
theorem ic_NO_THRESHOLD (l : Launch) (Z : State) (a0 : Array Value) (hw : ∀ d ∈ tables_1, d.before a0 Z = true) (ws : List Jvm.Cond) (w_CONTROLLER w_FULL_CONSENSUS_PERMIT w_FULL_CONSENSUS_PERMIT_EResolutionRule w_WEIGHTED w_OWNER_OVERRIDES w_OWNER_OVERRIDES_EResolutionRule w_SOURCE w_NO_THRESHOLD w_MAJORITY_PERMIT w_MAJORITY_PERMIT_EResolutionRule w_RESHARE_REFUSED w_WEIGHTED_EReason w_NOT_VIEWER w_UNNAMED w_SUPER_MAJORITY_PERMIT w_SUPER_MAJORITY_PERMIT_EResolutionRule w_STRONG_MAJORITY_PERMIT w_STRONG_MAJORITY_PERMIT_EResolutionRule : Addr) (h0 : Heap) (n0 : Nat) (O0 : Old Z n0 h0) (hE : OwnEnv Z w_CONTROLLER w_FULL_CONSENSUS_PERMIT w_FULL_CONSENSUS_PERMIT_EResolutionRule w_WEIGHTED w_OWNER_OVERRIDES w_OWNER_OVERRIDES_EResolutionRule w_SOURCE w_NO_THRESHOLD w_MAJORITY_PERMIT w_MAJORITY_PERMIT_EResolutionRule w_RESHARE_REFUSED w_WEIGHTED_EReason w_NOT_VIEWER w_UNNAMED w_SUPER_MAJORITY_PERMIT w_SUPER_MAJORITY_PERMIT_EResolutionRule w_STRONG_MAJORITY_PERMIT w_STRONG_MAJORITY_PERMIT_EResolutionRule) :
    MetFree l (⟨"com/example/kindred_consent/kindredconsent/engine/EReason", "isCounted", "()Z"⟩ : MethodName) (head1 (Jvm.Cond.code (⟨"com/example/kindred_consent/kindredconsent/engine/EReason", "isCounted", "()Z"⟩ : MethodName) prog_7_method_7_code 1 (some .boolean) :: ws) ({ frames := 0, cells := 0, slots := 0, locals := 0 } : Room)) (fun a U => a = #[(.ref w_NO_THRESHOLD)] ∧ Z.Warmed39 U.vm ∧ U.heap = h0) (fun _ _ _ _ _ => True) (fun _ U o U' => ∃ v L, o = .returned v ∧ Q_ic_NO_THRESHOLD Z w_CONTROLLER w_FULL_CONSENSUS_PERMIT w_FULL_CONSENSUS_PERMIT_EResolutionRule w_WEIGHTED w_OWNER_OVERRIDES w_OWNER_OVERRIDES_EResolutionRule w_SOURCE w_NO_THRESHOLD w_MAJORITY_PERMIT w_MAJORITY_PERMIT_EResolutionRule w_RESHARE_REFUSED w_WEIGHTED_EReason w_NOT_VIEWER w_UNNAMED w_SUPER_MAJORITY_PERMIT w_SUPER_MAJORITY_PERMIT_EResolutionRule w_STRONG_MAJORITY_PERMIT w_STRONG_MAJORITY_PERMIT_EResolutionRule h0 n0 v U'.heap L ∧ FrameEnd U o U' L ({ frames := 0, cells := 0, slots := 0, locals := 0 } : Room).cells ({ frames := 0, cells := 0, slots := 0, locals := 0 } : Room).slots) := by
  refine MetFree.of_bodySF (plainFor_of_name pn_com_example_kindred_consent_kindredconsent_engine_EReason) hisR ?_
  intro p e s m args below meth c s₁ Bd hml0 hP hK
  obtain ⟨rfl, hZ, hh⟩ := hP
  have hx := Bd.exec
  have hby := Bd.bytes
  have hml : c.maxLocals = 1 := hml0
  have hown : s.vm.findClass "com/example/kindred_consent/kindredconsent/engine/EReason" = some m.cls := findClass_of_methodNamed Bd.named
  have hnm := (name_of_methodNamed Bd.named Bd.method).1
  have X0 : Stand p l e ({ frames := 0, cells := 0, slots := 0, locals := 0 } : Room) s m #[(.ref w_NO_THRESHOLD)] below meth c s₁ [] 0 0 := Stand.of_body Bd
  have e0 : s₁.heap = h0 := by rw [← hh, Bd.state]; rfl
  have N0 := Fr.nil n0
  have pre0 : ∀ t, Steps p.tables e below (s₁.setTop (mkF m 0 #[.val (.ref w_NO_THRESHOLD)] [])) t → Steps p.tables e below (s₁.setTop (entryFrame m #[(.ref w_NO_THRESHOLD)] 1)) t := fun t k => castTop (ef_ic_NO_THRESHOLD m w_NO_THRESHOLD) k
  have hE_ := hE; obtain ⟨S_w_CONTROLLER, E_w_CONTROLLER, S_w_FULL_CONSENSUS_PERMIT, E_w_FULL_CONSENSUS_PERMIT, S_w_FULL_CONSENSUS_PERMIT_EResolutionRule, E_w_FULL_CONSENSUS_PERMIT_EResolutionRule, S_w_WEIGHTED, E_w_WEIGHTED, S_w_OWNER_OVERRIDES, E_w_OWNER_OVERRIDES, S_w_OWNER_OVERRIDES_EResolutionRule, E_w_OWNER_OVERRIDES_EResolutionRule, S_w_SOURCE, E_w_SOURCE, S_w_NO_THRESHOLD, E_w_NO_THRESHOLD, S_w_MAJORITY_PERMIT, E_w_MAJORITY_PERMIT, S_w_MAJORITY_PERMIT_EResolutionRule, E_w_MAJORITY_PERMIT_EResolutionRule, S_w_RESHARE_REFUSED, E_w_RESHARE_REFUSED, S_w_WEIGHTED_EReason, E_w_WEIGHTED_EReason, S_w_NOT_VIEWER, E_w_NOT_VIEWER, S_w_UNNAMED, E_w_UNNAMED, S_w_SUPER_MAJORITY_PERMIT, E_w_SUPER_MAJORITY_PERMIT, S_w_SUPER_MAJORITY_PERMIT_EResolutionRule, E_w_SUPER_MAJORITY_PERMIT_EResolutionRule, S_w_STRONG_MAJORITY_PERMIT, E_w_STRONG_MAJORITY_PERMIT, S_w_STRONG_MAJORITY_PERMIT_EResolutionRule, E_w_STRONG_MAJORITY_PERMIT_EResolutionRule, F_m_eRule_w_CONTROLLER, F_m_eRule_w_FULL_CONSENSUS_PERMIT, F_ordinal_w_FULL_CONSENSUS_PERMIT_EResolutionRule, F_ordinal_w_WEIGHTED, F_m_eRule_w_OWNER_OVERRIDES, F_ordinal_w_OWNER_OVERRIDES_EResolutionRule, F_m_eRule_w_SOURCE, F_m_eRule_w_NO_THRESHOLD, F_m_eRule_w_MAJORITY_PERMIT, F_ordinal_w_MAJORITY_PERMIT_EResolutionRule, F_m_eRule_w_RESHARE_REFUSED, F_m_eRule_w_WEIGHTED_EReason, F_m_eRule_w_NOT_VIEWER, F_m_eRule_w_UNNAMED, F_m_eRule_w_SUPER_MAJORITY_PERMIT, F_ordinal_w_SUPER_MAJORITY_PERMIT_EResolutionRule, F_m_eRule_w_STRONG_MAJORITY_PERMIT, F_ordinal_w_STRONG_MAJORITY_PERMIT_EResolutionRule⟩ := hE_
  obtain ⟨T1, X1, e1, st1⟩ := getF X0 hx hZ hown (host := "") (Or.inl (hw _ (List.mem_of_getElem? (i := 13) rfl))) Via.refl e0 (F_m_eRule_w_NO_THRESHOLD.ext O0.2) (g := (mkF m 1 #[.val (.ref w_NO_THRESHOLD)] [(.ref w_NO_THRESHOLD)])) rfl rfl (hb hby d2_1)
  obtain ⟨fs, hr, hrun, hended, hW, hsame⟩ := X1.leave (v := some (.int (0 : Int32))) (fun h => by rw [Bd.returns] at h; cases h)
  refine ⟨_, _, pre0 _ ?_, hrun, hended, _, _, rfl, ?_, ⟨_, rfl⟩, hW, hsame.mono (by decide) (by decide)⟩
  · show Steps p.tables e below (s₁.setTop (mkF m 0 #[.val (.ref w_NO_THRESHOLD)] [])) _
    refine XS.aloadN X0.here hx rfl (hb hby d2_0) rfl rfl ?_
    show Steps p.tables e below (s₁.setTop (mkF m 1 #[.val (.ref w_NO_THRESHOLD)] [(.ref w_NO_THRESHOLD)])) _
    refine st1 _ ?_
    show Steps p.tables e below (T1.setTop (mkF m 4 #[.val (.ref w_NO_THRESHOLD)] [.null])) _
    refine XS.ifnullYes X1.here hx rfl (pc0 := 4) (pc' := 21) rfl (hb hby d2_4) rfl (by decide) (by decide) ?_
    show Steps p.tables e below (T1.setTop (mkF m 21 #[.val (.ref w_NO_THRESHOLD)] [])) _
    refine XS.iconst X1.here hx rfl (hb hby d2_21) ?_
    show Steps p.tables e below (T1.setTop (mkF m 22 #[.val (.ref w_NO_THRESHOLD)] [(.int (0 : Int32))])) _
    exact retN X1 hx (t := .boolean) Bd.returns (by simp) (hb hby d2_22) hr
  · show Q_ic_NO_THRESHOLD Z w_CONTROLLER w_FULL_CONSENSUS_PERMIT w_FULL_CONSENSUS_PERMIT_EResolutionRule w_WEIGHTED w_OWNER_OVERRIDES w_OWNER_OVERRIDES_EResolutionRule w_SOURCE w_NO_THRESHOLD w_MAJORITY_PERMIT w_MAJORITY_PERMIT_EResolutionRule w_RESHARE_REFUSED w_WEIGHTED_EReason w_NOT_VIEWER w_UNNAMED w_SUPER_MAJORITY_PERMIT w_SUPER_MAJORITY_PERMIT_EResolutionRule w_STRONG_MAJORITY_PERMIT w_STRONG_MAJORITY_PERMIT_EResolutionRule h0 n0 _ T1.heap _
    rw [e1]
    exact ⟨rfl, N0, rfl⟩
theorem ef_rm0 (m : MethodId) (p1 : Int32) : entryFrame m #[(.int p1)] maxLocals = mkF m 0 #[.val (.int p1), .unset, .unset, .unset] [] := by first | (simp [entryFrame, mkF, argsToLocals, Value.category, maxLocals]; done) | rfl
def Q_rm0 (Z : State) (p1 : Int32) (w_CONTROLLER w_FULL_CONSENSUS_PERMIT w_FULL_CONSENSUS_PERMIT_EResolutionRule w_WEIGHTED w_OWNER_OVERRIDES w_OWNER_OVERRIDES_EResolutionRule w_SOURCE w_NO_THRESHOLD w_MAJORITY_PERMIT w_MAJORITY_PERMIT_EResolutionRule w_RESHARE_REFUSED w_WEIGHTED_EReason w_NOT_VIEWER w_UNNAMED w_SUPER_MAJORITY_PERMIT w_SUPER_MAJORITY_PERMIT_EResolutionRule w_STRONG_MAJORITY_PERMIT w_STRONG_MAJORITY_PERMIT_EResolutionRule : Addr) (h0 : Heap) (n0 : Nat) (v : Option Value) (h : Heap) (L : List Loc) : Prop := v = some (.int (1 : Int32)) ∧ Fr n0 L
set_option maxRecDepth 65536 in
set_option maxHeartbeats 40000000 in
theorem rm0 (l : Launch) (Z : State) (a0 : Array Value) (hw : ∀ d ∈ tables_1, d.before a0 Z = true) (ws : List Jvm.Cond) (p1 : Int32) (w_CONTROLLER w_FULL_CONSENSUS_PERMIT w_FULL_CONSENSUS_PERMIT_EResolutionRule w_WEIGHTED w_OWNER_OVERRIDES w_OWNER_OVERRIDES_EResolutionRule w_SOURCE w_NO_THRESHOLD w_MAJORITY_PERMIT w_MAJORITY_PERMIT_EResolutionRule w_RESHARE_REFUSED w_WEIGHTED_EReason w_NOT_VIEWER w_UNNAMED w_SUPER_MAJORITY_PERMIT w_SUPER_MAJORITY_PERMIT_EResolutionRule w_STRONG_MAJORITY_PERMIT w_STRONG_MAJORITY_PERMIT_EResolutionRule : Addr) (h0 : Heap) (n0 : Nat) (O0 : Old Z n0 h0) (hE : OwnEnv Z w_CONTROLLER w_FULL_CONSENSUS_PERMIT w_FULL_CONSENSUS_PERMIT_EResolutionRule w_WEIGHTED w_OWNER_OVERRIDES w_OWNER_OVERRIDES_EResolutionRule w_SOURCE w_NO_THRESHOLD w_MAJORITY_PERMIT w_MAJORITY_PERMIT_EResolutionRule w_RESHARE_REFUSED w_WEIGHTED_EReason w_NOT_VIEWER w_UNNAMED w_SUPER_MAJORITY_PERMIT w_SUPER_MAJORITY_PERMIT_EResolutionRule w_STRONG_MAJORITY_PERMIT w_STRONG_MAJORITY_PERMIT_EResolutionRule) :
    MetFree l x (head1 (Jvm.Cond.code x code maxLocals ret :: ws) room_1) (fun a U => a = #[(.int p1)] ∧ Z.Warmed39 U.vm ∧ U.heap = h0) (fun _ _ _ _ _ => True) (fun _ U o U' => ∃ v L, o = .returned v ∧ Q_rm0 Z p1 w_CONTROLLER w_FULL_CONSENSUS_PERMIT w_FULL_CONSENSUS_PERMIT_EResolutionRule w_WEIGHTED w_OWNER_OVERRIDES w_OWNER_OVERRIDES_EResolutionRule w_SOURCE w_NO_THRESHOLD w_MAJORITY_PERMIT w_MAJORITY_PERMIT_EResolutionRule w_RESHARE_REFUSED w_WEIGHTED_EReason w_NOT_VIEWER w_UNNAMED w_SUPER_MAJORITY_PERMIT w_SUPER_MAJORITY_PERMIT_EResolutionRule w_STRONG_MAJORITY_PERMIT w_STRONG_MAJORITY_PERMIT_EResolutionRule h0 n0 v U'.heap L ∧ FrameEnd U o U' L room_1.cells room_1.slots) := by
  refine MetFree.of_bodySF (plainFor_of_name pn_com_example_kindred_consent_kindredconsent_engine_EReasonIsCountedPinLaw) hisR ?_
  intro p e s m args below meth c s₁ Bd hml0 hP hK
  obtain ⟨rfl, hZ, hh⟩ := hP
  have hx := Bd.exec
  have hby := Bd.bytes
  have hml : c.maxLocals = 4 := hml0
  have hown : s.vm.findClass "com/example/kindred_consent/kindredconsent/engine/EReasonIsCountedPinLaw" = some m.cls := findClass_of_methodNamed Bd.named
  have hnm := (name_of_methodNamed Bd.named Bd.method).1
  have X0 : Stand p l e room_1 s m #[(.int p1)] below meth c s₁ [] 0 0 := Stand.of_body Bd
  have e0 : s₁.heap = h0 := by rw [← hh, Bd.state]; rfl
  have N0 := Fr.nil n0
  have pre0 : ∀ t, Steps p.tables e below (s₁.setTop (mkF m 0 #[.val (.int p1), .unset, .unset, .unset] [])) t → Steps p.tables e below (s₁.setTop (entryFrame m #[(.int p1)] maxLocals)) t := fun t k => castTop (ef_rm0 m p1) k
  have hE_ := hE; obtain ⟨S_w_CONTROLLER, E_w_CONTROLLER, S_w_FULL_CONSENSUS_PERMIT, E_w_FULL_CONSENSUS_PERMIT, S_w_FULL_CONSENSUS_PERMIT_EResolutionRule, E_w_FULL_CONSENSUS_PERMIT_EResolutionRule, S_w_WEIGHTED, E_w_WEIGHTED, S_w_OWNER_OVERRIDES, E_w_OWNER_OVERRIDES, S_w_OWNER_OVERRIDES_EResolutionRule, E_w_OWNER_OVERRIDES_EResolutionRule, S_w_SOURCE, E_w_SOURCE, S_w_NO_THRESHOLD, E_w_NO_THRESHOLD, S_w_MAJORITY_PERMIT, E_w_MAJORITY_PERMIT, S_w_MAJORITY_PERMIT_EResolutionRule, E_w_MAJORITY_PERMIT_EResolutionRule, S_w_RESHARE_REFUSED, E_w_RESHARE_REFUSED, S_w_WEIGHTED_EReason, E_w_WEIGHTED_EReason, S_w_NOT_VIEWER, E_w_NOT_VIEWER, S_w_UNNAMED, E_w_UNNAMED, S_w_SUPER_MAJORITY_PERMIT, E_w_SUPER_MAJORITY_PERMIT, S_w_SUPER_MAJORITY_PERMIT_EResolutionRule, E_w_SUPER_MAJORITY_PERMIT_EResolutionRule, S_w_STRONG_MAJORITY_PERMIT, E_w_STRONG_MAJORITY_PERMIT, S_w_STRONG_MAJORITY_PERMIT_EResolutionRule, E_w_STRONG_MAJORITY_PERMIT_EResolutionRule, F_m_eRule_w_CONTROLLER, F_m_eRule_w_FULL_CONSENSUS_PERMIT, F_ordinal_w_FULL_CONSENSUS_PERMIT_EResolutionRule, F_ordinal_w_WEIGHTED, F_m_eRule_w_OWNER_OVERRIDES, F_ordinal_w_OWNER_OVERRIDES_EResolutionRule, F_m_eRule_w_SOURCE, F_m_eRule_w_NO_THRESHOLD, F_m_eRule_w_MAJORITY_PERMIT, F_ordinal_w_MAJORITY_PERMIT_EResolutionRule, F_m_eRule_w_RESHARE_REFUSED, F_m_eRule_w_WEIGHTED_EReason, F_m_eRule_w_NOT_VIEWER, F_m_eRule_w_UNNAMED, F_m_eRule_w_SUPER_MAJORITY_PERMIT, F_ordinal_w_SUPER_MAJORITY_PERMIT_EResolutionRule, F_m_eRule_w_STRONG_MAJORITY_PERMIT, F_ordinal_w_STRONG_MAJORITY_PERMIT_EResolutionRule⟩ := hE_
  have pre1 : ∀ t, Steps p.tables e below (s₁.setTop (mkF m 8 #[.val (.int p1), .val (.int ((p1 &&& (2147483647 : Int32)) % (12 : Int32))), .unset, .unset] [])) t → Steps p.tables e below (s₁.setTop (entryFrame m #[(.int p1)] maxLocals)) t := by
    intro t kt
    refine pre0 _ ?_
    show Steps p.tables e below (s₁.setTop (mkF m 0 #[.val (.int p1), .unset, .unset, .unset] [])) _
    refine XS.iloadN X0.here hx rfl (hb hby at_0) rfl ?_
    show Steps p.tables e below (s₁.setTop (mkF m 1 #[.val (.int p1), .unset, .unset, .unset] [(.int p1)])) _
    refine X0.ldcInt hx hown (mvT hZ (hw _ (List.mem_of_getElem? (i := 0) rfl))) (g := (mkF m 1 #[.val (.int p1), .unset, .unset, .unset] [(.int p1)])) rfl (hb hby at_1) _ ?_
    show Steps p.tables e below (s₁.setTop (mkF m 3 #[.val (.int p1), .unset, .unset, .unset] [(.int (2147483647 : Int32)), (.int p1)])) _
    refine XS.iand X0.here hx rfl (hb hby at_3) rfl ?_
    show Steps p.tables e below (s₁.setTop (mkF m 4 #[.val (.int p1), .unset, .unset, .unset] [(.int (p1 &&& (2147483647 : Int32)))])) _
    refine XS.bipush X0.here hx rfl (hb hby at_4) ?_
    show Steps p.tables e below (s₁.setTop (mkF m 6 #[.val (.int p1), .unset, .unset, .unset] [(.int (12 : Int32)), (.int (p1 &&& (2147483647 : Int32)))])) _
    refine iremM X0 hx (g := (mkF m 6 #[.val (.int p1), .unset, .unset, .unset] [(.int (12 : Int32)), (.int (p1 &&& (2147483647 : Int32)))])) rfl (hb hby at_6) rfl (by decide) ?_
    show Steps p.tables e below (s₁.setTop (mkF m 7 #[.val (.int p1), .unset, .unset, .unset] [(.int ((p1 &&& (2147483647 : Int32)) % (12 : Int32)))])) _
    refine XS.istoreN X0.here hx rfl (hb hby at_7) rfl (l' := #[.val (.int p1), .val (.int ((p1 &&& (2147483647 : Int32)) % (12 : Int32))), .unset, .unset]) rfl ?_
    exact kt
  rcases own_k p1 with hv2 | hv2 | hv2 | hv2 | hv2 | hv2 | hv2 | hv2 | hv2 | hv2 | hv2 | hv2
  · rw [hv2] at pre1
    obtain ⟨_, _, ⟨T3, L3, k3, n3⟩, -, X3, ⟨Lc3, hQ3, l3, y3, z3⟩, st3⟩ := Jvm.LawKit.callS X0 hx (y := (⟨"com/example/kindred_consent/kindredconsent/engine/EReasonIsCountedPinLaw", "pick", "(I)Lcom/example/kindred_consent/kindredconsent/engine/EReason;"⟩ : MethodName)) hown (mvT hZ (hw _ (List.mem_of_getElem? (i := 1) rfl))) (mvT hZ (hw _ (List.mem_of_getElem? (i := 2) rfl))) (mvT hZ (hw _ (List.mem_of_getElem? (i := 3) rfl))) (mvT hZ (hw _ (List.mem_of_getElem? (i := 4) rfl))) (by decide) (backOf (W := 0) (pick_0 l Z a0 hw [] w_CONTROLLER w_FULL_CONSENSUS_PERMIT w_FULL_CONSENSUS_PERMIT_EResolutionRule w_WEIGHTED w_OWNER_OVERRIDES w_OWNER_OVERRIDES_EResolutionRule w_SOURCE w_NO_THRESHOLD w_MAJORITY_PERMIT w_MAJORITY_PERMIT_EResolutionRule w_RESHARE_REFUSED w_WEIGHTED_EReason w_NOT_VIEWER w_UNNAMED w_SUPER_MAJORITY_PERMIT w_SUPER_MAJORITY_PERMIT_EResolutionRule w_STRONG_MAJORITY_PERMIT w_STRONG_MAJORITY_PERMIT_EResolutionRule h0 n0 O0 hE) hZ (hw _ (List.mem_of_getElem? (i := 4) rfl)) (hw _ (List.mem_of_getElem? (i := 3) rfl)) (by decide) (by decide)) (g := (mkF m 9 #[.val (.int p1), .val (.int (0 : Int32)), .unset, .unset] [(.int (0 : Int32))])) rfl (by rw [hml]; rfl) (argsL := [(.int (0 : Int32))]) (rest := []) (lenOf pd__I_Lcom_example_kindred_consent_kindredconsent_engine_EReason_ rfl) rfl (by show 2 * 0 + _ ≤ _; exact Nat.le_of_eq rfl) (hb hby at_9) (fun _ _ => ⟨rfl, e0, (by decide : 0 + 0 ≤ _), (by decide : 0 + 0 ≤ _)⟩)
    dsimp only [Pt.U, Pt.locs, Pt.cells, Pt.slots] at X3 l3 y3 z3 st3 hQ3
    subst l3 y3 z3
    obtain ⟨rfl, Nq3, eq3⟩ := hQ3
    have N3 := Fr.app N0 Nq3
    obtain ⟨cq4, kq4, q4a, q4b, q4c⟩ := isOf hZ eq3 (E_w_CONTROLLER.ext O0.2)
    obtain ⟨_, _, ⟨T4, L4, k4, n4⟩, -, X4, ⟨Lc4, hQ4, l4, y4, z4⟩, st4⟩ := X3.virtualBack hx (y := (⟨"com/example/kindred_consent/kindredconsent/engine/EReason", "isCounted", "()Z"⟩ : MethodName)) (z := (⟨"com/example/kindred_consent/kindredconsent/engine/EReason", "isCounted", "()Z"⟩ : MethodName)) hown (mvT hZ (hw _ (List.mem_of_getElem? (i := 8) rfl))) (mvT hZ (hw _ (List.mem_of_getElem? (i := 9) rfl))) (notFace_of_selects (args := #[]) (mvT hZ (hw _ (List.mem_of_getElem? (i := 11) rfl)))) (mvT hZ (hw _ (List.mem_of_getElem? (i := 11) rfl))) (mvT hZ (hw _ (List.mem_of_getElem? (i := 10) rfl))) (by decide) (backOf (W := 0) (ic_CONTROLLER l Z a0 hw [] w_CONTROLLER w_FULL_CONSENSUS_PERMIT w_FULL_CONSENSUS_PERMIT_EResolutionRule w_WEIGHTED w_OWNER_OVERRIDES w_OWNER_OVERRIDES_EResolutionRule w_SOURCE w_NO_THRESHOLD w_MAJORITY_PERMIT w_MAJORITY_PERMIT_EResolutionRule w_RESHARE_REFUSED w_WEIGHTED_EReason w_NOT_VIEWER w_UNNAMED w_SUPER_MAJORITY_PERMIT w_SUPER_MAJORITY_PERMIT_EResolutionRule w_STRONG_MAJORITY_PERMIT w_STRONG_MAJORITY_PERMIT_EResolutionRule h0 n0 O0 hE) hZ (hw _ (List.mem_of_getElem? (i := 12) rfl)) (hw _ (List.mem_of_getElem? (i := 6) rfl)) (by decide) (by decide)) q4a q4c (g := (mkF m 31 #[.val (.int p1), .val (.int (0 : Int32)), .val (.ref w_CONTROLLER), .val (.int (0 : Int32))] [(.ref w_CONTROLLER)])) rfl (by rw [hml]; rfl) (Steps.refl _) (argsL := []) (rest := []) (lenOf pd___Z rfl) rfl (by show 2 * 0 + _ ≤ _; exact Nat.le_of_eq rfl) (hb hby at_31) (fun _ _ => ⟨rfl, eq3, (by decide : 0 + 0 ≤ _), (by decide : 0 + 0 ≤ _)⟩)
    dsimp only [Pt.U, Pt.locs, Pt.cells, Pt.slots] at X4 l4 y4 z4 st4 hQ4
    subst l4 y4 z4
    obtain ⟨rfl, Nq4, eq4⟩ := hQ4
    have N4 := Fr.app N3 Nq4
    obtain ⟨fs, hr, hrun, hended, hW, hsame⟩ := X4.leave (v := some (.int (1 : Int32))) (fun h => by rw [Bd.returns] at h; cases h)
    refine ⟨_, _, pre1 _ ?_, hrun, hended, _, _, rfl, ?_, ⟨_, rfl⟩, hW, hsame.mono (by decide) (by decide)⟩
    · show Steps p.tables e below (s₁.setTop (mkF m 8 #[.val (.int p1), .val (.int (0 : Int32)), .unset, .unset] [])) _
      refine XS.iloadN X0.here hx rfl (hb hby at_8) rfl ?_
      show Steps p.tables e below (s₁.setTop (mkF m 9 #[.val (.int p1), .val (.int (0 : Int32)), .unset, .unset] [(.int (0 : Int32))])) _
      refine st3 _ ?_
      show Steps p.tables e below (T3.setTop (mkF m 12 #[.val (.int p1), .val (.int (0 : Int32)), .unset, .unset] [(.ref w_CONTROLLER)])) _
      refine XS.astoreN X3.here hx rfl (hb hby at_12) rfl rfl (l' := #[.val (.int p1), .val (.int (0 : Int32)), .val (.ref w_CONTROLLER), .unset]) rfl ?_
      show Steps p.tables e below (T3.setTop (mkF m 13 #[.val (.int p1), .val (.int (0 : Int32)), .val (.ref w_CONTROLLER), .unset] [])) _
      refine XS.iloadN X3.here hx rfl (hb hby at_13) rfl ?_
      show Steps p.tables e below (T3.setTop (mkF m 14 #[.val (.int p1), .val (.int (0 : Int32)), .val (.ref w_CONTROLLER), .unset] [(.int (0 : Int32))])) _
      refine XS.iconst X3.here hx rfl (hb hby at_14) ?_
      show Steps p.tables e below (T3.setTop (mkF m 15 #[.val (.int p1), .val (.int (0 : Int32)), .val (.ref w_CONTROLLER), .unset] [(.int (2 : Int32)), (.int (0 : Int32))])) _
      refine XS.icmpYes X3.here hx rfl (pc0 := 15) (pc' := 28) rfl (hb hby at_15) rfl (tlt (by decide : (0 : Int32) < (2 : Int32))).1 (by decide) (by decide) ?_
      show Steps p.tables e below (T3.setTop (mkF m 28 #[.val (.int p1), .val (.int (0 : Int32)), .val (.ref w_CONTROLLER), .unset] [])) _
      refine XS.iconst X3.here hx rfl (hb hby at_28) ?_
      show Steps p.tables e below (T3.setTop (mkF m 29 #[.val (.int p1), .val (.int (0 : Int32)), .val (.ref w_CONTROLLER), .unset] [(.int (0 : Int32))])) _
      refine XS.istoreN X3.here hx rfl (hb hby at_29) rfl (l' := #[.val (.int p1), .val (.int (0 : Int32)), .val (.ref w_CONTROLLER), .val (.int (0 : Int32))]) rfl ?_
      show Steps p.tables e below (T3.setTop (mkF m 30 #[.val (.int p1), .val (.int (0 : Int32)), .val (.ref w_CONTROLLER), .val (.int (0 : Int32))] [])) _
      refine XS.aloadN X3.here hx rfl (hb hby at_30) rfl rfl ?_
      show Steps p.tables e below (T3.setTop (mkF m 31 #[.val (.int p1), .val (.int (0 : Int32)), .val (.ref w_CONTROLLER), .val (.int (0 : Int32))] [(.ref w_CONTROLLER)])) _
      refine st4.trans ?_
      show Steps p.tables e below (T4.setTop (mkF m 34 #[.val (.int p1), .val (.int (0 : Int32)), .val (.ref w_CONTROLLER), .val (.int (0 : Int32))] [(.int (0 : Int32))])) _
      refine XS.iloadN X4.here hx rfl (hb hby at_34) rfl ?_
      show Steps p.tables e below (T4.setTop (mkF m 35 #[.val (.int p1), .val (.int (0 : Int32)), .val (.ref w_CONTROLLER), .val (.int (0 : Int32))] [(.int (0 : Int32)), (.int (0 : Int32))])) _
      refine XS.icmpNo X4.here hx rfl (hb hby at_35) rfl (teq (by decide : (0 : Int32) = (0 : Int32))).2 ?_
      show Steps p.tables e below (T4.setTop (mkF m 38 #[.val (.int p1), .val (.int (0 : Int32)), .val (.ref w_CONTROLLER), .val (.int (0 : Int32))] [])) _
      refine XS.iconst X4.here hx rfl (hb hby at_38) ?_
      show Steps p.tables e below (T4.setTop (mkF m 39 #[.val (.int p1), .val (.int (0 : Int32)), .val (.ref w_CONTROLLER), .val (.int (0 : Int32))] [(.int (1 : Int32))])) _
      refine XS.goto X4.here hx rfl (pc0 := 39) (pc' := 43) rfl (hb hby at_39) (by decide) (by decide) ?_
      show Steps p.tables e below (T4.setTop (mkF m 43 #[.val (.int p1), .val (.int (0 : Int32)), .val (.ref w_CONTROLLER), .val (.int (0 : Int32))] [(.int (1 : Int32))])) _
      exact retN X4 hx (t := .boolean) Bd.returns (by simp) (hb hby at_43) hr
    · show Q_rm0 Z p1 w_CONTROLLER w_FULL_CONSENSUS_PERMIT w_FULL_CONSENSUS_PERMIT_EResolutionRule w_WEIGHTED w_OWNER_OVERRIDES w_OWNER_OVERRIDES_EResolutionRule w_SOURCE w_NO_THRESHOLD w_MAJORITY_PERMIT w_MAJORITY_PERMIT_EResolutionRule w_RESHARE_REFUSED w_WEIGHTED_EReason w_NOT_VIEWER w_UNNAMED w_SUPER_MAJORITY_PERMIT w_SUPER_MAJORITY_PERMIT_EResolutionRule w_STRONG_MAJORITY_PERMIT w_STRONG_MAJORITY_PERMIT_EResolutionRule h0 n0 _ T4.heap _
      rw [eq4]
      exact ⟨rfl, N4⟩
  · rw [hv2] at pre1
    obtain ⟨_, _, ⟨T5, L5, k5, n5⟩, -, X5, ⟨Lc5, hQ5, l5, y5, z5⟩, st5⟩ := Jvm.LawKit.callS X0 hx (y := (⟨"com/example/kindred_consent/kindredconsent/engine/EReasonIsCountedPinLaw", "pick", "(I)Lcom/example/kindred_consent/kindredconsent/engine/EReason;"⟩ : MethodName)) hown (mvT hZ (hw _ (List.mem_of_getElem? (i := 1) rfl))) (mvT hZ (hw _ (List.mem_of_getElem? (i := 2) rfl))) (mvT hZ (hw _ (List.mem_of_getElem? (i := 3) rfl))) (mvT hZ (hw _ (List.mem_of_getElem? (i := 4) rfl))) (by decide) (backOf (W := 0) (pick_1 l Z a0 hw [] w_CONTROLLER w_FULL_CONSENSUS_PERMIT w_FULL_CONSENSUS_PERMIT_EResolutionRule w_WEIGHTED w_OWNER_OVERRIDES w_OWNER_OVERRIDES_EResolutionRule w_SOURCE w_NO_THRESHOLD w_MAJORITY_PERMIT w_MAJORITY_PERMIT_EResolutionRule w_RESHARE_REFUSED w_WEIGHTED_EReason w_NOT_VIEWER w_UNNAMED w_SUPER_MAJORITY_PERMIT w_SUPER_MAJORITY_PERMIT_EResolutionRule w_STRONG_MAJORITY_PERMIT w_STRONG_MAJORITY_PERMIT_EResolutionRule h0 n0 O0 hE) hZ (hw _ (List.mem_of_getElem? (i := 4) rfl)) (hw _ (List.mem_of_getElem? (i := 3) rfl)) (by decide) (by decide)) (g := (mkF m 9 #[.val (.int p1), .val (.int (1 : Int32)), .unset, .unset] [(.int (1 : Int32))])) rfl (by rw [hml]; rfl) (argsL := [(.int (1 : Int32))]) (rest := []) (lenOf pd__I_Lcom_example_kindred_consent_kindredconsent_engine_EReason_ rfl) rfl (by show 2 * 0 + _ ≤ _; exact Nat.le_of_eq rfl) (hb hby at_9) (fun _ _ => ⟨rfl, e0, (by decide : 0 + 0 ≤ _), (by decide : 0 + 0 ≤ _)⟩)
    dsimp only [Pt.U, Pt.locs, Pt.cells, Pt.slots] at X5 l5 y5 z5 st5 hQ5
    subst l5 y5 z5
    obtain ⟨rfl, Nq5, eq5⟩ := hQ5
    have N5 := Fr.app N0 Nq5
    obtain ⟨cq6, kq6, q6a, q6b, q6c⟩ := isOf hZ eq5 (E_w_WEIGHTED_EReason.ext O0.2)
    obtain ⟨_, _, ⟨T6, L6, k6, n6⟩, -, X6, ⟨Lc6, hQ6, l6, y6, z6⟩, st6⟩ := X5.virtualBack hx (y := (⟨"com/example/kindred_consent/kindredconsent/engine/EReason", "isCounted", "()Z"⟩ : MethodName)) (z := (⟨"com/example/kindred_consent/kindredconsent/engine/EReason", "isCounted", "()Z"⟩ : MethodName)) hown (mvT hZ (hw _ (List.mem_of_getElem? (i := 8) rfl))) (mvT hZ (hw _ (List.mem_of_getElem? (i := 9) rfl))) (notFace_of_selects (args := #[]) (mvT hZ (hw _ (List.mem_of_getElem? (i := 11) rfl)))) (mvT hZ (hw _ (List.mem_of_getElem? (i := 11) rfl))) (mvT hZ (hw _ (List.mem_of_getElem? (i := 10) rfl))) (by decide) (backOf (W := 0) (ic_WEIGHTED l Z a0 hw [] w_CONTROLLER w_FULL_CONSENSUS_PERMIT w_FULL_CONSENSUS_PERMIT_EResolutionRule w_WEIGHTED w_OWNER_OVERRIDES w_OWNER_OVERRIDES_EResolutionRule w_SOURCE w_NO_THRESHOLD w_MAJORITY_PERMIT w_MAJORITY_PERMIT_EResolutionRule w_RESHARE_REFUSED w_WEIGHTED_EReason w_NOT_VIEWER w_UNNAMED w_SUPER_MAJORITY_PERMIT w_SUPER_MAJORITY_PERMIT_EResolutionRule w_STRONG_MAJORITY_PERMIT w_STRONG_MAJORITY_PERMIT_EResolutionRule h0 n0 O0 hE) hZ (hw _ (List.mem_of_getElem? (i := 12) rfl)) (hw _ (List.mem_of_getElem? (i := 6) rfl)) (by decide) (by decide)) q6a q6c (g := (mkF m 31 #[.val (.int p1), .val (.int (1 : Int32)), .val (.ref w_WEIGHTED_EReason), .val (.int (0 : Int32))] [(.ref w_WEIGHTED_EReason)])) rfl (by rw [hml]; rfl) (Steps.refl _) (argsL := []) (rest := []) (lenOf pd___Z rfl) rfl (by show 2 * 0 + _ ≤ _; exact Nat.le_of_eq rfl) (hb hby at_31) (fun _ _ => ⟨rfl, eq5, (by decide : 0 + 0 ≤ _), (by decide : 0 + 0 ≤ _)⟩)
    dsimp only [Pt.U, Pt.locs, Pt.cells, Pt.slots] at X6 l6 y6 z6 st6 hQ6
    subst l6 y6 z6
    obtain ⟨rfl, Nq6, eq6⟩ := hQ6
    have N6 := Fr.app N5 Nq6
    obtain ⟨fs, hr, hrun, hended, hW, hsame⟩ := X6.leave (v := some (.int (1 : Int32))) (fun h => by rw [Bd.returns] at h; cases h)
    refine ⟨_, _, pre1 _ ?_, hrun, hended, _, _, rfl, ?_, ⟨_, rfl⟩, hW, hsame.mono (by decide) (by decide)⟩
    · show Steps p.tables e below (s₁.setTop (mkF m 8 #[.val (.int p1), .val (.int (1 : Int32)), .unset, .unset] [])) _
      refine XS.iloadN X0.here hx rfl (hb hby at_8) rfl ?_
      show Steps p.tables e below (s₁.setTop (mkF m 9 #[.val (.int p1), .val (.int (1 : Int32)), .unset, .unset] [(.int (1 : Int32))])) _
      refine st5 _ ?_
      show Steps p.tables e below (T5.setTop (mkF m 12 #[.val (.int p1), .val (.int (1 : Int32)), .unset, .unset] [(.ref w_WEIGHTED_EReason)])) _
      refine XS.astoreN X5.here hx rfl (hb hby at_12) rfl rfl (l' := #[.val (.int p1), .val (.int (1 : Int32)), .val (.ref w_WEIGHTED_EReason), .unset]) rfl ?_
      show Steps p.tables e below (T5.setTop (mkF m 13 #[.val (.int p1), .val (.int (1 : Int32)), .val (.ref w_WEIGHTED_EReason), .unset] [])) _
      refine XS.iloadN X5.here hx rfl (hb hby at_13) rfl ?_
      show Steps p.tables e below (T5.setTop (mkF m 14 #[.val (.int p1), .val (.int (1 : Int32)), .val (.ref w_WEIGHTED_EReason), .unset] [(.int (1 : Int32))])) _
      refine XS.iconst X5.here hx rfl (hb hby at_14) ?_
      show Steps p.tables e below (T5.setTop (mkF m 15 #[.val (.int p1), .val (.int (1 : Int32)), .val (.ref w_WEIGHTED_EReason), .unset] [(.int (2 : Int32)), (.int (1 : Int32))])) _
      refine XS.icmpYes X5.here hx rfl (pc0 := 15) (pc' := 28) rfl (hb hby at_15) rfl (tlt (by decide : (1 : Int32) < (2 : Int32))).1 (by decide) (by decide) ?_
      show Steps p.tables e below (T5.setTop (mkF m 28 #[.val (.int p1), .val (.int (1 : Int32)), .val (.ref w_WEIGHTED_EReason), .unset] [])) _
      refine XS.iconst X5.here hx rfl (hb hby at_28) ?_
      show Steps p.tables e below (T5.setTop (mkF m 29 #[.val (.int p1), .val (.int (1 : Int32)), .val (.ref w_WEIGHTED_EReason), .unset] [(.int (0 : Int32))])) _
      refine XS.istoreN X5.here hx rfl (hb hby at_29) rfl (l' := #[.val (.int p1), .val (.int (1 : Int32)), .val (.ref w_WEIGHTED_EReason), .val (.int (0 : Int32))]) rfl ?_
      show Steps p.tables e below (T5.setTop (mkF m 30 #[.val (.int p1), .val (.int (1 : Int32)), .val (.ref w_WEIGHTED_EReason), .val (.int (0 : Int32))] [])) _
      refine XS.aloadN X5.here hx rfl (hb hby at_30) rfl rfl ?_
      show Steps p.tables e below (T5.setTop (mkF m 31 #[.val (.int p1), .val (.int (1 : Int32)), .val (.ref w_WEIGHTED_EReason), .val (.int (0 : Int32))] [(.ref w_WEIGHTED_EReason)])) _
      refine st6.trans ?_
      show Steps p.tables e below (T6.setTop (mkF m 34 #[.val (.int p1), .val (.int (1 : Int32)), .val (.ref w_WEIGHTED_EReason), .val (.int (0 : Int32))] [(.int (0 : Int32))])) _
      refine XS.iloadN X6.here hx rfl (hb hby at_34) rfl ?_
      show Steps p.tables e below (T6.setTop (mkF m 35 #[.val (.int p1), .val (.int (1 : Int32)), .val (.ref w_WEIGHTED_EReason), .val (.int (0 : Int32))] [(.int (0 : Int32)), (.int (0 : Int32))])) _
      refine XS.icmpNo X6.here hx rfl (hb hby at_35) rfl (teq (by decide : (0 : Int32) = (0 : Int32))).2 ?_
      show Steps p.tables e below (T6.setTop (mkF m 38 #[.val (.int p1), .val (.int (1 : Int32)), .val (.ref w_WEIGHTED_EReason), .val (.int (0 : Int32))] [])) _
      refine XS.iconst X6.here hx rfl (hb hby at_38) ?_
      show Steps p.tables e below (T6.setTop (mkF m 39 #[.val (.int p1), .val (.int (1 : Int32)), .val (.ref w_WEIGHTED_EReason), .val (.int (0 : Int32))] [(.int (1 : Int32))])) _
      refine XS.goto X6.here hx rfl (pc0 := 39) (pc' := 43) rfl (hb hby at_39) (by decide) (by decide) ?_
      show Steps p.tables e below (T6.setTop (mkF m 43 #[.val (.int p1), .val (.int (1 : Int32)), .val (.ref w_WEIGHTED_EReason), .val (.int (0 : Int32))] [(.int (1 : Int32))])) _
      exact retN X6 hx (t := .boolean) Bd.returns (by simp) (hb hby at_43) hr
    · show Q_rm0 Z p1 w_CONTROLLER w_FULL_CONSENSUS_PERMIT w_FULL_CONSENSUS_PERMIT_EResolutionRule w_WEIGHTED w_OWNER_OVERRIDES w_OWNER_OVERRIDES_EResolutionRule w_SOURCE w_NO_THRESHOLD w_MAJORITY_PERMIT w_MAJORITY_PERMIT_EResolutionRule w_RESHARE_REFUSED w_WEIGHTED_EReason w_NOT_VIEWER w_UNNAMED w_SUPER_MAJORITY_PERMIT w_SUPER_MAJORITY_PERMIT_EResolutionRule w_STRONG_MAJORITY_PERMIT w_STRONG_MAJORITY_PERMIT_EResolutionRule h0 n0 _ T6.heap _
      rw [eq6]
      exact ⟨rfl, N6⟩
  · rw [hv2] at pre1
    obtain ⟨_, _, ⟨T7, L7, k7, n7⟩, -, X7, ⟨Lc7, hQ7, l7, y7, z7⟩, st7⟩ := Jvm.LawKit.callS X0 hx (y := (⟨"com/example/kindred_consent/kindredconsent/engine/EReasonIsCountedPinLaw", "pick", "(I)Lcom/example/kindred_consent/kindredconsent/engine/EReason;"⟩ : MethodName)) hown (mvT hZ (hw _ (List.mem_of_getElem? (i := 1) rfl))) (mvT hZ (hw _ (List.mem_of_getElem? (i := 2) rfl))) (mvT hZ (hw _ (List.mem_of_getElem? (i := 3) rfl))) (mvT hZ (hw _ (List.mem_of_getElem? (i := 4) rfl))) (by decide) (backOf (W := 0) (pick_2 l Z a0 hw [] w_CONTROLLER w_FULL_CONSENSUS_PERMIT w_FULL_CONSENSUS_PERMIT_EResolutionRule w_WEIGHTED w_OWNER_OVERRIDES w_OWNER_OVERRIDES_EResolutionRule w_SOURCE w_NO_THRESHOLD w_MAJORITY_PERMIT w_MAJORITY_PERMIT_EResolutionRule w_RESHARE_REFUSED w_WEIGHTED_EReason w_NOT_VIEWER w_UNNAMED w_SUPER_MAJORITY_PERMIT w_SUPER_MAJORITY_PERMIT_EResolutionRule w_STRONG_MAJORITY_PERMIT w_STRONG_MAJORITY_PERMIT_EResolutionRule h0 n0 O0 hE) hZ (hw _ (List.mem_of_getElem? (i := 4) rfl)) (hw _ (List.mem_of_getElem? (i := 3) rfl)) (by decide) (by decide)) (g := (mkF m 9 #[.val (.int p1), .val (.int (2 : Int32)), .unset, .unset] [(.int (2 : Int32))])) rfl (by rw [hml]; rfl) (argsL := [(.int (2 : Int32))]) (rest := []) (lenOf pd__I_Lcom_example_kindred_consent_kindredconsent_engine_EReason_ rfl) rfl (by show 2 * 0 + _ ≤ _; exact Nat.le_of_eq rfl) (hb hby at_9) (fun _ _ => ⟨rfl, e0, (by decide : 0 + 0 ≤ _), (by decide : 0 + 0 ≤ _)⟩)
    dsimp only [Pt.U, Pt.locs, Pt.cells, Pt.slots] at X7 l7 y7 z7 st7 hQ7
    subst l7 y7 z7
    obtain ⟨rfl, Nq7, eq7⟩ := hQ7
    have N7 := Fr.app N0 Nq7
    obtain ⟨cq8, kq8, q8a, q8b, q8c⟩ := isOf hZ eq7 (E_w_OWNER_OVERRIDES.ext O0.2)
    obtain ⟨_, _, ⟨T8, L8, k8, n8⟩, -, X8, ⟨Lc8, hQ8, l8, y8, z8⟩, st8⟩ := X7.virtualBack hx (y := (⟨"com/example/kindred_consent/kindredconsent/engine/EReason", "isCounted", "()Z"⟩ : MethodName)) (z := (⟨"com/example/kindred_consent/kindredconsent/engine/EReason", "isCounted", "()Z"⟩ : MethodName)) hown (mvT hZ (hw _ (List.mem_of_getElem? (i := 8) rfl))) (mvT hZ (hw _ (List.mem_of_getElem? (i := 9) rfl))) (notFace_of_selects (args := #[]) (mvT hZ (hw _ (List.mem_of_getElem? (i := 11) rfl)))) (mvT hZ (hw _ (List.mem_of_getElem? (i := 11) rfl))) (mvT hZ (hw _ (List.mem_of_getElem? (i := 10) rfl))) (by decide) (backOf (W := 0) (ic_OWNER_OVERRIDES l Z a0 hw [] w_CONTROLLER w_FULL_CONSENSUS_PERMIT w_FULL_CONSENSUS_PERMIT_EResolutionRule w_WEIGHTED w_OWNER_OVERRIDES w_OWNER_OVERRIDES_EResolutionRule w_SOURCE w_NO_THRESHOLD w_MAJORITY_PERMIT w_MAJORITY_PERMIT_EResolutionRule w_RESHARE_REFUSED w_WEIGHTED_EReason w_NOT_VIEWER w_UNNAMED w_SUPER_MAJORITY_PERMIT w_SUPER_MAJORITY_PERMIT_EResolutionRule w_STRONG_MAJORITY_PERMIT w_STRONG_MAJORITY_PERMIT_EResolutionRule h0 n0 O0 hE) hZ (hw _ (List.mem_of_getElem? (i := 12) rfl)) (hw _ (List.mem_of_getElem? (i := 6) rfl)) (by decide) (by decide)) q8a q8c (g := (mkF m 31 #[.val (.int p1), .val (.int (2 : Int32)), .val (.ref w_OWNER_OVERRIDES), .val (.int (1 : Int32))] [(.ref w_OWNER_OVERRIDES)])) rfl (by rw [hml]; rfl) (Steps.refl _) (argsL := []) (rest := []) (lenOf pd___Z rfl) rfl (by show 2 * 0 + _ ≤ _; exact Nat.le_of_eq rfl) (hb hby at_31) (fun _ _ => ⟨rfl, eq7, (by decide : 0 + 0 ≤ _), (by decide : 0 + 0 ≤ _)⟩)
    dsimp only [Pt.U, Pt.locs, Pt.cells, Pt.slots] at X8 l8 y8 z8 st8 hQ8
    subst l8 y8 z8
    obtain ⟨rfl, Nq8, eq8⟩ := hQ8
    have N8 := Fr.app N7 Nq8
    obtain ⟨fs, hr, hrun, hended, hW, hsame⟩ := X8.leave (v := some (.int (1 : Int32))) (fun h => by rw [Bd.returns] at h; cases h)
    refine ⟨_, _, pre1 _ ?_, hrun, hended, _, _, rfl, ?_, ⟨_, rfl⟩, hW, hsame.mono (by decide) (by decide)⟩
    · show Steps p.tables e below (s₁.setTop (mkF m 8 #[.val (.int p1), .val (.int (2 : Int32)), .unset, .unset] [])) _
      refine XS.iloadN X0.here hx rfl (hb hby at_8) rfl ?_
      show Steps p.tables e below (s₁.setTop (mkF m 9 #[.val (.int p1), .val (.int (2 : Int32)), .unset, .unset] [(.int (2 : Int32))])) _
      refine st7 _ ?_
      show Steps p.tables e below (T7.setTop (mkF m 12 #[.val (.int p1), .val (.int (2 : Int32)), .unset, .unset] [(.ref w_OWNER_OVERRIDES)])) _
      refine XS.astoreN X7.here hx rfl (hb hby at_12) rfl rfl (l' := #[.val (.int p1), .val (.int (2 : Int32)), .val (.ref w_OWNER_OVERRIDES), .unset]) rfl ?_
      show Steps p.tables e below (T7.setTop (mkF m 13 #[.val (.int p1), .val (.int (2 : Int32)), .val (.ref w_OWNER_OVERRIDES), .unset] [])) _
      refine XS.iloadN X7.here hx rfl (hb hby at_13) rfl ?_
      show Steps p.tables e below (T7.setTop (mkF m 14 #[.val (.int p1), .val (.int (2 : Int32)), .val (.ref w_OWNER_OVERRIDES), .unset] [(.int (2 : Int32))])) _
      refine XS.iconst X7.here hx rfl (hb hby at_14) ?_
      show Steps p.tables e below (T7.setTop (mkF m 15 #[.val (.int p1), .val (.int (2 : Int32)), .val (.ref w_OWNER_OVERRIDES), .unset] [(.int (2 : Int32)), (.int (2 : Int32))])) _
      refine XS.icmpNo X7.here hx rfl (hb hby at_15) rfl (flt (by decide : ¬ ((2 : Int32) < (2 : Int32)))).1 ?_
      show Steps p.tables e below (T7.setTop (mkF m 18 #[.val (.int p1), .val (.int (2 : Int32)), .val (.ref w_OWNER_OVERRIDES), .unset] [])) _
      refine XS.iloadN X7.here hx rfl (hb hby at_18) rfl ?_
      show Steps p.tables e below (T7.setTop (mkF m 19 #[.val (.int p1), .val (.int (2 : Int32)), .val (.ref w_OWNER_OVERRIDES), .unset] [(.int (2 : Int32))])) _
      refine XS.bipush X7.here hx rfl (hb hby at_19) ?_
      show Steps p.tables e below (T7.setTop (mkF m 21 #[.val (.int p1), .val (.int (2 : Int32)), .val (.ref w_OWNER_OVERRIDES), .unset] [(.int (6 : Int32)), (.int (2 : Int32))])) _
      refine XS.icmpNo X7.here hx rfl (hb hby at_21) rfl (flt (by decide : ¬ ((6 : Int32) < (2 : Int32)))).2.2.1 ?_
      show Steps p.tables e below (T7.setTop (mkF m 24 #[.val (.int p1), .val (.int (2 : Int32)), .val (.ref w_OWNER_OVERRIDES), .unset] [])) _
      refine XS.iconst X7.here hx rfl (hb hby at_24) ?_
      show Steps p.tables e below (T7.setTop (mkF m 25 #[.val (.int p1), .val (.int (2 : Int32)), .val (.ref w_OWNER_OVERRIDES), .unset] [(.int (1 : Int32))])) _
      refine XS.goto X7.here hx rfl (pc0 := 25) (pc' := 29) rfl (hb hby at_25) (by decide) (by decide) ?_
      show Steps p.tables e below (T7.setTop (mkF m 29 #[.val (.int p1), .val (.int (2 : Int32)), .val (.ref w_OWNER_OVERRIDES), .unset] [(.int (1 : Int32))])) _
      refine XS.istoreN X7.here hx rfl (hb hby at_29) rfl (l' := #[.val (.int p1), .val (.int (2 : Int32)), .val (.ref w_OWNER_OVERRIDES), .val (.int (1 : Int32))]) rfl ?_
      show Steps p.tables e below (T7.setTop (mkF m 30 #[.val (.int p1), .val (.int (2 : Int32)), .val (.ref w_OWNER_OVERRIDES), .val (.int (1 : Int32))] [])) _
      refine XS.aloadN X7.here hx rfl (hb hby at_30) rfl rfl ?_
      show Steps p.tables e below (T7.setTop (mkF m 31 #[.val (.int p1), .val (.int (2 : Int32)), .val (.ref w_OWNER_OVERRIDES), .val (.int (1 : Int32))] [(.ref w_OWNER_OVERRIDES)])) _
      refine st8.trans ?_
      show Steps p.tables e below (T8.setTop (mkF m 34 #[.val (.int p1), .val (.int (2 : Int32)), .val (.ref w_OWNER_OVERRIDES), .val (.int (1 : Int32))] [(.int (1 : Int32))])) _
      refine XS.iloadN X8.here hx rfl (hb hby at_34) rfl ?_
      show Steps p.tables e below (T8.setTop (mkF m 35 #[.val (.int p1), .val (.int (2 : Int32)), .val (.ref w_OWNER_OVERRIDES), .val (.int (1 : Int32))] [(.int (1 : Int32)), (.int (1 : Int32))])) _
      refine XS.icmpNo X8.here hx rfl (hb hby at_35) rfl (teq (by decide : (1 : Int32) = (1 : Int32))).2 ?_
      show Steps p.tables e below (T8.setTop (mkF m 38 #[.val (.int p1), .val (.int (2 : Int32)), .val (.ref w_OWNER_OVERRIDES), .val (.int (1 : Int32))] [])) _
      refine XS.iconst X8.here hx rfl (hb hby at_38) ?_
      show Steps p.tables e below (T8.setTop (mkF m 39 #[.val (.int p1), .val (.int (2 : Int32)), .val (.ref w_OWNER_OVERRIDES), .val (.int (1 : Int32))] [(.int (1 : Int32))])) _
      refine XS.goto X8.here hx rfl (pc0 := 39) (pc' := 43) rfl (hb hby at_39) (by decide) (by decide) ?_
      show Steps p.tables e below (T8.setTop (mkF m 43 #[.val (.int p1), .val (.int (2 : Int32)), .val (.ref w_OWNER_OVERRIDES), .val (.int (1 : Int32))] [(.int (1 : Int32))])) _
      exact retN X8 hx (t := .boolean) Bd.returns (by simp) (hb hby at_43) hr
    · show Q_rm0 Z p1 w_CONTROLLER w_FULL_CONSENSUS_PERMIT w_FULL_CONSENSUS_PERMIT_EResolutionRule w_WEIGHTED w_OWNER_OVERRIDES w_OWNER_OVERRIDES_EResolutionRule w_SOURCE w_NO_THRESHOLD w_MAJORITY_PERMIT w_MAJORITY_PERMIT_EResolutionRule w_RESHARE_REFUSED w_WEIGHTED_EReason w_NOT_VIEWER w_UNNAMED w_SUPER_MAJORITY_PERMIT w_SUPER_MAJORITY_PERMIT_EResolutionRule w_STRONG_MAJORITY_PERMIT w_STRONG_MAJORITY_PERMIT_EResolutionRule h0 n0 _ T8.heap _
      rw [eq8]
      exact ⟨rfl, N8⟩
  · rw [hv2] at pre1
    obtain ⟨_, _, ⟨T9, L9, k9, n9⟩, -, X9, ⟨Lc9, hQ9, l9, y9, z9⟩, st9⟩ := Jvm.LawKit.callS X0 hx (y := (⟨"com/example/kindred_consent/kindredconsent/engine/EReasonIsCountedPinLaw", "pick", "(I)Lcom/example/kindred_consent/kindredconsent/engine/EReason;"⟩ : MethodName)) hown (mvT hZ (hw _ (List.mem_of_getElem? (i := 1) rfl))) (mvT hZ (hw _ (List.mem_of_getElem? (i := 2) rfl))) (mvT hZ (hw _ (List.mem_of_getElem? (i := 3) rfl))) (mvT hZ (hw _ (List.mem_of_getElem? (i := 4) rfl))) (by decide) (backOf (W := 0) (pick_3 l Z a0 hw [] w_CONTROLLER w_FULL_CONSENSUS_PERMIT w_FULL_CONSENSUS_PERMIT_EResolutionRule w_WEIGHTED w_OWNER_OVERRIDES w_OWNER_OVERRIDES_EResolutionRule w_SOURCE w_NO_THRESHOLD w_MAJORITY_PERMIT w_MAJORITY_PERMIT_EResolutionRule w_RESHARE_REFUSED w_WEIGHTED_EReason w_NOT_VIEWER w_UNNAMED w_SUPER_MAJORITY_PERMIT w_SUPER_MAJORITY_PERMIT_EResolutionRule w_STRONG_MAJORITY_PERMIT w_STRONG_MAJORITY_PERMIT_EResolutionRule h0 n0 O0 hE) hZ (hw _ (List.mem_of_getElem? (i := 4) rfl)) (hw _ (List.mem_of_getElem? (i := 3) rfl)) (by decide) (by decide)) (g := (mkF m 9 #[.val (.int p1), .val (.int (3 : Int32)), .unset, .unset] [(.int (3 : Int32))])) rfl (by rw [hml]; rfl) (argsL := [(.int (3 : Int32))]) (rest := []) (lenOf pd__I_Lcom_example_kindred_consent_kindredconsent_engine_EReason_ rfl) rfl (by show 2 * 0 + _ ≤ _; exact Nat.le_of_eq rfl) (hb hby at_9) (fun _ _ => ⟨rfl, e0, (by decide : 0 + 0 ≤ _), (by decide : 0 + 0 ≤ _)⟩)
    dsimp only [Pt.U, Pt.locs, Pt.cells, Pt.slots] at X9 l9 y9 z9 st9 hQ9
    subst l9 y9 z9
    obtain ⟨rfl, Nq9, eq9⟩ := hQ9
    have N9 := Fr.app N0 Nq9
    obtain ⟨cq10, kq10, q10a, q10b, q10c⟩ := isOf hZ eq9 (E_w_FULL_CONSENSUS_PERMIT.ext O0.2)
    obtain ⟨_, _, ⟨T10, L10, k10, n10⟩, -, X10, ⟨Lc10, hQ10, l10, y10, z10⟩, st10⟩ := X9.virtualBack hx (y := (⟨"com/example/kindred_consent/kindredconsent/engine/EReason", "isCounted", "()Z"⟩ : MethodName)) (z := (⟨"com/example/kindred_consent/kindredconsent/engine/EReason", "isCounted", "()Z"⟩ : MethodName)) hown (mvT hZ (hw _ (List.mem_of_getElem? (i := 8) rfl))) (mvT hZ (hw _ (List.mem_of_getElem? (i := 9) rfl))) (notFace_of_selects (args := #[]) (mvT hZ (hw _ (List.mem_of_getElem? (i := 11) rfl)))) (mvT hZ (hw _ (List.mem_of_getElem? (i := 11) rfl))) (mvT hZ (hw _ (List.mem_of_getElem? (i := 10) rfl))) (by decide) (backOf (W := 0) (ic_FULL_CONSENSUS_PERMIT l Z a0 hw [] w_CONTROLLER w_FULL_CONSENSUS_PERMIT w_FULL_CONSENSUS_PERMIT_EResolutionRule w_WEIGHTED w_OWNER_OVERRIDES w_OWNER_OVERRIDES_EResolutionRule w_SOURCE w_NO_THRESHOLD w_MAJORITY_PERMIT w_MAJORITY_PERMIT_EResolutionRule w_RESHARE_REFUSED w_WEIGHTED_EReason w_NOT_VIEWER w_UNNAMED w_SUPER_MAJORITY_PERMIT w_SUPER_MAJORITY_PERMIT_EResolutionRule w_STRONG_MAJORITY_PERMIT w_STRONG_MAJORITY_PERMIT_EResolutionRule h0 n0 O0 hE) hZ (hw _ (List.mem_of_getElem? (i := 12) rfl)) (hw _ (List.mem_of_getElem? (i := 6) rfl)) (by decide) (by decide)) q10a q10c (g := (mkF m 31 #[.val (.int p1), .val (.int (3 : Int32)), .val (.ref w_FULL_CONSENSUS_PERMIT), .val (.int (1 : Int32))] [(.ref w_FULL_CONSENSUS_PERMIT)])) rfl (by rw [hml]; rfl) (Steps.refl _) (argsL := []) (rest := []) (lenOf pd___Z rfl) rfl (by show 2 * 0 + _ ≤ _; exact Nat.le_of_eq rfl) (hb hby at_31) (fun _ _ => ⟨rfl, eq9, (by decide : 0 + 0 ≤ _), (by decide : 0 + 0 ≤ _)⟩)
    dsimp only [Pt.U, Pt.locs, Pt.cells, Pt.slots] at X10 l10 y10 z10 st10 hQ10
    subst l10 y10 z10
    obtain ⟨rfl, Nq10, eq10⟩ := hQ10
    have N10 := Fr.app N9 Nq10
    obtain ⟨fs, hr, hrun, hended, hW, hsame⟩ := X10.leave (v := some (.int (1 : Int32))) (fun h => by rw [Bd.returns] at h; cases h)
    refine ⟨_, _, pre1 _ ?_, hrun, hended, _, _, rfl, ?_, ⟨_, rfl⟩, hW, hsame.mono (by decide) (by decide)⟩
    · show Steps p.tables e below (s₁.setTop (mkF m 8 #[.val (.int p1), .val (.int (3 : Int32)), .unset, .unset] [])) _
      refine XS.iloadN X0.here hx rfl (hb hby at_8) rfl ?_
      show Steps p.tables e below (s₁.setTop (mkF m 9 #[.val (.int p1), .val (.int (3 : Int32)), .unset, .unset] [(.int (3 : Int32))])) _
      refine st9 _ ?_
      show Steps p.tables e below (T9.setTop (mkF m 12 #[.val (.int p1), .val (.int (3 : Int32)), .unset, .unset] [(.ref w_FULL_CONSENSUS_PERMIT)])) _
      refine XS.astoreN X9.here hx rfl (hb hby at_12) rfl rfl (l' := #[.val (.int p1), .val (.int (3 : Int32)), .val (.ref w_FULL_CONSENSUS_PERMIT), .unset]) rfl ?_
      show Steps p.tables e below (T9.setTop (mkF m 13 #[.val (.int p1), .val (.int (3 : Int32)), .val (.ref w_FULL_CONSENSUS_PERMIT), .unset] [])) _
      refine XS.iloadN X9.here hx rfl (hb hby at_13) rfl ?_
      show Steps p.tables e below (T9.setTop (mkF m 14 #[.val (.int p1), .val (.int (3 : Int32)), .val (.ref w_FULL_CONSENSUS_PERMIT), .unset] [(.int (3 : Int32))])) _
      refine XS.iconst X9.here hx rfl (hb hby at_14) ?_
      show Steps p.tables e below (T9.setTop (mkF m 15 #[.val (.int p1), .val (.int (3 : Int32)), .val (.ref w_FULL_CONSENSUS_PERMIT), .unset] [(.int (2 : Int32)), (.int (3 : Int32))])) _
      refine XS.icmpNo X9.here hx rfl (hb hby at_15) rfl (flt (by decide : ¬ ((3 : Int32) < (2 : Int32)))).1 ?_
      show Steps p.tables e below (T9.setTop (mkF m 18 #[.val (.int p1), .val (.int (3 : Int32)), .val (.ref w_FULL_CONSENSUS_PERMIT), .unset] [])) _
      refine XS.iloadN X9.here hx rfl (hb hby at_18) rfl ?_
      show Steps p.tables e below (T9.setTop (mkF m 19 #[.val (.int p1), .val (.int (3 : Int32)), .val (.ref w_FULL_CONSENSUS_PERMIT), .unset] [(.int (3 : Int32))])) _
      refine XS.bipush X9.here hx rfl (hb hby at_19) ?_
      show Steps p.tables e below (T9.setTop (mkF m 21 #[.val (.int p1), .val (.int (3 : Int32)), .val (.ref w_FULL_CONSENSUS_PERMIT), .unset] [(.int (6 : Int32)), (.int (3 : Int32))])) _
      refine XS.icmpNo X9.here hx rfl (hb hby at_21) rfl (flt (by decide : ¬ ((6 : Int32) < (3 : Int32)))).2.2.1 ?_
      show Steps p.tables e below (T9.setTop (mkF m 24 #[.val (.int p1), .val (.int (3 : Int32)), .val (.ref w_FULL_CONSENSUS_PERMIT), .unset] [])) _
      refine XS.iconst X9.here hx rfl (hb hby at_24) ?_
      show Steps p.tables e below (T9.setTop (mkF m 25 #[.val (.int p1), .val (.int (3 : Int32)), .val (.ref w_FULL_CONSENSUS_PERMIT), .unset] [(.int (1 : Int32))])) _
      refine XS.goto X9.here hx rfl (pc0 := 25) (pc' := 29) rfl (hb hby at_25) (by decide) (by decide) ?_
      show Steps p.tables e below (T9.setTop (mkF m 29 #[.val (.int p1), .val (.int (3 : Int32)), .val (.ref w_FULL_CONSENSUS_PERMIT), .unset] [(.int (1 : Int32))])) _
      refine XS.istoreN X9.here hx rfl (hb hby at_29) rfl (l' := #[.val (.int p1), .val (.int (3 : Int32)), .val (.ref w_FULL_CONSENSUS_PERMIT), .val (.int (1 : Int32))]) rfl ?_
      show Steps p.tables e below (T9.setTop (mkF m 30 #[.val (.int p1), .val (.int (3 : Int32)), .val (.ref w_FULL_CONSENSUS_PERMIT), .val (.int (1 : Int32))] [])) _
      refine XS.aloadN X9.here hx rfl (hb hby at_30) rfl rfl ?_
      show Steps p.tables e below (T9.setTop (mkF m 31 #[.val (.int p1), .val (.int (3 : Int32)), .val (.ref w_FULL_CONSENSUS_PERMIT), .val (.int (1 : Int32))] [(.ref w_FULL_CONSENSUS_PERMIT)])) _
      refine st10.trans ?_
      show Steps p.tables e below (T10.setTop (mkF m 34 #[.val (.int p1), .val (.int (3 : Int32)), .val (.ref w_FULL_CONSENSUS_PERMIT), .val (.int (1 : Int32))] [(.int (1 : Int32))])) _
      refine XS.iloadN X10.here hx rfl (hb hby at_34) rfl ?_
      show Steps p.tables e below (T10.setTop (mkF m 35 #[.val (.int p1), .val (.int (3 : Int32)), .val (.ref w_FULL_CONSENSUS_PERMIT), .val (.int (1 : Int32))] [(.int (1 : Int32)), (.int (1 : Int32))])) _
      refine XS.icmpNo X10.here hx rfl (hb hby at_35) rfl (teq (by decide : (1 : Int32) = (1 : Int32))).2 ?_
      show Steps p.tables e below (T10.setTop (mkF m 38 #[.val (.int p1), .val (.int (3 : Int32)), .val (.ref w_FULL_CONSENSUS_PERMIT), .val (.int (1 : Int32))] [])) _
      refine XS.iconst X10.here hx rfl (hb hby at_38) ?_
      show Steps p.tables e below (T10.setTop (mkF m 39 #[.val (.int p1), .val (.int (3 : Int32)), .val (.ref w_FULL_CONSENSUS_PERMIT), .val (.int (1 : Int32))] [(.int (1 : Int32))])) _
      refine XS.goto X10.here hx rfl (pc0 := 39) (pc' := 43) rfl (hb hby at_39) (by decide) (by decide) ?_
      show Steps p.tables e below (T10.setTop (mkF m 43 #[.val (.int p1), .val (.int (3 : Int32)), .val (.ref w_FULL_CONSENSUS_PERMIT), .val (.int (1 : Int32))] [(.int (1 : Int32))])) _
      exact retN X10 hx (t := .boolean) Bd.returns (by simp) (hb hby at_43) hr
    · show Q_rm0 Z p1 w_CONTROLLER w_FULL_CONSENSUS_PERMIT w_FULL_CONSENSUS_PERMIT_EResolutionRule w_WEIGHTED w_OWNER_OVERRIDES w_OWNER_OVERRIDES_EResolutionRule w_SOURCE w_NO_THRESHOLD w_MAJORITY_PERMIT w_MAJORITY_PERMIT_EResolutionRule w_RESHARE_REFUSED w_WEIGHTED_EReason w_NOT_VIEWER w_UNNAMED w_SUPER_MAJORITY_PERMIT w_SUPER_MAJORITY_PERMIT_EResolutionRule w_STRONG_MAJORITY_PERMIT w_STRONG_MAJORITY_PERMIT_EResolutionRule h0 n0 _ T10.heap _
      rw [eq10]
      exact ⟨rfl, N10⟩
  · rw [hv2] at pre1
    obtain ⟨_, _, ⟨T11, L11, k11, n11⟩, -, X11, ⟨Lc11, hQ11, l11, y11, z11⟩, st11⟩ := Jvm.LawKit.callS X0 hx (y := (⟨"com/example/kindred_consent/kindredconsent/engine/EReasonIsCountedPinLaw", "pick", "(I)Lcom/example/kindred_consent/kindredconsent/engine/EReason;"⟩ : MethodName)) hown (mvT hZ (hw _ (List.mem_of_getElem? (i := 1) rfl))) (mvT hZ (hw _ (List.mem_of_getElem? (i := 2) rfl))) (mvT hZ (hw _ (List.mem_of_getElem? (i := 3) rfl))) (mvT hZ (hw _ (List.mem_of_getElem? (i := 4) rfl))) (by decide) (backOf (W := 0) (pick_4 l Z a0 hw [] w_CONTROLLER w_FULL_CONSENSUS_PERMIT w_FULL_CONSENSUS_PERMIT_EResolutionRule w_WEIGHTED w_OWNER_OVERRIDES w_OWNER_OVERRIDES_EResolutionRule w_SOURCE w_NO_THRESHOLD w_MAJORITY_PERMIT w_MAJORITY_PERMIT_EResolutionRule w_RESHARE_REFUSED w_WEIGHTED_EReason w_NOT_VIEWER w_UNNAMED w_SUPER_MAJORITY_PERMIT w_SUPER_MAJORITY_PERMIT_EResolutionRule w_STRONG_MAJORITY_PERMIT w_STRONG_MAJORITY_PERMIT_EResolutionRule h0 n0 O0 hE) hZ (hw _ (List.mem_of_getElem? (i := 4) rfl)) (hw _ (List.mem_of_getElem? (i := 3) rfl)) (by decide) (by decide)) (g := (mkF m 9 #[.val (.int p1), .val (.int (4 : Int32)), .unset, .unset] [(.int (4 : Int32))])) rfl (by rw [hml]; rfl) (argsL := [(.int (4 : Int32))]) (rest := []) (lenOf pd__I_Lcom_example_kindred_consent_kindredconsent_engine_EReason_ rfl) rfl (by show 2 * 0 + _ ≤ _; exact Nat.le_of_eq rfl) (hb hby at_9) (fun _ _ => ⟨rfl, e0, (by decide : 0 + 0 ≤ _), (by decide : 0 + 0 ≤ _)⟩)
    dsimp only [Pt.U, Pt.locs, Pt.cells, Pt.slots] at X11 l11 y11 z11 st11 hQ11
    subst l11 y11 z11
    obtain ⟨rfl, Nq11, eq11⟩ := hQ11
    have N11 := Fr.app N0 Nq11
    obtain ⟨cq12, kq12, q12a, q12b, q12c⟩ := isOf hZ eq11 (E_w_MAJORITY_PERMIT.ext O0.2)
    obtain ⟨_, _, ⟨T12, L12, k12, n12⟩, -, X12, ⟨Lc12, hQ12, l12, y12, z12⟩, st12⟩ := X11.virtualBack hx (y := (⟨"com/example/kindred_consent/kindredconsent/engine/EReason", "isCounted", "()Z"⟩ : MethodName)) (z := (⟨"com/example/kindred_consent/kindredconsent/engine/EReason", "isCounted", "()Z"⟩ : MethodName)) hown (mvT hZ (hw _ (List.mem_of_getElem? (i := 8) rfl))) (mvT hZ (hw _ (List.mem_of_getElem? (i := 9) rfl))) (notFace_of_selects (args := #[]) (mvT hZ (hw _ (List.mem_of_getElem? (i := 11) rfl)))) (mvT hZ (hw _ (List.mem_of_getElem? (i := 11) rfl))) (mvT hZ (hw _ (List.mem_of_getElem? (i := 10) rfl))) (by decide) (backOf (W := 0) (ic_MAJORITY_PERMIT l Z a0 hw [] w_CONTROLLER w_FULL_CONSENSUS_PERMIT w_FULL_CONSENSUS_PERMIT_EResolutionRule w_WEIGHTED w_OWNER_OVERRIDES w_OWNER_OVERRIDES_EResolutionRule w_SOURCE w_NO_THRESHOLD w_MAJORITY_PERMIT w_MAJORITY_PERMIT_EResolutionRule w_RESHARE_REFUSED w_WEIGHTED_EReason w_NOT_VIEWER w_UNNAMED w_SUPER_MAJORITY_PERMIT w_SUPER_MAJORITY_PERMIT_EResolutionRule w_STRONG_MAJORITY_PERMIT w_STRONG_MAJORITY_PERMIT_EResolutionRule h0 n0 O0 hE) hZ (hw _ (List.mem_of_getElem? (i := 12) rfl)) (hw _ (List.mem_of_getElem? (i := 6) rfl)) (by decide) (by decide)) q12a q12c (g := (mkF m 31 #[.val (.int p1), .val (.int (4 : Int32)), .val (.ref w_MAJORITY_PERMIT), .val (.int (1 : Int32))] [(.ref w_MAJORITY_PERMIT)])) rfl (by rw [hml]; rfl) (Steps.refl _) (argsL := []) (rest := []) (lenOf pd___Z rfl) rfl (by show 2 * 0 + _ ≤ _; exact Nat.le_of_eq rfl) (hb hby at_31) (fun _ _ => ⟨rfl, eq11, (by decide : 0 + 0 ≤ _), (by decide : 0 + 0 ≤ _)⟩)
    dsimp only [Pt.U, Pt.locs, Pt.cells, Pt.slots] at X12 l12 y12 z12 st12 hQ12
    subst l12 y12 z12
    obtain ⟨rfl, Nq12, eq12⟩ := hQ12
    have N12 := Fr.app N11 Nq12
    obtain ⟨fs, hr, hrun, hended, hW, hsame⟩ := X12.leave (v := some (.int (1 : Int32))) (fun h => by rw [Bd.returns] at h; cases h)
    refine ⟨_, _, pre1 _ ?_, hrun, hended, _, _, rfl, ?_, ⟨_, rfl⟩, hW, hsame.mono (by decide) (by decide)⟩
    · show Steps p.tables e below (s₁.setTop (mkF m 8 #[.val (.int p1), .val (.int (4 : Int32)), .unset, .unset] [])) _
      refine XS.iloadN X0.here hx rfl (hb hby at_8) rfl ?_
      show Steps p.tables e below (s₁.setTop (mkF m 9 #[.val (.int p1), .val (.int (4 : Int32)), .unset, .unset] [(.int (4 : Int32))])) _
      refine st11 _ ?_
      show Steps p.tables e below (T11.setTop (mkF m 12 #[.val (.int p1), .val (.int (4 : Int32)), .unset, .unset] [(.ref w_MAJORITY_PERMIT)])) _
      refine XS.astoreN X11.here hx rfl (hb hby at_12) rfl rfl (l' := #[.val (.int p1), .val (.int (4 : Int32)), .val (.ref w_MAJORITY_PERMIT), .unset]) rfl ?_
      show Steps p.tables e below (T11.setTop (mkF m 13 #[.val (.int p1), .val (.int (4 : Int32)), .val (.ref w_MAJORITY_PERMIT), .unset] [])) _
      refine XS.iloadN X11.here hx rfl (hb hby at_13) rfl ?_
      show Steps p.tables e below (T11.setTop (mkF m 14 #[.val (.int p1), .val (.int (4 : Int32)), .val (.ref w_MAJORITY_PERMIT), .unset] [(.int (4 : Int32))])) _
      refine XS.iconst X11.here hx rfl (hb hby at_14) ?_
      show Steps p.tables e below (T11.setTop (mkF m 15 #[.val (.int p1), .val (.int (4 : Int32)), .val (.ref w_MAJORITY_PERMIT), .unset] [(.int (2 : Int32)), (.int (4 : Int32))])) _
      refine XS.icmpNo X11.here hx rfl (hb hby at_15) rfl (flt (by decide : ¬ ((4 : Int32) < (2 : Int32)))).1 ?_
      show Steps p.tables e below (T11.setTop (mkF m 18 #[.val (.int p1), .val (.int (4 : Int32)), .val (.ref w_MAJORITY_PERMIT), .unset] [])) _
      refine XS.iloadN X11.here hx rfl (hb hby at_18) rfl ?_
      show Steps p.tables e below (T11.setTop (mkF m 19 #[.val (.int p1), .val (.int (4 : Int32)), .val (.ref w_MAJORITY_PERMIT), .unset] [(.int (4 : Int32))])) _
      refine XS.bipush X11.here hx rfl (hb hby at_19) ?_
      show Steps p.tables e below (T11.setTop (mkF m 21 #[.val (.int p1), .val (.int (4 : Int32)), .val (.ref w_MAJORITY_PERMIT), .unset] [(.int (6 : Int32)), (.int (4 : Int32))])) _
      refine XS.icmpNo X11.here hx rfl (hb hby at_21) rfl (flt (by decide : ¬ ((6 : Int32) < (4 : Int32)))).2.2.1 ?_
      show Steps p.tables e below (T11.setTop (mkF m 24 #[.val (.int p1), .val (.int (4 : Int32)), .val (.ref w_MAJORITY_PERMIT), .unset] [])) _
      refine XS.iconst X11.here hx rfl (hb hby at_24) ?_
      show Steps p.tables e below (T11.setTop (mkF m 25 #[.val (.int p1), .val (.int (4 : Int32)), .val (.ref w_MAJORITY_PERMIT), .unset] [(.int (1 : Int32))])) _
      refine XS.goto X11.here hx rfl (pc0 := 25) (pc' := 29) rfl (hb hby at_25) (by decide) (by decide) ?_
      show Steps p.tables e below (T11.setTop (mkF m 29 #[.val (.int p1), .val (.int (4 : Int32)), .val (.ref w_MAJORITY_PERMIT), .unset] [(.int (1 : Int32))])) _
      refine XS.istoreN X11.here hx rfl (hb hby at_29) rfl (l' := #[.val (.int p1), .val (.int (4 : Int32)), .val (.ref w_MAJORITY_PERMIT), .val (.int (1 : Int32))]) rfl ?_
      show Steps p.tables e below (T11.setTop (mkF m 30 #[.val (.int p1), .val (.int (4 : Int32)), .val (.ref w_MAJORITY_PERMIT), .val (.int (1 : Int32))] [])) _
      refine XS.aloadN X11.here hx rfl (hb hby at_30) rfl rfl ?_
      show Steps p.tables e below (T11.setTop (mkF m 31 #[.val (.int p1), .val (.int (4 : Int32)), .val (.ref w_MAJORITY_PERMIT), .val (.int (1 : Int32))] [(.ref w_MAJORITY_PERMIT)])) _
      refine st12.trans ?_
      show Steps p.tables e below (T12.setTop (mkF m 34 #[.val (.int p1), .val (.int (4 : Int32)), .val (.ref w_MAJORITY_PERMIT), .val (.int (1 : Int32))] [(.int (1 : Int32))])) _
      refine XS.iloadN X12.here hx rfl (hb hby at_34) rfl ?_
      show Steps p.tables e below (T12.setTop (mkF m 35 #[.val (.int p1), .val (.int (4 : Int32)), .val (.ref w_MAJORITY_PERMIT), .val (.int (1 : Int32))] [(.int (1 : Int32)), (.int (1 : Int32))])) _
      refine XS.icmpNo X12.here hx rfl (hb hby at_35) rfl (teq (by decide : (1 : Int32) = (1 : Int32))).2 ?_
      show Steps p.tables e below (T12.setTop (mkF m 38 #[.val (.int p1), .val (.int (4 : Int32)), .val (.ref w_MAJORITY_PERMIT), .val (.int (1 : Int32))] [])) _
      refine XS.iconst X12.here hx rfl (hb hby at_38) ?_
      show Steps p.tables e below (T12.setTop (mkF m 39 #[.val (.int p1), .val (.int (4 : Int32)), .val (.ref w_MAJORITY_PERMIT), .val (.int (1 : Int32))] [(.int (1 : Int32))])) _
      refine XS.goto X12.here hx rfl (pc0 := 39) (pc' := 43) rfl (hb hby at_39) (by decide) (by decide) ?_
      show Steps p.tables e below (T12.setTop (mkF m 43 #[.val (.int p1), .val (.int (4 : Int32)), .val (.ref w_MAJORITY_PERMIT), .val (.int (1 : Int32))] [(.int (1 : Int32))])) _
      exact retN X12 hx (t := .boolean) Bd.returns (by simp) (hb hby at_43) hr
    · show Q_rm0 Z p1 w_CONTROLLER w_FULL_CONSENSUS_PERMIT w_FULL_CONSENSUS_PERMIT_EResolutionRule w_WEIGHTED w_OWNER_OVERRIDES w_OWNER_OVERRIDES_EResolutionRule w_SOURCE w_NO_THRESHOLD w_MAJORITY_PERMIT w_MAJORITY_PERMIT_EResolutionRule w_RESHARE_REFUSED w_WEIGHTED_EReason w_NOT_VIEWER w_UNNAMED w_SUPER_MAJORITY_PERMIT w_SUPER_MAJORITY_PERMIT_EResolutionRule w_STRONG_MAJORITY_PERMIT w_STRONG_MAJORITY_PERMIT_EResolutionRule h0 n0 _ T12.heap _
      rw [eq12]
      exact ⟨rfl, N12⟩
  · rw [hv2] at pre1
    obtain ⟨_, _, ⟨T13, L13, k13, n13⟩, -, X13, ⟨Lc13, hQ13, l13, y13, z13⟩, st13⟩ := Jvm.LawKit.callS X0 hx (y := (⟨"com/example/kindred_consent/kindredconsent/engine/EReasonIsCountedPinLaw", "pick", "(I)Lcom/example/kindred_consent/kindredconsent/engine/EReason;"⟩ : MethodName)) hown (mvT hZ (hw _ (List.mem_of_getElem? (i := 1) rfl))) (mvT hZ (hw _ (List.mem_of_getElem? (i := 2) rfl))) (mvT hZ (hw _ (List.mem_of_getElem? (i := 3) rfl))) (mvT hZ (hw _ (List.mem_of_getElem? (i := 4) rfl))) (by decide) (backOf (W := 0) (pick_5 l Z a0 hw [] w_CONTROLLER w_FULL_CONSENSUS_PERMIT w_FULL_CONSENSUS_PERMIT_EResolutionRule w_WEIGHTED w_OWNER_OVERRIDES w_OWNER_OVERRIDES_EResolutionRule w_SOURCE w_NO_THRESHOLD w_MAJORITY_PERMIT w_MAJORITY_PERMIT_EResolutionRule w_RESHARE_REFUSED w_WEIGHTED_EReason w_NOT_VIEWER w_UNNAMED w_SUPER_MAJORITY_PERMIT w_SUPER_MAJORITY_PERMIT_EResolutionRule w_STRONG_MAJORITY_PERMIT w_STRONG_MAJORITY_PERMIT_EResolutionRule h0 n0 O0 hE) hZ (hw _ (List.mem_of_getElem? (i := 4) rfl)) (hw _ (List.mem_of_getElem? (i := 3) rfl)) (by decide) (by decide)) (g := (mkF m 9 #[.val (.int p1), .val (.int (5 : Int32)), .unset, .unset] [(.int (5 : Int32))])) rfl (by rw [hml]; rfl) (argsL := [(.int (5 : Int32))]) (rest := []) (lenOf pd__I_Lcom_example_kindred_consent_kindredconsent_engine_EReason_ rfl) rfl (by show 2 * 0 + _ ≤ _; exact Nat.le_of_eq rfl) (hb hby at_9) (fun _ _ => ⟨rfl, e0, (by decide : 0 + 0 ≤ _), (by decide : 0 + 0 ≤ _)⟩)
    dsimp only [Pt.U, Pt.locs, Pt.cells, Pt.slots] at X13 l13 y13 z13 st13 hQ13
    subst l13 y13 z13
    obtain ⟨rfl, Nq13, eq13⟩ := hQ13
    have N13 := Fr.app N0 Nq13
    obtain ⟨cq14, kq14, q14a, q14b, q14c⟩ := isOf hZ eq13 (E_w_STRONG_MAJORITY_PERMIT.ext O0.2)
    obtain ⟨_, _, ⟨T14, L14, k14, n14⟩, -, X14, ⟨Lc14, hQ14, l14, y14, z14⟩, st14⟩ := X13.virtualBack hx (y := (⟨"com/example/kindred_consent/kindredconsent/engine/EReason", "isCounted", "()Z"⟩ : MethodName)) (z := (⟨"com/example/kindred_consent/kindredconsent/engine/EReason", "isCounted", "()Z"⟩ : MethodName)) hown (mvT hZ (hw _ (List.mem_of_getElem? (i := 8) rfl))) (mvT hZ (hw _ (List.mem_of_getElem? (i := 9) rfl))) (notFace_of_selects (args := #[]) (mvT hZ (hw _ (List.mem_of_getElem? (i := 11) rfl)))) (mvT hZ (hw _ (List.mem_of_getElem? (i := 11) rfl))) (mvT hZ (hw _ (List.mem_of_getElem? (i := 10) rfl))) (by decide) (backOf (W := 0) (ic_STRONG_MAJORITY_PERMIT l Z a0 hw [] w_CONTROLLER w_FULL_CONSENSUS_PERMIT w_FULL_CONSENSUS_PERMIT_EResolutionRule w_WEIGHTED w_OWNER_OVERRIDES w_OWNER_OVERRIDES_EResolutionRule w_SOURCE w_NO_THRESHOLD w_MAJORITY_PERMIT w_MAJORITY_PERMIT_EResolutionRule w_RESHARE_REFUSED w_WEIGHTED_EReason w_NOT_VIEWER w_UNNAMED w_SUPER_MAJORITY_PERMIT w_SUPER_MAJORITY_PERMIT_EResolutionRule w_STRONG_MAJORITY_PERMIT w_STRONG_MAJORITY_PERMIT_EResolutionRule h0 n0 O0 hE) hZ (hw _ (List.mem_of_getElem? (i := 12) rfl)) (hw _ (List.mem_of_getElem? (i := 6) rfl)) (by decide) (by decide)) q14a q14c (g := (mkF m 31 #[.val (.int p1), .val (.int (5 : Int32)), .val (.ref w_STRONG_MAJORITY_PERMIT), .val (.int (1 : Int32))] [(.ref w_STRONG_MAJORITY_PERMIT)])) rfl (by rw [hml]; rfl) (Steps.refl _) (argsL := []) (rest := []) (lenOf pd___Z rfl) rfl (by show 2 * 0 + _ ≤ _; exact Nat.le_of_eq rfl) (hb hby at_31) (fun _ _ => ⟨rfl, eq13, (by decide : 0 + 0 ≤ _), (by decide : 0 + 0 ≤ _)⟩)
    dsimp only [Pt.U, Pt.locs, Pt.cells, Pt.slots] at X14 l14 y14 z14 st14 hQ14
    subst l14 y14 z14
    obtain ⟨rfl, Nq14, eq14⟩ := hQ14
    have N14 := Fr.app N13 Nq14
    obtain ⟨fs, hr, hrun, hended, hW, hsame⟩ := X14.leave (v := some (.int (1 : Int32))) (fun h => by rw [Bd.returns] at h; cases h)
    refine ⟨_, _, pre1 _ ?_, hrun, hended, _, _, rfl, ?_, ⟨_, rfl⟩, hW, hsame.mono (by decide) (by decide)⟩
    · show Steps p.tables e below (s₁.setTop (mkF m 8 #[.val (.int p1), .val (.int (5 : Int32)), .unset, .unset] [])) _
      refine XS.iloadN X0.here hx rfl (hb hby at_8) rfl ?_
      show Steps p.tables e below (s₁.setTop (mkF m 9 #[.val (.int p1), .val (.int (5 : Int32)), .unset, .unset] [(.int (5 : Int32))])) _
      refine st13 _ ?_
      show Steps p.tables e below (T13.setTop (mkF m 12 #[.val (.int p1), .val (.int (5 : Int32)), .unset, .unset] [(.ref w_STRONG_MAJORITY_PERMIT)])) _
      refine XS.astoreN X13.here hx rfl (hb hby at_12) rfl rfl (l' := #[.val (.int p1), .val (.int (5 : Int32)), .val (.ref w_STRONG_MAJORITY_PERMIT), .unset]) rfl ?_
      show Steps p.tables e below (T13.setTop (mkF m 13 #[.val (.int p1), .val (.int (5 : Int32)), .val (.ref w_STRONG_MAJORITY_PERMIT), .unset] [])) _
      refine XS.iloadN X13.here hx rfl (hb hby at_13) rfl ?_
      show Steps p.tables e below (T13.setTop (mkF m 14 #[.val (.int p1), .val (.int (5 : Int32)), .val (.ref w_STRONG_MAJORITY_PERMIT), .unset] [(.int (5 : Int32))])) _
      refine XS.iconst X13.here hx rfl (hb hby at_14) ?_
      show Steps p.tables e below (T13.setTop (mkF m 15 #[.val (.int p1), .val (.int (5 : Int32)), .val (.ref w_STRONG_MAJORITY_PERMIT), .unset] [(.int (2 : Int32)), (.int (5 : Int32))])) _
      refine XS.icmpNo X13.here hx rfl (hb hby at_15) rfl (flt (by decide : ¬ ((5 : Int32) < (2 : Int32)))).1 ?_
      show Steps p.tables e below (T13.setTop (mkF m 18 #[.val (.int p1), .val (.int (5 : Int32)), .val (.ref w_STRONG_MAJORITY_PERMIT), .unset] [])) _
      refine XS.iloadN X13.here hx rfl (hb hby at_18) rfl ?_
      show Steps p.tables e below (T13.setTop (mkF m 19 #[.val (.int p1), .val (.int (5 : Int32)), .val (.ref w_STRONG_MAJORITY_PERMIT), .unset] [(.int (5 : Int32))])) _
      refine XS.bipush X13.here hx rfl (hb hby at_19) ?_
      show Steps p.tables e below (T13.setTop (mkF m 21 #[.val (.int p1), .val (.int (5 : Int32)), .val (.ref w_STRONG_MAJORITY_PERMIT), .unset] [(.int (6 : Int32)), (.int (5 : Int32))])) _
      refine XS.icmpNo X13.here hx rfl (hb hby at_21) rfl (flt (by decide : ¬ ((6 : Int32) < (5 : Int32)))).2.2.1 ?_
      show Steps p.tables e below (T13.setTop (mkF m 24 #[.val (.int p1), .val (.int (5 : Int32)), .val (.ref w_STRONG_MAJORITY_PERMIT), .unset] [])) _
      refine XS.iconst X13.here hx rfl (hb hby at_24) ?_
      show Steps p.tables e below (T13.setTop (mkF m 25 #[.val (.int p1), .val (.int (5 : Int32)), .val (.ref w_STRONG_MAJORITY_PERMIT), .unset] [(.int (1 : Int32))])) _
      refine XS.goto X13.here hx rfl (pc0 := 25) (pc' := 29) rfl (hb hby at_25) (by decide) (by decide) ?_
      show Steps p.tables e below (T13.setTop (mkF m 29 #[.val (.int p1), .val (.int (5 : Int32)), .val (.ref w_STRONG_MAJORITY_PERMIT), .unset] [(.int (1 : Int32))])) _
      refine XS.istoreN X13.here hx rfl (hb hby at_29) rfl (l' := #[.val (.int p1), .val (.int (5 : Int32)), .val (.ref w_STRONG_MAJORITY_PERMIT), .val (.int (1 : Int32))]) rfl ?_
      show Steps p.tables e below (T13.setTop (mkF m 30 #[.val (.int p1), .val (.int (5 : Int32)), .val (.ref w_STRONG_MAJORITY_PERMIT), .val (.int (1 : Int32))] [])) _
      refine XS.aloadN X13.here hx rfl (hb hby at_30) rfl rfl ?_
      show Steps p.tables e below (T13.setTop (mkF m 31 #[.val (.int p1), .val (.int (5 : Int32)), .val (.ref w_STRONG_MAJORITY_PERMIT), .val (.int (1 : Int32))] [(.ref w_STRONG_MAJORITY_PERMIT)])) _
      refine st14.trans ?_
      show Steps p.tables e below (T14.setTop (mkF m 34 #[.val (.int p1), .val (.int (5 : Int32)), .val (.ref w_STRONG_MAJORITY_PERMIT), .val (.int (1 : Int32))] [(.int (1 : Int32))])) _
      refine XS.iloadN X14.here hx rfl (hb hby at_34) rfl ?_
      show Steps p.tables e below (T14.setTop (mkF m 35 #[.val (.int p1), .val (.int (5 : Int32)), .val (.ref w_STRONG_MAJORITY_PERMIT), .val (.int (1 : Int32))] [(.int (1 : Int32)), (.int (1 : Int32))])) _
      refine XS.icmpNo X14.here hx rfl (hb hby at_35) rfl (teq (by decide : (1 : Int32) = (1 : Int32))).2 ?_
      show Steps p.tables e below (T14.setTop (mkF m 38 #[.val (.int p1), .val (.int (5 : Int32)), .val (.ref w_STRONG_MAJORITY_PERMIT), .val (.int (1 : Int32))] [])) _
      refine XS.iconst X14.here hx rfl (hb hby at_38) ?_
      show Steps p.tables e below (T14.setTop (mkF m 39 #[.val (.int p1), .val (.int (5 : Int32)), .val (.ref w_STRONG_MAJORITY_PERMIT), .val (.int (1 : Int32))] [(.int (1 : Int32))])) _
      refine XS.goto X14.here hx rfl (pc0 := 39) (pc' := 43) rfl (hb hby at_39) (by decide) (by decide) ?_
      show Steps p.tables e below (T14.setTop (mkF m 43 #[.val (.int p1), .val (.int (5 : Int32)), .val (.ref w_STRONG_MAJORITY_PERMIT), .val (.int (1 : Int32))] [(.int (1 : Int32))])) _
      exact retN X14 hx (t := .boolean) Bd.returns (by simp) (hb hby at_43) hr
    · show Q_rm0 Z p1 w_CONTROLLER w_FULL_CONSENSUS_PERMIT w_FULL_CONSENSUS_PERMIT_EResolutionRule w_WEIGHTED w_OWNER_OVERRIDES w_OWNER_OVERRIDES_EResolutionRule w_SOURCE w_NO_THRESHOLD w_MAJORITY_PERMIT w_MAJORITY_PERMIT_EResolutionRule w_RESHARE_REFUSED w_WEIGHTED_EReason w_NOT_VIEWER w_UNNAMED w_SUPER_MAJORITY_PERMIT w_SUPER_MAJORITY_PERMIT_EResolutionRule w_STRONG_MAJORITY_PERMIT w_STRONG_MAJORITY_PERMIT_EResolutionRule h0 n0 _ T14.heap _
      rw [eq14]
      exact ⟨rfl, N14⟩
  · rw [hv2] at pre1
    obtain ⟨_, _, ⟨T15, L15, k15, n15⟩, -, X15, ⟨Lc15, hQ15, l15, y15, z15⟩, st15⟩ := Jvm.LawKit.callS X0 hx (y := (⟨"com/example/kindred_consent/kindredconsent/engine/EReasonIsCountedPinLaw", "pick", "(I)Lcom/example/kindred_consent/kindredconsent/engine/EReason;"⟩ : MethodName)) hown (mvT hZ (hw _ (List.mem_of_getElem? (i := 1) rfl))) (mvT hZ (hw _ (List.mem_of_getElem? (i := 2) rfl))) (mvT hZ (hw _ (List.mem_of_getElem? (i := 3) rfl))) (mvT hZ (hw _ (List.mem_of_getElem? (i := 4) rfl))) (by decide) (backOf (W := 0) (pick_6 l Z a0 hw [] w_CONTROLLER w_FULL_CONSENSUS_PERMIT w_FULL_CONSENSUS_PERMIT_EResolutionRule w_WEIGHTED w_OWNER_OVERRIDES w_OWNER_OVERRIDES_EResolutionRule w_SOURCE w_NO_THRESHOLD w_MAJORITY_PERMIT w_MAJORITY_PERMIT_EResolutionRule w_RESHARE_REFUSED w_WEIGHTED_EReason w_NOT_VIEWER w_UNNAMED w_SUPER_MAJORITY_PERMIT w_SUPER_MAJORITY_PERMIT_EResolutionRule w_STRONG_MAJORITY_PERMIT w_STRONG_MAJORITY_PERMIT_EResolutionRule h0 n0 O0 hE) hZ (hw _ (List.mem_of_getElem? (i := 4) rfl)) (hw _ (List.mem_of_getElem? (i := 3) rfl)) (by decide) (by decide)) (g := (mkF m 9 #[.val (.int p1), .val (.int (6 : Int32)), .unset, .unset] [(.int (6 : Int32))])) rfl (by rw [hml]; rfl) (argsL := [(.int (6 : Int32))]) (rest := []) (lenOf pd__I_Lcom_example_kindred_consent_kindredconsent_engine_EReason_ rfl) rfl (by show 2 * 0 + _ ≤ _; exact Nat.le_of_eq rfl) (hb hby at_9) (fun _ _ => ⟨rfl, e0, (by decide : 0 + 0 ≤ _), (by decide : 0 + 0 ≤ _)⟩)
    dsimp only [Pt.U, Pt.locs, Pt.cells, Pt.slots] at X15 l15 y15 z15 st15 hQ15
    subst l15 y15 z15
    obtain ⟨rfl, Nq15, eq15⟩ := hQ15
    have N15 := Fr.app N0 Nq15
    obtain ⟨cq16, kq16, q16a, q16b, q16c⟩ := isOf hZ eq15 (E_w_SUPER_MAJORITY_PERMIT.ext O0.2)
    obtain ⟨_, _, ⟨T16, L16, k16, n16⟩, -, X16, ⟨Lc16, hQ16, l16, y16, z16⟩, st16⟩ := X15.virtualBack hx (y := (⟨"com/example/kindred_consent/kindredconsent/engine/EReason", "isCounted", "()Z"⟩ : MethodName)) (z := (⟨"com/example/kindred_consent/kindredconsent/engine/EReason", "isCounted", "()Z"⟩ : MethodName)) hown (mvT hZ (hw _ (List.mem_of_getElem? (i := 8) rfl))) (mvT hZ (hw _ (List.mem_of_getElem? (i := 9) rfl))) (notFace_of_selects (args := #[]) (mvT hZ (hw _ (List.mem_of_getElem? (i := 11) rfl)))) (mvT hZ (hw _ (List.mem_of_getElem? (i := 11) rfl))) (mvT hZ (hw _ (List.mem_of_getElem? (i := 10) rfl))) (by decide) (backOf (W := 0) (ic_SUPER_MAJORITY_PERMIT l Z a0 hw [] w_CONTROLLER w_FULL_CONSENSUS_PERMIT w_FULL_CONSENSUS_PERMIT_EResolutionRule w_WEIGHTED w_OWNER_OVERRIDES w_OWNER_OVERRIDES_EResolutionRule w_SOURCE w_NO_THRESHOLD w_MAJORITY_PERMIT w_MAJORITY_PERMIT_EResolutionRule w_RESHARE_REFUSED w_WEIGHTED_EReason w_NOT_VIEWER w_UNNAMED w_SUPER_MAJORITY_PERMIT w_SUPER_MAJORITY_PERMIT_EResolutionRule w_STRONG_MAJORITY_PERMIT w_STRONG_MAJORITY_PERMIT_EResolutionRule h0 n0 O0 hE) hZ (hw _ (List.mem_of_getElem? (i := 12) rfl)) (hw _ (List.mem_of_getElem? (i := 6) rfl)) (by decide) (by decide)) q16a q16c (g := (mkF m 31 #[.val (.int p1), .val (.int (6 : Int32)), .val (.ref w_SUPER_MAJORITY_PERMIT), .val (.int (1 : Int32))] [(.ref w_SUPER_MAJORITY_PERMIT)])) rfl (by rw [hml]; rfl) (Steps.refl _) (argsL := []) (rest := []) (lenOf pd___Z rfl) rfl (by show 2 * 0 + _ ≤ _; exact Nat.le_of_eq rfl) (hb hby at_31) (fun _ _ => ⟨rfl, eq15, (by decide : 0 + 0 ≤ _), (by decide : 0 + 0 ≤ _)⟩)
    dsimp only [Pt.U, Pt.locs, Pt.cells, Pt.slots] at X16 l16 y16 z16 st16 hQ16
    subst l16 y16 z16
    obtain ⟨rfl, Nq16, eq16⟩ := hQ16
    have N16 := Fr.app N15 Nq16
    obtain ⟨fs, hr, hrun, hended, hW, hsame⟩ := X16.leave (v := some (.int (1 : Int32))) (fun h => by rw [Bd.returns] at h; cases h)
    refine ⟨_, _, pre1 _ ?_, hrun, hended, _, _, rfl, ?_, ⟨_, rfl⟩, hW, hsame.mono (by decide) (by decide)⟩
    · show Steps p.tables e below (s₁.setTop (mkF m 8 #[.val (.int p1), .val (.int (6 : Int32)), .unset, .unset] [])) _
      refine XS.iloadN X0.here hx rfl (hb hby at_8) rfl ?_
      show Steps p.tables e below (s₁.setTop (mkF m 9 #[.val (.int p1), .val (.int (6 : Int32)), .unset, .unset] [(.int (6 : Int32))])) _
      refine st15 _ ?_
      show Steps p.tables e below (T15.setTop (mkF m 12 #[.val (.int p1), .val (.int (6 : Int32)), .unset, .unset] [(.ref w_SUPER_MAJORITY_PERMIT)])) _
      refine XS.astoreN X15.here hx rfl (hb hby at_12) rfl rfl (l' := #[.val (.int p1), .val (.int (6 : Int32)), .val (.ref w_SUPER_MAJORITY_PERMIT), .unset]) rfl ?_
      show Steps p.tables e below (T15.setTop (mkF m 13 #[.val (.int p1), .val (.int (6 : Int32)), .val (.ref w_SUPER_MAJORITY_PERMIT), .unset] [])) _
      refine XS.iloadN X15.here hx rfl (hb hby at_13) rfl ?_
      show Steps p.tables e below (T15.setTop (mkF m 14 #[.val (.int p1), .val (.int (6 : Int32)), .val (.ref w_SUPER_MAJORITY_PERMIT), .unset] [(.int (6 : Int32))])) _
      refine XS.iconst X15.here hx rfl (hb hby at_14) ?_
      show Steps p.tables e below (T15.setTop (mkF m 15 #[.val (.int p1), .val (.int (6 : Int32)), .val (.ref w_SUPER_MAJORITY_PERMIT), .unset] [(.int (2 : Int32)), (.int (6 : Int32))])) _
      refine XS.icmpNo X15.here hx rfl (hb hby at_15) rfl (flt (by decide : ¬ ((6 : Int32) < (2 : Int32)))).1 ?_
      show Steps p.tables e below (T15.setTop (mkF m 18 #[.val (.int p1), .val (.int (6 : Int32)), .val (.ref w_SUPER_MAJORITY_PERMIT), .unset] [])) _
      refine XS.iloadN X15.here hx rfl (hb hby at_18) rfl ?_
      show Steps p.tables e below (T15.setTop (mkF m 19 #[.val (.int p1), .val (.int (6 : Int32)), .val (.ref w_SUPER_MAJORITY_PERMIT), .unset] [(.int (6 : Int32))])) _
      refine XS.bipush X15.here hx rfl (hb hby at_19) ?_
      show Steps p.tables e below (T15.setTop (mkF m 21 #[.val (.int p1), .val (.int (6 : Int32)), .val (.ref w_SUPER_MAJORITY_PERMIT), .unset] [(.int (6 : Int32)), (.int (6 : Int32))])) _
      refine XS.icmpNo X15.here hx rfl (hb hby at_21) rfl (flt (by decide : ¬ ((6 : Int32) < (6 : Int32)))).2.2.1 ?_
      show Steps p.tables e below (T15.setTop (mkF m 24 #[.val (.int p1), .val (.int (6 : Int32)), .val (.ref w_SUPER_MAJORITY_PERMIT), .unset] [])) _
      refine XS.iconst X15.here hx rfl (hb hby at_24) ?_
      show Steps p.tables e below (T15.setTop (mkF m 25 #[.val (.int p1), .val (.int (6 : Int32)), .val (.ref w_SUPER_MAJORITY_PERMIT), .unset] [(.int (1 : Int32))])) _
      refine XS.goto X15.here hx rfl (pc0 := 25) (pc' := 29) rfl (hb hby at_25) (by decide) (by decide) ?_
      show Steps p.tables e below (T15.setTop (mkF m 29 #[.val (.int p1), .val (.int (6 : Int32)), .val (.ref w_SUPER_MAJORITY_PERMIT), .unset] [(.int (1 : Int32))])) _
      refine XS.istoreN X15.here hx rfl (hb hby at_29) rfl (l' := #[.val (.int p1), .val (.int (6 : Int32)), .val (.ref w_SUPER_MAJORITY_PERMIT), .val (.int (1 : Int32))]) rfl ?_
      show Steps p.tables e below (T15.setTop (mkF m 30 #[.val (.int p1), .val (.int (6 : Int32)), .val (.ref w_SUPER_MAJORITY_PERMIT), .val (.int (1 : Int32))] [])) _
      refine XS.aloadN X15.here hx rfl (hb hby at_30) rfl rfl ?_
      show Steps p.tables e below (T15.setTop (mkF m 31 #[.val (.int p1), .val (.int (6 : Int32)), .val (.ref w_SUPER_MAJORITY_PERMIT), .val (.int (1 : Int32))] [(.ref w_SUPER_MAJORITY_PERMIT)])) _
      refine st16.trans ?_
      show Steps p.tables e below (T16.setTop (mkF m 34 #[.val (.int p1), .val (.int (6 : Int32)), .val (.ref w_SUPER_MAJORITY_PERMIT), .val (.int (1 : Int32))] [(.int (1 : Int32))])) _
      refine XS.iloadN X16.here hx rfl (hb hby at_34) rfl ?_
      show Steps p.tables e below (T16.setTop (mkF m 35 #[.val (.int p1), .val (.int (6 : Int32)), .val (.ref w_SUPER_MAJORITY_PERMIT), .val (.int (1 : Int32))] [(.int (1 : Int32)), (.int (1 : Int32))])) _
      refine XS.icmpNo X16.here hx rfl (hb hby at_35) rfl (teq (by decide : (1 : Int32) = (1 : Int32))).2 ?_
      show Steps p.tables e below (T16.setTop (mkF m 38 #[.val (.int p1), .val (.int (6 : Int32)), .val (.ref w_SUPER_MAJORITY_PERMIT), .val (.int (1 : Int32))] [])) _
      refine XS.iconst X16.here hx rfl (hb hby at_38) ?_
      show Steps p.tables e below (T16.setTop (mkF m 39 #[.val (.int p1), .val (.int (6 : Int32)), .val (.ref w_SUPER_MAJORITY_PERMIT), .val (.int (1 : Int32))] [(.int (1 : Int32))])) _
      refine XS.goto X16.here hx rfl (pc0 := 39) (pc' := 43) rfl (hb hby at_39) (by decide) (by decide) ?_
      show Steps p.tables e below (T16.setTop (mkF m 43 #[.val (.int p1), .val (.int (6 : Int32)), .val (.ref w_SUPER_MAJORITY_PERMIT), .val (.int (1 : Int32))] [(.int (1 : Int32))])) _
      exact retN X16 hx (t := .boolean) Bd.returns (by simp) (hb hby at_43) hr
    · show Q_rm0 Z p1 w_CONTROLLER w_FULL_CONSENSUS_PERMIT w_FULL_CONSENSUS_PERMIT_EResolutionRule w_WEIGHTED w_OWNER_OVERRIDES w_OWNER_OVERRIDES_EResolutionRule w_SOURCE w_NO_THRESHOLD w_MAJORITY_PERMIT w_MAJORITY_PERMIT_EResolutionRule w_RESHARE_REFUSED w_WEIGHTED_EReason w_NOT_VIEWER w_UNNAMED w_SUPER_MAJORITY_PERMIT w_SUPER_MAJORITY_PERMIT_EResolutionRule w_STRONG_MAJORITY_PERMIT w_STRONG_MAJORITY_PERMIT_EResolutionRule h0 n0 _ T16.heap _
      rw [eq16]
      exact ⟨rfl, N16⟩
  · rw [hv2] at pre1
    obtain ⟨_, _, ⟨T17, L17, k17, n17⟩, -, X17, ⟨Lc17, hQ17, l17, y17, z17⟩, st17⟩ := Jvm.LawKit.callS X0 hx (y := (⟨"com/example/kindred_consent/kindredconsent/engine/EReasonIsCountedPinLaw", "pick", "(I)Lcom/example/kindred_consent/kindredconsent/engine/EReason;"⟩ : MethodName)) hown (mvT hZ (hw _ (List.mem_of_getElem? (i := 1) rfl))) (mvT hZ (hw _ (List.mem_of_getElem? (i := 2) rfl))) (mvT hZ (hw _ (List.mem_of_getElem? (i := 3) rfl))) (mvT hZ (hw _ (List.mem_of_getElem? (i := 4) rfl))) (by decide) (backOf (W := 0) (pick_7 l Z a0 hw [] w_CONTROLLER w_FULL_CONSENSUS_PERMIT w_FULL_CONSENSUS_PERMIT_EResolutionRule w_WEIGHTED w_OWNER_OVERRIDES w_OWNER_OVERRIDES_EResolutionRule w_SOURCE w_NO_THRESHOLD w_MAJORITY_PERMIT w_MAJORITY_PERMIT_EResolutionRule w_RESHARE_REFUSED w_WEIGHTED_EReason w_NOT_VIEWER w_UNNAMED w_SUPER_MAJORITY_PERMIT w_SUPER_MAJORITY_PERMIT_EResolutionRule w_STRONG_MAJORITY_PERMIT w_STRONG_MAJORITY_PERMIT_EResolutionRule h0 n0 O0 hE) hZ (hw _ (List.mem_of_getElem? (i := 4) rfl)) (hw _ (List.mem_of_getElem? (i := 3) rfl)) (by decide) (by decide)) (g := (mkF m 9 #[.val (.int p1), .val (.int (7 : Int32)), .unset, .unset] [(.int (7 : Int32))])) rfl (by rw [hml]; rfl) (argsL := [(.int (7 : Int32))]) (rest := []) (lenOf pd__I_Lcom_example_kindred_consent_kindredconsent_engine_EReason_ rfl) rfl (by show 2 * 0 + _ ≤ _; exact Nat.le_of_eq rfl) (hb hby at_9) (fun _ _ => ⟨rfl, e0, (by decide : 0 + 0 ≤ _), (by decide : 0 + 0 ≤ _)⟩)
    dsimp only [Pt.U, Pt.locs, Pt.cells, Pt.slots] at X17 l17 y17 z17 st17 hQ17
    subst l17 y17 z17
    obtain ⟨rfl, Nq17, eq17⟩ := hQ17
    have N17 := Fr.app N0 Nq17
    obtain ⟨cq18, kq18, q18a, q18b, q18c⟩ := isOf hZ eq17 (E_w_SOURCE.ext O0.2)
    obtain ⟨_, _, ⟨T18, L18, k18, n18⟩, -, X18, ⟨Lc18, hQ18, l18, y18, z18⟩, st18⟩ := X17.virtualBack hx (y := (⟨"com/example/kindred_consent/kindredconsent/engine/EReason", "isCounted", "()Z"⟩ : MethodName)) (z := (⟨"com/example/kindred_consent/kindredconsent/engine/EReason", "isCounted", "()Z"⟩ : MethodName)) hown (mvT hZ (hw _ (List.mem_of_getElem? (i := 8) rfl))) (mvT hZ (hw _ (List.mem_of_getElem? (i := 9) rfl))) (notFace_of_selects (args := #[]) (mvT hZ (hw _ (List.mem_of_getElem? (i := 11) rfl)))) (mvT hZ (hw _ (List.mem_of_getElem? (i := 11) rfl))) (mvT hZ (hw _ (List.mem_of_getElem? (i := 10) rfl))) (by decide) (backOf (W := 0) (ic_SOURCE l Z a0 hw [] w_CONTROLLER w_FULL_CONSENSUS_PERMIT w_FULL_CONSENSUS_PERMIT_EResolutionRule w_WEIGHTED w_OWNER_OVERRIDES w_OWNER_OVERRIDES_EResolutionRule w_SOURCE w_NO_THRESHOLD w_MAJORITY_PERMIT w_MAJORITY_PERMIT_EResolutionRule w_RESHARE_REFUSED w_WEIGHTED_EReason w_NOT_VIEWER w_UNNAMED w_SUPER_MAJORITY_PERMIT w_SUPER_MAJORITY_PERMIT_EResolutionRule w_STRONG_MAJORITY_PERMIT w_STRONG_MAJORITY_PERMIT_EResolutionRule h0 n0 O0 hE) hZ (hw _ (List.mem_of_getElem? (i := 12) rfl)) (hw _ (List.mem_of_getElem? (i := 6) rfl)) (by decide) (by decide)) q18a q18c (g := (mkF m 31 #[.val (.int p1), .val (.int (7 : Int32)), .val (.ref w_SOURCE), .val (.int (0 : Int32))] [(.ref w_SOURCE)])) rfl (by rw [hml]; rfl) (Steps.refl _) (argsL := []) (rest := []) (lenOf pd___Z rfl) rfl (by show 2 * 0 + _ ≤ _; exact Nat.le_of_eq rfl) (hb hby at_31) (fun _ _ => ⟨rfl, eq17, (by decide : 0 + 0 ≤ _), (by decide : 0 + 0 ≤ _)⟩)
    dsimp only [Pt.U, Pt.locs, Pt.cells, Pt.slots] at X18 l18 y18 z18 st18 hQ18
    subst l18 y18 z18
    obtain ⟨rfl, Nq18, eq18⟩ := hQ18
    have N18 := Fr.app N17 Nq18
    obtain ⟨fs, hr, hrun, hended, hW, hsame⟩ := X18.leave (v := some (.int (1 : Int32))) (fun h => by rw [Bd.returns] at h; cases h)
    refine ⟨_, _, pre1 _ ?_, hrun, hended, _, _, rfl, ?_, ⟨_, rfl⟩, hW, hsame.mono (by decide) (by decide)⟩
    · show Steps p.tables e below (s₁.setTop (mkF m 8 #[.val (.int p1), .val (.int (7 : Int32)), .unset, .unset] [])) _
      refine XS.iloadN X0.here hx rfl (hb hby at_8) rfl ?_
      show Steps p.tables e below (s₁.setTop (mkF m 9 #[.val (.int p1), .val (.int (7 : Int32)), .unset, .unset] [(.int (7 : Int32))])) _
      refine st17 _ ?_
      show Steps p.tables e below (T17.setTop (mkF m 12 #[.val (.int p1), .val (.int (7 : Int32)), .unset, .unset] [(.ref w_SOURCE)])) _
      refine XS.astoreN X17.here hx rfl (hb hby at_12) rfl rfl (l' := #[.val (.int p1), .val (.int (7 : Int32)), .val (.ref w_SOURCE), .unset]) rfl ?_
      show Steps p.tables e below (T17.setTop (mkF m 13 #[.val (.int p1), .val (.int (7 : Int32)), .val (.ref w_SOURCE), .unset] [])) _
      refine XS.iloadN X17.here hx rfl (hb hby at_13) rfl ?_
      show Steps p.tables e below (T17.setTop (mkF m 14 #[.val (.int p1), .val (.int (7 : Int32)), .val (.ref w_SOURCE), .unset] [(.int (7 : Int32))])) _
      refine XS.iconst X17.here hx rfl (hb hby at_14) ?_
      show Steps p.tables e below (T17.setTop (mkF m 15 #[.val (.int p1), .val (.int (7 : Int32)), .val (.ref w_SOURCE), .unset] [(.int (2 : Int32)), (.int (7 : Int32))])) _
      refine XS.icmpNo X17.here hx rfl (hb hby at_15) rfl (flt (by decide : ¬ ((7 : Int32) < (2 : Int32)))).1 ?_
      show Steps p.tables e below (T17.setTop (mkF m 18 #[.val (.int p1), .val (.int (7 : Int32)), .val (.ref w_SOURCE), .unset] [])) _
      refine XS.iloadN X17.here hx rfl (hb hby at_18) rfl ?_
      show Steps p.tables e below (T17.setTop (mkF m 19 #[.val (.int p1), .val (.int (7 : Int32)), .val (.ref w_SOURCE), .unset] [(.int (7 : Int32))])) _
      refine XS.bipush X17.here hx rfl (hb hby at_19) ?_
      show Steps p.tables e below (T17.setTop (mkF m 21 #[.val (.int p1), .val (.int (7 : Int32)), .val (.ref w_SOURCE), .unset] [(.int (6 : Int32)), (.int (7 : Int32))])) _
      refine XS.icmpYes X17.here hx rfl (pc0 := 21) (pc' := 28) rfl (hb hby at_21) rfl (tlt (by decide : (6 : Int32) < (7 : Int32))).2.2.1 (by decide) (by decide) ?_
      show Steps p.tables e below (T17.setTop (mkF m 28 #[.val (.int p1), .val (.int (7 : Int32)), .val (.ref w_SOURCE), .unset] [])) _
      refine XS.iconst X17.here hx rfl (hb hby at_28) ?_
      show Steps p.tables e below (T17.setTop (mkF m 29 #[.val (.int p1), .val (.int (7 : Int32)), .val (.ref w_SOURCE), .unset] [(.int (0 : Int32))])) _
      refine XS.istoreN X17.here hx rfl (hb hby at_29) rfl (l' := #[.val (.int p1), .val (.int (7 : Int32)), .val (.ref w_SOURCE), .val (.int (0 : Int32))]) rfl ?_
      show Steps p.tables e below (T17.setTop (mkF m 30 #[.val (.int p1), .val (.int (7 : Int32)), .val (.ref w_SOURCE), .val (.int (0 : Int32))] [])) _
      refine XS.aloadN X17.here hx rfl (hb hby at_30) rfl rfl ?_
      show Steps p.tables e below (T17.setTop (mkF m 31 #[.val (.int p1), .val (.int (7 : Int32)), .val (.ref w_SOURCE), .val (.int (0 : Int32))] [(.ref w_SOURCE)])) _
      refine st18.trans ?_
      show Steps p.tables e below (T18.setTop (mkF m 34 #[.val (.int p1), .val (.int (7 : Int32)), .val (.ref w_SOURCE), .val (.int (0 : Int32))] [(.int (0 : Int32))])) _
      refine XS.iloadN X18.here hx rfl (hb hby at_34) rfl ?_
      show Steps p.tables e below (T18.setTop (mkF m 35 #[.val (.int p1), .val (.int (7 : Int32)), .val (.ref w_SOURCE), .val (.int (0 : Int32))] [(.int (0 : Int32)), (.int (0 : Int32))])) _
      refine XS.icmpNo X18.here hx rfl (hb hby at_35) rfl (teq (by decide : (0 : Int32) = (0 : Int32))).2 ?_
      show Steps p.tables e below (T18.setTop (mkF m 38 #[.val (.int p1), .val (.int (7 : Int32)), .val (.ref w_SOURCE), .val (.int (0 : Int32))] [])) _
      refine XS.iconst X18.here hx rfl (hb hby at_38) ?_
      show Steps p.tables e below (T18.setTop (mkF m 39 #[.val (.int p1), .val (.int (7 : Int32)), .val (.ref w_SOURCE), .val (.int (0 : Int32))] [(.int (1 : Int32))])) _
      refine XS.goto X18.here hx rfl (pc0 := 39) (pc' := 43) rfl (hb hby at_39) (by decide) (by decide) ?_
      show Steps p.tables e below (T18.setTop (mkF m 43 #[.val (.int p1), .val (.int (7 : Int32)), .val (.ref w_SOURCE), .val (.int (0 : Int32))] [(.int (1 : Int32))])) _
      exact retN X18 hx (t := .boolean) Bd.returns (by simp) (hb hby at_43) hr
    · show Q_rm0 Z p1 w_CONTROLLER w_FULL_CONSENSUS_PERMIT w_FULL_CONSENSUS_PERMIT_EResolutionRule w_WEIGHTED w_OWNER_OVERRIDES w_OWNER_OVERRIDES_EResolutionRule w_SOURCE w_NO_THRESHOLD w_MAJORITY_PERMIT w_MAJORITY_PERMIT_EResolutionRule w_RESHARE_REFUSED w_WEIGHTED_EReason w_NOT_VIEWER w_UNNAMED w_SUPER_MAJORITY_PERMIT w_SUPER_MAJORITY_PERMIT_EResolutionRule w_STRONG_MAJORITY_PERMIT w_STRONG_MAJORITY_PERMIT_EResolutionRule h0 n0 _ T18.heap _
      rw [eq18]
      exact ⟨rfl, N18⟩
  · rw [hv2] at pre1
    obtain ⟨_, _, ⟨T19, L19, k19, n19⟩, -, X19, ⟨Lc19, hQ19, l19, y19, z19⟩, st19⟩ := Jvm.LawKit.callS X0 hx (y := (⟨"com/example/kindred_consent/kindredconsent/engine/EReasonIsCountedPinLaw", "pick", "(I)Lcom/example/kindred_consent/kindredconsent/engine/EReason;"⟩ : MethodName)) hown (mvT hZ (hw _ (List.mem_of_getElem? (i := 1) rfl))) (mvT hZ (hw _ (List.mem_of_getElem? (i := 2) rfl))) (mvT hZ (hw _ (List.mem_of_getElem? (i := 3) rfl))) (mvT hZ (hw _ (List.mem_of_getElem? (i := 4) rfl))) (by decide) (backOf (W := 0) (pick_8 l Z a0 hw [] w_CONTROLLER w_FULL_CONSENSUS_PERMIT w_FULL_CONSENSUS_PERMIT_EResolutionRule w_WEIGHTED w_OWNER_OVERRIDES w_OWNER_OVERRIDES_EResolutionRule w_SOURCE w_NO_THRESHOLD w_MAJORITY_PERMIT w_MAJORITY_PERMIT_EResolutionRule w_RESHARE_REFUSED w_WEIGHTED_EReason w_NOT_VIEWER w_UNNAMED w_SUPER_MAJORITY_PERMIT w_SUPER_MAJORITY_PERMIT_EResolutionRule w_STRONG_MAJORITY_PERMIT w_STRONG_MAJORITY_PERMIT_EResolutionRule h0 n0 O0 hE) hZ (hw _ (List.mem_of_getElem? (i := 4) rfl)) (hw _ (List.mem_of_getElem? (i := 3) rfl)) (by decide) (by decide)) (g := (mkF m 9 #[.val (.int p1), .val (.int (8 : Int32)), .unset, .unset] [(.int (8 : Int32))])) rfl (by rw [hml]; rfl) (argsL := [(.int (8 : Int32))]) (rest := []) (lenOf pd__I_Lcom_example_kindred_consent_kindredconsent_engine_EReason_ rfl) rfl (by show 2 * 0 + _ ≤ _; exact Nat.le_of_eq rfl) (hb hby at_9) (fun _ _ => ⟨rfl, e0, (by decide : 0 + 0 ≤ _), (by decide : 0 + 0 ≤ _)⟩)
    dsimp only [Pt.U, Pt.locs, Pt.cells, Pt.slots] at X19 l19 y19 z19 st19 hQ19
    subst l19 y19 z19
    obtain ⟨rfl, Nq19, eq19⟩ := hQ19
    have N19 := Fr.app N0 Nq19
    obtain ⟨cq20, kq20, q20a, q20b, q20c⟩ := isOf hZ eq19 (E_w_RESHARE_REFUSED.ext O0.2)
    obtain ⟨_, _, ⟨T20, L20, k20, n20⟩, -, X20, ⟨Lc20, hQ20, l20, y20, z20⟩, st20⟩ := X19.virtualBack hx (y := (⟨"com/example/kindred_consent/kindredconsent/engine/EReason", "isCounted", "()Z"⟩ : MethodName)) (z := (⟨"com/example/kindred_consent/kindredconsent/engine/EReason", "isCounted", "()Z"⟩ : MethodName)) hown (mvT hZ (hw _ (List.mem_of_getElem? (i := 8) rfl))) (mvT hZ (hw _ (List.mem_of_getElem? (i := 9) rfl))) (notFace_of_selects (args := #[]) (mvT hZ (hw _ (List.mem_of_getElem? (i := 11) rfl)))) (mvT hZ (hw _ (List.mem_of_getElem? (i := 11) rfl))) (mvT hZ (hw _ (List.mem_of_getElem? (i := 10) rfl))) (by decide) (backOf (W := 0) (ic_RESHARE_REFUSED l Z a0 hw [] w_CONTROLLER w_FULL_CONSENSUS_PERMIT w_FULL_CONSENSUS_PERMIT_EResolutionRule w_WEIGHTED w_OWNER_OVERRIDES w_OWNER_OVERRIDES_EResolutionRule w_SOURCE w_NO_THRESHOLD w_MAJORITY_PERMIT w_MAJORITY_PERMIT_EResolutionRule w_RESHARE_REFUSED w_WEIGHTED_EReason w_NOT_VIEWER w_UNNAMED w_SUPER_MAJORITY_PERMIT w_SUPER_MAJORITY_PERMIT_EResolutionRule w_STRONG_MAJORITY_PERMIT w_STRONG_MAJORITY_PERMIT_EResolutionRule h0 n0 O0 hE) hZ (hw _ (List.mem_of_getElem? (i := 12) rfl)) (hw _ (List.mem_of_getElem? (i := 6) rfl)) (by decide) (by decide)) q20a q20c (g := (mkF m 31 #[.val (.int p1), .val (.int (8 : Int32)), .val (.ref w_RESHARE_REFUSED), .val (.int (0 : Int32))] [(.ref w_RESHARE_REFUSED)])) rfl (by rw [hml]; rfl) (Steps.refl _) (argsL := []) (rest := []) (lenOf pd___Z rfl) rfl (by show 2 * 0 + _ ≤ _; exact Nat.le_of_eq rfl) (hb hby at_31) (fun _ _ => ⟨rfl, eq19, (by decide : 0 + 0 ≤ _), (by decide : 0 + 0 ≤ _)⟩)
    dsimp only [Pt.U, Pt.locs, Pt.cells, Pt.slots] at X20 l20 y20 z20 st20 hQ20
    subst l20 y20 z20
    obtain ⟨rfl, Nq20, eq20⟩ := hQ20
    have N20 := Fr.app N19 Nq20
    obtain ⟨fs, hr, hrun, hended, hW, hsame⟩ := X20.leave (v := some (.int (1 : Int32))) (fun h => by rw [Bd.returns] at h; cases h)
    refine ⟨_, _, pre1 _ ?_, hrun, hended, _, _, rfl, ?_, ⟨_, rfl⟩, hW, hsame.mono (by decide) (by decide)⟩
    · show Steps p.tables e below (s₁.setTop (mkF m 8 #[.val (.int p1), .val (.int (8 : Int32)), .unset, .unset] [])) _
      refine XS.iloadN X0.here hx rfl (hb hby at_8) rfl ?_
      show Steps p.tables e below (s₁.setTop (mkF m 9 #[.val (.int p1), .val (.int (8 : Int32)), .unset, .unset] [(.int (8 : Int32))])) _
      refine st19 _ ?_
      show Steps p.tables e below (T19.setTop (mkF m 12 #[.val (.int p1), .val (.int (8 : Int32)), .unset, .unset] [(.ref w_RESHARE_REFUSED)])) _
      refine XS.astoreN X19.here hx rfl (hb hby at_12) rfl rfl (l' := #[.val (.int p1), .val (.int (8 : Int32)), .val (.ref w_RESHARE_REFUSED), .unset]) rfl ?_
      show Steps p.tables e below (T19.setTop (mkF m 13 #[.val (.int p1), .val (.int (8 : Int32)), .val (.ref w_RESHARE_REFUSED), .unset] [])) _
      refine XS.iloadN X19.here hx rfl (hb hby at_13) rfl ?_
      show Steps p.tables e below (T19.setTop (mkF m 14 #[.val (.int p1), .val (.int (8 : Int32)), .val (.ref w_RESHARE_REFUSED), .unset] [(.int (8 : Int32))])) _
      refine XS.iconst X19.here hx rfl (hb hby at_14) ?_
      show Steps p.tables e below (T19.setTop (mkF m 15 #[.val (.int p1), .val (.int (8 : Int32)), .val (.ref w_RESHARE_REFUSED), .unset] [(.int (2 : Int32)), (.int (8 : Int32))])) _
      refine XS.icmpNo X19.here hx rfl (hb hby at_15) rfl (flt (by decide : ¬ ((8 : Int32) < (2 : Int32)))).1 ?_
      show Steps p.tables e below (T19.setTop (mkF m 18 #[.val (.int p1), .val (.int (8 : Int32)), .val (.ref w_RESHARE_REFUSED), .unset] [])) _
      refine XS.iloadN X19.here hx rfl (hb hby at_18) rfl ?_
      show Steps p.tables e below (T19.setTop (mkF m 19 #[.val (.int p1), .val (.int (8 : Int32)), .val (.ref w_RESHARE_REFUSED), .unset] [(.int (8 : Int32))])) _
      refine XS.bipush X19.here hx rfl (hb hby at_19) ?_
      show Steps p.tables e below (T19.setTop (mkF m 21 #[.val (.int p1), .val (.int (8 : Int32)), .val (.ref w_RESHARE_REFUSED), .unset] [(.int (6 : Int32)), (.int (8 : Int32))])) _
      refine XS.icmpYes X19.here hx rfl (pc0 := 21) (pc' := 28) rfl (hb hby at_21) rfl (tlt (by decide : (6 : Int32) < (8 : Int32))).2.2.1 (by decide) (by decide) ?_
      show Steps p.tables e below (T19.setTop (mkF m 28 #[.val (.int p1), .val (.int (8 : Int32)), .val (.ref w_RESHARE_REFUSED), .unset] [])) _
      refine XS.iconst X19.here hx rfl (hb hby at_28) ?_
      show Steps p.tables e below (T19.setTop (mkF m 29 #[.val (.int p1), .val (.int (8 : Int32)), .val (.ref w_RESHARE_REFUSED), .unset] [(.int (0 : Int32))])) _
      refine XS.istoreN X19.here hx rfl (hb hby at_29) rfl (l' := #[.val (.int p1), .val (.int (8 : Int32)), .val (.ref w_RESHARE_REFUSED), .val (.int (0 : Int32))]) rfl ?_
      show Steps p.tables e below (T19.setTop (mkF m 30 #[.val (.int p1), .val (.int (8 : Int32)), .val (.ref w_RESHARE_REFUSED), .val (.int (0 : Int32))] [])) _
      refine XS.aloadN X19.here hx rfl (hb hby at_30) rfl rfl ?_
      show Steps p.tables e below (T19.setTop (mkF m 31 #[.val (.int p1), .val (.int (8 : Int32)), .val (.ref w_RESHARE_REFUSED), .val (.int (0 : Int32))] [(.ref w_RESHARE_REFUSED)])) _
      refine st20.trans ?_
      show Steps p.tables e below (T20.setTop (mkF m 34 #[.val (.int p1), .val (.int (8 : Int32)), .val (.ref w_RESHARE_REFUSED), .val (.int (0 : Int32))] [(.int (0 : Int32))])) _
      refine XS.iloadN X20.here hx rfl (hb hby at_34) rfl ?_
      show Steps p.tables e below (T20.setTop (mkF m 35 #[.val (.int p1), .val (.int (8 : Int32)), .val (.ref w_RESHARE_REFUSED), .val (.int (0 : Int32))] [(.int (0 : Int32)), (.int (0 : Int32))])) _
      refine XS.icmpNo X20.here hx rfl (hb hby at_35) rfl (teq (by decide : (0 : Int32) = (0 : Int32))).2 ?_
      show Steps p.tables e below (T20.setTop (mkF m 38 #[.val (.int p1), .val (.int (8 : Int32)), .val (.ref w_RESHARE_REFUSED), .val (.int (0 : Int32))] [])) _
      refine XS.iconst X20.here hx rfl (hb hby at_38) ?_
      show Steps p.tables e below (T20.setTop (mkF m 39 #[.val (.int p1), .val (.int (8 : Int32)), .val (.ref w_RESHARE_REFUSED), .val (.int (0 : Int32))] [(.int (1 : Int32))])) _
      refine XS.goto X20.here hx rfl (pc0 := 39) (pc' := 43) rfl (hb hby at_39) (by decide) (by decide) ?_
      show Steps p.tables e below (T20.setTop (mkF m 43 #[.val (.int p1), .val (.int (8 : Int32)), .val (.ref w_RESHARE_REFUSED), .val (.int (0 : Int32))] [(.int (1 : Int32))])) _
      exact retN X20 hx (t := .boolean) Bd.returns (by simp) (hb hby at_43) hr
    · show Q_rm0 Z p1 w_CONTROLLER w_FULL_CONSENSUS_PERMIT w_FULL_CONSENSUS_PERMIT_EResolutionRule w_WEIGHTED w_OWNER_OVERRIDES w_OWNER_OVERRIDES_EResolutionRule w_SOURCE w_NO_THRESHOLD w_MAJORITY_PERMIT w_MAJORITY_PERMIT_EResolutionRule w_RESHARE_REFUSED w_WEIGHTED_EReason w_NOT_VIEWER w_UNNAMED w_SUPER_MAJORITY_PERMIT w_SUPER_MAJORITY_PERMIT_EResolutionRule w_STRONG_MAJORITY_PERMIT w_STRONG_MAJORITY_PERMIT_EResolutionRule h0 n0 _ T20.heap _
      rw [eq20]
      exact ⟨rfl, N20⟩
  · rw [hv2] at pre1
    obtain ⟨_, _, ⟨T21, L21, k21, n21⟩, -, X21, ⟨Lc21, hQ21, l21, y21, z21⟩, st21⟩ := Jvm.LawKit.callS X0 hx (y := (⟨"com/example/kindred_consent/kindredconsent/engine/EReasonIsCountedPinLaw", "pick", "(I)Lcom/example/kindred_consent/kindredconsent/engine/EReason;"⟩ : MethodName)) hown (mvT hZ (hw _ (List.mem_of_getElem? (i := 1) rfl))) (mvT hZ (hw _ (List.mem_of_getElem? (i := 2) rfl))) (mvT hZ (hw _ (List.mem_of_getElem? (i := 3) rfl))) (mvT hZ (hw _ (List.mem_of_getElem? (i := 4) rfl))) (by decide) (backOf (W := 0) (pick_9 l Z a0 hw [] w_CONTROLLER w_FULL_CONSENSUS_PERMIT w_FULL_CONSENSUS_PERMIT_EResolutionRule w_WEIGHTED w_OWNER_OVERRIDES w_OWNER_OVERRIDES_EResolutionRule w_SOURCE w_NO_THRESHOLD w_MAJORITY_PERMIT w_MAJORITY_PERMIT_EResolutionRule w_RESHARE_REFUSED w_WEIGHTED_EReason w_NOT_VIEWER w_UNNAMED w_SUPER_MAJORITY_PERMIT w_SUPER_MAJORITY_PERMIT_EResolutionRule w_STRONG_MAJORITY_PERMIT w_STRONG_MAJORITY_PERMIT_EResolutionRule h0 n0 O0 hE) hZ (hw _ (List.mem_of_getElem? (i := 4) rfl)) (hw _ (List.mem_of_getElem? (i := 3) rfl)) (by decide) (by decide)) (g := (mkF m 9 #[.val (.int p1), .val (.int (9 : Int32)), .unset, .unset] [(.int (9 : Int32))])) rfl (by rw [hml]; rfl) (argsL := [(.int (9 : Int32))]) (rest := []) (lenOf pd__I_Lcom_example_kindred_consent_kindredconsent_engine_EReason_ rfl) rfl (by show 2 * 0 + _ ≤ _; exact Nat.le_of_eq rfl) (hb hby at_9) (fun _ _ => ⟨rfl, e0, (by decide : 0 + 0 ≤ _), (by decide : 0 + 0 ≤ _)⟩)
    dsimp only [Pt.U, Pt.locs, Pt.cells, Pt.slots] at X21 l21 y21 z21 st21 hQ21
    subst l21 y21 z21
    obtain ⟨rfl, Nq21, eq21⟩ := hQ21
    have N21 := Fr.app N0 Nq21
    obtain ⟨cq22, kq22, q22a, q22b, q22c⟩ := isOf hZ eq21 (E_w_UNNAMED.ext O0.2)
    obtain ⟨_, _, ⟨T22, L22, k22, n22⟩, -, X22, ⟨Lc22, hQ22, l22, y22, z22⟩, st22⟩ := X21.virtualBack hx (y := (⟨"com/example/kindred_consent/kindredconsent/engine/EReason", "isCounted", "()Z"⟩ : MethodName)) (z := (⟨"com/example/kindred_consent/kindredconsent/engine/EReason", "isCounted", "()Z"⟩ : MethodName)) hown (mvT hZ (hw _ (List.mem_of_getElem? (i := 8) rfl))) (mvT hZ (hw _ (List.mem_of_getElem? (i := 9) rfl))) (notFace_of_selects (args := #[]) (mvT hZ (hw _ (List.mem_of_getElem? (i := 11) rfl)))) (mvT hZ (hw _ (List.mem_of_getElem? (i := 11) rfl))) (mvT hZ (hw _ (List.mem_of_getElem? (i := 10) rfl))) (by decide) (backOf (W := 0) (ic_UNNAMED l Z a0 hw [] w_CONTROLLER w_FULL_CONSENSUS_PERMIT w_FULL_CONSENSUS_PERMIT_EResolutionRule w_WEIGHTED w_OWNER_OVERRIDES w_OWNER_OVERRIDES_EResolutionRule w_SOURCE w_NO_THRESHOLD w_MAJORITY_PERMIT w_MAJORITY_PERMIT_EResolutionRule w_RESHARE_REFUSED w_WEIGHTED_EReason w_NOT_VIEWER w_UNNAMED w_SUPER_MAJORITY_PERMIT w_SUPER_MAJORITY_PERMIT_EResolutionRule w_STRONG_MAJORITY_PERMIT w_STRONG_MAJORITY_PERMIT_EResolutionRule h0 n0 O0 hE) hZ (hw _ (List.mem_of_getElem? (i := 12) rfl)) (hw _ (List.mem_of_getElem? (i := 6) rfl)) (by decide) (by decide)) q22a q22c (g := (mkF m 31 #[.val (.int p1), .val (.int (9 : Int32)), .val (.ref w_UNNAMED), .val (.int (0 : Int32))] [(.ref w_UNNAMED)])) rfl (by rw [hml]; rfl) (Steps.refl _) (argsL := []) (rest := []) (lenOf pd___Z rfl) rfl (by show 2 * 0 + _ ≤ _; exact Nat.le_of_eq rfl) (hb hby at_31) (fun _ _ => ⟨rfl, eq21, (by decide : 0 + 0 ≤ _), (by decide : 0 + 0 ≤ _)⟩)
    dsimp only [Pt.U, Pt.locs, Pt.cells, Pt.slots] at X22 l22 y22 z22 st22 hQ22
    subst l22 y22 z22
    obtain ⟨rfl, Nq22, eq22⟩ := hQ22
    have N22 := Fr.app N21 Nq22
    obtain ⟨fs, hr, hrun, hended, hW, hsame⟩ := X22.leave (v := some (.int (1 : Int32))) (fun h => by rw [Bd.returns] at h; cases h)
    refine ⟨_, _, pre1 _ ?_, hrun, hended, _, _, rfl, ?_, ⟨_, rfl⟩, hW, hsame.mono (by decide) (by decide)⟩
    · show Steps p.tables e below (s₁.setTop (mkF m 8 #[.val (.int p1), .val (.int (9 : Int32)), .unset, .unset] [])) _
      refine XS.iloadN X0.here hx rfl (hb hby at_8) rfl ?_
      show Steps p.tables e below (s₁.setTop (mkF m 9 #[.val (.int p1), .val (.int (9 : Int32)), .unset, .unset] [(.int (9 : Int32))])) _
      refine st21 _ ?_
      show Steps p.tables e below (T21.setTop (mkF m 12 #[.val (.int p1), .val (.int (9 : Int32)), .unset, .unset] [(.ref w_UNNAMED)])) _
      refine XS.astoreN X21.here hx rfl (hb hby at_12) rfl rfl (l' := #[.val (.int p1), .val (.int (9 : Int32)), .val (.ref w_UNNAMED), .unset]) rfl ?_
      show Steps p.tables e below (T21.setTop (mkF m 13 #[.val (.int p1), .val (.int (9 : Int32)), .val (.ref w_UNNAMED), .unset] [])) _
      refine XS.iloadN X21.here hx rfl (hb hby at_13) rfl ?_
      show Steps p.tables e below (T21.setTop (mkF m 14 #[.val (.int p1), .val (.int (9 : Int32)), .val (.ref w_UNNAMED), .unset] [(.int (9 : Int32))])) _
      refine XS.iconst X21.here hx rfl (hb hby at_14) ?_
      show Steps p.tables e below (T21.setTop (mkF m 15 #[.val (.int p1), .val (.int (9 : Int32)), .val (.ref w_UNNAMED), .unset] [(.int (2 : Int32)), (.int (9 : Int32))])) _
      refine XS.icmpNo X21.here hx rfl (hb hby at_15) rfl (flt (by decide : ¬ ((9 : Int32) < (2 : Int32)))).1 ?_
      show Steps p.tables e below (T21.setTop (mkF m 18 #[.val (.int p1), .val (.int (9 : Int32)), .val (.ref w_UNNAMED), .unset] [])) _
      refine XS.iloadN X21.here hx rfl (hb hby at_18) rfl ?_
      show Steps p.tables e below (T21.setTop (mkF m 19 #[.val (.int p1), .val (.int (9 : Int32)), .val (.ref w_UNNAMED), .unset] [(.int (9 : Int32))])) _
      refine XS.bipush X21.here hx rfl (hb hby at_19) ?_
      show Steps p.tables e below (T21.setTop (mkF m 21 #[.val (.int p1), .val (.int (9 : Int32)), .val (.ref w_UNNAMED), .unset] [(.int (6 : Int32)), (.int (9 : Int32))])) _
      refine XS.icmpYes X21.here hx rfl (pc0 := 21) (pc' := 28) rfl (hb hby at_21) rfl (tlt (by decide : (6 : Int32) < (9 : Int32))).2.2.1 (by decide) (by decide) ?_
      show Steps p.tables e below (T21.setTop (mkF m 28 #[.val (.int p1), .val (.int (9 : Int32)), .val (.ref w_UNNAMED), .unset] [])) _
      refine XS.iconst X21.here hx rfl (hb hby at_28) ?_
      show Steps p.tables e below (T21.setTop (mkF m 29 #[.val (.int p1), .val (.int (9 : Int32)), .val (.ref w_UNNAMED), .unset] [(.int (0 : Int32))])) _
      refine XS.istoreN X21.here hx rfl (hb hby at_29) rfl (l' := #[.val (.int p1), .val (.int (9 : Int32)), .val (.ref w_UNNAMED), .val (.int (0 : Int32))]) rfl ?_
      show Steps p.tables e below (T21.setTop (mkF m 30 #[.val (.int p1), .val (.int (9 : Int32)), .val (.ref w_UNNAMED), .val (.int (0 : Int32))] [])) _
      refine XS.aloadN X21.here hx rfl (hb hby at_30) rfl rfl ?_
      show Steps p.tables e below (T21.setTop (mkF m 31 #[.val (.int p1), .val (.int (9 : Int32)), .val (.ref w_UNNAMED), .val (.int (0 : Int32))] [(.ref w_UNNAMED)])) _
      refine st22.trans ?_
      show Steps p.tables e below (T22.setTop (mkF m 34 #[.val (.int p1), .val (.int (9 : Int32)), .val (.ref w_UNNAMED), .val (.int (0 : Int32))] [(.int (0 : Int32))])) _
      refine XS.iloadN X22.here hx rfl (hb hby at_34) rfl ?_
      show Steps p.tables e below (T22.setTop (mkF m 35 #[.val (.int p1), .val (.int (9 : Int32)), .val (.ref w_UNNAMED), .val (.int (0 : Int32))] [(.int (0 : Int32)), (.int (0 : Int32))])) _
      refine XS.icmpNo X22.here hx rfl (hb hby at_35) rfl (teq (by decide : (0 : Int32) = (0 : Int32))).2 ?_
      show Steps p.tables e below (T22.setTop (mkF m 38 #[.val (.int p1), .val (.int (9 : Int32)), .val (.ref w_UNNAMED), .val (.int (0 : Int32))] [])) _
      refine XS.iconst X22.here hx rfl (hb hby at_38) ?_
      show Steps p.tables e below (T22.setTop (mkF m 39 #[.val (.int p1), .val (.int (9 : Int32)), .val (.ref w_UNNAMED), .val (.int (0 : Int32))] [(.int (1 : Int32))])) _
      refine XS.goto X22.here hx rfl (pc0 := 39) (pc' := 43) rfl (hb hby at_39) (by decide) (by decide) ?_
      show Steps p.tables e below (T22.setTop (mkF m 43 #[.val (.int p1), .val (.int (9 : Int32)), .val (.ref w_UNNAMED), .val (.int (0 : Int32))] [(.int (1 : Int32))])) _
      exact retN X22 hx (t := .boolean) Bd.returns (by simp) (hb hby at_43) hr
    · show Q_rm0 Z p1 w_CONTROLLER w_FULL_CONSENSUS_PERMIT w_FULL_CONSENSUS_PERMIT_EResolutionRule w_WEIGHTED w_OWNER_OVERRIDES w_OWNER_OVERRIDES_EResolutionRule w_SOURCE w_NO_THRESHOLD w_MAJORITY_PERMIT w_MAJORITY_PERMIT_EResolutionRule w_RESHARE_REFUSED w_WEIGHTED_EReason w_NOT_VIEWER w_UNNAMED w_SUPER_MAJORITY_PERMIT w_SUPER_MAJORITY_PERMIT_EResolutionRule w_STRONG_MAJORITY_PERMIT w_STRONG_MAJORITY_PERMIT_EResolutionRule h0 n0 _ T22.heap _
      rw [eq22]
      exact ⟨rfl, N22⟩
  · rw [hv2] at pre1
    obtain ⟨_, _, ⟨T23, L23, k23, n23⟩, -, X23, ⟨Lc23, hQ23, l23, y23, z23⟩, st23⟩ := Jvm.LawKit.callS X0 hx (y := (⟨"com/example/kindred_consent/kindredconsent/engine/EReasonIsCountedPinLaw", "pick", "(I)Lcom/example/kindred_consent/kindredconsent/engine/EReason;"⟩ : MethodName)) hown (mvT hZ (hw _ (List.mem_of_getElem? (i := 1) rfl))) (mvT hZ (hw _ (List.mem_of_getElem? (i := 2) rfl))) (mvT hZ (hw _ (List.mem_of_getElem? (i := 3) rfl))) (mvT hZ (hw _ (List.mem_of_getElem? (i := 4) rfl))) (by decide) (backOf (W := 0) (pick_10 l Z a0 hw [] w_CONTROLLER w_FULL_CONSENSUS_PERMIT w_FULL_CONSENSUS_PERMIT_EResolutionRule w_WEIGHTED w_OWNER_OVERRIDES w_OWNER_OVERRIDES_EResolutionRule w_SOURCE w_NO_THRESHOLD w_MAJORITY_PERMIT w_MAJORITY_PERMIT_EResolutionRule w_RESHARE_REFUSED w_WEIGHTED_EReason w_NOT_VIEWER w_UNNAMED w_SUPER_MAJORITY_PERMIT w_SUPER_MAJORITY_PERMIT_EResolutionRule w_STRONG_MAJORITY_PERMIT w_STRONG_MAJORITY_PERMIT_EResolutionRule h0 n0 O0 hE) hZ (hw _ (List.mem_of_getElem? (i := 4) rfl)) (hw _ (List.mem_of_getElem? (i := 3) rfl)) (by decide) (by decide)) (g := (mkF m 9 #[.val (.int p1), .val (.int (10 : Int32)), .unset, .unset] [(.int (10 : Int32))])) rfl (by rw [hml]; rfl) (argsL := [(.int (10 : Int32))]) (rest := []) (lenOf pd__I_Lcom_example_kindred_consent_kindredconsent_engine_EReason_ rfl) rfl (by show 2 * 0 + _ ≤ _; exact Nat.le_of_eq rfl) (hb hby at_9) (fun _ _ => ⟨rfl, e0, (by decide : 0 + 0 ≤ _), (by decide : 0 + 0 ≤ _)⟩)
    dsimp only [Pt.U, Pt.locs, Pt.cells, Pt.slots] at X23 l23 y23 z23 st23 hQ23
    subst l23 y23 z23
    obtain ⟨rfl, Nq23, eq23⟩ := hQ23
    have N23 := Fr.app N0 Nq23
    obtain ⟨cq24, kq24, q24a, q24b, q24c⟩ := isOf hZ eq23 (E_w_NOT_VIEWER.ext O0.2)
    obtain ⟨_, _, ⟨T24, L24, k24, n24⟩, -, X24, ⟨Lc24, hQ24, l24, y24, z24⟩, st24⟩ := X23.virtualBack hx (y := (⟨"com/example/kindred_consent/kindredconsent/engine/EReason", "isCounted", "()Z"⟩ : MethodName)) (z := (⟨"com/example/kindred_consent/kindredconsent/engine/EReason", "isCounted", "()Z"⟩ : MethodName)) hown (mvT hZ (hw _ (List.mem_of_getElem? (i := 8) rfl))) (mvT hZ (hw _ (List.mem_of_getElem? (i := 9) rfl))) (notFace_of_selects (args := #[]) (mvT hZ (hw _ (List.mem_of_getElem? (i := 11) rfl)))) (mvT hZ (hw _ (List.mem_of_getElem? (i := 11) rfl))) (mvT hZ (hw _ (List.mem_of_getElem? (i := 10) rfl))) (by decide) (backOf (W := 0) (ic_NOT_VIEWER l Z a0 hw [] w_CONTROLLER w_FULL_CONSENSUS_PERMIT w_FULL_CONSENSUS_PERMIT_EResolutionRule w_WEIGHTED w_OWNER_OVERRIDES w_OWNER_OVERRIDES_EResolutionRule w_SOURCE w_NO_THRESHOLD w_MAJORITY_PERMIT w_MAJORITY_PERMIT_EResolutionRule w_RESHARE_REFUSED w_WEIGHTED_EReason w_NOT_VIEWER w_UNNAMED w_SUPER_MAJORITY_PERMIT w_SUPER_MAJORITY_PERMIT_EResolutionRule w_STRONG_MAJORITY_PERMIT w_STRONG_MAJORITY_PERMIT_EResolutionRule h0 n0 O0 hE) hZ (hw _ (List.mem_of_getElem? (i := 12) rfl)) (hw _ (List.mem_of_getElem? (i := 6) rfl)) (by decide) (by decide)) q24a q24c (g := (mkF m 31 #[.val (.int p1), .val (.int (10 : Int32)), .val (.ref w_NOT_VIEWER), .val (.int (0 : Int32))] [(.ref w_NOT_VIEWER)])) rfl (by rw [hml]; rfl) (Steps.refl _) (argsL := []) (rest := []) (lenOf pd___Z rfl) rfl (by show 2 * 0 + _ ≤ _; exact Nat.le_of_eq rfl) (hb hby at_31) (fun _ _ => ⟨rfl, eq23, (by decide : 0 + 0 ≤ _), (by decide : 0 + 0 ≤ _)⟩)
    dsimp only [Pt.U, Pt.locs, Pt.cells, Pt.slots] at X24 l24 y24 z24 st24 hQ24
    subst l24 y24 z24
    obtain ⟨rfl, Nq24, eq24⟩ := hQ24
    have N24 := Fr.app N23 Nq24
    obtain ⟨fs, hr, hrun, hended, hW, hsame⟩ := X24.leave (v := some (.int (1 : Int32))) (fun h => by rw [Bd.returns] at h; cases h)
    refine ⟨_, _, pre1 _ ?_, hrun, hended, _, _, rfl, ?_, ⟨_, rfl⟩, hW, hsame.mono (by decide) (by decide)⟩
    · show Steps p.tables e below (s₁.setTop (mkF m 8 #[.val (.int p1), .val (.int (10 : Int32)), .unset, .unset] [])) _
      refine XS.iloadN X0.here hx rfl (hb hby at_8) rfl ?_
      show Steps p.tables e below (s₁.setTop (mkF m 9 #[.val (.int p1), .val (.int (10 : Int32)), .unset, .unset] [(.int (10 : Int32))])) _
      refine st23 _ ?_
      show Steps p.tables e below (T23.setTop (mkF m 12 #[.val (.int p1), .val (.int (10 : Int32)), .unset, .unset] [(.ref w_NOT_VIEWER)])) _
      refine XS.astoreN X23.here hx rfl (hb hby at_12) rfl rfl (l' := #[.val (.int p1), .val (.int (10 : Int32)), .val (.ref w_NOT_VIEWER), .unset]) rfl ?_
      show Steps p.tables e below (T23.setTop (mkF m 13 #[.val (.int p1), .val (.int (10 : Int32)), .val (.ref w_NOT_VIEWER), .unset] [])) _
      refine XS.iloadN X23.here hx rfl (hb hby at_13) rfl ?_
      show Steps p.tables e below (T23.setTop (mkF m 14 #[.val (.int p1), .val (.int (10 : Int32)), .val (.ref w_NOT_VIEWER), .unset] [(.int (10 : Int32))])) _
      refine XS.iconst X23.here hx rfl (hb hby at_14) ?_
      show Steps p.tables e below (T23.setTop (mkF m 15 #[.val (.int p1), .val (.int (10 : Int32)), .val (.ref w_NOT_VIEWER), .unset] [(.int (2 : Int32)), (.int (10 : Int32))])) _
      refine XS.icmpNo X23.here hx rfl (hb hby at_15) rfl (flt (by decide : ¬ ((10 : Int32) < (2 : Int32)))).1 ?_
      show Steps p.tables e below (T23.setTop (mkF m 18 #[.val (.int p1), .val (.int (10 : Int32)), .val (.ref w_NOT_VIEWER), .unset] [])) _
      refine XS.iloadN X23.here hx rfl (hb hby at_18) rfl ?_
      show Steps p.tables e below (T23.setTop (mkF m 19 #[.val (.int p1), .val (.int (10 : Int32)), .val (.ref w_NOT_VIEWER), .unset] [(.int (10 : Int32))])) _
      refine XS.bipush X23.here hx rfl (hb hby at_19) ?_
      show Steps p.tables e below (T23.setTop (mkF m 21 #[.val (.int p1), .val (.int (10 : Int32)), .val (.ref w_NOT_VIEWER), .unset] [(.int (6 : Int32)), (.int (10 : Int32))])) _
      refine XS.icmpYes X23.here hx rfl (pc0 := 21) (pc' := 28) rfl (hb hby at_21) rfl (tlt (by decide : (6 : Int32) < (10 : Int32))).2.2.1 (by decide) (by decide) ?_
      show Steps p.tables e below (T23.setTop (mkF m 28 #[.val (.int p1), .val (.int (10 : Int32)), .val (.ref w_NOT_VIEWER), .unset] [])) _
      refine XS.iconst X23.here hx rfl (hb hby at_28) ?_
      show Steps p.tables e below (T23.setTop (mkF m 29 #[.val (.int p1), .val (.int (10 : Int32)), .val (.ref w_NOT_VIEWER), .unset] [(.int (0 : Int32))])) _
      refine XS.istoreN X23.here hx rfl (hb hby at_29) rfl (l' := #[.val (.int p1), .val (.int (10 : Int32)), .val (.ref w_NOT_VIEWER), .val (.int (0 : Int32))]) rfl ?_
      show Steps p.tables e below (T23.setTop (mkF m 30 #[.val (.int p1), .val (.int (10 : Int32)), .val (.ref w_NOT_VIEWER), .val (.int (0 : Int32))] [])) _
      refine XS.aloadN X23.here hx rfl (hb hby at_30) rfl rfl ?_
      show Steps p.tables e below (T23.setTop (mkF m 31 #[.val (.int p1), .val (.int (10 : Int32)), .val (.ref w_NOT_VIEWER), .val (.int (0 : Int32))] [(.ref w_NOT_VIEWER)])) _
      refine st24.trans ?_
      show Steps p.tables e below (T24.setTop (mkF m 34 #[.val (.int p1), .val (.int (10 : Int32)), .val (.ref w_NOT_VIEWER), .val (.int (0 : Int32))] [(.int (0 : Int32))])) _
      refine XS.iloadN X24.here hx rfl (hb hby at_34) rfl ?_
      show Steps p.tables e below (T24.setTop (mkF m 35 #[.val (.int p1), .val (.int (10 : Int32)), .val (.ref w_NOT_VIEWER), .val (.int (0 : Int32))] [(.int (0 : Int32)), (.int (0 : Int32))])) _
      refine XS.icmpNo X24.here hx rfl (hb hby at_35) rfl (teq (by decide : (0 : Int32) = (0 : Int32))).2 ?_
      show Steps p.tables e below (T24.setTop (mkF m 38 #[.val (.int p1), .val (.int (10 : Int32)), .val (.ref w_NOT_VIEWER), .val (.int (0 : Int32))] [])) _
      refine XS.iconst X24.here hx rfl (hb hby at_38) ?_
      show Steps p.tables e below (T24.setTop (mkF m 39 #[.val (.int p1), .val (.int (10 : Int32)), .val (.ref w_NOT_VIEWER), .val (.int (0 : Int32))] [(.int (1 : Int32))])) _
      refine XS.goto X24.here hx rfl (pc0 := 39) (pc' := 43) rfl (hb hby at_39) (by decide) (by decide) ?_
      show Steps p.tables e below (T24.setTop (mkF m 43 #[.val (.int p1), .val (.int (10 : Int32)), .val (.ref w_NOT_VIEWER), .val (.int (0 : Int32))] [(.int (1 : Int32))])) _
      exact retN X24 hx (t := .boolean) Bd.returns (by simp) (hb hby at_43) hr
    · show Q_rm0 Z p1 w_CONTROLLER w_FULL_CONSENSUS_PERMIT w_FULL_CONSENSUS_PERMIT_EResolutionRule w_WEIGHTED w_OWNER_OVERRIDES w_OWNER_OVERRIDES_EResolutionRule w_SOURCE w_NO_THRESHOLD w_MAJORITY_PERMIT w_MAJORITY_PERMIT_EResolutionRule w_RESHARE_REFUSED w_WEIGHTED_EReason w_NOT_VIEWER w_UNNAMED w_SUPER_MAJORITY_PERMIT w_SUPER_MAJORITY_PERMIT_EResolutionRule w_STRONG_MAJORITY_PERMIT w_STRONG_MAJORITY_PERMIT_EResolutionRule h0 n0 _ T24.heap _
      rw [eq24]
      exact ⟨rfl, N24⟩
  · rw [hv2] at pre1
    obtain ⟨_, _, ⟨T25, L25, k25, n25⟩, -, X25, ⟨Lc25, hQ25, l25, y25, z25⟩, st25⟩ := Jvm.LawKit.callS X0 hx (y := (⟨"com/example/kindred_consent/kindredconsent/engine/EReasonIsCountedPinLaw", "pick", "(I)Lcom/example/kindred_consent/kindredconsent/engine/EReason;"⟩ : MethodName)) hown (mvT hZ (hw _ (List.mem_of_getElem? (i := 1) rfl))) (mvT hZ (hw _ (List.mem_of_getElem? (i := 2) rfl))) (mvT hZ (hw _ (List.mem_of_getElem? (i := 3) rfl))) (mvT hZ (hw _ (List.mem_of_getElem? (i := 4) rfl))) (by decide) (backOf (W := 0) (pick_11 l Z a0 hw [] w_CONTROLLER w_FULL_CONSENSUS_PERMIT w_FULL_CONSENSUS_PERMIT_EResolutionRule w_WEIGHTED w_OWNER_OVERRIDES w_OWNER_OVERRIDES_EResolutionRule w_SOURCE w_NO_THRESHOLD w_MAJORITY_PERMIT w_MAJORITY_PERMIT_EResolutionRule w_RESHARE_REFUSED w_WEIGHTED_EReason w_NOT_VIEWER w_UNNAMED w_SUPER_MAJORITY_PERMIT w_SUPER_MAJORITY_PERMIT_EResolutionRule w_STRONG_MAJORITY_PERMIT w_STRONG_MAJORITY_PERMIT_EResolutionRule h0 n0 O0 hE) hZ (hw _ (List.mem_of_getElem? (i := 4) rfl)) (hw _ (List.mem_of_getElem? (i := 3) rfl)) (by decide) (by decide)) (g := (mkF m 9 #[.val (.int p1), .val (.int (11 : Int32)), .unset, .unset] [(.int (11 : Int32))])) rfl (by rw [hml]; rfl) (argsL := [(.int (11 : Int32))]) (rest := []) (lenOf pd__I_Lcom_example_kindred_consent_kindredconsent_engine_EReason_ rfl) rfl (by show 2 * 0 + _ ≤ _; exact Nat.le_of_eq rfl) (hb hby at_9) (fun _ _ => ⟨rfl, e0, (by decide : 0 + 0 ≤ _), (by decide : 0 + 0 ≤ _)⟩)
    dsimp only [Pt.U, Pt.locs, Pt.cells, Pt.slots] at X25 l25 y25 z25 st25 hQ25
    subst l25 y25 z25
    obtain ⟨rfl, Nq25, eq25⟩ := hQ25
    have N25 := Fr.app N0 Nq25
    obtain ⟨cq26, kq26, q26a, q26b, q26c⟩ := isOf hZ eq25 (E_w_NO_THRESHOLD.ext O0.2)
    obtain ⟨_, _, ⟨T26, L26, k26, n26⟩, -, X26, ⟨Lc26, hQ26, l26, y26, z26⟩, st26⟩ := X25.virtualBack hx (y := (⟨"com/example/kindred_consent/kindredconsent/engine/EReason", "isCounted", "()Z"⟩ : MethodName)) (z := (⟨"com/example/kindred_consent/kindredconsent/engine/EReason", "isCounted", "()Z"⟩ : MethodName)) hown (mvT hZ (hw _ (List.mem_of_getElem? (i := 8) rfl))) (mvT hZ (hw _ (List.mem_of_getElem? (i := 9) rfl))) (notFace_of_selects (args := #[]) (mvT hZ (hw _ (List.mem_of_getElem? (i := 11) rfl)))) (mvT hZ (hw _ (List.mem_of_getElem? (i := 11) rfl))) (mvT hZ (hw _ (List.mem_of_getElem? (i := 10) rfl))) (by decide) (backOf (W := 0) (ic_NO_THRESHOLD l Z a0 hw [] w_CONTROLLER w_FULL_CONSENSUS_PERMIT w_FULL_CONSENSUS_PERMIT_EResolutionRule w_WEIGHTED w_OWNER_OVERRIDES w_OWNER_OVERRIDES_EResolutionRule w_SOURCE w_NO_THRESHOLD w_MAJORITY_PERMIT w_MAJORITY_PERMIT_EResolutionRule w_RESHARE_REFUSED w_WEIGHTED_EReason w_NOT_VIEWER w_UNNAMED w_SUPER_MAJORITY_PERMIT w_SUPER_MAJORITY_PERMIT_EResolutionRule w_STRONG_MAJORITY_PERMIT w_STRONG_MAJORITY_PERMIT_EResolutionRule h0 n0 O0 hE) hZ (hw _ (List.mem_of_getElem? (i := 12) rfl)) (hw _ (List.mem_of_getElem? (i := 6) rfl)) (by decide) (by decide)) q26a q26c (g := (mkF m 31 #[.val (.int p1), .val (.int (11 : Int32)), .val (.ref w_NO_THRESHOLD), .val (.int (0 : Int32))] [(.ref w_NO_THRESHOLD)])) rfl (by rw [hml]; rfl) (Steps.refl _) (argsL := []) (rest := []) (lenOf pd___Z rfl) rfl (by show 2 * 0 + _ ≤ _; exact Nat.le_of_eq rfl) (hb hby at_31) (fun _ _ => ⟨rfl, eq25, (by decide : 0 + 0 ≤ _), (by decide : 0 + 0 ≤ _)⟩)
    dsimp only [Pt.U, Pt.locs, Pt.cells, Pt.slots] at X26 l26 y26 z26 st26 hQ26
    subst l26 y26 z26
    obtain ⟨rfl, Nq26, eq26⟩ := hQ26
    have N26 := Fr.app N25 Nq26
    obtain ⟨fs, hr, hrun, hended, hW, hsame⟩ := X26.leave (v := some (.int (1 : Int32))) (fun h => by rw [Bd.returns] at h; cases h)
    refine ⟨_, _, pre1 _ ?_, hrun, hended, _, _, rfl, ?_, ⟨_, rfl⟩, hW, hsame.mono (by decide) (by decide)⟩
    · show Steps p.tables e below (s₁.setTop (mkF m 8 #[.val (.int p1), .val (.int (11 : Int32)), .unset, .unset] [])) _
      refine XS.iloadN X0.here hx rfl (hb hby at_8) rfl ?_
      show Steps p.tables e below (s₁.setTop (mkF m 9 #[.val (.int p1), .val (.int (11 : Int32)), .unset, .unset] [(.int (11 : Int32))])) _
      refine st25 _ ?_
      show Steps p.tables e below (T25.setTop (mkF m 12 #[.val (.int p1), .val (.int (11 : Int32)), .unset, .unset] [(.ref w_NO_THRESHOLD)])) _
      refine XS.astoreN X25.here hx rfl (hb hby at_12) rfl rfl (l' := #[.val (.int p1), .val (.int (11 : Int32)), .val (.ref w_NO_THRESHOLD), .unset]) rfl ?_
      show Steps p.tables e below (T25.setTop (mkF m 13 #[.val (.int p1), .val (.int (11 : Int32)), .val (.ref w_NO_THRESHOLD), .unset] [])) _
      refine XS.iloadN X25.here hx rfl (hb hby at_13) rfl ?_
      show Steps p.tables e below (T25.setTop (mkF m 14 #[.val (.int p1), .val (.int (11 : Int32)), .val (.ref w_NO_THRESHOLD), .unset] [(.int (11 : Int32))])) _
      refine XS.iconst X25.here hx rfl (hb hby at_14) ?_
      show Steps p.tables e below (T25.setTop (mkF m 15 #[.val (.int p1), .val (.int (11 : Int32)), .val (.ref w_NO_THRESHOLD), .unset] [(.int (2 : Int32)), (.int (11 : Int32))])) _
      refine XS.icmpNo X25.here hx rfl (hb hby at_15) rfl (flt (by decide : ¬ ((11 : Int32) < (2 : Int32)))).1 ?_
      show Steps p.tables e below (T25.setTop (mkF m 18 #[.val (.int p1), .val (.int (11 : Int32)), .val (.ref w_NO_THRESHOLD), .unset] [])) _
      refine XS.iloadN X25.here hx rfl (hb hby at_18) rfl ?_
      show Steps p.tables e below (T25.setTop (mkF m 19 #[.val (.int p1), .val (.int (11 : Int32)), .val (.ref w_NO_THRESHOLD), .unset] [(.int (11 : Int32))])) _
      refine XS.bipush X25.here hx rfl (hb hby at_19) ?_
      show Steps p.tables e below (T25.setTop (mkF m 21 #[.val (.int p1), .val (.int (11 : Int32)), .val (.ref w_NO_THRESHOLD), .unset] [(.int (6 : Int32)), (.int (11 : Int32))])) _
      refine XS.icmpYes X25.here hx rfl (pc0 := 21) (pc' := 28) rfl (hb hby at_21) rfl (tlt (by decide : (6 : Int32) < (11 : Int32))).2.2.1 (by decide) (by decide) ?_
      show Steps p.tables e below (T25.setTop (mkF m 28 #[.val (.int p1), .val (.int (11 : Int32)), .val (.ref w_NO_THRESHOLD), .unset] [])) _
      refine XS.iconst X25.here hx rfl (hb hby at_28) ?_
      show Steps p.tables e below (T25.setTop (mkF m 29 #[.val (.int p1), .val (.int (11 : Int32)), .val (.ref w_NO_THRESHOLD), .unset] [(.int (0 : Int32))])) _
      refine XS.istoreN X25.here hx rfl (hb hby at_29) rfl (l' := #[.val (.int p1), .val (.int (11 : Int32)), .val (.ref w_NO_THRESHOLD), .val (.int (0 : Int32))]) rfl ?_
      show Steps p.tables e below (T25.setTop (mkF m 30 #[.val (.int p1), .val (.int (11 : Int32)), .val (.ref w_NO_THRESHOLD), .val (.int (0 : Int32))] [])) _
      refine XS.aloadN X25.here hx rfl (hb hby at_30) rfl rfl ?_
      show Steps p.tables e below (T25.setTop (mkF m 31 #[.val (.int p1), .val (.int (11 : Int32)), .val (.ref w_NO_THRESHOLD), .val (.int (0 : Int32))] [(.ref w_NO_THRESHOLD)])) _
      refine st26.trans ?_
      show Steps p.tables e below (T26.setTop (mkF m 34 #[.val (.int p1), .val (.int (11 : Int32)), .val (.ref w_NO_THRESHOLD), .val (.int (0 : Int32))] [(.int (0 : Int32))])) _
      refine XS.iloadN X26.here hx rfl (hb hby at_34) rfl ?_
      show Steps p.tables e below (T26.setTop (mkF m 35 #[.val (.int p1), .val (.int (11 : Int32)), .val (.ref w_NO_THRESHOLD), .val (.int (0 : Int32))] [(.int (0 : Int32)), (.int (0 : Int32))])) _
      refine XS.icmpNo X26.here hx rfl (hb hby at_35) rfl (teq (by decide : (0 : Int32) = (0 : Int32))).2 ?_
      show Steps p.tables e below (T26.setTop (mkF m 38 #[.val (.int p1), .val (.int (11 : Int32)), .val (.ref w_NO_THRESHOLD), .val (.int (0 : Int32))] [])) _
      refine XS.iconst X26.here hx rfl (hb hby at_38) ?_
      show Steps p.tables e below (T26.setTop (mkF m 39 #[.val (.int p1), .val (.int (11 : Int32)), .val (.ref w_NO_THRESHOLD), .val (.int (0 : Int32))] [(.int (1 : Int32))])) _
      refine XS.goto X26.here hx rfl (pc0 := 39) (pc' := 43) rfl (hb hby at_39) (by decide) (by decide) ?_
      show Steps p.tables e below (T26.setTop (mkF m 43 #[.val (.int p1), .val (.int (11 : Int32)), .val (.ref w_NO_THRESHOLD), .val (.int (0 : Int32))] [(.int (1 : Int32))])) _
      exact retN X26 hx (t := .boolean) Bd.returns (by simp) (hb hby at_43) hr
    · show Q_rm0 Z p1 w_CONTROLLER w_FULL_CONSENSUS_PERMIT w_FULL_CONSENSUS_PERMIT_EResolutionRule w_WEIGHTED w_OWNER_OVERRIDES w_OWNER_OVERRIDES_EResolutionRule w_SOURCE w_NO_THRESHOLD w_MAJORITY_PERMIT w_MAJORITY_PERMIT_EResolutionRule w_RESHARE_REFUSED w_WEIGHTED_EReason w_NOT_VIEWER w_UNNAMED w_SUPER_MAJORITY_PERMIT w_SUPER_MAJORITY_PERMIT_EResolutionRule w_STRONG_MAJORITY_PERMIT w_STRONG_MAJORITY_PERMIT_EResolutionRule h0 n0 _ T26.heap _
      rw [eq26]
      exact ⟨rfl, N26⟩
set_option maxRecDepth 65536 in
set_option maxHeartbeats 40000000 in
theorem comes_1 {Post : Tables → Env → Array Value → State → Outcome → State → Prop} (hpost : ∀ tb e args s v u, (limb_1_1.after args s (.returned v) u = true ∧ limb_1_2.after args s (.returned v) u = true ∧ True) → FrameEnd s (.returned v) u (Jvm.fieldLocs frame_1_writes args s ++ Jvm.arrayLocs frame_1_arrays args s ++ Jvm.staticLocs frame_1_statics s) 0 0 → Post tb e args s (.returned v) u) :
    ArmFor flags0 classFile x code maxLocals ret World_1 tables_1 room_1 Calls_1 rest_1 Pre_1 Post := by
  intro l hfl _ _ p e ha hc hk s m args below hf hA hF happ hP
  obtain ⟨hcalls, hrest, hpre⟩ := hP
  obtain ⟨-, -, -, hnamed, -, -, -, hat⟩ := (Spec.applies_iff hf).mp happ
  obtain ⟨hg, hn⟩ := and_e (Cond.before_iff.mp (show (Jvm.Cond.and given_1 narrow_1).before args s = true from hpre))
  obtain ⟨hg0, hgr0⟩ := and_e hg
  obtain ⟨w0, rfl⟩ : ∃ w0 : Value, args = #[w0] := by
    have hs : args.size = 1 := by simpa [Cond.value, given_1] using hg0
    obtain ⟨L⟩ := args
    match L, hs with
    | [w0], _ => exact ⟨w0, rfl⟩
  have hw := fun d (hd : d ∈ tables_1) => atoms_spec (ws := Jvm.Cond.code x code maxLocals ret :: tables_1) hat d (List.mem_cons_of_mem _ hd)
  have hfit : Fit s := fun {y c} hc i hi => by
    obtain ⟨ha, rfl⟩ := Array.getElem?_eq_some_iff.mp hc
    have q := List.all_eq_true.mp ((Array.all_eq_true_iff_forall_mem.mp hF) _ (Array.getElem_mem ha)) i (List.mem_range.mpr hi)
    simpa [Array.getElem?_eq_getElem hi] using q
  obtain ⟨i0, ei0⟩ := is_v hgr0
  obtain rfl : w0 = (.int i0) := Option.some.inj ei0
  obtain ⟨hq1a, hq1b⟩ := and_e hn
  obtain ⟨hq2a, hq2b⟩ := and_e hq1b
  obtain ⟨hq3a, hq3b⟩ := and_e hq2b
  obtain ⟨hq4a, hq4b⟩ := and_e hq3b
  obtain ⟨hq5a, hq5b⟩ := and_e hq4b
  obtain ⟨hq6a, hq6b⟩ := and_e hq5b
  obtain ⟨hq7a, hq7b⟩ := and_e hq6b
  obtain ⟨hq8a, hq8b⟩ := and_e hq7b
  obtain ⟨hq9a, hq9b⟩ := and_e hq8b
  obtain ⟨hq10a, hq10b⟩ := and_e hq9b
  obtain ⟨hq11a, hq11b⟩ := and_e hq10b
  obtain ⟨hq12a, hq12b⟩ := and_e hq11b
  obtain ⟨hq13a, hq13b⟩ := and_e hq12b
  obtain ⟨hq14a, hq14b⟩ := and_e hq13b
  obtain ⟨hq15a, hq15b⟩ := and_e hq14b
  obtain ⟨hq16a, hq16b⟩ := and_e hq15b
  obtain ⟨hq17a, hq17b⟩ := and_e hq16b
  obtain ⟨hq18a, hq18b⟩ := and_e hq17b
  obtain ⟨hq19a, hq19b⟩ := and_e hq18b
  obtain ⟨hq20a, hq20b⟩ := and_e hq19b
  obtain ⟨hq21a, hq21b⟩ := and_e hq20b
  obtain ⟨hq22a, hq22b⟩ := and_e hq21b
  obtain ⟨hq23a, hq23b⟩ := and_e hq22b
  obtain ⟨hq24a, hq24b⟩ := and_e hq23b
  obtain ⟨hq25a, hq25b⟩ := and_e hq24b
  obtain ⟨hq26a, hq26b⟩ := and_e hq25b
  obtain ⟨hq27a, hq27b⟩ := and_e hq26b
  obtain ⟨hq28a, hq28b⟩ := and_e hq27b
  obtain ⟨hq29a, hq29b⟩ := and_e hq28b
  obtain ⟨hq30a, hq30b⟩ := and_e hq29b
  obtain ⟨hq31a, hq31b⟩ := and_e hq30b
  obtain ⟨hq32a, hq32b⟩ := and_e hq31b
  obtain ⟨hq33a, hq33b⟩ := and_e hq32b
  obtain ⟨hq34a, hq34b⟩ := and_e hq33b
  obtain ⟨hq35a, hq35b⟩ := and_e hq34b
  obtain ⟨w_CONTROLLER, ev_w_CONTROLLER⟩ := exa_v hq1a
  obtain ⟨w_FULL_CONSENSUS_PERMIT, ev_w_FULL_CONSENSUS_PERMIT⟩ := exa_v hq3a
  obtain ⟨w_FULL_CONSENSUS_PERMIT_EResolutionRule, ev_w_FULL_CONSENSUS_PERMIT_EResolutionRule⟩ := exa_v hq4a
  obtain ⟨w_WEIGHTED, ev_w_WEIGHTED⟩ := exa_v hq6a
  obtain ⟨w_OWNER_OVERRIDES, ev_w_OWNER_OVERRIDES⟩ := exa_v hq9a
  obtain ⟨w_OWNER_OVERRIDES_EResolutionRule, ev_w_OWNER_OVERRIDES_EResolutionRule⟩ := exa_v hq10a
  obtain ⟨w_SOURCE, ev_w_SOURCE⟩ := exa_v hq13a
  obtain ⟨w_NO_THRESHOLD, ev_w_NO_THRESHOLD⟩ := exa_v hq15a
  obtain ⟨w_MAJORITY_PERMIT, ev_w_MAJORITY_PERMIT⟩ := exa_v hq17a
  obtain ⟨w_MAJORITY_PERMIT_EResolutionRule, ev_w_MAJORITY_PERMIT_EResolutionRule⟩ := exa_v hq18a
  obtain ⟨w_RESHARE_REFUSED, ev_w_RESHARE_REFUSED⟩ := exa_v hq21a
  obtain ⟨w_WEIGHTED_EReason, ev_w_WEIGHTED_EReason⟩ := exa_v hq23a
  obtain ⟨w_NOT_VIEWER, ev_w_NOT_VIEWER⟩ := exa_v hq25a
  obtain ⟨w_UNNAMED, ev_w_UNNAMED⟩ := exa_v hq27a
  obtain ⟨w_SUPER_MAJORITY_PERMIT, ev_w_SUPER_MAJORITY_PERMIT⟩ := exa_v hq29a
  obtain ⟨w_SUPER_MAJORITY_PERMIT_EResolutionRule, ev_w_SUPER_MAJORITY_PERMIT_EResolutionRule⟩ := exa_v hq30a
  obtain ⟨w_STRONG_MAJORITY_PERMIT, ev_w_STRONG_MAJORITY_PERMIT⟩ := exa_v hq33a
  obtain ⟨w_STRONG_MAJORITY_PERMIT_EResolutionRule, ev_w_STRONG_MAJORITY_PERMIT_EResolutionRule⟩ := exa_v hq34a
  obtain ⟨n, o, h1, h2, h3, _, L, rfl, ⟨rfl, N⟩, hq⟩ := rm0 l s _ hw tables_1 i0 w_CONTROLLER w_FULL_CONSENSUS_PERMIT w_FULL_CONSENSUS_PERMIT_EResolutionRule w_WEIGHTED w_OWNER_OVERRIDES w_OWNER_OVERRIDES_EResolutionRule w_SOURCE w_NO_THRESHOLD w_MAJORITY_PERMIT w_MAJORITY_PERMIT_EResolutionRule w_RESHARE_REFUSED w_WEIGHTED_EReason w_NOT_VIEWER w_UNNAMED w_SUPER_MAJORITY_PERMIT w_SUPER_MAJORITY_PERMIT_EResolutionRule w_STRONG_MAJORITY_PERMIT w_STRONG_MAJORITY_PERMIT_EResolutionRule s.heap s.heap.size (Old.start s) ⟨(Sta.start ev_w_CONTROLLER (Or.inr ⟨(hw _ (List.mem_of_getElem? (i := 6) rfl)), (hw _ (List.mem_of_getElem? (i := 7) rfl))⟩)), (own_exa hq1a ev_w_CONTROLLER), (Sta.start ev_w_FULL_CONSENSUS_PERMIT (Or.inr ⟨(hw _ (List.mem_of_getElem? (i := 6) rfl)), (hw _ (List.mem_of_getElem? (i := 16) rfl))⟩)), (own_exa hq3a ev_w_FULL_CONSENSUS_PERMIT), (Sta.start ev_w_FULL_CONSENSUS_PERMIT_EResolutionRule (Or.inr ⟨(hw _ (List.mem_of_getElem? (i := 17) rfl)), (hw _ (List.mem_of_getElem? (i := 18) rfl))⟩)), (own_exa hq4a ev_w_FULL_CONSENSUS_PERMIT_EResolutionRule), (Sta.start ev_w_WEIGHTED (Or.inr ⟨(hw _ (List.mem_of_getElem? (i := 17) rfl)), (hw _ (List.mem_of_getElem? (i := 20) rfl))⟩)), (own_exa hq6a ev_w_WEIGHTED), (Sta.start ev_w_OWNER_OVERRIDES (Or.inr ⟨(hw _ (List.mem_of_getElem? (i := 6) rfl)), (hw _ (List.mem_of_getElem? (i := 22) rfl))⟩)), (own_exa hq9a ev_w_OWNER_OVERRIDES), (Sta.start ev_w_OWNER_OVERRIDES_EResolutionRule (Or.inr ⟨(hw _ (List.mem_of_getElem? (i := 17) rfl)), (hw _ (List.mem_of_getElem? (i := 23) rfl))⟩)), (own_exa hq10a ev_w_OWNER_OVERRIDES_EResolutionRule), (Sta.start ev_w_SOURCE (Or.inr ⟨(hw _ (List.mem_of_getElem? (i := 6) rfl)), (hw _ (List.mem_of_getElem? (i := 25) rfl))⟩)), (own_exa hq13a ev_w_SOURCE), (Sta.start ev_w_NO_THRESHOLD (Or.inr ⟨(hw _ (List.mem_of_getElem? (i := 6) rfl)), (hw _ (List.mem_of_getElem? (i := 27) rfl))⟩)), (own_exa hq15a ev_w_NO_THRESHOLD), (Sta.start ev_w_MAJORITY_PERMIT (Or.inr ⟨(hw _ (List.mem_of_getElem? (i := 6) rfl)), (hw _ (List.mem_of_getElem? (i := 29) rfl))⟩)), (own_exa hq17a ev_w_MAJORITY_PERMIT), (Sta.start ev_w_MAJORITY_PERMIT_EResolutionRule (Or.inr ⟨(hw _ (List.mem_of_getElem? (i := 17) rfl)), (hw _ (List.mem_of_getElem? (i := 30) rfl))⟩)), (own_exa hq18a ev_w_MAJORITY_PERMIT_EResolutionRule), (Sta.start ev_w_RESHARE_REFUSED (Or.inr ⟨(hw _ (List.mem_of_getElem? (i := 6) rfl)), (hw _ (List.mem_of_getElem? (i := 32) rfl))⟩)), (own_exa hq21a ev_w_RESHARE_REFUSED), (Sta.start ev_w_WEIGHTED_EReason (Or.inr ⟨(hw _ (List.mem_of_getElem? (i := 6) rfl)), (hw _ (List.mem_of_getElem? (i := 34) rfl))⟩)), (own_exa hq23a ev_w_WEIGHTED_EReason), (Sta.start ev_w_NOT_VIEWER (Or.inr ⟨(hw _ (List.mem_of_getElem? (i := 6) rfl)), (hw _ (List.mem_of_getElem? (i := 36) rfl))⟩)), (own_exa hq25a ev_w_NOT_VIEWER), (Sta.start ev_w_UNNAMED (Or.inr ⟨(hw _ (List.mem_of_getElem? (i := 6) rfl)), (hw _ (List.mem_of_getElem? (i := 38) rfl))⟩)), (own_exa hq27a ev_w_UNNAMED), (Sta.start ev_w_SUPER_MAJORITY_PERMIT (Or.inr ⟨(hw _ (List.mem_of_getElem? (i := 6) rfl)), (hw _ (List.mem_of_getElem? (i := 40) rfl))⟩)), (own_exa hq29a ev_w_SUPER_MAJORITY_PERMIT), (Sta.start ev_w_SUPER_MAJORITY_PERMIT_EResolutionRule (Or.inr ⟨(hw _ (List.mem_of_getElem? (i := 17) rfl)), (hw _ (List.mem_of_getElem? (i := 41) rfl))⟩)), (own_exa hq30a ev_w_SUPER_MAJORITY_PERMIT_EResolutionRule), (Sta.start ev_w_STRONG_MAJORITY_PERMIT (Or.inr ⟨(hw _ (List.mem_of_getElem? (i := 6) rfl)), (hw _ (List.mem_of_getElem? (i := 43) rfl))⟩)), (own_exa hq33a ev_w_STRONG_MAJORITY_PERMIT), (Sta.start ev_w_STRONG_MAJORITY_PERMIT_EResolutionRule (Or.inr ⟨(hw _ (List.mem_of_getElem? (i := 17) rfl)), (hw _ (List.mem_of_getElem? (i := 44) rfl))⟩)), (own_exa hq34a ev_w_STRONG_MAJORITY_PERMIT_EResolutionRule), (own_fn ev_w_CONTROLLER hq2a), (own_fr ev_w_FULL_CONSENSUS_PERMIT ev_w_FULL_CONSENSUS_PERMIT_EResolutionRule hq5a), (own_fi ev_w_FULL_CONSENSUS_PERMIT_EResolutionRule hq7a), (own_fi ev_w_WEIGHTED hq8a), (own_fr ev_w_OWNER_OVERRIDES ev_w_OWNER_OVERRIDES_EResolutionRule hq11a), (own_fi ev_w_OWNER_OVERRIDES_EResolutionRule hq12a), (own_fn ev_w_SOURCE hq14a), (own_fn ev_w_NO_THRESHOLD hq16a), (own_fr ev_w_MAJORITY_PERMIT ev_w_MAJORITY_PERMIT_EResolutionRule hq19a), (own_fi ev_w_MAJORITY_PERMIT_EResolutionRule hq20a), (own_fn ev_w_RESHARE_REFUSED hq22a), (own_fr ev_w_WEIGHTED_EReason ev_w_WEIGHTED hq24a), (own_fn ev_w_NOT_VIEWER hq26a), (own_fn ev_w_UNNAMED hq28a), (own_fr ev_w_SUPER_MAJORITY_PERMIT ev_w_SUPER_MAJORITY_PERMIT_EResolutionRule hq31a), (own_fi ev_w_SUPER_MAJORITY_PERMIT_EResolutionRule hq32a), (own_fr ev_w_STRONG_MAJORITY_PERMIT ev_w_STRONG_MAJORITY_PERMIT_EResolutionRule hq35a), (own_fi ev_w_STRONG_MAJORITY_PERMIT_EResolutionRule hq35b)⟩ p e ha hc hk s m _ below hf ((Spec.applies_iff_loose hf).mp happ).1 ⟨rfl, State.Warmed39.refl s, rfl⟩ trivial
  refine ⟨n, _, h1, h2, h3, hpost _ _ _ _ _ _ ⟨Cond.after_iff.mpr rfl, Cond.after_iff.mpr (eq_i res_at (Term.int_eval (1)) rfl), trivial⟩ ⟨hq.1, hq.2.1, (hq.2.2.sift fun y hy => Or.inr (N y hy)).mono (by decide) (by decide)⟩⟩
theorem main_1_1 : Claimed_1_1 := comes_1 fun _ _ _ _ _ _ h hF => ⟨h.1, hF⟩
theorem main_1_2 : Claimed_1_2 := comes_1 fun _ _ _ _ _ _ h hF => ⟨h.2.1, hF⟩
end Jvm.Pilot.@@N@@
namespace Jvm.Pilot.@@N@@
open Jvm Jvm.ClassFile Sem Op Lib Jvm.Free Jvm.Stand Jvm.Pilot.@@N@@.Jvm.D
/-! MADE BY PROGRAM (witnessworld.py) out of the Statement's table words and the real class files: 13 classes; the members and pool entries that the words name. The judged class is class 1, her method 2. -/
namespace start1
open Jvm.ClassFile
def u (s : String) : CpInfo := .utf8 (stringToUtf16 s)
/-- a pool by its gaps: so many unusable entries, then the entry; so many at the end -/
def gap : Nat → List CpInfo → List CpInfo
  | 0, r => r
  | n + 1, r => .unusable :: gap n r
def poolList (es : List (Nat × CpInfo)) (last : Nat) : List CpInfo := es.foldr (fun e r => gap e.1 (e.2 :: r)) (gap last [])
def pool (es : List (Nat × CpInfo)) (last : Nat) : Array CpInfo := ⟨poolList es last⟩
def fileOf (pool : Array CpInfo) (this : Nat) (attrs : Array Attribute := #[]) (ms : Array MethodInfo := #[]) (fl : Nat := 33) (sup : Nat := 0) (ifs : Array Nat := #[]) (fds : Array FieldInfo := #[]) : ClassFile where
  minorVersion := 0
  majorVersion := 65
  constantPool := pool
  accessFlags := fl
  thisClass := this
  superClass := sup
  interfaces := ifs
  fields := fds
  methods := ms
  attributes := attrs
def plain (name : String) (sup : Option ClassId) : Class where
  name := name
  kind := .ordinary
  loader := none
  accessFlags := 33
  super := sup
  interfaces := #[]
  cf := none
  fields := #[]
  methods := #[]
  instanceTypes := #[]
  staticTypes := #[]
  resolved := #[]
  callSites := []
  init := .initialized
  statics := none
  mirror := none

def pool0 : Array CpInfo := pool [(5, u "<init>"), (0, u "()V"), (1, .class_ 10), (1, u "java/lang/Object")] 113

def k0m0 : Method := { name := "<init>", desc := "()V", sig := { parameters := [], returnType := none }, accessFlags := 1, code := none }
/-- java/lang/Object -/
def k0 : Class := { plain "java/lang/Object" none with
  accessFlags := 33
  interfaces := #[]
  cf := some (fileOf pool0 8 #[] #[{ accessFlags := 1, nameIndex := 5, descriptorIndex := 6, attributes := #[] }] 33 0 #[] #[])
  fields := #[]
  methods := #[k0m0]
  instanceTypes := #[]
  staticTypes := #[]
  resolved := Array.replicate 124 none
  statics := none }

def pool1 : Array CpInfo := pool [(2, .class_ 4), (1, u "java/lang/Object"), (0, u "<init>"), (0, u "()V"), (0, .fieldref 8 9), (0, .class_ 10), (0, .nameAndType 11 12), (0, u "com/example/kindred_consent/kindredconsent/engine/EReason"), (0, u "CONTROLLER"), (0, u "Lcom/example/kindred_consent/kindredconsent/engine/EReason;"), (0, .fieldref 8 14), (0, .nameAndType 15 12), (0, u "WEIGHTED"), (0, .fieldref 8 17), (0, .nameAndType 18 12), (0, u "OWNER_OVERRIDES"), (0, .fieldref 8 20), (0, .nameAndType 21 12), (0, u "FULL_CONSENSUS_PERMIT"), (0, .fieldref 8 23), (0, .nameAndType 24 12), (0, u "MAJORITY_PERMIT"), (0, .fieldref 8 26), (0, .nameAndType 27 12), (0, u "STRONG_MAJORITY_PERMIT"), (0, .fieldref 8 29), (0, .nameAndType 30 12), (0, u "SUPER_MAJORITY_PERMIT"), (0, .fieldref 8 32), (0, .nameAndType 33 12), (0, u "SOURCE"), (0, .fieldref 8 35), (0, .nameAndType 36 12), (0, u "RESHARE_REFUSED"), (0, .fieldref 8 38), (0, .nameAndType 39 12), (0, u "UNNAMED"), (0, .fieldref 8 41), (0, .nameAndType 42 12), (0, u "NOT_VIEWER"), (0, .fieldref 8 44), (0, .nameAndType 45 12), (0, u "NO_THRESHOLD"), (0, .integer 2147483647), (0, .methodref 48 49), (0, .class_ 50), (0, .nameAndType 51 52), (0, u "com/example/kindred_consent/kindredconsent/engine/EReasonIsCountedPinLaw"), (0, u "pick"), (0, u "(I)Lcom/example/kindred_consent/kindredconsent/engine/EReason;"), (0, .methodref 8 54), (0, .nameAndType 55 56), (0, u "isCounted"), (0, u "()Z"), (3, u "law"), (0, u "(I)Z")] 2

def k1m0 : Method := { name := "<init>", desc := "()V", sig := { parameters := [], returnType := none }, accessFlags := 2, code := none }
def k1c1 : Code := { maxStack := 2, maxLocals := 1, code := method_2_code, exceptionTable := #[], attributes := #[] }
def k1m1 : Method := { name := "pick", desc := "(I)Lcom/example/kindred_consent/kindredconsent/engine/EReason;", sig := { parameters := [.int], returnType := some (.object "com/example/kindred_consent/kindredconsent/engine/EReason") }, accessFlags := 10, code := some k1c1 }
def k1c2 : Code := { maxStack := 2, maxLocals := 4, code := code, exceptionTable := #[], attributes := #[] }
def k1m2 : Method := { name := "law", desc := "(I)Z", sig := { parameters := [.int], returnType := some .boolean }, accessFlags := 9, code := some k1c2 }
/-- com/example/kindred_consent/kindredconsent/engine/EReasonIsCountedPinLaw -/
def k1 : Class := { plain "com/example/kindred_consent/kindredconsent/engine/EReasonIsCountedPinLaw" (some 0) with
  accessFlags := 49
  interfaces := #[]
  cf := some (fileOf pool1 48 #[] #[{ accessFlags := 2, nameIndex := 5, descriptorIndex := 6, attributes := #[] }, { accessFlags := 10, nameIndex := 51, descriptorIndex := 52, attributes := #[] }, { accessFlags := 9, nameIndex := 60, descriptorIndex := 61, attributes := #[] }] 49 2 #[] #[])
  fields := #[]
  methods := #[k1m0, k1m1, k1m2]
  instanceTypes := #[]
  staticTypes := #[]
  resolved := Array.replicate 64 none
  statics := none }

def pool2 : Array CpInfo := pool [(1, .class_ 2), (0, u "java/lang/constant/Constable"), (0, .class_ 4), (0, u "java/lang/Object")] 6

/-- java/lang/constant/Constable -/
def k2 : Class := { plain "java/lang/constant/Constable" (some 0) with
  accessFlags := 1537
  interfaces := #[]
  cf := some (fileOf pool2 1 #[] #[] 1537 3 #[] #[])
  fields := #[]
  methods := #[]
  instanceTypes := #[]
  staticTypes := #[]
  resolved := Array.replicate 11 none
  statics := none }

def pool3 : Array CpInfo := pool [(1, .class_ 2), (0, u "java/lang/Comparable"), (0, .class_ 4), (0, u "java/lang/Object")] 7

/-- java/lang/Comparable -/
def k3 : Class := { plain "java/lang/Comparable" (some 0) with
  accessFlags := 1537
  interfaces := #[]
  cf := some (fileOf pool3 1 #[] #[] 1537 3 #[] #[])
  fields := #[]
  methods := #[]
  instanceTypes := #[]
  staticTypes := #[]
  resolved := Array.replicate 12 none
  statics := none }

def pool4 : Array CpInfo := pool [(1, .class_ 2), (0, u "java/io/Serializable"), (0, .class_ 4), (0, u "java/lang/Object")] 2

/-- java/io/Serializable -/
def k4 : Class := { plain "java/io/Serializable" (some 0) with
  accessFlags := 1537
  interfaces := #[]
  cf := some (fileOf pool4 1 #[] #[] 1537 3 #[] #[])
  fields := #[]
  methods := #[]
  instanceTypes := #[]
  staticTypes := #[]
  resolved := Array.replicate 7 none
  statics := none }

def pool5 : Array CpInfo := pool [(2, .class_ 4), (1, u "java/lang/Enum"), (0, u "name"), (0, u "Ljava/lang/String;"), (2, u "ordinal"), (0, u "I"), (1, .class_ 14), (1, u "java/lang/Object"), (4, u "hash"), (86, .class_ 108), (1, u "java/lang/Enum$EnumDesc"), (2, .class_ 112), (0, u "java/lang/constant/Constable"), (0, .class_ 114), (0, u "java/lang/Comparable"), (0, .class_ 116), (0, u "java/io/Serializable")] 87

/-- java/lang/Enum -/
def k5 : Class := { plain "java/lang/Enum" (some 0) with
  accessFlags := 1057
  interfaces := #[2, 3, 4]
  cf := some (fileOf pool5 2 #[.nestMembers #[106]] #[] 1057 12 #[111, 113, 115] #[{ accessFlags := 18, nameIndex := 5, descriptorIndex := 6, attributes := #[] }, { accessFlags := 18, nameIndex := 9, descriptorIndex := 10, attributes := #[] }, { accessFlags := 2, nameIndex := 19, descriptorIndex := 10, attributes := #[] }])
  fields := #[{ name := "name", type := (.object "java/lang/String"), accessFlags := 18, slot := 0, constantValue := 0 }, { name := "ordinal", type := .int, accessFlags := 18, slot := 1, constantValue := 0 }, { name := "hash", type := .int, accessFlags := 2, slot := 2, constantValue := 0 }]
  methods := #[]
  instanceTypes := #[(.object "java/lang/String"), .int, .int]
  staticTypes := #[]
  resolved := Array.replicate 204 none
  statics := none }

def pool6 : Array CpInfo := pool [(1, .class_ 2), (0, u "com/example/kindred_consent/kindredconsent/engine/EReason"), (2, u "CONTROLLER"), (0, u "Lcom/example/kindred_consent/kindredconsent/engine/EReason;"), (2, u "WEIGHTED"), (2, u "OWNER_OVERRIDES"), (2, u "FULL_CONSENSUS_PERMIT"), (2, u "MAJORITY_PERMIT"), (2, u "STRONG_MAJORITY_PERMIT"), (2, u "SUPER_MAJORITY_PERMIT"), (2, u "SOURCE"), (2, u "RESHARE_REFUSED"), (2, u "UNNAMED"), (2, u "NOT_VIEWER"), (2, u "NO_THRESHOLD"), (2, u "$VALUES"), (0, u "[Lcom/example/kindred_consent/kindredconsent/engine/EReason;"), (6, .class_ 52), (1, u "java/lang/Enum"), (8, u "m_sWord"), (0, u "Ljava/lang/String;"), (0, .fieldref 1 64), (0, .nameAndType 65 66), (0, u "m_eRule"), (0, u "Lcom/example/kindred_consent/kindredconsent/model/EResolutionRule;"), (1, .class_ 70), (1, u "com/example/kindred_consent/kindredconsent/model/EResolutionRule"), (2, .fieldref 68 74), (0, .nameAndType 9 66), (64, u "isCounted"), (0, u "()Z")] 23

def k6c0 : Code := { maxStack := 2, maxLocals := 1, code := prog_7_method_7_code, exceptionTable := #[], attributes := #[] }
def k6m0 : Method := { name := "isCounted", desc := "()Z", sig := { parameters := [], returnType := some .boolean }, accessFlags := 1, code := some k6c0 }
/-- com/example/kindred_consent/kindredconsent/engine/EReason -/
def k6 : Class := { plain "com/example/kindred_consent/kindredconsent/engine/EReason" (some 5) with
  accessFlags := 16433
  interfaces := #[]
  cf := some (fileOf pool6 1 #[] #[{ accessFlags := 1, nameIndex := 139, descriptorIndex := 140, attributes := #[] }] 16433 50 #[] #[{ accessFlags := 16409, nameIndex := 5, descriptorIndex := 6, attributes := #[] }, { accessFlags := 16409, nameIndex := 9, descriptorIndex := 6, attributes := #[] }, { accessFlags := 16409, nameIndex := 12, descriptorIndex := 6, attributes := #[] }, { accessFlags := 16409, nameIndex := 15, descriptorIndex := 6, attributes := #[] }, { accessFlags := 16409, nameIndex := 18, descriptorIndex := 6, attributes := #[] }, { accessFlags := 16409, nameIndex := 21, descriptorIndex := 6, attributes := #[] }, { accessFlags := 16409, nameIndex := 24, descriptorIndex := 6, attributes := #[] }, { accessFlags := 16409, nameIndex := 27, descriptorIndex := 6, attributes := #[] }, { accessFlags := 16409, nameIndex := 30, descriptorIndex := 6, attributes := #[] }, { accessFlags := 16409, nameIndex := 33, descriptorIndex := 6, attributes := #[] }, { accessFlags := 16409, nameIndex := 36, descriptorIndex := 6, attributes := #[] }, { accessFlags := 16409, nameIndex := 39, descriptorIndex := 6, attributes := #[] }, { accessFlags := 18, nameIndex := 61, descriptorIndex := 62, attributes := #[] }, { accessFlags := 18, nameIndex := 65, descriptorIndex := 66, attributes := #[] }, { accessFlags := 4122, nameIndex := 42, descriptorIndex := 43, attributes := #[] }])
  fields := #[{ name := "CONTROLLER", type := (.object "com/example/kindred_consent/kindredconsent/engine/EReason"), accessFlags := 16409, slot := 0, constantValue := 0 }, { name := "WEIGHTED", type := (.object "com/example/kindred_consent/kindredconsent/engine/EReason"), accessFlags := 16409, slot := 1, constantValue := 0 }, { name := "OWNER_OVERRIDES", type := (.object "com/example/kindred_consent/kindredconsent/engine/EReason"), accessFlags := 16409, slot := 2, constantValue := 0 }, { name := "FULL_CONSENSUS_PERMIT", type := (.object "com/example/kindred_consent/kindredconsent/engine/EReason"), accessFlags := 16409, slot := 3, constantValue := 0 }, { name := "MAJORITY_PERMIT", type := (.object "com/example/kindred_consent/kindredconsent/engine/EReason"), accessFlags := 16409, slot := 4, constantValue := 0 }, { name := "STRONG_MAJORITY_PERMIT", type := (.object "com/example/kindred_consent/kindredconsent/engine/EReason"), accessFlags := 16409, slot := 5, constantValue := 0 }, { name := "SUPER_MAJORITY_PERMIT", type := (.object "com/example/kindred_consent/kindredconsent/engine/EReason"), accessFlags := 16409, slot := 6, constantValue := 0 }, { name := "SOURCE", type := (.object "com/example/kindred_consent/kindredconsent/engine/EReason"), accessFlags := 16409, slot := 7, constantValue := 0 }, { name := "RESHARE_REFUSED", type := (.object "com/example/kindred_consent/kindredconsent/engine/EReason"), accessFlags := 16409, slot := 8, constantValue := 0 }, { name := "UNNAMED", type := (.object "com/example/kindred_consent/kindredconsent/engine/EReason"), accessFlags := 16409, slot := 9, constantValue := 0 }, { name := "NOT_VIEWER", type := (.object "com/example/kindred_consent/kindredconsent/engine/EReason"), accessFlags := 16409, slot := 10, constantValue := 0 }, { name := "NO_THRESHOLD", type := (.object "com/example/kindred_consent/kindredconsent/engine/EReason"), accessFlags := 16409, slot := 11, constantValue := 0 }, { name := "m_sWord", type := (.object "java/lang/String"), accessFlags := 18, slot := 3, constantValue := 0 }, { name := "m_eRule", type := (.object "com/example/kindred_consent/kindredconsent/model/EResolutionRule"), accessFlags := 18, slot := 4, constantValue := 0 }, { name := "$VALUES", type := (.array (.object "com/example/kindred_consent/kindredconsent/engine/EReason")), accessFlags := 4122, slot := 12, constantValue := 0 }]
  methods := #[k6m0]
  instanceTypes := #[(.object "java/lang/String"), .int, .int, (.object "java/lang/String"), (.object "com/example/kindred_consent/kindredconsent/model/EResolutionRule")]
  staticTypes := #[(.object "com/example/kindred_consent/kindredconsent/engine/EReason"), (.object "com/example/kindred_consent/kindredconsent/engine/EReason"), (.object "com/example/kindred_consent/kindredconsent/engine/EReason"), (.object "com/example/kindred_consent/kindredconsent/engine/EReason"), (.object "com/example/kindred_consent/kindredconsent/engine/EReason"), (.object "com/example/kindred_consent/kindredconsent/engine/EReason"), (.object "com/example/kindred_consent/kindredconsent/engine/EReason"), (.object "com/example/kindred_consent/kindredconsent/engine/EReason"), (.object "com/example/kindred_consent/kindredconsent/engine/EReason"), (.object "com/example/kindred_consent/kindredconsent/engine/EReason"), (.object "com/example/kindred_consent/kindredconsent/engine/EReason"), (.object "com/example/kindred_consent/kindredconsent/engine/EReason"), (.array (.object "com/example/kindred_consent/kindredconsent/engine/EReason"))]
  resolved := Array.replicate 164 none
  statics := some 0 }

def pool7 : Array CpInfo := pool [(1, .class_ 2), (0, u "com/example/kindred_consent/kindredconsent/model/EResolutionRule"), (2, u "WEIGHTED"), (0, u "Lcom/example/kindred_consent/kindredconsent/model/EResolutionRule;"), (2, u "OWNER_OVERRIDES"), (2, u "FULL_CONSENSUS_PERMIT"), (2, u "MAJORITY_PERMIT"), (2, u "STRONG_MAJORITY_PERMIT"), (2, u "SUPER_MAJORITY_PERMIT"), (2, u "$VALUES"), (0, u "[Lcom/example/kindred_consent/kindredconsent/model/EResolutionRule;"), (6, .class_ 34), (1, u "java/lang/Enum"), (8, u "m_sWord"), (0, u "Ljava/lang/String;")] 87

/-- com/example/kindred_consent/kindredconsent/model/EResolutionRule -/
def k7 : Class := { plain "com/example/kindred_consent/kindredconsent/model/EResolutionRule" (some 5) with
  accessFlags := 16433
  interfaces := #[]
  cf := some (fileOf pool7 1 #[] #[] 16433 32 #[] #[{ accessFlags := 16409, nameIndex := 5, descriptorIndex := 6, attributes := #[] }, { accessFlags := 16409, nameIndex := 9, descriptorIndex := 6, attributes := #[] }, { accessFlags := 16409, nameIndex := 12, descriptorIndex := 6, attributes := #[] }, { accessFlags := 16409, nameIndex := 15, descriptorIndex := 6, attributes := #[] }, { accessFlags := 16409, nameIndex := 18, descriptorIndex := 6, attributes := #[] }, { accessFlags := 16409, nameIndex := 21, descriptorIndex := 6, attributes := #[] }, { accessFlags := 18, nameIndex := 43, descriptorIndex := 44, attributes := #[] }, { accessFlags := 4122, nameIndex := 24, descriptorIndex := 25, attributes := #[] }])
  fields := #[{ name := "WEIGHTED", type := (.object "com/example/kindred_consent/kindredconsent/model/EResolutionRule"), accessFlags := 16409, slot := 0, constantValue := 0 }, { name := "OWNER_OVERRIDES", type := (.object "com/example/kindred_consent/kindredconsent/model/EResolutionRule"), accessFlags := 16409, slot := 1, constantValue := 0 }, { name := "FULL_CONSENSUS_PERMIT", type := (.object "com/example/kindred_consent/kindredconsent/model/EResolutionRule"), accessFlags := 16409, slot := 2, constantValue := 0 }, { name := "MAJORITY_PERMIT", type := (.object "com/example/kindred_consent/kindredconsent/model/EResolutionRule"), accessFlags := 16409, slot := 3, constantValue := 0 }, { name := "STRONG_MAJORITY_PERMIT", type := (.object "com/example/kindred_consent/kindredconsent/model/EResolutionRule"), accessFlags := 16409, slot := 4, constantValue := 0 }, { name := "SUPER_MAJORITY_PERMIT", type := (.object "com/example/kindred_consent/kindredconsent/model/EResolutionRule"), accessFlags := 16409, slot := 5, constantValue := 0 }, { name := "m_sWord", type := (.object "java/lang/String"), accessFlags := 18, slot := 3, constantValue := 0 }, { name := "$VALUES", type := (.array (.object "com/example/kindred_consent/kindredconsent/model/EResolutionRule")), accessFlags := 4122, slot := 6, constantValue := 0 }]
  methods := #[]
  instanceTypes := #[(.object "java/lang/String"), .int, .int, (.object "java/lang/String")]
  staticTypes := #[(.object "com/example/kindred_consent/kindredconsent/model/EResolutionRule"), (.object "com/example/kindred_consent/kindredconsent/model/EResolutionRule"), (.object "com/example/kindred_consent/kindredconsent/model/EResolutionRule"), (.object "com/example/kindred_consent/kindredconsent/model/EResolutionRule"), (.object "com/example/kindred_consent/kindredconsent/model/EResolutionRule"), (.object "com/example/kindred_consent/kindredconsent/model/EResolutionRule"), (.array (.object "com/example/kindred_consent/kindredconsent/model/EResolutionRule"))]
  resolved := Array.replicate 132 none
  statics := some 1 }

def pool8 : Array CpInfo := pool [(1, u "java/lang/Cloneable"), (0, .class_ 1), (0, u "java/lang/Object"), (0, .class_ 3)] 3

/-- java/lang/Cloneable -/
def k8 : Class := { plain "java/lang/Cloneable" (some 0) with
  accessFlags := 1537
  interfaces := #[]
  cf := some (fileOf pool8 2 #[] #[] 1537 4 #[] #[])
  fields := #[]
  methods := #[]
  instanceTypes := #[]
  staticTypes := #[]
  resolved := Array.replicate 8 none
  statics := none }

/-- the primitive byte -/
def k9 : Class := { plain "byte" none with kind := .primitive 'B', accessFlags := 0x411 }
/-- [B -/
def k10 : Class := { plain "[B" (some 0) with kind := .array 9 .byte, interfaces := #[8, 4], accessFlags := 1041 }

/-- the primitive int -/
def k11 : Class := { plain "int" none with kind := .primitive 'I', accessFlags := 0x411 }
/-- [I -/
def k12 : Class := { plain "[I" (some 0) with kind := .array 11 .int, interfaces := #[8, 4], accessFlags := 1041 }

def heap : Heap := #[{ cls := 6, slots := #[.ref 2, .ref 13, .ref 6, .ref 3, .ref 10, .ref 18, .ref 16, .ref 8, .ref 12, .ref 15, .ref 14, .ref 9, .null], vm := .statics 6 },
  { cls := 7, slots := #[.ref 5, .ref 7, .ref 4, .ref 11, .ref 19, .ref 17, .null], vm := .statics 7 },
  { cls := 6, slots := #[.null, .int 0, .int 0, .null, .null], vm := .none },
  { cls := 6, slots := #[.null, .int 0, .int 0, .null, .ref 4], vm := .none },
  { cls := 7, slots := #[.null, .int 2, .int 0, .null], vm := .none },
  { cls := 7, slots := #[.null, .int 0, .int 0, .null], vm := .none },
  { cls := 6, slots := #[.null, .int 0, .int 0, .null, .ref 7], vm := .none },
  { cls := 7, slots := #[.null, .int 1, .int 0, .null], vm := .none },
  { cls := 6, slots := #[.null, .int 0, .int 0, .null, .null], vm := .none },
  { cls := 6, slots := #[.null, .int 0, .int 0, .null, .null], vm := .none },
  { cls := 6, slots := #[.null, .int 0, .int 0, .null, .ref 11], vm := .none },
  { cls := 7, slots := #[.null, .int 3, .int 0, .null], vm := .none },
  { cls := 6, slots := #[.null, .int 0, .int 0, .null, .null], vm := .none },
  { cls := 6, slots := #[.null, .int 0, .int 0, .null, .ref 5], vm := .none },
  { cls := 6, slots := #[.null, .int 0, .int 0, .null, .null], vm := .none },
  { cls := 6, slots := #[.null, .int 0, .int 0, .null, .null], vm := .none },
  { cls := 6, slots := #[.null, .int 0, .int 0, .null, .ref 17], vm := .none },
  { cls := 7, slots := #[.null, .int 5, .int 0, .null], vm := .none },
  { cls := 6, slots := #[.null, .int 0, .int 0, .null, .ref 19], vm := .none },
  { cls := 7, slots := #[.null, .int 4, .int 0, .null], vm := .none }]
def classes : Array Class := #[k0, k1, k2, k3, k4, k5, k6, k7, k8, k9, k10, k11, k12]
def interned : List (Array UInt16 × Addr) := []
def slotsUsed : Nat := 104
def theMethod : MethodId := ⟨1, 2⟩
def args0 : Array Value := #[.int 5]
def aboutOver (below : List Frame) : State where
  vm := { classes := classes, interned := interned.toArray }
  heap := heap
  slotsUsed := slotsUsed
  threads := #[{ frames := .invoking theMethod args0 :: below }]
def below0 : List Frame := [.native { method := ⟨0, 0⟩, args := #[] }]
def about1 : State := aboutOver below0
def p0 : Program := .bare "" "" ""
def e0 : Env := launch0.env 0 0 0
theorem w_frames : about1.frames = Frame.invoking theMethod args0 :: below0 := rfl
set_option maxRecDepth 65536 in
theorem w_args : argsFit about1.vm theMethod args0 = true := by decide +kernel
set_option maxRecDepth 65536 in
theorem w_heap : heapFits about1 = true := by decide +kernel
set_option maxRecDepth 65536 in
theorem w_runnable : about1.curStatus? = some .runnable := by decide +kernel
set_option maxRecDepth 65536 in
theorem w_alone : about1.alone = true := by decide +kernel
set_option maxRecDepth 65536 in
theorem w_named : about1.methodNamed? x = some theMethod := by decide +kernel
set_option maxRecDepth 65536 in
theorem w_hears : about1.hears theMethod below0 = true := by decide +kernel
set_option maxRecDepth 65536 in
theorem w_ripe : about1.ripe theMethod args0 below0 = true := by decide +kernel
theorem w_running : about1.status = .running := rfl
set_option maxRecDepth 65536 in
theorem w_room : about1.hasRoom e0.platform room_1 = true :=
  launch0.hasRoom_least _ room_1 (by decide +kernel) (by decide +kernel) (by decide +kernel) (by decide +kernel) (by decide +kernel) (by decide +kernel)
theorem allAtoms_all (ts : List Jvm.Cond) (a : Array Jvm.Value) (st : Jvm.State) : (allAtoms ts).before a st = ts.all (fun c => c.before a st) := by
  induction ts with
  | nil => rfl
  | cons c t ih =>
    show (Jvm.Cond.and c (allAtoms t)).before a st = _
    rw [Jvm.Cond.before_and, ih, List.all_cons]
def words1 : List Jvm.Cond := Jvm.Cond.code x code maxLocals ret :: tables_1
/-- a 'code' word, met by the world's own term for the bytes: nothing is compared byte by byte -/
theorem code_word {y : MethodName} {bytes : ByteArray} {mx : Nat} {rt : Option FieldType} {a : Array Value} {s : State} {m : MethodId} {meth : Method} {c : Code} (h1 : s.methodNamed? y = some m) (h2 : s.vm.method? m = some meth) (h3 : meth.code = some c) (h4 : c.code = bytes)
    (h5 : (c.maxLocals == mx && c.exceptionTable.isEmpty && decide (c.maxStack ≤ mostOperands) && decide (meth.sig.returnType = rt) && !meth.locks && decide (parseMethodDescriptor y.desc = some meth.sig)) = true) : (Jvm.Cond.code y bytes mx rt).before a s = true := by
  simp only [Bool.and_eq_true, beq_iff_eq, Bool.not_eq_true', decide_eq_true_eq] at h5
  obtain ⟨⟨⟨⟨⟨g1, g2⟩, g3⟩, g4⟩, g5⟩, g6⟩ := h5
  simp [Cond.before, Cond.holds, Cond.value, h1, h2, h3, h4, g1, g2, g3, g4, g5, g6]
def isCode : Jvm.Cond → Bool
  | .code _ _ _ _ => true
  | _ => false
theorem all_split {L : List Jvm.Cond} {P : Jvm.Cond → Bool} (h1 : L.all (fun c => isCode c || P c) = true) (h2 : ∀ c ∈ L.filter isCode, P c = true) : L.all P = true := by
  refine List.all_eq_true.mpr fun c hc => ?_
  have h := List.all_eq_true.mp h1 c hc
  rcases Bool.eq_false_or_eq_true (isCode c) with hi | hi
  · exact h2 c (List.mem_filter.mpr ⟨hc, hi⟩)
  · simpa [hi] using h
set_option maxRecDepth 65536 in
theorem w_c0 : (Jvm.Cond.code x code maxLocals ret).before args0 about1 = true := code_word (m := ⟨1, 2⟩) (meth := k1m2) (c := k1c2) (by decide +kernel) rfl rfl rfl (by decide +kernel)
set_option maxRecDepth 65536 in
theorem w_c1 : (Jvm.Cond.code ({ cls := "com/example/kindred_consent/kindredconsent/engine/EReasonIsCountedPinLaw", name := "pick", desc := "(I)Lcom/example/kindred_consent/kindredconsent/engine/EReason;" } : Jvm.MethodName) method_2_code (1 : Nat) (Option.some (Jvm.ClassFile.FieldType.object "com/example/kindred_consent/kindredconsent/engine/EReason"))).before args0 about1 = true := code_word (m := ⟨1, 1⟩) (meth := k1m1) (c := k1c1) (by decide +kernel) rfl rfl rfl (by decide +kernel)
set_option maxRecDepth 65536 in
theorem w_c2 : (Jvm.Cond.code ({ cls := "com/example/kindred_consent/kindredconsent/engine/EReason", name := "isCounted", desc := "()Z" } : Jvm.MethodName) prog_7_method_7_code (1 : Nat) (Option.some Jvm.ClassFile.FieldType.boolean)).before args0 about1 = true := code_word (m := ⟨6, 0⟩) (meth := k6m0) (c := k6c0) (by decide +kernel) rfl rfl rfl (by decide +kernel)
def codes1 : List Jvm.Cond := [Jvm.Cond.code x code maxLocals ret, Jvm.Cond.code ({ cls := "com/example/kindred_consent/kindredconsent/engine/EReasonIsCountedPinLaw", name := "pick", desc := "(I)Lcom/example/kindred_consent/kindredconsent/engine/EReason;" } : Jvm.MethodName) method_2_code (1 : Nat) (Option.some (Jvm.ClassFile.FieldType.object "com/example/kindred_consent/kindredconsent/engine/EReason")), Jvm.Cond.code ({ cls := "com/example/kindred_consent/kindredconsent/engine/EReason", name := "isCounted", desc := "()Z" } : Jvm.MethodName) prog_7_method_7_code (1 : Nat) (Option.some Jvm.ClassFile.FieldType.boolean)]
set_option maxRecDepth 65536 in
theorem codes_eq : words1.filter isCode = codes1 := rfl
theorem w_codes : ∀ c ∈ words1.filter isCode, c.before args0 about1 = true := by
  rw [codes_eq]
  intro c hc
  simp only [codes1, List.mem_cons, List.not_mem_nil, or_false] at hc
  rcases hc with rfl | rfl | rfl
  · exact w_c0
  · exact w_c1
  · exact w_c2
set_option maxRecDepth 65536 in
theorem w_t1 : (words1.take 24).all (fun c => isCode c || c.before args0 about1) = true := by decide +kernel
set_option maxRecDepth 65536 in
theorem w_t2 : (words1.drop 24).all (fun c => isCode c || c.before args0 about1) = true := by decide +kernel
theorem w_tables : (allAtoms (Jvm.Cond.code x code maxLocals ret :: tables_1)).before args0 about1 = true := by
  rw [allAtoms_all]
  show words1.all (fun c => c.before args0 about1) = true
  refine all_split ?_ w_codes
  rw [← List.take_append_drop 24 words1, List.all_append, w_t1, w_t2]
  rfl
set_option maxRecDepth 65536 in
theorem w_case : (Jvm.Cond.and given_1 narrow_1).before args0 about1 = true := by decide +kernel
theorem w_applies : (headSpec (Jvm.Cond.code x code maxLocals ret :: tables_1) room_1).applies x e0.platform about1 = true :=
  (Spec.applies_iff w_frames).mpr ⟨w_running, w_runnable, w_alone, w_named, w_hears, w_ripe, w_room, w_tables⟩
theorem atStart : AtStart classFile x code maxLocals ret World_1 tables_1 room_1 Calls_1 rest_1 Pre_1 launch0 p0 e0 about1 theMethod args0 below0 :=
  ⟨lists_1, trivial, launch0.admits_env _ _ _, launch0.least_env, fairChoices_fair.cas, fairChoices_fair.clock, w_frames, w_args, w_heap, w_applies, trivial, trivial, w_case⟩
end start1
theorem witness_1 : WitnessClaimed_1 := ⟨start1.p0, start1.e0, start1.about1, start1.theMethod, start1.args0, start1.below0, start1.atStart⟩
end Jvm.Pilot.@@N@@
