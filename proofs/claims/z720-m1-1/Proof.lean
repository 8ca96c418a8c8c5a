import JvmDerived
import JvmDerived.Pilot.@@N@@Statement
import JvmDerived.Pilot.@@N@@Code
set_option linter.unusedVariables false
set_option linter.unusedSimpArgs false
namespace Jvm.RoadKit
open Sem ClassFile Op Lib Jvm.Stand Jvm.Free Jvm.LawKit
section New
variable {p : Program} {l : Launch} {e : Env} {R : Room} {s : State} {m : MethodId} {args : Array Value} {below : List Frame} {meth : Method} {c : Code} {T : State} {locs : List Loc} {cells slots : Nat}
theorem retI (X : Stand p l e R s m args below meth c T locs cells slots) (hx : p.tables.exec = Jvm.exec) {pc : Nat} {Ls : Array Slot} {z : Int32} {rest : List Value} (hret : meth.sig.returnType = some .int) (hd : decode c.code pc = .ok (.ireturn, 1)) {fs : List Frame}
    (hl : ∀ (f : JFrame) (acts : List Action), f.method = m → f.locked = none → f.entered = [] → (doReturn e (T.setTop f) acts (some (.int z))).1 = T.setFrames fs) : Steps p.tables e below (T.setTop (mkF m pc Ls (.int z :: rest))) (T.setFrames fs) := by
  have hm' : T.vm.method? m = some meth := X.method'
  have hn : narrow .int (.int z) = .int z := rfl
  show Steps p.tables e below (T.setTop { method := m, pc := pc, locals := Ls, stack := _ :: rest, locked := none }) _
  jvm_step X.here [X.here.top, hx, hd, hm', hret, hn]
  first | (intro acts; rw [hl _ acts rfl rfl rfl]) | rw [hl _ _ rfl rfl rfl]
  exact Steps.refl _
end New
end Jvm.RoadKit
namespace Jvm.Pilot.@@N@@
open Jvm Jvm.ClassFile Sem Op Lib Jvm.Free Jvm.Stand Jvm.LawKit Jvm.RoadKit Bundle Jvm.Pilot.@@N@@.Jvm.D
theorem own_le {Z : State} {n0 : Nat} {h : Heap} (O : Old Z n0 h) : n0 ≤ h.size := O.1 ▸ O.2.1
theorem pn_com_example_glacial_workflow_glacialworkflow_core_StepState : plainName "com/example/glacial_workflow/glacialworkflow/core/StepState" = true := by first | (simp [plainName, overriddenIn]; done) | decide +kernel
theorem pn_com_example_glacial_workflow_glacialworkflow_core_StepStateHasEndedPinLaw : plainName "com/example/glacial_workflow/glacialworkflow/core/StepStateHasEndedPinLaw" = true := by first | (simp [plainName, overriddenIn]; done) | decide +kernel
theorem pn_java_lang_Enum : plainName "java/lang/Enum" = true := by first | (simp [plainName, overriddenIn]; done) | decide +kernel
theorem pd___I : parseMethodDescriptor "()I" = some ⟨[], some .int⟩ := by decide +kernel
theorem pd___Z : parseMethodDescriptor "()Z" = some ⟨[], some .boolean⟩ := by decide +kernel
theorem pd__Lcom_example_glacial_workflow_glacialworkflow_core_StepState__Z : parseMethodDescriptor "(Lcom/example/glacial_workflow/glacialworkflow/core/StepState;)Z" = some ⟨[(.object "com/example/glacial_workflow/glacialworkflow/core/StepState")], some .boolean⟩ := by decide +kernel
theorem d1_0 : decode prog_26_method_4_code 0 = .ok (.aload_n 0, 1) := by decide +kernel
theorem d1_1 : decode prog_26_method_4_code 1 = .ok (.getstatic 19, 3) := by decide +kernel
theorem d1_4 : decode prog_26_method_4_code 4 = .ok (.if_acmp .eq 24, 3) := by decide +kernel
theorem d1_7 : decode prog_26_method_4_code 7 = .ok (.aload_n 0, 1) := by decide +kernel
theorem d1_8 : decode prog_26_method_4_code 8 = .ok (.getstatic 22, 3) := by decide +kernel
theorem d1_11 : decode prog_26_method_4_code 11 = .ok (.if_acmp .eq 17, 3) := by decide +kernel
theorem d1_14 : decode prog_26_method_4_code 14 = .ok (.aload_n 0, 1) := by decide +kernel
theorem d1_15 : decode prog_26_method_4_code 15 = .ok (.getstatic 25, 3) := by decide +kernel
theorem d1_18 : decode prog_26_method_4_code 18 = .ok (.if_acmp .eq 10, 3) := by decide +kernel
theorem d1_21 : decode prog_26_method_4_code 21 = .ok (.aload_n 0, 1) := by decide +kernel
theorem d1_22 : decode prog_26_method_4_code 22 = .ok (.getstatic 28, 3) := by decide +kernel
theorem d1_25 : decode prog_26_method_4_code 25 = .ok (.if_acmp .ne 7, 3) := by decide +kernel
theorem d1_28 : decode prog_26_method_4_code 28 = .ok (.iconst 1, 1) := by decide +kernel
theorem d1_29 : decode prog_26_method_4_code 29 = .ok (.goto 4, 3) := by decide +kernel
theorem d1_32 : decode prog_26_method_4_code 32 = .ok (.iconst 0, 1) := by decide +kernel
theorem d1_33 : decode prog_26_method_4_code 33 = .ok (.ireturn, 1) := by decide +kernel
theorem d2_0 : decode prog_26_method_5_code 0 = .ok (.aload_n 0, 1) := by decide +kernel
theorem d2_1 : decode prog_26_method_5_code 1 = .ok (.invokevirtual 50, 3) := by decide +kernel
theorem d2_4 : decode prog_26_method_5_code 4 = .ok (.tableswitch 52 0 8 #[62, 105, 148, 199, 177, 242, 242, 242, 242], 52) := by decide +kernel
theorem d2_66 : decode prog_26_method_5_code 66 = .ok (.aload_n 1, 1) := by decide +kernel
theorem d2_67 : decode prog_26_method_5_code 67 = .ok (.getstatic 7, 3) := by decide +kernel
theorem d2_70 : decode prog_26_method_5_code 70 = .ok (.if_acmp .eq 31, 3) := by decide +kernel
theorem d2_73 : decode prog_26_method_5_code 73 = .ok (.aload_n 1, 1) := by decide +kernel
theorem d2_74 : decode prog_26_method_5_code 74 = .ok (.getstatic 25, 3) := by decide +kernel
theorem d2_77 : decode prog_26_method_5_code 77 = .ok (.if_acmp .eq 24, 3) := by decide +kernel
theorem d2_80 : decode prog_26_method_5_code 80 = .ok (.aload_n 1, 1) := by decide +kernel
theorem d2_81 : decode prog_26_method_5_code 81 = .ok (.getstatic 13, 3) := by decide +kernel
theorem d2_84 : decode prog_26_method_5_code 84 = .ok (.if_acmp .eq 17, 3) := by decide +kernel
theorem d2_87 : decode prog_26_method_5_code 87 = .ok (.aload_n 1, 1) := by decide +kernel
theorem d2_88 : decode prog_26_method_5_code 88 = .ok (.getstatic 22, 3) := by decide +kernel
theorem d2_91 : decode prog_26_method_5_code 91 = .ok (.if_acmp .eq 10, 3) := by decide +kernel
theorem d2_94 : decode prog_26_method_5_code 94 = .ok (.aload_n 1, 1) := by decide +kernel
theorem d2_95 : decode prog_26_method_5_code 95 = .ok (.getstatic 28, 3) := by decide +kernel
theorem d2_98 : decode prog_26_method_5_code 98 = .ok (.if_acmp .ne 7, 3) := by decide +kernel
theorem d2_101 : decode prog_26_method_5_code 101 = .ok (.iconst 1, 1) := by decide +kernel
theorem d2_102 : decode prog_26_method_5_code 102 = .ok (.goto 145, 3) := by decide +kernel
theorem d2_109 : decode prog_26_method_5_code 109 = .ok (.aload_n 1, 1) := by decide +kernel
theorem d2_110 : decode prog_26_method_5_code 110 = .ok (.getstatic 19, 3) := by decide +kernel
theorem d2_113 : decode prog_26_method_5_code 113 = .ok (.if_acmp .eq 31, 3) := by decide +kernel
theorem d2_116 : decode prog_26_method_5_code 116 = .ok (.aload_n 1, 1) := by decide +kernel
theorem d2_117 : decode prog_26_method_5_code 117 = .ok (.getstatic 22, 3) := by decide +kernel
theorem d2_120 : decode prog_26_method_5_code 120 = .ok (.if_acmp .eq 24, 3) := by decide +kernel
theorem d2_123 : decode prog_26_method_5_code 123 = .ok (.aload_n 1, 1) := by decide +kernel
theorem d2_124 : decode prog_26_method_5_code 124 = .ok (.getstatic 10, 3) := by decide +kernel
theorem d2_127 : decode prog_26_method_5_code 127 = .ok (.if_acmp .eq 17, 3) := by decide +kernel
theorem d2_130 : decode prog_26_method_5_code 130 = .ok (.aload_n 1, 1) := by decide +kernel
theorem d2_131 : decode prog_26_method_5_code 131 = .ok (.getstatic 13, 3) := by decide +kernel
theorem d2_134 : decode prog_26_method_5_code 134 = .ok (.if_acmp .eq 10, 3) := by decide +kernel
theorem d2_137 : decode prog_26_method_5_code 137 = .ok (.aload_n 1, 1) := by decide +kernel
theorem d2_138 : decode prog_26_method_5_code 138 = .ok (.getstatic 28, 3) := by decide +kernel
theorem d2_141 : decode prog_26_method_5_code 141 = .ok (.if_acmp .ne 7, 3) := by decide +kernel
theorem d2_144 : decode prog_26_method_5_code 144 = .ok (.iconst 1, 1) := by decide +kernel
theorem d2_145 : decode prog_26_method_5_code 145 = .ok (.goto 102, 3) := by decide +kernel
theorem d2_152 : decode prog_26_method_5_code 152 = .ok (.aload_n 1, 1) := by decide +kernel
theorem d2_153 : decode prog_26_method_5_code 153 = .ok (.getstatic 7, 3) := by decide +kernel
theorem d2_156 : decode prog_26_method_5_code 156 = .ok (.if_acmp .eq 17, 3) := by decide +kernel
theorem d2_159 : decode prog_26_method_5_code 159 = .ok (.aload_n 1, 1) := by decide +kernel
theorem d2_160 : decode prog_26_method_5_code 160 = .ok (.getstatic 22, 3) := by decide +kernel
theorem d2_163 : decode prog_26_method_5_code 163 = .ok (.if_acmp .eq 10, 3) := by decide +kernel
theorem d2_166 : decode prog_26_method_5_code 166 = .ok (.aload_n 1, 1) := by decide +kernel
theorem d2_167 : decode prog_26_method_5_code 167 = .ok (.getstatic 28, 3) := by decide +kernel
theorem d2_170 : decode prog_26_method_5_code 170 = .ok (.if_acmp .ne 7, 3) := by decide +kernel
theorem d2_173 : decode prog_26_method_5_code 173 = .ok (.iconst 1, 1) := by decide +kernel
theorem d2_174 : decode prog_26_method_5_code 174 = .ok (.goto 73, 3) := by decide +kernel
theorem d2_181 : decode prog_26_method_5_code 181 = .ok (.aload_n 1, 1) := by decide +kernel
theorem d2_182 : decode prog_26_method_5_code 182 = .ok (.getstatic 7, 3) := by decide +kernel
theorem d2_185 : decode prog_26_method_5_code 185 = .ok (.if_acmp .eq 10, 3) := by decide +kernel
theorem d2_188 : decode prog_26_method_5_code 188 = .ok (.aload_n 1, 1) := by decide +kernel
theorem d2_189 : decode prog_26_method_5_code 189 = .ok (.getstatic 28, 3) := by decide +kernel
theorem d2_192 : decode prog_26_method_5_code 192 = .ok (.if_acmp .ne 7, 3) := by decide +kernel
theorem d2_195 : decode prog_26_method_5_code 195 = .ok (.iconst 1, 1) := by decide +kernel
theorem d2_196 : decode prog_26_method_5_code 196 = .ok (.goto 51, 3) := by decide +kernel
theorem d2_203 : decode prog_26_method_5_code 203 = .ok (.aload_n 1, 1) := by decide +kernel
theorem d2_204 : decode prog_26_method_5_code 204 = .ok (.getstatic 16, 3) := by decide +kernel
theorem d2_207 : decode prog_26_method_5_code 207 = .ok (.if_acmp .eq 31, 3) := by decide +kernel
theorem d2_210 : decode prog_26_method_5_code 210 = .ok (.aload_n 1, 1) := by decide +kernel
theorem d2_211 : decode prog_26_method_5_code 211 = .ok (.getstatic 19, 3) := by decide +kernel
theorem d2_214 : decode prog_26_method_5_code 214 = .ok (.if_acmp .eq 24, 3) := by decide +kernel
theorem d2_217 : decode prog_26_method_5_code 217 = .ok (.aload_n 1, 1) := by decide +kernel
theorem d2_218 : decode prog_26_method_5_code 218 = .ok (.getstatic 22, 3) := by decide +kernel
theorem d2_221 : decode prog_26_method_5_code 221 = .ok (.if_acmp .eq 17, 3) := by decide +kernel
theorem d2_224 : decode prog_26_method_5_code 224 = .ok (.aload_n 1, 1) := by decide +kernel
theorem d2_225 : decode prog_26_method_5_code 225 = .ok (.getstatic 10, 3) := by decide +kernel
theorem d2_228 : decode prog_26_method_5_code 228 = .ok (.if_acmp .eq 10, 3) := by decide +kernel
theorem d2_231 : decode prog_26_method_5_code 231 = .ok (.aload_n 1, 1) := by decide +kernel
theorem d2_232 : decode prog_26_method_5_code 232 = .ok (.getstatic 28, 3) := by decide +kernel
theorem d2_235 : decode prog_26_method_5_code 235 = .ok (.if_acmp .ne 7, 3) := by decide +kernel
theorem d2_238 : decode prog_26_method_5_code 238 = .ok (.iconst 1, 1) := by decide +kernel
theorem d2_239 : decode prog_26_method_5_code 239 = .ok (.goto 8, 3) := by decide +kernel
theorem d2_246 : decode prog_26_method_5_code 246 = .ok (.iconst 0, 1) := by decide +kernel
theorem d2_247 : decode prog_26_method_5_code 247 = .ok (.ireturn, 1) := by decide +kernel
theorem d3_0 : decode jdk_37_method_2_code 0 = .ok (.aload_n 0, 1) := by decide +kernel
theorem d3_1 : decode jdk_37_method_2_code 1 = .ok (.getfield 7, 3) := by decide +kernel
theorem d3_4 : decode jdk_37_method_2_code 4 = .ok (.ireturn, 1) := by decide +kernel
section OwnWords
variable {args : Array Value} {s : State} {t u : Term} {a b : Addr} {C n d K : String}
theorem own_exa (h : (Jvm.Cond.exactly t K).value args s none s [] = some true) (ev : t.eval args s none [] s = some (.ref a)) : Exa s s.heap a K := Exa.start ev h
theorem own_fi {k : Int32} (ev : t.eval args s none [] s = some (.ref a)) (h : (Jvm.Cond.eq (.field t C n d) (.int k)).value args s none s [] = some true) : Fld s s.heap a C n d (.int k) := by
  refine Fld.start ?_
  have e := fld_at (C := C) (n := n) (dd := d) ev
  simp only [Cond.value, e] at h
  cases hv : s.fieldOf? a C n d with
  | none => simp [hv] at h
  | some z => cases z <;> simp [hv, Term.eval] at h ⊢; exact h
theorem own_fn (ev : t.eval args s none [] s = some (.ref a)) (h : (Jvm.Cond.eq (.field t C n d) .null).value args s none s [] = some true) : Fld s s.heap a C n d .null :=
  Fld.start ((fld_at ev).symm.trans (null_v h))
theorem own_fr (ev : t.eval args s none [] s = some (.ref a)) (ev' : u.eval args s none [] s = some (.ref b)) (h : (Jvm.Cond.eq (.field t C n d) u).value args s none s [] = some true) : Fld s s.heap a C n d (.ref b) := by
  refine Fld.start ?_
  have e := fld_at (C := C) (n := n) (dd := d) ev
  simp only [Cond.value, e, ev'] at h
  cases hv : s.fieldOf? a C n d with
  | none => simp [hv] at h
  | some z => cases z <;> simp [hv] at h ⊢; exact h
end OwnWords
theorem own_k (x : Int32) : (x &&& (2147483647 : Int32)) % (9 : Int32) = (0 : Int32) ∨ (x &&& (2147483647 : Int32)) % (9 : Int32) = (1 : Int32) ∨ (x &&& (2147483647 : Int32)) % (9 : Int32) = (2 : Int32) ∨ (x &&& (2147483647 : Int32)) % (9 : Int32) = (3 : Int32) ∨ (x &&& (2147483647 : Int32)) % (9 : Int32) = (4 : Int32) ∨ (x &&& (2147483647 : Int32)) % (9 : Int32) = (5 : Int32) ∨ (x &&& (2147483647 : Int32)) % (9 : Int32) = (6 : Int32) ∨ (x &&& (2147483647 : Int32)) % (9 : Int32) = (7 : Int32) ∨ (x &&& (2147483647 : Int32)) % (9 : Int32) = (8 : Int32) := by
  have e := c_mask x 2147483647 31 (by decide) (by decide)
  have r := (c_irem (x &&& 2147483647) 9 9 rfl).1 (by omega)
  have h : ((x &&& (2147483647 : Int32)) % (9 : Int32)).toInt = 0 ∨ ((x &&& (2147483647 : Int32)) % (9 : Int32)).toInt = 1 ∨ ((x &&& (2147483647 : Int32)) % (9 : Int32)).toInt = 2 ∨ ((x &&& (2147483647 : Int32)) % (9 : Int32)).toInt = 3 ∨ ((x &&& (2147483647 : Int32)) % (9 : Int32)).toInt = 4 ∨ ((x &&& (2147483647 : Int32)) % (9 : Int32)).toInt = 5 ∨ ((x &&& (2147483647 : Int32)) % (9 : Int32)).toInt = 6 ∨ ((x &&& (2147483647 : Int32)) % (9 : Int32)).toInt = 7 ∨ ((x &&& (2147483647 : Int32)) % (9 : Int32)).toInt = 8 := by omega
  rcases h with h | h | h | h | h | h | h | h | h
  · exact (Or.inl (Int32.toInt_inj.mp (h.trans rfl)))
  · exact (Or.inr (Or.inl (Int32.toInt_inj.mp (h.trans rfl))))
  · exact (Or.inr (Or.inr (Or.inl (Int32.toInt_inj.mp (h.trans rfl)))))
  · exact (Or.inr (Or.inr (Or.inr (Or.inl (Int32.toInt_inj.mp (h.trans rfl))))))
  · exact (Or.inr (Or.inr (Or.inr (Or.inr (Or.inl (Int32.toInt_inj.mp (h.trans rfl)))))))
  · exact (Or.inr (Or.inr (Or.inr (Or.inr (Or.inr (Or.inl (Int32.toInt_inj.mp (h.trans rfl))))))))
  · exact (Or.inr (Or.inr (Or.inr (Or.inr (Or.inr (Or.inr (Or.inl (Int32.toInt_inj.mp (h.trans rfl)))))))))
  · exact (Or.inr (Or.inr (Or.inr (Or.inr (Or.inr (Or.inr (Or.inr (Or.inl (Int32.toInt_inj.mp (h.trans rfl))))))))))
  · exact (Or.inr (Or.inr (Or.inr (Or.inr (Or.inr (Or.inr (Or.inr (Or.inr (Int32.toInt_inj.mp (h.trans rfl))))))))))
theorem own_b (x : Int32) : ¬ (x &&& (2147483647 : Int32)) % (9 : Int32) < 0 ∧ (x &&& (2147483647 : Int32)) % (9 : Int32) < (9 : Int32) := by
  rcases own_k x with h | h | h | h | h | h | h | h | h <;> (rw [h]; decide)
def OwnEnv (Z : State) (w_PENDING w_RUNNING w_AWAITING_RETRY w_AWAITING_HUMAN w_APPROVED w_COMPLETED w_FAILED w_SKIPPED w_CANCELLED : Addr) : Prop := Sta Z Z.heap "com/example/glacial_workflow/glacialworkflow/core/StepState" "PENDING" "Lcom/example/glacial_workflow/glacialworkflow/core/StepState;" (.ref w_PENDING) ∧ Exa Z Z.heap w_PENDING "com/example/glacial_workflow/glacialworkflow/core/StepState" ∧ Sta Z Z.heap "com/example/glacial_workflow/glacialworkflow/core/StepState" "RUNNING" "Lcom/example/glacial_workflow/glacialworkflow/core/StepState;" (.ref w_RUNNING) ∧ Exa Z Z.heap w_RUNNING "com/example/glacial_workflow/glacialworkflow/core/StepState" ∧ Sta Z Z.heap "com/example/glacial_workflow/glacialworkflow/core/StepState" "AWAITING_RETRY" "Lcom/example/glacial_workflow/glacialworkflow/core/StepState;" (.ref w_AWAITING_RETRY) ∧ Exa Z Z.heap w_AWAITING_RETRY "com/example/glacial_workflow/glacialworkflow/core/StepState" ∧ Sta Z Z.heap "com/example/glacial_workflow/glacialworkflow/core/StepState" "AWAITING_HUMAN" "Lcom/example/glacial_workflow/glacialworkflow/core/StepState;" (.ref w_AWAITING_HUMAN) ∧ Exa Z Z.heap w_AWAITING_HUMAN "com/example/glacial_workflow/glacialworkflow/core/StepState" ∧ Sta Z Z.heap "com/example/glacial_workflow/glacialworkflow/core/StepState" "APPROVED" "Lcom/example/glacial_workflow/glacialworkflow/core/StepState;" (.ref w_APPROVED) ∧ Exa Z Z.heap w_APPROVED "com/example/glacial_workflow/glacialworkflow/core/StepState" ∧ Sta Z Z.heap "com/example/glacial_workflow/glacialworkflow/core/StepState" "COMPLETED" "Lcom/example/glacial_workflow/glacialworkflow/core/StepState;" (.ref w_COMPLETED) ∧ Exa Z Z.heap w_COMPLETED "com/example/glacial_workflow/glacialworkflow/core/StepState" ∧ Sta Z Z.heap "com/example/glacial_workflow/glacialworkflow/core/StepState" "FAILED" "Lcom/example/glacial_workflow/glacialworkflow/core/StepState;" (.ref w_FAILED) ∧ Exa Z Z.heap w_FAILED "com/example/glacial_workflow/glacialworkflow/core/StepState" ∧ Sta Z Z.heap "com/example/glacial_workflow/glacialworkflow/core/StepState" "SKIPPED" "Lcom/example/glacial_workflow/glacialworkflow/core/StepState;" (.ref w_SKIPPED) ∧ Exa Z Z.heap w_SKIPPED "com/example/glacial_workflow/glacialworkflow/core/StepState" ∧ Sta Z Z.heap "com/example/glacial_workflow/glacialworkflow/core/StepState" "CANCELLED" "Lcom/example/glacial_workflow/glacialworkflow/core/StepState;" (.ref w_CANCELLED) ∧ Exa Z Z.heap w_CANCELLED "com/example/glacial_workflow/glacialworkflow/core/StepState" ∧ Fld Z Z.heap w_PENDING "java/lang/Enum" "ordinal" "I" (.int (0 : Int32)) ∧ Fld Z Z.heap w_COMPLETED "java/lang/Enum" "ordinal" "I" (.int (5 : Int32)) ∧ Fld Z Z.heap w_FAILED "java/lang/Enum" "ordinal" "I" (.int (6 : Int32)) ∧ Fld Z Z.heap w_SKIPPED "java/lang/Enum" "ordinal" "I" (.int (7 : Int32)) ∧ Fld Z Z.heap w_CANCELLED "java/lang/Enum" "ordinal" "I" (.int (8 : Int32)) ∧ Fld Z Z.heap w_RUNNING "java/lang/Enum" "ordinal" "I" (.int (1 : Int32)) ∧ Fld Z Z.heap w_AWAITING_HUMAN "java/lang/Enum" "ordinal" "I" (.int (3 : Int32)) ∧ Fld Z Z.heap w_APPROVED "java/lang/Enum" "ordinal" "I" (.int (4 : Int32)) ∧ Fld Z Z.heap w_AWAITING_RETRY "java/lang/Enum" "ordinal" "I" (.int (2 : Int32))
theorem ef_ordn (m : MethodId) (a1 : Addr) : entryFrame m #[(.ref a1)] 1 = mkF m 0 #[.val (.ref a1)] [] := by first | (simp [entryFrame, mkF, argsToLocals, Value.category]; done) | rfl
def Q_ordn (Z : State) (a1 : Addr) (k1 : Int32) (h0 : Heap) (n0 : Nat) (v : Option Value) (h : Heap) (L : List Loc) : Prop := v = some (.int k1) ∧ Fr n0 L ∧ h = h0
set_option maxRecDepth 65536 in
set_option maxHeartbeats 40000000 in
theorem ordn (l : Launch) (Z : State) (a0 : Array Value) (hw : ∀ d ∈ tables_1, d.before a0 Z = true) (ws : List Jvm.Cond) (a1 : Addr) (k1 : Int32) (h0 : Heap) (n0 : Nat) (O0 : Old Z n0 h0) (F1 : Fld Z h0 a1 "java/lang/Enum" "ordinal" "I" (.int k1)) :
    MetFree l (⟨"java/lang/Enum", "ordinal", "()I"⟩ : MethodName) (head1 (Jvm.Cond.code (⟨"java/lang/Enum", "ordinal", "()I"⟩ : MethodName) jdk_37_method_2_code 1 (some .int) :: ws) ({ frames := 0, cells := 0, slots := 0, locals := 0 } : Room)) (fun a U => a = #[(.ref a1)] ∧ Z.Warmed39 U.vm ∧ U.heap = h0) (fun _ _ _ _ _ => True) (fun _ U o U' => ∃ v L, o = .returned v ∧ Q_ordn Z a1 k1 h0 n0 v U'.heap L ∧ FrameEnd U o U' L ({ frames := 0, cells := 0, slots := 0, locals := 0 } : Room).cells ({ frames := 0, cells := 0, slots := 0, locals := 0 } : Room).slots) := by
  refine MetFree.of_bodySF (plainFor_of_name pn_java_lang_Enum) hisR ?_
  intro p e s m args below meth c s₁ Bd hml0 hP hK
  obtain ⟨rfl, hZ, hh⟩ := hP
  have hx := Bd.exec
  have hby := Bd.bytes
  have hml : c.maxLocals = 1 := hml0
  have hown : s.vm.findClass "java/lang/Enum" = some m.cls := findClass_of_methodNamed Bd.named
  have hnm := (name_of_methodNamed Bd.named Bd.method).1
  have X0 : Stand p l e ({ frames := 0, cells := 0, slots := 0, locals := 0 } : Room) s m #[(.ref a1)] below meth c s₁ [] 0 0 := Stand.of_body Bd
  have e0 : s₁.heap = h0 := by rw [← hh, Bd.state]; rfl
  have N0 := Fr.nil n0
  have pre0 : ∀ t, Steps p.tables e below (s₁.setTop (mkF m 0 #[.val (.ref a1)] [])) t → Steps p.tables e below (s₁.setTop (entryFrame m #[(.ref a1)] 1)) t := fun t k => castTop (ef_ordn m a1) k
  obtain ⟨T1, X1, e1, st1⟩ := getF X0 hx hZ hown (host := "") (Or.inl (hw _ (List.mem_of_getElem? (i := 44) rfl))) Via.refl e0 F1 (g := (mkF m 1 #[.val (.ref a1)] [(.ref a1)])) rfl rfl (hb hby d3_1)
  obtain ⟨fs, hr, hrun, hended, hW, hsame⟩ := X1.leave (v := some (.int k1)) (fun h => by rw [Bd.returns] at h; cases h)
  refine ⟨_, _, pre0 _ ?_, hrun, hended, _, _, rfl, ?_, ⟨_, rfl⟩, hW, hsame.mono (by decide) (by decide)⟩
  · show Steps p.tables e below (s₁.setTop (mkF m 0 #[.val (.ref a1)] [])) _
    refine XS.aloadN X0.here hx rfl (hb hby d3_0) rfl rfl ?_
    show Steps p.tables e below (s₁.setTop (mkF m 1 #[.val (.ref a1)] [(.ref a1)])) _
    refine st1 _ ?_
    show Steps p.tables e below (T1.setTop (mkF m 4 #[.val (.ref a1)] [(.int k1)])) _
    exact retI X1 hx Bd.returns (hb hby d3_4) hr
  · show Q_ordn Z a1 k1 h0 n0 _ T1.heap _
    rw [e1]
    exact ⟨rfl, N0, rfl⟩
theorem ef_he_PENDING (m : MethodId) (w_PENDING : Addr) : entryFrame m #[(.ref w_PENDING)] 1 = mkF m 0 #[.val (.ref w_PENDING)] [] := by first | (simp [entryFrame, mkF, argsToLocals, Value.category]; done) | rfl
def Q_he_PENDING (Z : State) (w_PENDING w_RUNNING w_AWAITING_RETRY w_AWAITING_HUMAN w_APPROVED w_COMPLETED w_FAILED w_SKIPPED w_CANCELLED : Addr) (h0 : Heap) (n0 : Nat) (v : Option Value) (h : Heap) (L : List Loc) : Prop := v = some (.int (0 : Int32)) ∧ Fr n0 L ∧ h = h0
set_option maxRecDepth 65536 in
set_option maxHeartbeats 40000000 in
theorem he_PENDING (l : Launch) (Z : State) (a0 : Array Value) (hw : ∀ d ∈ tables_1, d.before a0 Z = true) (ws : List Jvm.Cond) (w_PENDING w_RUNNING w_AWAITING_RETRY w_AWAITING_HUMAN w_APPROVED w_COMPLETED w_FAILED w_SKIPPED w_CANCELLED : Addr) (h0 : Heap) (n0 : Nat) (O0 : Old Z n0 h0) (hE : OwnEnv Z w_PENDING w_RUNNING w_AWAITING_RETRY w_AWAITING_HUMAN w_APPROVED w_COMPLETED w_FAILED w_SKIPPED w_CANCELLED) :
    MetFree l (⟨"com/example/glacial_workflow/glacialworkflow/core/StepState", "hasEnded", "()Z"⟩ : MethodName) (head1 (Jvm.Cond.code (⟨"com/example/glacial_workflow/glacialworkflow/core/StepState", "hasEnded", "()Z"⟩ : MethodName) prog_26_method_4_code 1 (some .boolean) :: ws) ({ frames := 0, cells := 0, slots := 0, locals := 0 } : Room)) (fun a U => a = #[(.ref w_PENDING)] ∧ Z.Warmed39 U.vm ∧ U.heap = h0) (fun _ _ _ _ _ => True) (fun _ U o U' => ∃ v L, o = .returned v ∧ Q_he_PENDING Z w_PENDING w_RUNNING w_AWAITING_RETRY w_AWAITING_HUMAN w_APPROVED w_COMPLETED w_FAILED w_SKIPPED w_CANCELLED h0 n0 v U'.heap L ∧ FrameEnd U o U' L ({ frames := 0, cells := 0, slots := 0, locals := 0 } : Room).cells ({ frames := 0, cells := 0, slots := 0, locals := 0 } : Room).slots) := by
  refine MetFree.of_bodySF (plainFor_of_name pn_com_example_glacial_workflow_glacialworkflow_core_StepState) hisR ?_
  intro p e s m args below meth c s₁ Bd hml0 hP hK
  obtain ⟨rfl, hZ, hh⟩ := hP
  have hx := Bd.exec
  have hby := Bd.bytes
  have hml : c.maxLocals = 1 := hml0
  have hown : s.vm.findClass "com/example/glacial_workflow/glacialworkflow/core/StepState" = some m.cls := findClass_of_methodNamed Bd.named
  have hnm := (name_of_methodNamed Bd.named Bd.method).1
  have X0 : Stand p l e ({ frames := 0, cells := 0, slots := 0, locals := 0 } : Room) s m #[(.ref w_PENDING)] below meth c s₁ [] 0 0 := Stand.of_body Bd
  have e0 : s₁.heap = h0 := by rw [← hh, Bd.state]; rfl
  have N0 := Fr.nil n0
  have pre0 : ∀ t, Steps p.tables e below (s₁.setTop (mkF m 0 #[.val (.ref w_PENDING)] [])) t → Steps p.tables e below (s₁.setTop (entryFrame m #[(.ref w_PENDING)] 1)) t := fun t k => castTop (ef_he_PENDING m w_PENDING) k
  have hE_ := hE; obtain ⟨S_w_PENDING, E_w_PENDING, S_w_RUNNING, E_w_RUNNING, S_w_AWAITING_RETRY, E_w_AWAITING_RETRY, S_w_AWAITING_HUMAN, E_w_AWAITING_HUMAN, S_w_APPROVED, E_w_APPROVED, S_w_COMPLETED, E_w_COMPLETED, S_w_FAILED, E_w_FAILED, S_w_SKIPPED, E_w_SKIPPED, S_w_CANCELLED, E_w_CANCELLED, F_ordinal_w_PENDING, F_ordinal_w_COMPLETED, F_ordinal_w_FAILED, F_ordinal_w_SKIPPED, F_ordinal_w_CANCELLED, F_ordinal_w_RUNNING, F_ordinal_w_AWAITING_HUMAN, F_ordinal_w_APPROVED, F_ordinal_w_AWAITING_RETRY⟩ := hE_
  obtain ⟨T1, X1, e1, st1⟩ := getS2 X0 hx hZ hown (host := "") (Or.inl (hw _ (List.mem_of_getElem? (i := 28) rfl))) Via.refl e0 (S_w_COMPLETED.ext O0.2) (g := (mkF m 1 #[.val (.ref w_PENDING)] [(.ref w_PENDING)])) rfl (hb hby d1_1)
  obtain ⟨T2, X2, e2, st2⟩ := getS2 X1 hx hZ hown (host := "") (Or.inl (hw _ (List.mem_of_getElem? (i := 29) rfl))) Via.refl e1 (S_w_FAILED.ext O0.2) (g := (mkF m 8 #[.val (.ref w_PENDING)] [(.ref w_PENDING)])) rfl (hb hby d1_8)
  obtain ⟨T3, X3, e3, st3⟩ := getS2 X2 hx hZ hown (host := "") (Or.inl (hw _ (List.mem_of_getElem? (i := 30) rfl))) Via.refl e2 (S_w_SKIPPED.ext O0.2) (g := (mkF m 15 #[.val (.ref w_PENDING)] [(.ref w_PENDING)])) rfl (hb hby d1_15)
  obtain ⟨T4, X4, e4, st4⟩ := getS2 X3 hx hZ hown (host := "") (Or.inl (hw _ (List.mem_of_getElem? (i := 31) rfl))) Via.refl e3 (S_w_CANCELLED.ext O0.2) (g := (mkF m 22 #[.val (.ref w_PENDING)] [(.ref w_PENDING)])) rfl (hb hby d1_22)
  obtain ⟨fs, hr, hrun, hended, hW, hsame⟩ := X4.leave (v := some (.int (0 : Int32))) (fun h => by rw [Bd.returns] at h; cases h)
  refine ⟨_, _, pre0 _ ?_, hrun, hended, _, _, rfl, ?_, ⟨_, rfl⟩, hW, hsame.mono (by decide) (by decide)⟩
  · show Steps p.tables e below (s₁.setTop (mkF m 0 #[.val (.ref w_PENDING)] [])) _
    refine XS.aloadN X0.here hx rfl (hb hby d1_0) rfl rfl ?_
    show Steps p.tables e below (s₁.setTop (mkF m 1 #[.val (.ref w_PENDING)] [(.ref w_PENDING)])) _
    refine st1 _ ?_
    show Steps p.tables e below (T1.setTop (mkF m 4 #[.val (.ref w_PENDING)] [(.ref w_COMPLETED), (.ref w_PENDING)])) _
    refine Jvm.RoadKit.acmp (g := (mkF m 4 #[.val (.ref w_PENDING)] [(.ref w_COMPLETED), (.ref w_PENDING)])) X1 hx rfl rfl rfl (pc0 := 4) (pc' := 7) (same := false) rfl (hb hby d1_4) rfl (decide_eq_false fun q => (Fld.ne F_ordinal_w_PENDING F_ordinal_w_COMPLETED (by decide)) (Value.ref.inj q)) (by decide) (by decide) ?_
    show Steps p.tables e below (T1.setTop (mkF m 7 #[.val (.ref w_PENDING)] [])) _
    refine XS.aloadN X1.here hx rfl (hb hby d1_7) rfl rfl ?_
    show Steps p.tables e below (T1.setTop (mkF m 8 #[.val (.ref w_PENDING)] [(.ref w_PENDING)])) _
    refine st2 _ ?_
    show Steps p.tables e below (T2.setTop (mkF m 11 #[.val (.ref w_PENDING)] [(.ref w_FAILED), (.ref w_PENDING)])) _
    refine Jvm.RoadKit.acmp (g := (mkF m 11 #[.val (.ref w_PENDING)] [(.ref w_FAILED), (.ref w_PENDING)])) X2 hx rfl rfl rfl (pc0 := 11) (pc' := 14) (same := false) rfl (hb hby d1_11) rfl (decide_eq_false fun q => (Fld.ne F_ordinal_w_PENDING F_ordinal_w_FAILED (by decide)) (Value.ref.inj q)) (by decide) (by decide) ?_
    show Steps p.tables e below (T2.setTop (mkF m 14 #[.val (.ref w_PENDING)] [])) _
    refine XS.aloadN X2.here hx rfl (hb hby d1_14) rfl rfl ?_
    show Steps p.tables e below (T2.setTop (mkF m 15 #[.val (.ref w_PENDING)] [(.ref w_PENDING)])) _
    refine st3 _ ?_
    show Steps p.tables e below (T3.setTop (mkF m 18 #[.val (.ref w_PENDING)] [(.ref w_SKIPPED), (.ref w_PENDING)])) _
    refine Jvm.RoadKit.acmp (g := (mkF m 18 #[.val (.ref w_PENDING)] [(.ref w_SKIPPED), (.ref w_PENDING)])) X3 hx rfl rfl rfl (pc0 := 18) (pc' := 21) (same := false) rfl (hb hby d1_18) rfl (decide_eq_false fun q => (Fld.ne F_ordinal_w_PENDING F_ordinal_w_SKIPPED (by decide)) (Value.ref.inj q)) (by decide) (by decide) ?_
    show Steps p.tables e below (T3.setTop (mkF m 21 #[.val (.ref w_PENDING)] [])) _
    refine XS.aloadN X3.here hx rfl (hb hby d1_21) rfl rfl ?_
    show Steps p.tables e below (T3.setTop (mkF m 22 #[.val (.ref w_PENDING)] [(.ref w_PENDING)])) _
    refine st4 _ ?_
    show Steps p.tables e below (T4.setTop (mkF m 25 #[.val (.ref w_PENDING)] [(.ref w_CANCELLED), (.ref w_PENDING)])) _
    refine Jvm.RoadKit.acmp (g := (mkF m 25 #[.val (.ref w_PENDING)] [(.ref w_CANCELLED), (.ref w_PENDING)])) X4 hx rfl rfl rfl (pc0 := 25) (pc' := 32) (same := false) rfl (hb hby d1_25) rfl (decide_eq_false fun q => (Fld.ne F_ordinal_w_PENDING F_ordinal_w_CANCELLED (by decide)) (Value.ref.inj q)) (by decide) (by decide) ?_
    show Steps p.tables e below (T4.setTop (mkF m 32 #[.val (.ref w_PENDING)] [])) _
    refine XS.iconst X4.here hx rfl (hb hby d1_32) ?_
    show Steps p.tables e below (T4.setTop (mkF m 33 #[.val (.ref w_PENDING)] [(.int (0 : Int32))])) _
    exact retN X4 hx (t := .boolean) Bd.returns (by simp) (hb hby d1_33) hr
  · show Q_he_PENDING Z w_PENDING w_RUNNING w_AWAITING_RETRY w_AWAITING_HUMAN w_APPROVED w_COMPLETED w_FAILED w_SKIPPED w_CANCELLED h0 n0 _ T4.heap _
    rw [e4]
    exact ⟨rfl, N0, rfl⟩
theorem ef_cb_PENDING (m : MethodId) (w_PENDING : Addr) (w_CANCELLED : Addr) : entryFrame m #[(.ref w_PENDING), (.ref w_CANCELLED)] 2 = mkF m 0 #[.val (.ref w_PENDING), .val (.ref w_CANCELLED)] [] := by first | (simp [entryFrame, mkF, argsToLocals, Value.category]; done) | rfl
def Q_cb_PENDING (Z : State) (w_PENDING w_RUNNING w_AWAITING_RETRY w_AWAITING_HUMAN w_APPROVED w_COMPLETED w_FAILED w_SKIPPED w_CANCELLED : Addr) (h0 : Heap) (n0 : Nat) (v : Option Value) (h : Heap) (L : List Loc) : Prop := v = some (.int (1 : Int32)) ∧ Fr n0 L ∧ h = h0
set_option maxRecDepth 65536 in
set_option maxHeartbeats 40000000 in
theorem cb_PENDING (l : Launch) (Z : State) (a0 : Array Value) (hw : ∀ d ∈ tables_1, d.before a0 Z = true) (ws : List Jvm.Cond) (w_PENDING w_RUNNING w_AWAITING_RETRY w_AWAITING_HUMAN w_APPROVED w_COMPLETED w_FAILED w_SKIPPED w_CANCELLED : Addr) (h0 : Heap) (n0 : Nat) (O0 : Old Z n0 h0) (hE : OwnEnv Z w_PENDING w_RUNNING w_AWAITING_RETRY w_AWAITING_HUMAN w_APPROVED w_COMPLETED w_FAILED w_SKIPPED w_CANCELLED) :
    MetFree l (⟨"com/example/glacial_workflow/glacialworkflow/core/StepState", "canBecome", "(Lcom/example/glacial_workflow/glacialworkflow/core/StepState;)Z"⟩ : MethodName) (head1 (Jvm.Cond.code (⟨"com/example/glacial_workflow/glacialworkflow/core/StepState", "canBecome", "(Lcom/example/glacial_workflow/glacialworkflow/core/StepState;)Z"⟩ : MethodName) prog_26_method_5_code 2 (some .boolean) :: ws) ({ frames := 1, cells := 0, slots := 0, locals := 12 } : Room)) (fun a U => a = #[(.ref w_PENDING), (.ref w_CANCELLED)] ∧ Z.Warmed39 U.vm ∧ U.heap = h0) (fun _ _ _ _ _ => True) (fun _ U o U' => ∃ v L, o = .returned v ∧ Q_cb_PENDING Z w_PENDING w_RUNNING w_AWAITING_RETRY w_AWAITING_HUMAN w_APPROVED w_COMPLETED w_FAILED w_SKIPPED w_CANCELLED h0 n0 v U'.heap L ∧ FrameEnd U o U' L ({ frames := 1, cells := 0, slots := 0, locals := 12 } : Room).cells ({ frames := 1, cells := 0, slots := 0, locals := 12 } : Room).slots) := by
  refine MetFree.of_bodySF (plainFor_of_name pn_com_example_glacial_workflow_glacialworkflow_core_StepState) hisR ?_
  intro p e s m args below meth c s₁ Bd hml0 hP hK
  obtain ⟨rfl, hZ, hh⟩ := hP
  have hx := Bd.exec
  have hby := Bd.bytes
  have hml : c.maxLocals = 2 := hml0
  have hown : s.vm.findClass "com/example/glacial_workflow/glacialworkflow/core/StepState" = some m.cls := findClass_of_methodNamed Bd.named
  have hnm := (name_of_methodNamed Bd.named Bd.method).1
  have X0 : Stand p l e ({ frames := 1, cells := 0, slots := 0, locals := 12 } : Room) s m #[(.ref w_PENDING), (.ref w_CANCELLED)] below meth c s₁ [] 0 0 := Stand.of_body Bd
  have e0 : s₁.heap = h0 := by rw [← hh, Bd.state]; rfl
  have N0 := Fr.nil n0
  have pre0 : ∀ t, Steps p.tables e below (s₁.setTop (mkF m 0 #[.val (.ref w_PENDING), .val (.ref w_CANCELLED)] [])) t → Steps p.tables e below (s₁.setTop (entryFrame m #[(.ref w_PENDING), (.ref w_CANCELLED)] 2)) t := fun t k => castTop (ef_cb_PENDING m w_PENDING w_CANCELLED) k
  have hE_ := hE; obtain ⟨S_w_PENDING, E_w_PENDING, S_w_RUNNING, E_w_RUNNING, S_w_AWAITING_RETRY, E_w_AWAITING_RETRY, S_w_AWAITING_HUMAN, E_w_AWAITING_HUMAN, S_w_APPROVED, E_w_APPROVED, S_w_COMPLETED, E_w_COMPLETED, S_w_FAILED, E_w_FAILED, S_w_SKIPPED, E_w_SKIPPED, S_w_CANCELLED, E_w_CANCELLED, F_ordinal_w_PENDING, F_ordinal_w_COMPLETED, F_ordinal_w_FAILED, F_ordinal_w_SKIPPED, F_ordinal_w_CANCELLED, F_ordinal_w_RUNNING, F_ordinal_w_AWAITING_HUMAN, F_ordinal_w_APPROVED, F_ordinal_w_AWAITING_RETRY⟩ := hE_
  obtain ⟨cq1, kq1, q1a, q1b, q1c⟩ := isOf hZ e0 (E_w_PENDING.ext O0.2)
  obtain ⟨_, _, ⟨T1, L1, k1, n1⟩, -, X1, ⟨Lc1, hQ1, l1, y1, z1⟩, st1⟩ := X0.virtualBackUp hx (owner := "java/lang/Enum") (x := (⟨"com/example/glacial_workflow/glacialworkflow/core/StepState", "ordinal", "()I"⟩ : MethodName)) (y := (⟨"java/lang/Enum", "ordinal", "()I"⟩ : MethodName)) hown (mvT hZ (hw _ (List.mem_of_getElem? (i := 37) rfl))) (mvT hZ (hw _ (List.mem_of_getElem? (i := 38) rfl))) (mvT hZ (hw _ (List.mem_of_getElem? (i := 39) rfl))) (by decide) (mvT hZ (hw _ (List.mem_of_getElem? (i := 41) rfl))) (mvT hZ (hw _ (List.mem_of_getElem? (i := 40) rfl))) (backOf (W := 0) (ordn l Z a0 hw [] w_PENDING (0 : Int32) h0 n0 O0 (F_ordinal_w_PENDING.ext O0.2)) hZ (hw _ (List.mem_of_getElem? (i := 43) rfl)) (hw _ (List.mem_of_getElem? (i := 42) rfl)) (by decide) (by decide)) q1a q1c (g := (mkF m 1 #[.val (.ref w_PENDING), .val (.ref w_CANCELLED)] [(.ref w_PENDING)])) rfl (by rw [hml]; rfl) (Steps.refl _) (argsL := []) (rest := []) (lenOf pd___I rfl) rfl (by show 2 * 0 + _ ≤ _; exact Nat.le_of_eq rfl) (hb hby d2_1) (fun _ _ => ⟨rfl, e0, (by decide : 0 + 0 ≤ _), (by decide : 0 + 0 ≤ _)⟩)
  dsimp only [Pt.U, Pt.locs, Pt.cells, Pt.slots] at X1 l1 y1 z1 st1 hQ1
  subst l1 y1 z1
  obtain ⟨rfl, Nq1, eq1⟩ := hQ1
  have N1 := Fr.app N0 Nq1
  obtain ⟨T2, X2, e2, st2⟩ := getS2 X1 hx hZ hown (host := "") (Or.inl (hw _ (List.mem_of_getElem? (i := 46) rfl))) Via.refl eq1 (S_w_RUNNING.ext O0.2) (g := (mkF m 67 #[.val (.ref w_PENDING), .val (.ref w_CANCELLED)] [(.ref w_CANCELLED)])) rfl (hb hby d2_67)
  obtain ⟨T3, X3, e3, st3⟩ := getS2 X2 hx hZ hown (host := "") (Or.inl (hw _ (List.mem_of_getElem? (i := 30) rfl))) Via.refl e2 (S_w_SKIPPED.ext O0.2) (g := (mkF m 74 #[.val (.ref w_PENDING), .val (.ref w_CANCELLED)] [(.ref w_CANCELLED)])) rfl (hb hby d2_74)
  obtain ⟨T4, X4, e4, st4⟩ := getS2 X3 hx hZ hown (host := "") (Or.inl (hw _ (List.mem_of_getElem? (i := 47) rfl))) Via.refl e3 (S_w_AWAITING_HUMAN.ext O0.2) (g := (mkF m 81 #[.val (.ref w_PENDING), .val (.ref w_CANCELLED)] [(.ref w_CANCELLED)])) rfl (hb hby d2_81)
  obtain ⟨T5, X5, e5, st5⟩ := getS2 X4 hx hZ hown (host := "") (Or.inl (hw _ (List.mem_of_getElem? (i := 29) rfl))) Via.refl e4 (S_w_FAILED.ext O0.2) (g := (mkF m 88 #[.val (.ref w_PENDING), .val (.ref w_CANCELLED)] [(.ref w_CANCELLED)])) rfl (hb hby d2_88)
  obtain ⟨T6, X6, e6, st6⟩ := getS2 X5 hx hZ hown (host := "") (Or.inl (hw _ (List.mem_of_getElem? (i := 31) rfl))) Via.refl e5 (S_w_CANCELLED.ext O0.2) (g := (mkF m 95 #[.val (.ref w_PENDING), .val (.ref w_CANCELLED)] [(.ref w_CANCELLED)])) rfl (hb hby d2_95)
  obtain ⟨fs, hr, hrun, hended, hW, hsame⟩ := X6.leave (v := some (.int (1 : Int32))) (fun h => by rw [Bd.returns] at h; cases h)
  refine ⟨_, _, pre0 _ ?_, hrun, hended, _, _, rfl, ?_, ⟨_, rfl⟩, hW, hsame.mono (by decide) (by decide)⟩
  · show Steps p.tables e below (s₁.setTop (mkF m 0 #[.val (.ref w_PENDING), .val (.ref w_CANCELLED)] [])) _
    refine XS.aloadN X0.here hx rfl (hb hby d2_0) rfl rfl ?_
    show Steps p.tables e below (s₁.setTop (mkF m 1 #[.val (.ref w_PENDING), .val (.ref w_CANCELLED)] [(.ref w_PENDING)])) _
    refine st1.trans ?_
    show Steps p.tables e below (T1.setTop (mkF m 4 #[.val (.ref w_PENDING), .val (.ref w_CANCELLED)] [(.int (0 : Int32))])) _
    refine XS.tswIn X1.here hx rfl (pc0 := 4) (pc' := 66) rfl (hb hby d2_4) rfl (by decide) (o := 62) (by decide) (by decide) (by decide) ?_
    show Steps p.tables e below (T1.setTop (mkF m 66 #[.val (.ref w_PENDING), .val (.ref w_CANCELLED)] [])) _
    refine XS.aloadN X1.here hx rfl (hb hby d2_66) rfl rfl ?_
    show Steps p.tables e below (T1.setTop (mkF m 67 #[.val (.ref w_PENDING), .val (.ref w_CANCELLED)] [(.ref w_CANCELLED)])) _
    refine st2 _ ?_
    show Steps p.tables e below (T2.setTop (mkF m 70 #[.val (.ref w_PENDING), .val (.ref w_CANCELLED)] [(.ref w_RUNNING), (.ref w_CANCELLED)])) _
    refine Jvm.RoadKit.acmp (g := (mkF m 70 #[.val (.ref w_PENDING), .val (.ref w_CANCELLED)] [(.ref w_RUNNING), (.ref w_CANCELLED)])) X2 hx rfl rfl rfl (pc0 := 70) (pc' := 73) (same := false) rfl (hb hby d2_70) rfl (decide_eq_false fun q => (Fld.ne F_ordinal_w_CANCELLED F_ordinal_w_RUNNING (by decide)) (Value.ref.inj q)) (by decide) (by decide) ?_
    show Steps p.tables e below (T2.setTop (mkF m 73 #[.val (.ref w_PENDING), .val (.ref w_CANCELLED)] [])) _
    refine XS.aloadN X2.here hx rfl (hb hby d2_73) rfl rfl ?_
    show Steps p.tables e below (T2.setTop (mkF m 74 #[.val (.ref w_PENDING), .val (.ref w_CANCELLED)] [(.ref w_CANCELLED)])) _
    refine st3 _ ?_
    show Steps p.tables e below (T3.setTop (mkF m 77 #[.val (.ref w_PENDING), .val (.ref w_CANCELLED)] [(.ref w_SKIPPED), (.ref w_CANCELLED)])) _
    refine Jvm.RoadKit.acmp (g := (mkF m 77 #[.val (.ref w_PENDING), .val (.ref w_CANCELLED)] [(.ref w_SKIPPED), (.ref w_CANCELLED)])) X3 hx rfl rfl rfl (pc0 := 77) (pc' := 80) (same := false) rfl (hb hby d2_77) rfl (decide_eq_false fun q => (Ne.symm (Fld.ne F_ordinal_w_SKIPPED F_ordinal_w_CANCELLED (by decide))) (Value.ref.inj q)) (by decide) (by decide) ?_
    show Steps p.tables e below (T3.setTop (mkF m 80 #[.val (.ref w_PENDING), .val (.ref w_CANCELLED)] [])) _
    refine XS.aloadN X3.here hx rfl (hb hby d2_80) rfl rfl ?_
    show Steps p.tables e below (T3.setTop (mkF m 81 #[.val (.ref w_PENDING), .val (.ref w_CANCELLED)] [(.ref w_CANCELLED)])) _
    refine st4 _ ?_
    show Steps p.tables e below (T4.setTop (mkF m 84 #[.val (.ref w_PENDING), .val (.ref w_CANCELLED)] [(.ref w_AWAITING_HUMAN), (.ref w_CANCELLED)])) _
    refine Jvm.RoadKit.acmp (g := (mkF m 84 #[.val (.ref w_PENDING), .val (.ref w_CANCELLED)] [(.ref w_AWAITING_HUMAN), (.ref w_CANCELLED)])) X4 hx rfl rfl rfl (pc0 := 84) (pc' := 87) (same := false) rfl (hb hby d2_84) rfl (decide_eq_false fun q => (Fld.ne F_ordinal_w_CANCELLED F_ordinal_w_AWAITING_HUMAN (by decide)) (Value.ref.inj q)) (by decide) (by decide) ?_
    show Steps p.tables e below (T4.setTop (mkF m 87 #[.val (.ref w_PENDING), .val (.ref w_CANCELLED)] [])) _
    refine XS.aloadN X4.here hx rfl (hb hby d2_87) rfl rfl ?_
    show Steps p.tables e below (T4.setTop (mkF m 88 #[.val (.ref w_PENDING), .val (.ref w_CANCELLED)] [(.ref w_CANCELLED)])) _
    refine st5 _ ?_
    show Steps p.tables e below (T5.setTop (mkF m 91 #[.val (.ref w_PENDING), .val (.ref w_CANCELLED)] [(.ref w_FAILED), (.ref w_CANCELLED)])) _
    refine Jvm.RoadKit.acmp (g := (mkF m 91 #[.val (.ref w_PENDING), .val (.ref w_CANCELLED)] [(.ref w_FAILED), (.ref w_CANCELLED)])) X5 hx rfl rfl rfl (pc0 := 91) (pc' := 94) (same := false) rfl (hb hby d2_91) rfl (decide_eq_false fun q => (Ne.symm (Fld.ne F_ordinal_w_FAILED F_ordinal_w_CANCELLED (by decide))) (Value.ref.inj q)) (by decide) (by decide) ?_
    show Steps p.tables e below (T5.setTop (mkF m 94 #[.val (.ref w_PENDING), .val (.ref w_CANCELLED)] [])) _
    refine XS.aloadN X5.here hx rfl (hb hby d2_94) rfl rfl ?_
    show Steps p.tables e below (T5.setTop (mkF m 95 #[.val (.ref w_PENDING), .val (.ref w_CANCELLED)] [(.ref w_CANCELLED)])) _
    refine st6 _ ?_
    show Steps p.tables e below (T6.setTop (mkF m 98 #[.val (.ref w_PENDING), .val (.ref w_CANCELLED)] [(.ref w_CANCELLED), (.ref w_CANCELLED)])) _
    refine Jvm.RoadKit.acmp (g := (mkF m 98 #[.val (.ref w_PENDING), .val (.ref w_CANCELLED)] [(.ref w_CANCELLED), (.ref w_CANCELLED)])) X6 hx rfl rfl rfl (pc0 := 98) (pc' := 101) (same := true) rfl (hb hby d2_98) rfl (decide_eq_true (congrArg Value.ref (rfl : w_CANCELLED = w_CANCELLED))) (by decide) (by decide) ?_
    show Steps p.tables e below (T6.setTop (mkF m 101 #[.val (.ref w_PENDING), .val (.ref w_CANCELLED)] [])) _
    refine XS.iconst X6.here hx rfl (hb hby d2_101) ?_
    show Steps p.tables e below (T6.setTop (mkF m 102 #[.val (.ref w_PENDING), .val (.ref w_CANCELLED)] [(.int (1 : Int32))])) _
    refine XS.goto X6.here hx rfl (pc0 := 102) (pc' := 247) rfl (hb hby d2_102) (by decide) (by decide) ?_
    show Steps p.tables e below (T6.setTop (mkF m 247 #[.val (.ref w_PENDING), .val (.ref w_CANCELLED)] [(.int (1 : Int32))])) _
    exact retN X6 hx (t := .boolean) Bd.returns (by simp) (hb hby d2_247) hr
  · show Q_cb_PENDING Z w_PENDING w_RUNNING w_AWAITING_RETRY w_AWAITING_HUMAN w_APPROVED w_COMPLETED w_FAILED w_SKIPPED w_CANCELLED h0 n0 _ T6.heap _
    rw [e6]
    exact ⟨rfl, N1, rfl⟩
theorem ef_he_RUNNING (m : MethodId) (w_RUNNING : Addr) : entryFrame m #[(.ref w_RUNNING)] 1 = mkF m 0 #[.val (.ref w_RUNNING)] [] := by first | (simp [entryFrame, mkF, argsToLocals, Value.category]; done) | rfl
def Q_he_RUNNING (Z : State) (w_PENDING w_RUNNING w_AWAITING_RETRY w_AWAITING_HUMAN w_APPROVED w_COMPLETED w_FAILED w_SKIPPED w_CANCELLED : Addr) (h0 : Heap) (n0 : Nat) (v : Option Value) (h : Heap) (L : List Loc) : Prop := v = some (.int (0 : Int32)) ∧ Fr n0 L ∧ h = h0
set_option maxRecDepth 65536 in
set_option maxHeartbeats 40000000 in
theorem he_RUNNING (l : Launch) (Z : State) (a0 : Array Value) (hw : ∀ d ∈ tables_1, d.before a0 Z = true) (ws : List Jvm.Cond) (w_PENDING w_RUNNING w_AWAITING_RETRY w_AWAITING_HUMAN w_APPROVED w_COMPLETED w_FAILED w_SKIPPED w_CANCELLED : Addr) (h0 : Heap) (n0 : Nat) (O0 : Old Z n0 h0) (hE : OwnEnv Z w_PENDING w_RUNNING w_AWAITING_RETRY w_AWAITING_HUMAN w_APPROVED w_COMPLETED w_FAILED w_SKIPPED w_CANCELLED) :
    MetFree l (⟨"com/example/glacial_workflow/glacialworkflow/core/StepState", "hasEnded", "()Z"⟩ : MethodName) (head1 (Jvm.Cond.code (⟨"com/example/glacial_workflow/glacialworkflow/core/StepState", "hasEnded", "()Z"⟩ : MethodName) prog_26_method_4_code 1 (some .boolean) :: ws) ({ frames := 0, cells := 0, slots := 0, locals := 0 } : Room)) (fun a U => a = #[(.ref w_RUNNING)] ∧ Z.Warmed39 U.vm ∧ U.heap = h0) (fun _ _ _ _ _ => True) (fun _ U o U' => ∃ v L, o = .returned v ∧ Q_he_RUNNING Z w_PENDING w_RUNNING w_AWAITING_RETRY w_AWAITING_HUMAN w_APPROVED w_COMPLETED w_FAILED w_SKIPPED w_CANCELLED h0 n0 v U'.heap L ∧ FrameEnd U o U' L ({ frames := 0, cells := 0, slots := 0, locals := 0 } : Room).cells ({ frames := 0, cells := 0, slots := 0, locals := 0 } : Room).slots) := by
  refine MetFree.of_bodySF (plainFor_of_name pn_com_example_glacial_workflow_glacialworkflow_core_StepState) hisR ?_
  intro p e s m args below meth c s₁ Bd hml0 hP hK
  obtain ⟨rfl, hZ, hh⟩ := hP
  have hx := Bd.exec
  have hby := Bd.bytes
  have hml : c.maxLocals = 1 := hml0
  have hown : s.vm.findClass "com/example/glacial_workflow/glacialworkflow/core/StepState" = some m.cls := findClass_of_methodNamed Bd.named
  have hnm := (name_of_methodNamed Bd.named Bd.method).1
  have X0 : Stand p l e ({ frames := 0, cells := 0, slots := 0, locals := 0 } : Room) s m #[(.ref w_RUNNING)] below meth c s₁ [] 0 0 := Stand.of_body Bd
  have e0 : s₁.heap = h0 := by rw [← hh, Bd.state]; rfl
  have N0 := Fr.nil n0
  have pre0 : ∀ t, Steps p.tables e below (s₁.setTop (mkF m 0 #[.val (.ref w_RUNNING)] [])) t → Steps p.tables e below (s₁.setTop (entryFrame m #[(.ref w_RUNNING)] 1)) t := fun t k => castTop (ef_he_RUNNING m w_RUNNING) k
  have hE_ := hE; obtain ⟨S_w_PENDING, E_w_PENDING, S_w_RUNNING, E_w_RUNNING, S_w_AWAITING_RETRY, E_w_AWAITING_RETRY, S_w_AWAITING_HUMAN, E_w_AWAITING_HUMAN, S_w_APPROVED, E_w_APPROVED, S_w_COMPLETED, E_w_COMPLETED, S_w_FAILED, E_w_FAILED, S_w_SKIPPED, E_w_SKIPPED, S_w_CANCELLED, E_w_CANCELLED, F_ordinal_w_PENDING, F_ordinal_w_COMPLETED, F_ordinal_w_FAILED, F_ordinal_w_SKIPPED, F_ordinal_w_CANCELLED, F_ordinal_w_RUNNING, F_ordinal_w_AWAITING_HUMAN, F_ordinal_w_APPROVED, F_ordinal_w_AWAITING_RETRY⟩ := hE_
  obtain ⟨T1, X1, e1, st1⟩ := getS2 X0 hx hZ hown (host := "") (Or.inl (hw _ (List.mem_of_getElem? (i := 28) rfl))) Via.refl e0 (S_w_COMPLETED.ext O0.2) (g := (mkF m 1 #[.val (.ref w_RUNNING)] [(.ref w_RUNNING)])) rfl (hb hby d1_1)
  obtain ⟨T2, X2, e2, st2⟩ := getS2 X1 hx hZ hown (host := "") (Or.inl (hw _ (List.mem_of_getElem? (i := 29) rfl))) Via.refl e1 (S_w_FAILED.ext O0.2) (g := (mkF m 8 #[.val (.ref w_RUNNING)] [(.ref w_RUNNING)])) rfl (hb hby d1_8)
  obtain ⟨T3, X3, e3, st3⟩ := getS2 X2 hx hZ hown (host := "") (Or.inl (hw _ (List.mem_of_getElem? (i := 30) rfl))) Via.refl e2 (S_w_SKIPPED.ext O0.2) (g := (mkF m 15 #[.val (.ref w_RUNNING)] [(.ref w_RUNNING)])) rfl (hb hby d1_15)
  obtain ⟨T4, X4, e4, st4⟩ := getS2 X3 hx hZ hown (host := "") (Or.inl (hw _ (List.mem_of_getElem? (i := 31) rfl))) Via.refl e3 (S_w_CANCELLED.ext O0.2) (g := (mkF m 22 #[.val (.ref w_RUNNING)] [(.ref w_RUNNING)])) rfl (hb hby d1_22)
  obtain ⟨fs, hr, hrun, hended, hW, hsame⟩ := X4.leave (v := some (.int (0 : Int32))) (fun h => by rw [Bd.returns] at h; cases h)
  refine ⟨_, _, pre0 _ ?_, hrun, hended, _, _, rfl, ?_, ⟨_, rfl⟩, hW, hsame.mono (by decide) (by decide)⟩
  · show Steps p.tables e below (s₁.setTop (mkF m 0 #[.val (.ref w_RUNNING)] [])) _
    refine XS.aloadN X0.here hx rfl (hb hby d1_0) rfl rfl ?_
    show Steps p.tables e below (s₁.setTop (mkF m 1 #[.val (.ref w_RUNNING)] [(.ref w_RUNNING)])) _
    refine st1 _ ?_
    show Steps p.tables e below (T1.setTop (mkF m 4 #[.val (.ref w_RUNNING)] [(.ref w_COMPLETED), (.ref w_RUNNING)])) _
    refine Jvm.RoadKit.acmp (g := (mkF m 4 #[.val (.ref w_RUNNING)] [(.ref w_COMPLETED), (.ref w_RUNNING)])) X1 hx rfl rfl rfl (pc0 := 4) (pc' := 7) (same := false) rfl (hb hby d1_4) rfl (decide_eq_false fun q => (Ne.symm (Fld.ne F_ordinal_w_COMPLETED F_ordinal_w_RUNNING (by decide))) (Value.ref.inj q)) (by decide) (by decide) ?_
    show Steps p.tables e below (T1.setTop (mkF m 7 #[.val (.ref w_RUNNING)] [])) _
    refine XS.aloadN X1.here hx rfl (hb hby d1_7) rfl rfl ?_
    show Steps p.tables e below (T1.setTop (mkF m 8 #[.val (.ref w_RUNNING)] [(.ref w_RUNNING)])) _
    refine st2 _ ?_
    show Steps p.tables e below (T2.setTop (mkF m 11 #[.val (.ref w_RUNNING)] [(.ref w_FAILED), (.ref w_RUNNING)])) _
    refine Jvm.RoadKit.acmp (g := (mkF m 11 #[.val (.ref w_RUNNING)] [(.ref w_FAILED), (.ref w_RUNNING)])) X2 hx rfl rfl rfl (pc0 := 11) (pc' := 14) (same := false) rfl (hb hby d1_11) rfl (decide_eq_false fun q => (Ne.symm (Fld.ne F_ordinal_w_FAILED F_ordinal_w_RUNNING (by decide))) (Value.ref.inj q)) (by decide) (by decide) ?_
    show Steps p.tables e below (T2.setTop (mkF m 14 #[.val (.ref w_RUNNING)] [])) _
    refine XS.aloadN X2.here hx rfl (hb hby d1_14) rfl rfl ?_
    show Steps p.tables e below (T2.setTop (mkF m 15 #[.val (.ref w_RUNNING)] [(.ref w_RUNNING)])) _
    refine st3 _ ?_
    show Steps p.tables e below (T3.setTop (mkF m 18 #[.val (.ref w_RUNNING)] [(.ref w_SKIPPED), (.ref w_RUNNING)])) _
    refine Jvm.RoadKit.acmp (g := (mkF m 18 #[.val (.ref w_RUNNING)] [(.ref w_SKIPPED), (.ref w_RUNNING)])) X3 hx rfl rfl rfl (pc0 := 18) (pc' := 21) (same := false) rfl (hb hby d1_18) rfl (decide_eq_false fun q => (Ne.symm (Fld.ne F_ordinal_w_SKIPPED F_ordinal_w_RUNNING (by decide))) (Value.ref.inj q)) (by decide) (by decide) ?_
    show Steps p.tables e below (T3.setTop (mkF m 21 #[.val (.ref w_RUNNING)] [])) _
    refine XS.aloadN X3.here hx rfl (hb hby d1_21) rfl rfl ?_
    show Steps p.tables e below (T3.setTop (mkF m 22 #[.val (.ref w_RUNNING)] [(.ref w_RUNNING)])) _
    refine st4 _ ?_
    show Steps p.tables e below (T4.setTop (mkF m 25 #[.val (.ref w_RUNNING)] [(.ref w_CANCELLED), (.ref w_RUNNING)])) _
    refine Jvm.RoadKit.acmp (g := (mkF m 25 #[.val (.ref w_RUNNING)] [(.ref w_CANCELLED), (.ref w_RUNNING)])) X4 hx rfl rfl rfl (pc0 := 25) (pc' := 32) (same := false) rfl (hb hby d1_25) rfl (decide_eq_false fun q => (Ne.symm (Fld.ne F_ordinal_w_CANCELLED F_ordinal_w_RUNNING (by decide))) (Value.ref.inj q)) (by decide) (by decide) ?_
    show Steps p.tables e below (T4.setTop (mkF m 32 #[.val (.ref w_RUNNING)] [])) _
    refine XS.iconst X4.here hx rfl (hb hby d1_32) ?_
    show Steps p.tables e below (T4.setTop (mkF m 33 #[.val (.ref w_RUNNING)] [(.int (0 : Int32))])) _
    exact retN X4 hx (t := .boolean) Bd.returns (by simp) (hb hby d1_33) hr
  · show Q_he_RUNNING Z w_PENDING w_RUNNING w_AWAITING_RETRY w_AWAITING_HUMAN w_APPROVED w_COMPLETED w_FAILED w_SKIPPED w_CANCELLED h0 n0 _ T4.heap _
    rw [e4]
    exact ⟨rfl, N0, rfl⟩
theorem ef_cb_RUNNING (m : MethodId) (w_RUNNING : Addr) (w_CANCELLED : Addr) : entryFrame m #[(.ref w_RUNNING), (.ref w_CANCELLED)] 2 = mkF m 0 #[.val (.ref w_RUNNING), .val (.ref w_CANCELLED)] [] := by first | (simp [entryFrame, mkF, argsToLocals, Value.category]; done) | rfl
def Q_cb_RUNNING (Z : State) (w_PENDING w_RUNNING w_AWAITING_RETRY w_AWAITING_HUMAN w_APPROVED w_COMPLETED w_FAILED w_SKIPPED w_CANCELLED : Addr) (h0 : Heap) (n0 : Nat) (v : Option Value) (h : Heap) (L : List Loc) : Prop := v = some (.int (1 : Int32)) ∧ Fr n0 L ∧ h = h0
set_option maxRecDepth 65536 in
set_option maxHeartbeats 40000000 in
theorem cb_RUNNING (l : Launch) (Z : State) (a0 : Array Value) (hw : ∀ d ∈ tables_1, d.before a0 Z = true) (ws : List Jvm.Cond) (w_PENDING w_RUNNING w_AWAITING_RETRY w_AWAITING_HUMAN w_APPROVED w_COMPLETED w_FAILED w_SKIPPED w_CANCELLED : Addr) (h0 : Heap) (n0 : Nat) (O0 : Old Z n0 h0) (hE : OwnEnv Z w_PENDING w_RUNNING w_AWAITING_RETRY w_AWAITING_HUMAN w_APPROVED w_COMPLETED w_FAILED w_SKIPPED w_CANCELLED) :
    MetFree l (⟨"com/example/glacial_workflow/glacialworkflow/core/StepState", "canBecome", "(Lcom/example/glacial_workflow/glacialworkflow/core/StepState;)Z"⟩ : MethodName) (head1 (Jvm.Cond.code (⟨"com/example/glacial_workflow/glacialworkflow/core/StepState", "canBecome", "(Lcom/example/glacial_workflow/glacialworkflow/core/StepState;)Z"⟩ : MethodName) prog_26_method_5_code 2 (some .boolean) :: ws) ({ frames := 1, cells := 0, slots := 0, locals := 12 } : Room)) (fun a U => a = #[(.ref w_RUNNING), (.ref w_CANCELLED)] ∧ Z.Warmed39 U.vm ∧ U.heap = h0) (fun _ _ _ _ _ => True) (fun _ U o U' => ∃ v L, o = .returned v ∧ Q_cb_RUNNING Z w_PENDING w_RUNNING w_AWAITING_RETRY w_AWAITING_HUMAN w_APPROVED w_COMPLETED w_FAILED w_SKIPPED w_CANCELLED h0 n0 v U'.heap L ∧ FrameEnd U o U' L ({ frames := 1, cells := 0, slots := 0, locals := 12 } : Room).cells ({ frames := 1, cells := 0, slots := 0, locals := 12 } : Room).slots) := by
  refine MetFree.of_bodySF (plainFor_of_name pn_com_example_glacial_workflow_glacialworkflow_core_StepState) hisR ?_
  intro p e s m args below meth c s₁ Bd hml0 hP hK
  obtain ⟨rfl, hZ, hh⟩ := hP
  have hx := Bd.exec
  have hby := Bd.bytes
  have hml : c.maxLocals = 2 := hml0
  have hown : s.vm.findClass "com/example/glacial_workflow/glacialworkflow/core/StepState" = some m.cls := findClass_of_methodNamed Bd.named
  have hnm := (name_of_methodNamed Bd.named Bd.method).1
  have X0 : Stand p l e ({ frames := 1, cells := 0, slots := 0, locals := 12 } : Room) s m #[(.ref w_RUNNING), (.ref w_CANCELLED)] below meth c s₁ [] 0 0 := Stand.of_body Bd
  have e0 : s₁.heap = h0 := by rw [← hh, Bd.state]; rfl
  have N0 := Fr.nil n0
  have pre0 : ∀ t, Steps p.tables e below (s₁.setTop (mkF m 0 #[.val (.ref w_RUNNING), .val (.ref w_CANCELLED)] [])) t → Steps p.tables e below (s₁.setTop (entryFrame m #[(.ref w_RUNNING), (.ref w_CANCELLED)] 2)) t := fun t k => castTop (ef_cb_RUNNING m w_RUNNING w_CANCELLED) k
  have hE_ := hE; obtain ⟨S_w_PENDING, E_w_PENDING, S_w_RUNNING, E_w_RUNNING, S_w_AWAITING_RETRY, E_w_AWAITING_RETRY, S_w_AWAITING_HUMAN, E_w_AWAITING_HUMAN, S_w_APPROVED, E_w_APPROVED, S_w_COMPLETED, E_w_COMPLETED, S_w_FAILED, E_w_FAILED, S_w_SKIPPED, E_w_SKIPPED, S_w_CANCELLED, E_w_CANCELLED, F_ordinal_w_PENDING, F_ordinal_w_COMPLETED, F_ordinal_w_FAILED, F_ordinal_w_SKIPPED, F_ordinal_w_CANCELLED, F_ordinal_w_RUNNING, F_ordinal_w_AWAITING_HUMAN, F_ordinal_w_APPROVED, F_ordinal_w_AWAITING_RETRY⟩ := hE_
  obtain ⟨cq1, kq1, q1a, q1b, q1c⟩ := isOf hZ e0 (E_w_RUNNING.ext O0.2)
  obtain ⟨_, _, ⟨T1, L1, k1, n1⟩, -, X1, ⟨Lc1, hQ1, l1, y1, z1⟩, st1⟩ := X0.virtualBackUp hx (owner := "java/lang/Enum") (x := (⟨"com/example/glacial_workflow/glacialworkflow/core/StepState", "ordinal", "()I"⟩ : MethodName)) (y := (⟨"java/lang/Enum", "ordinal", "()I"⟩ : MethodName)) hown (mvT hZ (hw _ (List.mem_of_getElem? (i := 37) rfl))) (mvT hZ (hw _ (List.mem_of_getElem? (i := 38) rfl))) (mvT hZ (hw _ (List.mem_of_getElem? (i := 39) rfl))) (by decide) (mvT hZ (hw _ (List.mem_of_getElem? (i := 41) rfl))) (mvT hZ (hw _ (List.mem_of_getElem? (i := 40) rfl))) (backOf (W := 0) (ordn l Z a0 hw [] w_RUNNING (1 : Int32) h0 n0 O0 (F_ordinal_w_RUNNING.ext O0.2)) hZ (hw _ (List.mem_of_getElem? (i := 43) rfl)) (hw _ (List.mem_of_getElem? (i := 42) rfl)) (by decide) (by decide)) q1a q1c (g := (mkF m 1 #[.val (.ref w_RUNNING), .val (.ref w_CANCELLED)] [(.ref w_RUNNING)])) rfl (by rw [hml]; rfl) (Steps.refl _) (argsL := []) (rest := []) (lenOf pd___I rfl) rfl (by show 2 * 0 + _ ≤ _; exact Nat.le_of_eq rfl) (hb hby d2_1) (fun _ _ => ⟨rfl, e0, (by decide : 0 + 0 ≤ _), (by decide : 0 + 0 ≤ _)⟩)
  dsimp only [Pt.U, Pt.locs, Pt.cells, Pt.slots] at X1 l1 y1 z1 st1 hQ1
  subst l1 y1 z1
  obtain ⟨rfl, Nq1, eq1⟩ := hQ1
  have N1 := Fr.app N0 Nq1
  obtain ⟨T2, X2, e2, st2⟩ := getS2 X1 hx hZ hown (host := "") (Or.inl (hw _ (List.mem_of_getElem? (i := 28) rfl))) Via.refl eq1 (S_w_COMPLETED.ext O0.2) (g := (mkF m 110 #[.val (.ref w_RUNNING), .val (.ref w_CANCELLED)] [(.ref w_CANCELLED)])) rfl (hb hby d2_110)
  obtain ⟨T3, X3, e3, st3⟩ := getS2 X2 hx hZ hown (host := "") (Or.inl (hw _ (List.mem_of_getElem? (i := 29) rfl))) Via.refl e2 (S_w_FAILED.ext O0.2) (g := (mkF m 117 #[.val (.ref w_RUNNING), .val (.ref w_CANCELLED)] [(.ref w_CANCELLED)])) rfl (hb hby d2_117)
  obtain ⟨T4, X4, e4, st4⟩ := getS2 X3 hx hZ hown (host := "") (Or.inl (hw _ (List.mem_of_getElem? (i := 48) rfl))) Via.refl e3 (S_w_AWAITING_RETRY.ext O0.2) (g := (mkF m 124 #[.val (.ref w_RUNNING), .val (.ref w_CANCELLED)] [(.ref w_CANCELLED)])) rfl (hb hby d2_124)
  obtain ⟨T5, X5, e5, st5⟩ := getS2 X4 hx hZ hown (host := "") (Or.inl (hw _ (List.mem_of_getElem? (i := 47) rfl))) Via.refl e4 (S_w_AWAITING_HUMAN.ext O0.2) (g := (mkF m 131 #[.val (.ref w_RUNNING), .val (.ref w_CANCELLED)] [(.ref w_CANCELLED)])) rfl (hb hby d2_131)
  obtain ⟨T6, X6, e6, st6⟩ := getS2 X5 hx hZ hown (host := "") (Or.inl (hw _ (List.mem_of_getElem? (i := 31) rfl))) Via.refl e5 (S_w_CANCELLED.ext O0.2) (g := (mkF m 138 #[.val (.ref w_RUNNING), .val (.ref w_CANCELLED)] [(.ref w_CANCELLED)])) rfl (hb hby d2_138)
  obtain ⟨fs, hr, hrun, hended, hW, hsame⟩ := X6.leave (v := some (.int (1 : Int32))) (fun h => by rw [Bd.returns] at h; cases h)
  refine ⟨_, _, pre0 _ ?_, hrun, hended, _, _, rfl, ?_, ⟨_, rfl⟩, hW, hsame.mono (by decide) (by decide)⟩
  · show Steps p.tables e below (s₁.setTop (mkF m 0 #[.val (.ref w_RUNNING), .val (.ref w_CANCELLED)] [])) _
    refine XS.aloadN X0.here hx rfl (hb hby d2_0) rfl rfl ?_
    show Steps p.tables e below (s₁.setTop (mkF m 1 #[.val (.ref w_RUNNING), .val (.ref w_CANCELLED)] [(.ref w_RUNNING)])) _
    refine st1.trans ?_
    show Steps p.tables e below (T1.setTop (mkF m 4 #[.val (.ref w_RUNNING), .val (.ref w_CANCELLED)] [(.int (1 : Int32))])) _
    refine XS.tswIn X1.here hx rfl (pc0 := 4) (pc' := 109) rfl (hb hby d2_4) rfl (by decide) (o := 105) (by decide) (by decide) (by decide) ?_
    show Steps p.tables e below (T1.setTop (mkF m 109 #[.val (.ref w_RUNNING), .val (.ref w_CANCELLED)] [])) _
    refine XS.aloadN X1.here hx rfl (hb hby d2_109) rfl rfl ?_
    show Steps p.tables e below (T1.setTop (mkF m 110 #[.val (.ref w_RUNNING), .val (.ref w_CANCELLED)] [(.ref w_CANCELLED)])) _
    refine st2 _ ?_
    show Steps p.tables e below (T2.setTop (mkF m 113 #[.val (.ref w_RUNNING), .val (.ref w_CANCELLED)] [(.ref w_COMPLETED), (.ref w_CANCELLED)])) _
    refine Jvm.RoadKit.acmp (g := (mkF m 113 #[.val (.ref w_RUNNING), .val (.ref w_CANCELLED)] [(.ref w_COMPLETED), (.ref w_CANCELLED)])) X2 hx rfl rfl rfl (pc0 := 113) (pc' := 116) (same := false) rfl (hb hby d2_113) rfl (decide_eq_false fun q => (Ne.symm (Fld.ne F_ordinal_w_COMPLETED F_ordinal_w_CANCELLED (by decide))) (Value.ref.inj q)) (by decide) (by decide) ?_
    show Steps p.tables e below (T2.setTop (mkF m 116 #[.val (.ref w_RUNNING), .val (.ref w_CANCELLED)] [])) _
    refine XS.aloadN X2.here hx rfl (hb hby d2_116) rfl rfl ?_
    show Steps p.tables e below (T2.setTop (mkF m 117 #[.val (.ref w_RUNNING), .val (.ref w_CANCELLED)] [(.ref w_CANCELLED)])) _
    refine st3 _ ?_
    show Steps p.tables e below (T3.setTop (mkF m 120 #[.val (.ref w_RUNNING), .val (.ref w_CANCELLED)] [(.ref w_FAILED), (.ref w_CANCELLED)])) _
    refine Jvm.RoadKit.acmp (g := (mkF m 120 #[.val (.ref w_RUNNING), .val (.ref w_CANCELLED)] [(.ref w_FAILED), (.ref w_CANCELLED)])) X3 hx rfl rfl rfl (pc0 := 120) (pc' := 123) (same := false) rfl (hb hby d2_120) rfl (decide_eq_false fun q => (Ne.symm (Fld.ne F_ordinal_w_FAILED F_ordinal_w_CANCELLED (by decide))) (Value.ref.inj q)) (by decide) (by decide) ?_
    show Steps p.tables e below (T3.setTop (mkF m 123 #[.val (.ref w_RUNNING), .val (.ref w_CANCELLED)] [])) _
    refine XS.aloadN X3.here hx rfl (hb hby d2_123) rfl rfl ?_
    show Steps p.tables e below (T3.setTop (mkF m 124 #[.val (.ref w_RUNNING), .val (.ref w_CANCELLED)] [(.ref w_CANCELLED)])) _
    refine st4 _ ?_
    show Steps p.tables e below (T4.setTop (mkF m 127 #[.val (.ref w_RUNNING), .val (.ref w_CANCELLED)] [(.ref w_AWAITING_RETRY), (.ref w_CANCELLED)])) _
    refine Jvm.RoadKit.acmp (g := (mkF m 127 #[.val (.ref w_RUNNING), .val (.ref w_CANCELLED)] [(.ref w_AWAITING_RETRY), (.ref w_CANCELLED)])) X4 hx rfl rfl rfl (pc0 := 127) (pc' := 130) (same := false) rfl (hb hby d2_127) rfl (decide_eq_false fun q => (Fld.ne F_ordinal_w_CANCELLED F_ordinal_w_AWAITING_RETRY (by decide)) (Value.ref.inj q)) (by decide) (by decide) ?_
    show Steps p.tables e below (T4.setTop (mkF m 130 #[.val (.ref w_RUNNING), .val (.ref w_CANCELLED)] [])) _
    refine XS.aloadN X4.here hx rfl (hb hby d2_130) rfl rfl ?_
    show Steps p.tables e below (T4.setTop (mkF m 131 #[.val (.ref w_RUNNING), .val (.ref w_CANCELLED)] [(.ref w_CANCELLED)])) _
    refine st5 _ ?_
    show Steps p.tables e below (T5.setTop (mkF m 134 #[.val (.ref w_RUNNING), .val (.ref w_CANCELLED)] [(.ref w_AWAITING_HUMAN), (.ref w_CANCELLED)])) _
    refine Jvm.RoadKit.acmp (g := (mkF m 134 #[.val (.ref w_RUNNING), .val (.ref w_CANCELLED)] [(.ref w_AWAITING_HUMAN), (.ref w_CANCELLED)])) X5 hx rfl rfl rfl (pc0 := 134) (pc' := 137) (same := false) rfl (hb hby d2_134) rfl (decide_eq_false fun q => (Fld.ne F_ordinal_w_CANCELLED F_ordinal_w_AWAITING_HUMAN (by decide)) (Value.ref.inj q)) (by decide) (by decide) ?_
    show Steps p.tables e below (T5.setTop (mkF m 137 #[.val (.ref w_RUNNING), .val (.ref w_CANCELLED)] [])) _
    refine XS.aloadN X5.here hx rfl (hb hby d2_137) rfl rfl ?_
    show Steps p.tables e below (T5.setTop (mkF m 138 #[.val (.ref w_RUNNING), .val (.ref w_CANCELLED)] [(.ref w_CANCELLED)])) _
    refine st6 _ ?_
    show Steps p.tables e below (T6.setTop (mkF m 141 #[.val (.ref w_RUNNING), .val (.ref w_CANCELLED)] [(.ref w_CANCELLED), (.ref w_CANCELLED)])) _
    refine Jvm.RoadKit.acmp (g := (mkF m 141 #[.val (.ref w_RUNNING), .val (.ref w_CANCELLED)] [(.ref w_CANCELLED), (.ref w_CANCELLED)])) X6 hx rfl rfl rfl (pc0 := 141) (pc' := 144) (same := true) rfl (hb hby d2_141) rfl (decide_eq_true (congrArg Value.ref (rfl : w_CANCELLED = w_CANCELLED))) (by decide) (by decide) ?_
    show Steps p.tables e below (T6.setTop (mkF m 144 #[.val (.ref w_RUNNING), .val (.ref w_CANCELLED)] [])) _
    refine XS.iconst X6.here hx rfl (hb hby d2_144) ?_
    show Steps p.tables e below (T6.setTop (mkF m 145 #[.val (.ref w_RUNNING), .val (.ref w_CANCELLED)] [(.int (1 : Int32))])) _
    refine XS.goto X6.here hx rfl (pc0 := 145) (pc' := 247) rfl (hb hby d2_145) (by decide) (by decide) ?_
    show Steps p.tables e below (T6.setTop (mkF m 247 #[.val (.ref w_RUNNING), .val (.ref w_CANCELLED)] [(.int (1 : Int32))])) _
    exact retN X6 hx (t := .boolean) Bd.returns (by simp) (hb hby d2_247) hr
  · show Q_cb_RUNNING Z w_PENDING w_RUNNING w_AWAITING_RETRY w_AWAITING_HUMAN w_APPROVED w_COMPLETED w_FAILED w_SKIPPED w_CANCELLED h0 n0 _ T6.heap _
    rw [e6]
    exact ⟨rfl, N1, rfl⟩
theorem ef_he_AWAITING_RETRY (m : MethodId) (w_AWAITING_RETRY : Addr) : entryFrame m #[(.ref w_AWAITING_RETRY)] 1 = mkF m 0 #[.val (.ref w_AWAITING_RETRY)] [] := by first | (simp [entryFrame, mkF, argsToLocals, Value.category]; done) | rfl
def Q_he_AWAITING_RETRY (Z : State) (w_PENDING w_RUNNING w_AWAITING_RETRY w_AWAITING_HUMAN w_APPROVED w_COMPLETED w_FAILED w_SKIPPED w_CANCELLED : Addr) (h0 : Heap) (n0 : Nat) (v : Option Value) (h : Heap) (L : List Loc) : Prop := v = some (.int (0 : Int32)) ∧ Fr n0 L ∧ h = h0
set_option maxRecDepth 65536 in
set_option maxHeartbeats 40000000 in
theorem he_AWAITING_RETRY (l : Launch) (Z : State) (a0 : Array Value) (hw : ∀ d ∈ tables_1, d.before a0 Z = true) (ws : List Jvm.Cond) (w_PENDING w_RUNNING w_AWAITING_RETRY w_AWAITING_HUMAN w_APPROVED w_COMPLETED w_FAILED w_SKIPPED w_CANCELLED : Addr) (h0 : Heap) (n0 : Nat) (O0 : Old Z n0 h0) (hE : OwnEnv Z w_PENDING w_RUNNING w_AWAITING_RETRY w_AWAITING_HUMAN w_APPROVED w_COMPLETED w_FAILED w_SKIPPED w_CANCELLED) :
    MetFree l (⟨"com/example/glacial_workflow/glacialworkflow/core/StepState", "hasEnded", "()Z"⟩ : MethodName) (head1 (Jvm.Cond.code (⟨"com/example/glacial_workflow/glacialworkflow/core/StepState", "hasEnded", "()Z"⟩ : MethodName) prog_26_method_4_code 1 (some .boolean) :: ws) ({ frames := 0, cells := 0, slots := 0, locals := 0 } : Room)) (fun a U => a = #[(.ref w_AWAITING_RETRY)] ∧ Z.Warmed39 U.vm ∧ U.heap = h0) (fun _ _ _ _ _ => True) (fun _ U o U' => ∃ v L, o = .returned v ∧ Q_he_AWAITING_RETRY Z w_PENDING w_RUNNING w_AWAITING_RETRY w_AWAITING_HUMAN w_APPROVED w_COMPLETED w_FAILED w_SKIPPED w_CANCELLED h0 n0 v U'.heap L ∧ FrameEnd U o U' L ({ frames := 0, cells := 0, slots := 0, locals := 0 } : Room).cells ({ frames := 0, cells := 0, slots := 0, locals := 0 } : Room).slots) := by
  refine MetFree.of_bodySF (plainFor_of_name pn_com_example_glacial_workflow_glacialworkflow_core_StepState) hisR ?_
  intro p e s m args below meth c s₁ Bd hml0 hP hK
  obtain ⟨rfl, hZ, hh⟩ := hP
  have hx := Bd.exec
  have hby := Bd.bytes
  have hml : c.maxLocals = 1 := hml0
  have hown : s.vm.findClass "com/example/glacial_workflow/glacialworkflow/core/StepState" = some m.cls := findClass_of_methodNamed Bd.named
  have hnm := (name_of_methodNamed Bd.named Bd.method).1
  have X0 : Stand p l e ({ frames := 0, cells := 0, slots := 0, locals := 0 } : Room) s m #[(.ref w_AWAITING_RETRY)] below meth c s₁ [] 0 0 := Stand.of_body Bd
  have e0 : s₁.heap = h0 := by rw [← hh, Bd.state]; rfl
  have N0 := Fr.nil n0
  have pre0 : ∀ t, Steps p.tables e below (s₁.setTop (mkF m 0 #[.val (.ref w_AWAITING_RETRY)] [])) t → Steps p.tables e below (s₁.setTop (entryFrame m #[(.ref w_AWAITING_RETRY)] 1)) t := fun t k => castTop (ef_he_AWAITING_RETRY m w_AWAITING_RETRY) k
  have hE_ := hE; obtain ⟨S_w_PENDING, E_w_PENDING, S_w_RUNNING, E_w_RUNNING, S_w_AWAITING_RETRY, E_w_AWAITING_RETRY, S_w_AWAITING_HUMAN, E_w_AWAITING_HUMAN, S_w_APPROVED, E_w_APPROVED, S_w_COMPLETED, E_w_COMPLETED, S_w_FAILED, E_w_FAILED, S_w_SKIPPED, E_w_SKIPPED, S_w_CANCELLED, E_w_CANCELLED, F_ordinal_w_PENDING, F_ordinal_w_COMPLETED, F_ordinal_w_FAILED, F_ordinal_w_SKIPPED, F_ordinal_w_CANCELLED, F_ordinal_w_RUNNING, F_ordinal_w_AWAITING_HUMAN, F_ordinal_w_APPROVED, F_ordinal_w_AWAITING_RETRY⟩ := hE_
  obtain ⟨T1, X1, e1, st1⟩ := getS2 X0 hx hZ hown (host := "") (Or.inl (hw _ (List.mem_of_getElem? (i := 28) rfl))) Via.refl e0 (S_w_COMPLETED.ext O0.2) (g := (mkF m 1 #[.val (.ref w_AWAITING_RETRY)] [(.ref w_AWAITING_RETRY)])) rfl (hb hby d1_1)
  obtain ⟨T2, X2, e2, st2⟩ := getS2 X1 hx hZ hown (host := "") (Or.inl (hw _ (List.mem_of_getElem? (i := 29) rfl))) Via.refl e1 (S_w_FAILED.ext O0.2) (g := (mkF m 8 #[.val (.ref w_AWAITING_RETRY)] [(.ref w_AWAITING_RETRY)])) rfl (hb hby d1_8)
  obtain ⟨T3, X3, e3, st3⟩ := getS2 X2 hx hZ hown (host := "") (Or.inl (hw _ (List.mem_of_getElem? (i := 30) rfl))) Via.refl e2 (S_w_SKIPPED.ext O0.2) (g := (mkF m 15 #[.val (.ref w_AWAITING_RETRY)] [(.ref w_AWAITING_RETRY)])) rfl (hb hby d1_15)
  obtain ⟨T4, X4, e4, st4⟩ := getS2 X3 hx hZ hown (host := "") (Or.inl (hw _ (List.mem_of_getElem? (i := 31) rfl))) Via.refl e3 (S_w_CANCELLED.ext O0.2) (g := (mkF m 22 #[.val (.ref w_AWAITING_RETRY)] [(.ref w_AWAITING_RETRY)])) rfl (hb hby d1_22)
  obtain ⟨fs, hr, hrun, hended, hW, hsame⟩ := X4.leave (v := some (.int (0 : Int32))) (fun h => by rw [Bd.returns] at h; cases h)
  refine ⟨_, _, pre0 _ ?_, hrun, hended, _, _, rfl, ?_, ⟨_, rfl⟩, hW, hsame.mono (by decide) (by decide)⟩
  · show Steps p.tables e below (s₁.setTop (mkF m 0 #[.val (.ref w_AWAITING_RETRY)] [])) _
    refine XS.aloadN X0.here hx rfl (hb hby d1_0) rfl rfl ?_
    show Steps p.tables e below (s₁.setTop (mkF m 1 #[.val (.ref w_AWAITING_RETRY)] [(.ref w_AWAITING_RETRY)])) _
    refine st1 _ ?_
    show Steps p.tables e below (T1.setTop (mkF m 4 #[.val (.ref w_AWAITING_RETRY)] [(.ref w_COMPLETED), (.ref w_AWAITING_RETRY)])) _
    refine Jvm.RoadKit.acmp (g := (mkF m 4 #[.val (.ref w_AWAITING_RETRY)] [(.ref w_COMPLETED), (.ref w_AWAITING_RETRY)])) X1 hx rfl rfl rfl (pc0 := 4) (pc' := 7) (same := false) rfl (hb hby d1_4) rfl (decide_eq_false fun q => (Ne.symm (Fld.ne F_ordinal_w_COMPLETED F_ordinal_w_AWAITING_RETRY (by decide))) (Value.ref.inj q)) (by decide) (by decide) ?_
    show Steps p.tables e below (T1.setTop (mkF m 7 #[.val (.ref w_AWAITING_RETRY)] [])) _
    refine XS.aloadN X1.here hx rfl (hb hby d1_7) rfl rfl ?_
    show Steps p.tables e below (T1.setTop (mkF m 8 #[.val (.ref w_AWAITING_RETRY)] [(.ref w_AWAITING_RETRY)])) _
    refine st2 _ ?_
    show Steps p.tables e below (T2.setTop (mkF m 11 #[.val (.ref w_AWAITING_RETRY)] [(.ref w_FAILED), (.ref w_AWAITING_RETRY)])) _
    refine Jvm.RoadKit.acmp (g := (mkF m 11 #[.val (.ref w_AWAITING_RETRY)] [(.ref w_FAILED), (.ref w_AWAITING_RETRY)])) X2 hx rfl rfl rfl (pc0 := 11) (pc' := 14) (same := false) rfl (hb hby d1_11) rfl (decide_eq_false fun q => (Ne.symm (Fld.ne F_ordinal_w_FAILED F_ordinal_w_AWAITING_RETRY (by decide))) (Value.ref.inj q)) (by decide) (by decide) ?_
    show Steps p.tables e below (T2.setTop (mkF m 14 #[.val (.ref w_AWAITING_RETRY)] [])) _
    refine XS.aloadN X2.here hx rfl (hb hby d1_14) rfl rfl ?_
    show Steps p.tables e below (T2.setTop (mkF m 15 #[.val (.ref w_AWAITING_RETRY)] [(.ref w_AWAITING_RETRY)])) _
    refine st3 _ ?_
    show Steps p.tables e below (T3.setTop (mkF m 18 #[.val (.ref w_AWAITING_RETRY)] [(.ref w_SKIPPED), (.ref w_AWAITING_RETRY)])) _
    refine Jvm.RoadKit.acmp (g := (mkF m 18 #[.val (.ref w_AWAITING_RETRY)] [(.ref w_SKIPPED), (.ref w_AWAITING_RETRY)])) X3 hx rfl rfl rfl (pc0 := 18) (pc' := 21) (same := false) rfl (hb hby d1_18) rfl (decide_eq_false fun q => (Ne.symm (Fld.ne F_ordinal_w_SKIPPED F_ordinal_w_AWAITING_RETRY (by decide))) (Value.ref.inj q)) (by decide) (by decide) ?_
    show Steps p.tables e below (T3.setTop (mkF m 21 #[.val (.ref w_AWAITING_RETRY)] [])) _
    refine XS.aloadN X3.here hx rfl (hb hby d1_21) rfl rfl ?_
    show Steps p.tables e below (T3.setTop (mkF m 22 #[.val (.ref w_AWAITING_RETRY)] [(.ref w_AWAITING_RETRY)])) _
    refine st4 _ ?_
    show Steps p.tables e below (T4.setTop (mkF m 25 #[.val (.ref w_AWAITING_RETRY)] [(.ref w_CANCELLED), (.ref w_AWAITING_RETRY)])) _
    refine Jvm.RoadKit.acmp (g := (mkF m 25 #[.val (.ref w_AWAITING_RETRY)] [(.ref w_CANCELLED), (.ref w_AWAITING_RETRY)])) X4 hx rfl rfl rfl (pc0 := 25) (pc' := 32) (same := false) rfl (hb hby d1_25) rfl (decide_eq_false fun q => (Ne.symm (Fld.ne F_ordinal_w_CANCELLED F_ordinal_w_AWAITING_RETRY (by decide))) (Value.ref.inj q)) (by decide) (by decide) ?_
    show Steps p.tables e below (T4.setTop (mkF m 32 #[.val (.ref w_AWAITING_RETRY)] [])) _
    refine XS.iconst X4.here hx rfl (hb hby d1_32) ?_
    show Steps p.tables e below (T4.setTop (mkF m 33 #[.val (.ref w_AWAITING_RETRY)] [(.int (0 : Int32))])) _
    exact retN X4 hx (t := .boolean) Bd.returns (by simp) (hb hby d1_33) hr
  · show Q_he_AWAITING_RETRY Z w_PENDING w_RUNNING w_AWAITING_RETRY w_AWAITING_HUMAN w_APPROVED w_COMPLETED w_FAILED w_SKIPPED w_CANCELLED h0 n0 _ T4.heap _
    rw [e4]
    exact ⟨rfl, N0, rfl⟩
theorem ef_cb_AWAITING_RETRY (m : MethodId) (w_AWAITING_RETRY : Addr) (w_CANCELLED : Addr) : entryFrame m #[(.ref w_AWAITING_RETRY), (.ref w_CANCELLED)] 2 = mkF m 0 #[.val (.ref w_AWAITING_RETRY), .val (.ref w_CANCELLED)] [] := by first | (simp [entryFrame, mkF, argsToLocals, Value.category]; done) | rfl
def Q_cb_AWAITING_RETRY (Z : State) (w_PENDING w_RUNNING w_AWAITING_RETRY w_AWAITING_HUMAN w_APPROVED w_COMPLETED w_FAILED w_SKIPPED w_CANCELLED : Addr) (h0 : Heap) (n0 : Nat) (v : Option Value) (h : Heap) (L : List Loc) : Prop := v = some (.int (1 : Int32)) ∧ Fr n0 L ∧ h = h0
set_option maxRecDepth 65536 in
set_option maxHeartbeats 40000000 in
theorem cb_AWAITING_RETRY (l : Launch) (Z : State) (a0 : Array Value) (hw : ∀ d ∈ tables_1, d.before a0 Z = true) (ws : List Jvm.Cond) (w_PENDING w_RUNNING w_AWAITING_RETRY w_AWAITING_HUMAN w_APPROVED w_COMPLETED w_FAILED w_SKIPPED w_CANCELLED : Addr) (h0 : Heap) (n0 : Nat) (O0 : Old Z n0 h0) (hE : OwnEnv Z w_PENDING w_RUNNING w_AWAITING_RETRY w_AWAITING_HUMAN w_APPROVED w_COMPLETED w_FAILED w_SKIPPED w_CANCELLED) :
    MetFree l (⟨"com/example/glacial_workflow/glacialworkflow/core/StepState", "canBecome", "(Lcom/example/glacial_workflow/glacialworkflow/core/StepState;)Z"⟩ : MethodName) (head1 (Jvm.Cond.code (⟨"com/example/glacial_workflow/glacialworkflow/core/StepState", "canBecome", "(Lcom/example/glacial_workflow/glacialworkflow/core/StepState;)Z"⟩ : MethodName) prog_26_method_5_code 2 (some .boolean) :: ws) ({ frames := 1, cells := 0, slots := 0, locals := 12 } : Room)) (fun a U => a = #[(.ref w_AWAITING_RETRY), (.ref w_CANCELLED)] ∧ Z.Warmed39 U.vm ∧ U.heap = h0) (fun _ _ _ _ _ => True) (fun _ U o U' => ∃ v L, o = .returned v ∧ Q_cb_AWAITING_RETRY Z w_PENDING w_RUNNING w_AWAITING_RETRY w_AWAITING_HUMAN w_APPROVED w_COMPLETED w_FAILED w_SKIPPED w_CANCELLED h0 n0 v U'.heap L ∧ FrameEnd U o U' L ({ frames := 1, cells := 0, slots := 0, locals := 12 } : Room).cells ({ frames := 1, cells := 0, slots := 0, locals := 12 } : Room).slots) := by
  refine MetFree.of_bodySF (plainFor_of_name pn_com_example_glacial_workflow_glacialworkflow_core_StepState) hisR ?_
  intro p e s m args below meth c s₁ Bd hml0 hP hK
  obtain ⟨rfl, hZ, hh⟩ := hP
  have hx := Bd.exec
  have hby := Bd.bytes
  have hml : c.maxLocals = 2 := hml0
  have hown : s.vm.findClass "com/example/glacial_workflow/glacialworkflow/core/StepState" = some m.cls := findClass_of_methodNamed Bd.named
  have hnm := (name_of_methodNamed Bd.named Bd.method).1
  have X0 : Stand p l e ({ frames := 1, cells := 0, slots := 0, locals := 12 } : Room) s m #[(.ref w_AWAITING_RETRY), (.ref w_CANCELLED)] below meth c s₁ [] 0 0 := Stand.of_body Bd
  have e0 : s₁.heap = h0 := by rw [← hh, Bd.state]; rfl
  have N0 := Fr.nil n0
  have pre0 : ∀ t, Steps p.tables e below (s₁.setTop (mkF m 0 #[.val (.ref w_AWAITING_RETRY), .val (.ref w_CANCELLED)] [])) t → Steps p.tables e below (s₁.setTop (entryFrame m #[(.ref w_AWAITING_RETRY), (.ref w_CANCELLED)] 2)) t := fun t k => castTop (ef_cb_AWAITING_RETRY m w_AWAITING_RETRY w_CANCELLED) k
  have hE_ := hE; obtain ⟨S_w_PENDING, E_w_PENDING, S_w_RUNNING, E_w_RUNNING, S_w_AWAITING_RETRY, E_w_AWAITING_RETRY, S_w_AWAITING_HUMAN, E_w_AWAITING_HUMAN, S_w_APPROVED, E_w_APPROVED, S_w_COMPLETED, E_w_COMPLETED, S_w_FAILED, E_w_FAILED, S_w_SKIPPED, E_w_SKIPPED, S_w_CANCELLED, E_w_CANCELLED, F_ordinal_w_PENDING, F_ordinal_w_COMPLETED, F_ordinal_w_FAILED, F_ordinal_w_SKIPPED, F_ordinal_w_CANCELLED, F_ordinal_w_RUNNING, F_ordinal_w_AWAITING_HUMAN, F_ordinal_w_APPROVED, F_ordinal_w_AWAITING_RETRY⟩ := hE_
  obtain ⟨cq1, kq1, q1a, q1b, q1c⟩ := isOf hZ e0 (E_w_AWAITING_RETRY.ext O0.2)
  obtain ⟨_, _, ⟨T1, L1, k1, n1⟩, -, X1, ⟨Lc1, hQ1, l1, y1, z1⟩, st1⟩ := X0.virtualBackUp hx (owner := "java/lang/Enum") (x := (⟨"com/example/glacial_workflow/glacialworkflow/core/StepState", "ordinal", "()I"⟩ : MethodName)) (y := (⟨"java/lang/Enum", "ordinal", "()I"⟩ : MethodName)) hown (mvT hZ (hw _ (List.mem_of_getElem? (i := 37) rfl))) (mvT hZ (hw _ (List.mem_of_getElem? (i := 38) rfl))) (mvT hZ (hw _ (List.mem_of_getElem? (i := 39) rfl))) (by decide) (mvT hZ (hw _ (List.mem_of_getElem? (i := 41) rfl))) (mvT hZ (hw _ (List.mem_of_getElem? (i := 40) rfl))) (backOf (W := 0) (ordn l Z a0 hw [] w_AWAITING_RETRY (2 : Int32) h0 n0 O0 (F_ordinal_w_AWAITING_RETRY.ext O0.2)) hZ (hw _ (List.mem_of_getElem? (i := 43) rfl)) (hw _ (List.mem_of_getElem? (i := 42) rfl)) (by decide) (by decide)) q1a q1c (g := (mkF m 1 #[.val (.ref w_AWAITING_RETRY), .val (.ref w_CANCELLED)] [(.ref w_AWAITING_RETRY)])) rfl (by rw [hml]; rfl) (Steps.refl _) (argsL := []) (rest := []) (lenOf pd___I rfl) rfl (by show 2 * 0 + _ ≤ _; exact Nat.le_of_eq rfl) (hb hby d2_1) (fun _ _ => ⟨rfl, e0, (by decide : 0 + 0 ≤ _), (by decide : 0 + 0 ≤ _)⟩)
  dsimp only [Pt.U, Pt.locs, Pt.cells, Pt.slots] at X1 l1 y1 z1 st1 hQ1
  subst l1 y1 z1
  obtain ⟨rfl, Nq1, eq1⟩ := hQ1
  have N1 := Fr.app N0 Nq1
  obtain ⟨T2, X2, e2, st2⟩ := getS2 X1 hx hZ hown (host := "") (Or.inl (hw _ (List.mem_of_getElem? (i := 46) rfl))) Via.refl eq1 (S_w_RUNNING.ext O0.2) (g := (mkF m 153 #[.val (.ref w_AWAITING_RETRY), .val (.ref w_CANCELLED)] [(.ref w_CANCELLED)])) rfl (hb hby d2_153)
  obtain ⟨T3, X3, e3, st3⟩ := getS2 X2 hx hZ hown (host := "") (Or.inl (hw _ (List.mem_of_getElem? (i := 29) rfl))) Via.refl e2 (S_w_FAILED.ext O0.2) (g := (mkF m 160 #[.val (.ref w_AWAITING_RETRY), .val (.ref w_CANCELLED)] [(.ref w_CANCELLED)])) rfl (hb hby d2_160)
  obtain ⟨T4, X4, e4, st4⟩ := getS2 X3 hx hZ hown (host := "") (Or.inl (hw _ (List.mem_of_getElem? (i := 31) rfl))) Via.refl e3 (S_w_CANCELLED.ext O0.2) (g := (mkF m 167 #[.val (.ref w_AWAITING_RETRY), .val (.ref w_CANCELLED)] [(.ref w_CANCELLED)])) rfl (hb hby d2_167)
  obtain ⟨fs, hr, hrun, hended, hW, hsame⟩ := X4.leave (v := some (.int (1 : Int32))) (fun h => by rw [Bd.returns] at h; cases h)
  refine ⟨_, _, pre0 _ ?_, hrun, hended, _, _, rfl, ?_, ⟨_, rfl⟩, hW, hsame.mono (by decide) (by decide)⟩
  · show Steps p.tables e below (s₁.setTop (mkF m 0 #[.val (.ref w_AWAITING_RETRY), .val (.ref w_CANCELLED)] [])) _
    refine XS.aloadN X0.here hx rfl (hb hby d2_0) rfl rfl ?_
    show Steps p.tables e below (s₁.setTop (mkF m 1 #[.val (.ref w_AWAITING_RETRY), .val (.ref w_CANCELLED)] [(.ref w_AWAITING_RETRY)])) _
    refine st1.trans ?_
    show Steps p.tables e below (T1.setTop (mkF m 4 #[.val (.ref w_AWAITING_RETRY), .val (.ref w_CANCELLED)] [(.int (2 : Int32))])) _
    refine XS.tswIn X1.here hx rfl (pc0 := 4) (pc' := 152) rfl (hb hby d2_4) rfl (by decide) (o := 148) (by decide) (by decide) (by decide) ?_
    show Steps p.tables e below (T1.setTop (mkF m 152 #[.val (.ref w_AWAITING_RETRY), .val (.ref w_CANCELLED)] [])) _
    refine XS.aloadN X1.here hx rfl (hb hby d2_152) rfl rfl ?_
    show Steps p.tables e below (T1.setTop (mkF m 153 #[.val (.ref w_AWAITING_RETRY), .val (.ref w_CANCELLED)] [(.ref w_CANCELLED)])) _
    refine st2 _ ?_
    show Steps p.tables e below (T2.setTop (mkF m 156 #[.val (.ref w_AWAITING_RETRY), .val (.ref w_CANCELLED)] [(.ref w_RUNNING), (.ref w_CANCELLED)])) _
    refine Jvm.RoadKit.acmp (g := (mkF m 156 #[.val (.ref w_AWAITING_RETRY), .val (.ref w_CANCELLED)] [(.ref w_RUNNING), (.ref w_CANCELLED)])) X2 hx rfl rfl rfl (pc0 := 156) (pc' := 159) (same := false) rfl (hb hby d2_156) rfl (decide_eq_false fun q => (Fld.ne F_ordinal_w_CANCELLED F_ordinal_w_RUNNING (by decide)) (Value.ref.inj q)) (by decide) (by decide) ?_
    show Steps p.tables e below (T2.setTop (mkF m 159 #[.val (.ref w_AWAITING_RETRY), .val (.ref w_CANCELLED)] [])) _
    refine XS.aloadN X2.here hx rfl (hb hby d2_159) rfl rfl ?_
    show Steps p.tables e below (T2.setTop (mkF m 160 #[.val (.ref w_AWAITING_RETRY), .val (.ref w_CANCELLED)] [(.ref w_CANCELLED)])) _
    refine st3 _ ?_
    show Steps p.tables e below (T3.setTop (mkF m 163 #[.val (.ref w_AWAITING_RETRY), .val (.ref w_CANCELLED)] [(.ref w_FAILED), (.ref w_CANCELLED)])) _
    refine Jvm.RoadKit.acmp (g := (mkF m 163 #[.val (.ref w_AWAITING_RETRY), .val (.ref w_CANCELLED)] [(.ref w_FAILED), (.ref w_CANCELLED)])) X3 hx rfl rfl rfl (pc0 := 163) (pc' := 166) (same := false) rfl (hb hby d2_163) rfl (decide_eq_false fun q => (Ne.symm (Fld.ne F_ordinal_w_FAILED F_ordinal_w_CANCELLED (by decide))) (Value.ref.inj q)) (by decide) (by decide) ?_
    show Steps p.tables e below (T3.setTop (mkF m 166 #[.val (.ref w_AWAITING_RETRY), .val (.ref w_CANCELLED)] [])) _
    refine XS.aloadN X3.here hx rfl (hb hby d2_166) rfl rfl ?_
    show Steps p.tables e below (T3.setTop (mkF m 167 #[.val (.ref w_AWAITING_RETRY), .val (.ref w_CANCELLED)] [(.ref w_CANCELLED)])) _
    refine st4 _ ?_
    show Steps p.tables e below (T4.setTop (mkF m 170 #[.val (.ref w_AWAITING_RETRY), .val (.ref w_CANCELLED)] [(.ref w_CANCELLED), (.ref w_CANCELLED)])) _
    refine Jvm.RoadKit.acmp (g := (mkF m 170 #[.val (.ref w_AWAITING_RETRY), .val (.ref w_CANCELLED)] [(.ref w_CANCELLED), (.ref w_CANCELLED)])) X4 hx rfl rfl rfl (pc0 := 170) (pc' := 173) (same := true) rfl (hb hby d2_170) rfl (decide_eq_true (congrArg Value.ref (rfl : w_CANCELLED = w_CANCELLED))) (by decide) (by decide) ?_
    show Steps p.tables e below (T4.setTop (mkF m 173 #[.val (.ref w_AWAITING_RETRY), .val (.ref w_CANCELLED)] [])) _
    refine XS.iconst X4.here hx rfl (hb hby d2_173) ?_
    show Steps p.tables e below (T4.setTop (mkF m 174 #[.val (.ref w_AWAITING_RETRY), .val (.ref w_CANCELLED)] [(.int (1 : Int32))])) _
    refine XS.goto X4.here hx rfl (pc0 := 174) (pc' := 247) rfl (hb hby d2_174) (by decide) (by decide) ?_
    show Steps p.tables e below (T4.setTop (mkF m 247 #[.val (.ref w_AWAITING_RETRY), .val (.ref w_CANCELLED)] [(.int (1 : Int32))])) _
    exact retN X4 hx (t := .boolean) Bd.returns (by simp) (hb hby d2_247) hr
  · show Q_cb_AWAITING_RETRY Z w_PENDING w_RUNNING w_AWAITING_RETRY w_AWAITING_HUMAN w_APPROVED w_COMPLETED w_FAILED w_SKIPPED w_CANCELLED h0 n0 _ T4.heap _
    rw [e4]
    exact ⟨rfl, N1, rfl⟩
theorem ef_he_AWAITING_HUMAN (m : MethodId) (w_AWAITING_HUMAN : Addr) : entryFrame m #[(.ref w_AWAITING_HUMAN)] 1 = mkF m 0 #[.val (.ref w_AWAITING_HUMAN)] [] := by first | (simp [entryFrame, mkF, argsToLocals, Value.category]; done) | rfl
def Q_he_AWAITING_HUMAN (Z : State) (w_PENDING w_RUNNING w_AWAITING_RETRY w_AWAITING_HUMAN w_APPROVED w_COMPLETED w_FAILED w_SKIPPED w_CANCELLED : Addr) (h0 : Heap) (n0 : Nat) (v : Option Value) (h : Heap) (L : List Loc) : Prop := v = some (.int (0 : Int32)) ∧ Fr n0 L ∧ h = h0
set_option maxRecDepth 65536 in
set_option maxHeartbeats 40000000 in
theorem he_AWAITING_HUMAN (l : Launch) (Z : State) (a0 : Array Value) (hw : ∀ d ∈ tables_1, d.before a0 Z = true) (ws : List Jvm.Cond) (w_PENDING w_RUNNING w_AWAITING_RETRY w_AWAITING_HUMAN w_APPROVED w_COMPLETED w_FAILED w_SKIPPED w_CANCELLED : Addr) (h0 : Heap) (n0 : Nat) (O0 : Old Z n0 h0) (hE : OwnEnv Z w_PENDING w_RUNNING w_AWAITING_RETRY w_AWAITING_HUMAN w_APPROVED w_COMPLETED w_FAILED w_SKIPPED w_CANCELLED) :
    MetFree l (⟨"com/example/glacial_workflow/glacialworkflow/core/StepState", "hasEnded", "()Z"⟩ : MethodName) (head1 (Jvm.Cond.code (⟨"com/example/glacial_workflow/glacialworkflow/core/StepState", "hasEnded", "()Z"⟩ : MethodName) prog_26_method_4_code 1 (some .boolean) :: ws) ({ frames := 0, cells := 0, slots := 0, locals := 0 } : Room)) (fun a U => a = #[(.ref w_AWAITING_HUMAN)] ∧ Z.Warmed39 U.vm ∧ U.heap = h0) (fun _ _ _ _ _ => True) (fun _ U o U' => ∃ v L, o = .returned v ∧ Q_he_AWAITING_HUMAN Z w_PENDING w_RUNNING w_AWAITING_RETRY w_AWAITING_HUMAN w_APPROVED w_COMPLETED w_FAILED w_SKIPPED w_CANCELLED h0 n0 v U'.heap L ∧ FrameEnd U o U' L ({ frames := 0, cells := 0, slots := 0, locals := 0 } : Room).cells ({ frames := 0, cells := 0, slots := 0, locals := 0 } : Room).slots) := by
  refine MetFree.of_bodySF (plainFor_of_name pn_com_example_glacial_workflow_glacialworkflow_core_StepState) hisR ?_
  intro p e s m args below meth c s₁ Bd hml0 hP hK
  obtain ⟨rfl, hZ, hh⟩ := hP
  have hx := Bd.exec
  have hby := Bd.bytes
  have hml : c.maxLocals = 1 := hml0
  have hown : s.vm.findClass "com/example/glacial_workflow/glacialworkflow/core/StepState" = some m.cls := findClass_of_methodNamed Bd.named
  have hnm := (name_of_methodNamed Bd.named Bd.method).1
  have X0 : Stand p l e ({ frames := 0, cells := 0, slots := 0, locals := 0 } : Room) s m #[(.ref w_AWAITING_HUMAN)] below meth c s₁ [] 0 0 := Stand.of_body Bd
  have e0 : s₁.heap = h0 := by rw [← hh, Bd.state]; rfl
  have N0 := Fr.nil n0
  have pre0 : ∀ t, Steps p.tables e below (s₁.setTop (mkF m 0 #[.val (.ref w_AWAITING_HUMAN)] [])) t → Steps p.tables e below (s₁.setTop (entryFrame m #[(.ref w_AWAITING_HUMAN)] 1)) t := fun t k => castTop (ef_he_AWAITING_HUMAN m w_AWAITING_HUMAN) k
  have hE_ := hE; obtain ⟨S_w_PENDING, E_w_PENDING, S_w_RUNNING, E_w_RUNNING, S_w_AWAITING_RETRY, E_w_AWAITING_RETRY, S_w_AWAITING_HUMAN, E_w_AWAITING_HUMAN, S_w_APPROVED, E_w_APPROVED, S_w_COMPLETED, E_w_COMPLETED, S_w_FAILED, E_w_FAILED, S_w_SKIPPED, E_w_SKIPPED, S_w_CANCELLED, E_w_CANCELLED, F_ordinal_w_PENDING, F_ordinal_w_COMPLETED, F_ordinal_w_FAILED, F_ordinal_w_SKIPPED, F_ordinal_w_CANCELLED, F_ordinal_w_RUNNING, F_ordinal_w_AWAITING_HUMAN, F_ordinal_w_APPROVED, F_ordinal_w_AWAITING_RETRY⟩ := hE_
  obtain ⟨T1, X1, e1, st1⟩ := getS2 X0 hx hZ hown (host := "") (Or.inl (hw _ (List.mem_of_getElem? (i := 28) rfl))) Via.refl e0 (S_w_COMPLETED.ext O0.2) (g := (mkF m 1 #[.val (.ref w_AWAITING_HUMAN)] [(.ref w_AWAITING_HUMAN)])) rfl (hb hby d1_1)
  obtain ⟨T2, X2, e2, st2⟩ := getS2 X1 hx hZ hown (host := "") (Or.inl (hw _ (List.mem_of_getElem? (i := 29) rfl))) Via.refl e1 (S_w_FAILED.ext O0.2) (g := (mkF m 8 #[.val (.ref w_AWAITING_HUMAN)] [(.ref w_AWAITING_HUMAN)])) rfl (hb hby d1_8)
  obtain ⟨T3, X3, e3, st3⟩ := getS2 X2 hx hZ hown (host := "") (Or.inl (hw _ (List.mem_of_getElem? (i := 30) rfl))) Via.refl e2 (S_w_SKIPPED.ext O0.2) (g := (mkF m 15 #[.val (.ref w_AWAITING_HUMAN)] [(.ref w_AWAITING_HUMAN)])) rfl (hb hby d1_15)
  obtain ⟨T4, X4, e4, st4⟩ := getS2 X3 hx hZ hown (host := "") (Or.inl (hw _ (List.mem_of_getElem? (i := 31) rfl))) Via.refl e3 (S_w_CANCELLED.ext O0.2) (g := (mkF m 22 #[.val (.ref w_AWAITING_HUMAN)] [(.ref w_AWAITING_HUMAN)])) rfl (hb hby d1_22)
  obtain ⟨fs, hr, hrun, hended, hW, hsame⟩ := X4.leave (v := some (.int (0 : Int32))) (fun h => by rw [Bd.returns] at h; cases h)
  refine ⟨_, _, pre0 _ ?_, hrun, hended, _, _, rfl, ?_, ⟨_, rfl⟩, hW, hsame.mono (by decide) (by decide)⟩
  · show Steps p.tables e below (s₁.setTop (mkF m 0 #[.val (.ref w_AWAITING_HUMAN)] [])) _
    refine XS.aloadN X0.here hx rfl (hb hby d1_0) rfl rfl ?_
    show Steps p.tables e below (s₁.setTop (mkF m 1 #[.val (.ref w_AWAITING_HUMAN)] [(.ref w_AWAITING_HUMAN)])) _
    refine st1 _ ?_
    show Steps p.tables e below (T1.setTop (mkF m 4 #[.val (.ref w_AWAITING_HUMAN)] [(.ref w_COMPLETED), (.ref w_AWAITING_HUMAN)])) _
    refine Jvm.RoadKit.acmp (g := (mkF m 4 #[.val (.ref w_AWAITING_HUMAN)] [(.ref w_COMPLETED), (.ref w_AWAITING_HUMAN)])) X1 hx rfl rfl rfl (pc0 := 4) (pc' := 7) (same := false) rfl (hb hby d1_4) rfl (decide_eq_false fun q => (Ne.symm (Fld.ne F_ordinal_w_COMPLETED F_ordinal_w_AWAITING_HUMAN (by decide))) (Value.ref.inj q)) (by decide) (by decide) ?_
    show Steps p.tables e below (T1.setTop (mkF m 7 #[.val (.ref w_AWAITING_HUMAN)] [])) _
    refine XS.aloadN X1.here hx rfl (hb hby d1_7) rfl rfl ?_
    show Steps p.tables e below (T1.setTop (mkF m 8 #[.val (.ref w_AWAITING_HUMAN)] [(.ref w_AWAITING_HUMAN)])) _
    refine st2 _ ?_
    show Steps p.tables e below (T2.setTop (mkF m 11 #[.val (.ref w_AWAITING_HUMAN)] [(.ref w_FAILED), (.ref w_AWAITING_HUMAN)])) _
    refine Jvm.RoadKit.acmp (g := (mkF m 11 #[.val (.ref w_AWAITING_HUMAN)] [(.ref w_FAILED), (.ref w_AWAITING_HUMAN)])) X2 hx rfl rfl rfl (pc0 := 11) (pc' := 14) (same := false) rfl (hb hby d1_11) rfl (decide_eq_false fun q => (Ne.symm (Fld.ne F_ordinal_w_FAILED F_ordinal_w_AWAITING_HUMAN (by decide))) (Value.ref.inj q)) (by decide) (by decide) ?_
    show Steps p.tables e below (T2.setTop (mkF m 14 #[.val (.ref w_AWAITING_HUMAN)] [])) _
    refine XS.aloadN X2.here hx rfl (hb hby d1_14) rfl rfl ?_
    show Steps p.tables e below (T2.setTop (mkF m 15 #[.val (.ref w_AWAITING_HUMAN)] [(.ref w_AWAITING_HUMAN)])) _
    refine st3 _ ?_
    show Steps p.tables e below (T3.setTop (mkF m 18 #[.val (.ref w_AWAITING_HUMAN)] [(.ref w_SKIPPED), (.ref w_AWAITING_HUMAN)])) _
    refine Jvm.RoadKit.acmp (g := (mkF m 18 #[.val (.ref w_AWAITING_HUMAN)] [(.ref w_SKIPPED), (.ref w_AWAITING_HUMAN)])) X3 hx rfl rfl rfl (pc0 := 18) (pc' := 21) (same := false) rfl (hb hby d1_18) rfl (decide_eq_false fun q => (Ne.symm (Fld.ne F_ordinal_w_SKIPPED F_ordinal_w_AWAITING_HUMAN (by decide))) (Value.ref.inj q)) (by decide) (by decide) ?_
    show Steps p.tables e below (T3.setTop (mkF m 21 #[.val (.ref w_AWAITING_HUMAN)] [])) _
    refine XS.aloadN X3.here hx rfl (hb hby d1_21) rfl rfl ?_
    show Steps p.tables e below (T3.setTop (mkF m 22 #[.val (.ref w_AWAITING_HUMAN)] [(.ref w_AWAITING_HUMAN)])) _
    refine st4 _ ?_
    show Steps p.tables e below (T4.setTop (mkF m 25 #[.val (.ref w_AWAITING_HUMAN)] [(.ref w_CANCELLED), (.ref w_AWAITING_HUMAN)])) _
    refine Jvm.RoadKit.acmp (g := (mkF m 25 #[.val (.ref w_AWAITING_HUMAN)] [(.ref w_CANCELLED), (.ref w_AWAITING_HUMAN)])) X4 hx rfl rfl rfl (pc0 := 25) (pc' := 32) (same := false) rfl (hb hby d1_25) rfl (decide_eq_false fun q => (Ne.symm (Fld.ne F_ordinal_w_CANCELLED F_ordinal_w_AWAITING_HUMAN (by decide))) (Value.ref.inj q)) (by decide) (by decide) ?_
    show Steps p.tables e below (T4.setTop (mkF m 32 #[.val (.ref w_AWAITING_HUMAN)] [])) _
    refine XS.iconst X4.here hx rfl (hb hby d1_32) ?_
    show Steps p.tables e below (T4.setTop (mkF m 33 #[.val (.ref w_AWAITING_HUMAN)] [(.int (0 : Int32))])) _
    exact retN X4 hx (t := .boolean) Bd.returns (by simp) (hb hby d1_33) hr
  · show Q_he_AWAITING_HUMAN Z w_PENDING w_RUNNING w_AWAITING_RETRY w_AWAITING_HUMAN w_APPROVED w_COMPLETED w_FAILED w_SKIPPED w_CANCELLED h0 n0 _ T4.heap _
    rw [e4]
    exact ⟨rfl, N0, rfl⟩
theorem ef_cb_AWAITING_HUMAN (m : MethodId) (w_AWAITING_HUMAN : Addr) (w_CANCELLED : Addr) : entryFrame m #[(.ref w_AWAITING_HUMAN), (.ref w_CANCELLED)] 2 = mkF m 0 #[.val (.ref w_AWAITING_HUMAN), .val (.ref w_CANCELLED)] [] := by first | (simp [entryFrame, mkF, argsToLocals, Value.category]; done) | rfl
def Q_cb_AWAITING_HUMAN (Z : State) (w_PENDING w_RUNNING w_AWAITING_RETRY w_AWAITING_HUMAN w_APPROVED w_COMPLETED w_FAILED w_SKIPPED w_CANCELLED : Addr) (h0 : Heap) (n0 : Nat) (v : Option Value) (h : Heap) (L : List Loc) : Prop := v = some (.int (1 : Int32)) ∧ Fr n0 L ∧ h = h0
set_option maxRecDepth 65536 in
set_option maxHeartbeats 40000000 in
theorem cb_AWAITING_HUMAN (l : Launch) (Z : State) (a0 : Array Value) (hw : ∀ d ∈ tables_1, d.before a0 Z = true) (ws : List Jvm.Cond) (w_PENDING w_RUNNING w_AWAITING_RETRY w_AWAITING_HUMAN w_APPROVED w_COMPLETED w_FAILED w_SKIPPED w_CANCELLED : Addr) (h0 : Heap) (n0 : Nat) (O0 : Old Z n0 h0) (hE : OwnEnv Z w_PENDING w_RUNNING w_AWAITING_RETRY w_AWAITING_HUMAN w_APPROVED w_COMPLETED w_FAILED w_SKIPPED w_CANCELLED) :
    MetFree l (⟨"com/example/glacial_workflow/glacialworkflow/core/StepState", "canBecome", "(Lcom/example/glacial_workflow/glacialworkflow/core/StepState;)Z"⟩ : MethodName) (head1 (Jvm.Cond.code (⟨"com/example/glacial_workflow/glacialworkflow/core/StepState", "canBecome", "(Lcom/example/glacial_workflow/glacialworkflow/core/StepState;)Z"⟩ : MethodName) prog_26_method_5_code 2 (some .boolean) :: ws) ({ frames := 1, cells := 0, slots := 0, locals := 12 } : Room)) (fun a U => a = #[(.ref w_AWAITING_HUMAN), (.ref w_CANCELLED)] ∧ Z.Warmed39 U.vm ∧ U.heap = h0) (fun _ _ _ _ _ => True) (fun _ U o U' => ∃ v L, o = .returned v ∧ Q_cb_AWAITING_HUMAN Z w_PENDING w_RUNNING w_AWAITING_RETRY w_AWAITING_HUMAN w_APPROVED w_COMPLETED w_FAILED w_SKIPPED w_CANCELLED h0 n0 v U'.heap L ∧ FrameEnd U o U' L ({ frames := 1, cells := 0, slots := 0, locals := 12 } : Room).cells ({ frames := 1, cells := 0, slots := 0, locals := 12 } : Room).slots) := by
  refine MetFree.of_bodySF (plainFor_of_name pn_com_example_glacial_workflow_glacialworkflow_core_StepState) hisR ?_
  intro p e s m args below meth c s₁ Bd hml0 hP hK
  obtain ⟨rfl, hZ, hh⟩ := hP
  have hx := Bd.exec
  have hby := Bd.bytes
  have hml : c.maxLocals = 2 := hml0
  have hown : s.vm.findClass "com/example/glacial_workflow/glacialworkflow/core/StepState" = some m.cls := findClass_of_methodNamed Bd.named
  have hnm := (name_of_methodNamed Bd.named Bd.method).1
  have X0 : Stand p l e ({ frames := 1, cells := 0, slots := 0, locals := 12 } : Room) s m #[(.ref w_AWAITING_HUMAN), (.ref w_CANCELLED)] below meth c s₁ [] 0 0 := Stand.of_body Bd
  have e0 : s₁.heap = h0 := by rw [← hh, Bd.state]; rfl
  have N0 := Fr.nil n0
  have pre0 : ∀ t, Steps p.tables e below (s₁.setTop (mkF m 0 #[.val (.ref w_AWAITING_HUMAN), .val (.ref w_CANCELLED)] [])) t → Steps p.tables e below (s₁.setTop (entryFrame m #[(.ref w_AWAITING_HUMAN), (.ref w_CANCELLED)] 2)) t := fun t k => castTop (ef_cb_AWAITING_HUMAN m w_AWAITING_HUMAN w_CANCELLED) k
  have hE_ := hE; obtain ⟨S_w_PENDING, E_w_PENDING, S_w_RUNNING, E_w_RUNNING, S_w_AWAITING_RETRY, E_w_AWAITING_RETRY, S_w_AWAITING_HUMAN, E_w_AWAITING_HUMAN, S_w_APPROVED, E_w_APPROVED, S_w_COMPLETED, E_w_COMPLETED, S_w_FAILED, E_w_FAILED, S_w_SKIPPED, E_w_SKIPPED, S_w_CANCELLED, E_w_CANCELLED, F_ordinal_w_PENDING, F_ordinal_w_COMPLETED, F_ordinal_w_FAILED, F_ordinal_w_SKIPPED, F_ordinal_w_CANCELLED, F_ordinal_w_RUNNING, F_ordinal_w_AWAITING_HUMAN, F_ordinal_w_APPROVED, F_ordinal_w_AWAITING_RETRY⟩ := hE_
  obtain ⟨cq1, kq1, q1a, q1b, q1c⟩ := isOf hZ e0 (E_w_AWAITING_HUMAN.ext O0.2)
  obtain ⟨_, _, ⟨T1, L1, k1, n1⟩, -, X1, ⟨Lc1, hQ1, l1, y1, z1⟩, st1⟩ := X0.virtualBackUp hx (owner := "java/lang/Enum") (x := (⟨"com/example/glacial_workflow/glacialworkflow/core/StepState", "ordinal", "()I"⟩ : MethodName)) (y := (⟨"java/lang/Enum", "ordinal", "()I"⟩ : MethodName)) hown (mvT hZ (hw _ (List.mem_of_getElem? (i := 37) rfl))) (mvT hZ (hw _ (List.mem_of_getElem? (i := 38) rfl))) (mvT hZ (hw _ (List.mem_of_getElem? (i := 39) rfl))) (by decide) (mvT hZ (hw _ (List.mem_of_getElem? (i := 41) rfl))) (mvT hZ (hw _ (List.mem_of_getElem? (i := 40) rfl))) (backOf (W := 0) (ordn l Z a0 hw [] w_AWAITING_HUMAN (3 : Int32) h0 n0 O0 (F_ordinal_w_AWAITING_HUMAN.ext O0.2)) hZ (hw _ (List.mem_of_getElem? (i := 43) rfl)) (hw _ (List.mem_of_getElem? (i := 42) rfl)) (by decide) (by decide)) q1a q1c (g := (mkF m 1 #[.val (.ref w_AWAITING_HUMAN), .val (.ref w_CANCELLED)] [(.ref w_AWAITING_HUMAN)])) rfl (by rw [hml]; rfl) (Steps.refl _) (argsL := []) (rest := []) (lenOf pd___I rfl) rfl (by show 2 * 0 + _ ≤ _; exact Nat.le_of_eq rfl) (hb hby d2_1) (fun _ _ => ⟨rfl, e0, (by decide : 0 + 0 ≤ _), (by decide : 0 + 0 ≤ _)⟩)
  dsimp only [Pt.U, Pt.locs, Pt.cells, Pt.slots] at X1 l1 y1 z1 st1 hQ1
  subst l1 y1 z1
  obtain ⟨rfl, Nq1, eq1⟩ := hQ1
  have N1 := Fr.app N0 Nq1
  obtain ⟨T2, X2, e2, st2⟩ := getS2 X1 hx hZ hown (host := "") (Or.inl (hw _ (List.mem_of_getElem? (i := 49) rfl))) Via.refl eq1 (S_w_APPROVED.ext O0.2) (g := (mkF m 204 #[.val (.ref w_AWAITING_HUMAN), .val (.ref w_CANCELLED)] [(.ref w_CANCELLED)])) rfl (hb hby d2_204)
  obtain ⟨T3, X3, e3, st3⟩ := getS2 X2 hx hZ hown (host := "") (Or.inl (hw _ (List.mem_of_getElem? (i := 28) rfl))) Via.refl e2 (S_w_COMPLETED.ext O0.2) (g := (mkF m 211 #[.val (.ref w_AWAITING_HUMAN), .val (.ref w_CANCELLED)] [(.ref w_CANCELLED)])) rfl (hb hby d2_211)
  obtain ⟨T4, X4, e4, st4⟩ := getS2 X3 hx hZ hown (host := "") (Or.inl (hw _ (List.mem_of_getElem? (i := 29) rfl))) Via.refl e3 (S_w_FAILED.ext O0.2) (g := (mkF m 218 #[.val (.ref w_AWAITING_HUMAN), .val (.ref w_CANCELLED)] [(.ref w_CANCELLED)])) rfl (hb hby d2_218)
  obtain ⟨T5, X5, e5, st5⟩ := getS2 X4 hx hZ hown (host := "") (Or.inl (hw _ (List.mem_of_getElem? (i := 48) rfl))) Via.refl e4 (S_w_AWAITING_RETRY.ext O0.2) (g := (mkF m 225 #[.val (.ref w_AWAITING_HUMAN), .val (.ref w_CANCELLED)] [(.ref w_CANCELLED)])) rfl (hb hby d2_225)
  obtain ⟨T6, X6, e6, st6⟩ := getS2 X5 hx hZ hown (host := "") (Or.inl (hw _ (List.mem_of_getElem? (i := 31) rfl))) Via.refl e5 (S_w_CANCELLED.ext O0.2) (g := (mkF m 232 #[.val (.ref w_AWAITING_HUMAN), .val (.ref w_CANCELLED)] [(.ref w_CANCELLED)])) rfl (hb hby d2_232)
  obtain ⟨fs, hr, hrun, hended, hW, hsame⟩ := X6.leave (v := some (.int (1 : Int32))) (fun h => by rw [Bd.returns] at h; cases h)
  refine ⟨_, _, pre0 _ ?_, hrun, hended, _, _, rfl, ?_, ⟨_, rfl⟩, hW, hsame.mono (by decide) (by decide)⟩
  · show Steps p.tables e below (s₁.setTop (mkF m 0 #[.val (.ref w_AWAITING_HUMAN), .val (.ref w_CANCELLED)] [])) _
    refine XS.aloadN X0.here hx rfl (hb hby d2_0) rfl rfl ?_
    show Steps p.tables e below (s₁.setTop (mkF m 1 #[.val (.ref w_AWAITING_HUMAN), .val (.ref w_CANCELLED)] [(.ref w_AWAITING_HUMAN)])) _
    refine st1.trans ?_
    show Steps p.tables e below (T1.setTop (mkF m 4 #[.val (.ref w_AWAITING_HUMAN), .val (.ref w_CANCELLED)] [(.int (3 : Int32))])) _
    refine XS.tswIn X1.here hx rfl (pc0 := 4) (pc' := 203) rfl (hb hby d2_4) rfl (by decide) (o := 199) (by decide) (by decide) (by decide) ?_
    show Steps p.tables e below (T1.setTop (mkF m 203 #[.val (.ref w_AWAITING_HUMAN), .val (.ref w_CANCELLED)] [])) _
    refine XS.aloadN X1.here hx rfl (hb hby d2_203) rfl rfl ?_
    show Steps p.tables e below (T1.setTop (mkF m 204 #[.val (.ref w_AWAITING_HUMAN), .val (.ref w_CANCELLED)] [(.ref w_CANCELLED)])) _
    refine st2 _ ?_
    show Steps p.tables e below (T2.setTop (mkF m 207 #[.val (.ref w_AWAITING_HUMAN), .val (.ref w_CANCELLED)] [(.ref w_APPROVED), (.ref w_CANCELLED)])) _
    refine Jvm.RoadKit.acmp (g := (mkF m 207 #[.val (.ref w_AWAITING_HUMAN), .val (.ref w_CANCELLED)] [(.ref w_APPROVED), (.ref w_CANCELLED)])) X2 hx rfl rfl rfl (pc0 := 207) (pc' := 210) (same := false) rfl (hb hby d2_207) rfl (decide_eq_false fun q => (Fld.ne F_ordinal_w_CANCELLED F_ordinal_w_APPROVED (by decide)) (Value.ref.inj q)) (by decide) (by decide) ?_
    show Steps p.tables e below (T2.setTop (mkF m 210 #[.val (.ref w_AWAITING_HUMAN), .val (.ref w_CANCELLED)] [])) _
    refine XS.aloadN X2.here hx rfl (hb hby d2_210) rfl rfl ?_
    show Steps p.tables e below (T2.setTop (mkF m 211 #[.val (.ref w_AWAITING_HUMAN), .val (.ref w_CANCELLED)] [(.ref w_CANCELLED)])) _
    refine st3 _ ?_
    show Steps p.tables e below (T3.setTop (mkF m 214 #[.val (.ref w_AWAITING_HUMAN), .val (.ref w_CANCELLED)] [(.ref w_COMPLETED), (.ref w_CANCELLED)])) _
    refine Jvm.RoadKit.acmp (g := (mkF m 214 #[.val (.ref w_AWAITING_HUMAN), .val (.ref w_CANCELLED)] [(.ref w_COMPLETED), (.ref w_CANCELLED)])) X3 hx rfl rfl rfl (pc0 := 214) (pc' := 217) (same := false) rfl (hb hby d2_214) rfl (decide_eq_false fun q => (Ne.symm (Fld.ne F_ordinal_w_COMPLETED F_ordinal_w_CANCELLED (by decide))) (Value.ref.inj q)) (by decide) (by decide) ?_
    show Steps p.tables e below (T3.setTop (mkF m 217 #[.val (.ref w_AWAITING_HUMAN), .val (.ref w_CANCELLED)] [])) _
    refine XS.aloadN X3.here hx rfl (hb hby d2_217) rfl rfl ?_
    show Steps p.tables e below (T3.setTop (mkF m 218 #[.val (.ref w_AWAITING_HUMAN), .val (.ref w_CANCELLED)] [(.ref w_CANCELLED)])) _
    refine st4 _ ?_
    show Steps p.tables e below (T4.setTop (mkF m 221 #[.val (.ref w_AWAITING_HUMAN), .val (.ref w_CANCELLED)] [(.ref w_FAILED), (.ref w_CANCELLED)])) _
    refine Jvm.RoadKit.acmp (g := (mkF m 221 #[.val (.ref w_AWAITING_HUMAN), .val (.ref w_CANCELLED)] [(.ref w_FAILED), (.ref w_CANCELLED)])) X4 hx rfl rfl rfl (pc0 := 221) (pc' := 224) (same := false) rfl (hb hby d2_221) rfl (decide_eq_false fun q => (Ne.symm (Fld.ne F_ordinal_w_FAILED F_ordinal_w_CANCELLED (by decide))) (Value.ref.inj q)) (by decide) (by decide) ?_
    show Steps p.tables e below (T4.setTop (mkF m 224 #[.val (.ref w_AWAITING_HUMAN), .val (.ref w_CANCELLED)] [])) _
    refine XS.aloadN X4.here hx rfl (hb hby d2_224) rfl rfl ?_
    show Steps p.tables e below (T4.setTop (mkF m 225 #[.val (.ref w_AWAITING_HUMAN), .val (.ref w_CANCELLED)] [(.ref w_CANCELLED)])) _
    refine st5 _ ?_
    show Steps p.tables e below (T5.setTop (mkF m 228 #[.val (.ref w_AWAITING_HUMAN), .val (.ref w_CANCELLED)] [(.ref w_AWAITING_RETRY), (.ref w_CANCELLED)])) _
    refine Jvm.RoadKit.acmp (g := (mkF m 228 #[.val (.ref w_AWAITING_HUMAN), .val (.ref w_CANCELLED)] [(.ref w_AWAITING_RETRY), (.ref w_CANCELLED)])) X5 hx rfl rfl rfl (pc0 := 228) (pc' := 231) (same := false) rfl (hb hby d2_228) rfl (decide_eq_false fun q => (Fld.ne F_ordinal_w_CANCELLED F_ordinal_w_AWAITING_RETRY (by decide)) (Value.ref.inj q)) (by decide) (by decide) ?_
    show Steps p.tables e below (T5.setTop (mkF m 231 #[.val (.ref w_AWAITING_HUMAN), .val (.ref w_CANCELLED)] [])) _
    refine XS.aloadN X5.here hx rfl (hb hby d2_231) rfl rfl ?_
    show Steps p.tables e below (T5.setTop (mkF m 232 #[.val (.ref w_AWAITING_HUMAN), .val (.ref w_CANCELLED)] [(.ref w_CANCELLED)])) _
    refine st6 _ ?_
    show Steps p.tables e below (T6.setTop (mkF m 235 #[.val (.ref w_AWAITING_HUMAN), .val (.ref w_CANCELLED)] [(.ref w_CANCELLED), (.ref w_CANCELLED)])) _
    refine Jvm.RoadKit.acmp (g := (mkF m 235 #[.val (.ref w_AWAITING_HUMAN), .val (.ref w_CANCELLED)] [(.ref w_CANCELLED), (.ref w_CANCELLED)])) X6 hx rfl rfl rfl (pc0 := 235) (pc' := 238) (same := true) rfl (hb hby d2_235) rfl (decide_eq_true (congrArg Value.ref (rfl : w_CANCELLED = w_CANCELLED))) (by decide) (by decide) ?_
    show Steps p.tables e below (T6.setTop (mkF m 238 #[.val (.ref w_AWAITING_HUMAN), .val (.ref w_CANCELLED)] [])) _
    refine XS.iconst X6.here hx rfl (hb hby d2_238) ?_
    show Steps p.tables e below (T6.setTop (mkF m 239 #[.val (.ref w_AWAITING_HUMAN), .val (.ref w_CANCELLED)] [(.int (1 : Int32))])) _
    refine XS.goto X6.here hx rfl (pc0 := 239) (pc' := 247) rfl (hb hby d2_239) (by decide) (by decide) ?_
    show Steps p.tables e below (T6.setTop (mkF m 247 #[.val (.ref w_AWAITING_HUMAN), .val (.ref w_CANCELLED)] [(.int (1 : Int32))])) _
    exact retN X6 hx (t := .boolean) Bd.returns (by simp) (hb hby d2_247) hr
  · show Q_cb_AWAITING_HUMAN Z w_PENDING w_RUNNING w_AWAITING_RETRY w_AWAITING_HUMAN w_APPROVED w_COMPLETED w_FAILED w_SKIPPED w_CANCELLED h0 n0 _ T6.heap _
    rw [e6]
    exact ⟨rfl, N1, rfl⟩
theorem ef_he_APPROVED (m : MethodId) (w_APPROVED : Addr) : entryFrame m #[(.ref w_APPROVED)] 1 = mkF m 0 #[.val (.ref w_APPROVED)] [] := by first | (simp [entryFrame, mkF, argsToLocals, Value.category]; done) | rfl
def Q_he_APPROVED (Z : State) (w_PENDING w_RUNNING w_AWAITING_RETRY w_AWAITING_HUMAN w_APPROVED w_COMPLETED w_FAILED w_SKIPPED w_CANCELLED : Addr) (h0 : Heap) (n0 : Nat) (v : Option Value) (h : Heap) (L : List Loc) : Prop := v = some (.int (0 : Int32)) ∧ Fr n0 L ∧ h = h0
set_option maxRecDepth 65536 in
set_option maxHeartbeats 40000000 in
theorem he_APPROVED (l : Launch) (Z : State) (a0 : Array Value) (hw : ∀ d ∈ tables_1, d.before a0 Z = true) (ws : List Jvm.Cond) (w_PENDING w_RUNNING w_AWAITING_RETRY w_AWAITING_HUMAN w_APPROVED w_COMPLETED w_FAILED w_SKIPPED w_CANCELLED : Addr) (h0 : Heap) (n0 : Nat) (O0 : Old Z n0 h0) (hE : OwnEnv Z w_PENDING w_RUNNING w_AWAITING_RETRY w_AWAITING_HUMAN w_APPROVED w_COMPLETED w_FAILED w_SKIPPED w_CANCELLED) :
    MetFree l (⟨"com/example/glacial_workflow/glacialworkflow/core/StepState", "hasEnded", "()Z"⟩ : MethodName) (head1 (Jvm.Cond.code (⟨"com/example/glacial_workflow/glacialworkflow/core/StepState", "hasEnded", "()Z"⟩ : MethodName) prog_26_method_4_code 1 (some .boolean) :: ws) ({ frames := 0, cells := 0, slots := 0, locals := 0 } : Room)) (fun a U => a = #[(.ref w_APPROVED)] ∧ Z.Warmed39 U.vm ∧ U.heap = h0) (fun _ _ _ _ _ => True) (fun _ U o U' => ∃ v L, o = .returned v ∧ Q_he_APPROVED Z w_PENDING w_RUNNING w_AWAITING_RETRY w_AWAITING_HUMAN w_APPROVED w_COMPLETED w_FAILED w_SKIPPED w_CANCELLED h0 n0 v U'.heap L ∧ FrameEnd U o U' L ({ frames := 0, cells := 0, slots := 0, locals := 0 } : Room).cells ({ frames := 0, cells := 0, slots := 0, locals := 0 } : Room).slots) := by
  refine MetFree.of_bodySF (plainFor_of_name pn_com_example_glacial_workflow_glacialworkflow_core_StepState) hisR ?_
  intro p e s m args below meth c s₁ Bd hml0 hP hK
  obtain ⟨rfl, hZ, hh⟩ := hP
  have hx := Bd.exec
  have hby := Bd.bytes
  have hml : c.maxLocals = 1 := hml0
  have hown : s.vm.findClass "com/example/glacial_workflow/glacialworkflow/core/StepState" = some m.cls := findClass_of_methodNamed Bd.named
  have hnm := (name_of_methodNamed Bd.named Bd.method).1
  have X0 : Stand p l e ({ frames := 0, cells := 0, slots := 0, locals := 0 } : Room) s m #[(.ref w_APPROVED)] below meth c s₁ [] 0 0 := Stand.of_body Bd
  have e0 : s₁.heap = h0 := by rw [← hh, Bd.state]; rfl
  have N0 := Fr.nil n0
  have pre0 : ∀ t, Steps p.tables e below (s₁.setTop (mkF m 0 #[.val (.ref w_APPROVED)] [])) t → Steps p.tables e below (s₁.setTop (entryFrame m #[(.ref w_APPROVED)] 1)) t := fun t k => castTop (ef_he_APPROVED m w_APPROVED) k
  have hE_ := hE; obtain ⟨S_w_PENDING, E_w_PENDING, S_w_RUNNING, E_w_RUNNING, S_w_AWAITING_RETRY, E_w_AWAITING_RETRY, S_w_AWAITING_HUMAN, E_w_AWAITING_HUMAN, S_w_APPROVED, E_w_APPROVED, S_w_COMPLETED, E_w_COMPLETED, S_w_FAILED, E_w_FAILED, S_w_SKIPPED, E_w_SKIPPED, S_w_CANCELLED, E_w_CANCELLED, F_ordinal_w_PENDING, F_ordinal_w_COMPLETED, F_ordinal_w_FAILED, F_ordinal_w_SKIPPED, F_ordinal_w_CANCELLED, F_ordinal_w_RUNNING, F_ordinal_w_AWAITING_HUMAN, F_ordinal_w_APPROVED, F_ordinal_w_AWAITING_RETRY⟩ := hE_
  obtain ⟨T1, X1, e1, st1⟩ := getS2 X0 hx hZ hown (host := "") (Or.inl (hw _ (List.mem_of_getElem? (i := 28) rfl))) Via.refl e0 (S_w_COMPLETED.ext O0.2) (g := (mkF m 1 #[.val (.ref w_APPROVED)] [(.ref w_APPROVED)])) rfl (hb hby d1_1)
  obtain ⟨T2, X2, e2, st2⟩ := getS2 X1 hx hZ hown (host := "") (Or.inl (hw _ (List.mem_of_getElem? (i := 29) rfl))) Via.refl e1 (S_w_FAILED.ext O0.2) (g := (mkF m 8 #[.val (.ref w_APPROVED)] [(.ref w_APPROVED)])) rfl (hb hby d1_8)
  obtain ⟨T3, X3, e3, st3⟩ := getS2 X2 hx hZ hown (host := "") (Or.inl (hw _ (List.mem_of_getElem? (i := 30) rfl))) Via.refl e2 (S_w_SKIPPED.ext O0.2) (g := (mkF m 15 #[.val (.ref w_APPROVED)] [(.ref w_APPROVED)])) rfl (hb hby d1_15)
  obtain ⟨T4, X4, e4, st4⟩ := getS2 X3 hx hZ hown (host := "") (Or.inl (hw _ (List.mem_of_getElem? (i := 31) rfl))) Via.refl e3 (S_w_CANCELLED.ext O0.2) (g := (mkF m 22 #[.val (.ref w_APPROVED)] [(.ref w_APPROVED)])) rfl (hb hby d1_22)
  obtain ⟨fs, hr, hrun, hended, hW, hsame⟩ := X4.leave (v := some (.int (0 : Int32))) (fun h => by rw [Bd.returns] at h; cases h)
  refine ⟨_, _, pre0 _ ?_, hrun, hended, _, _, rfl, ?_, ⟨_, rfl⟩, hW, hsame.mono (by decide) (by decide)⟩
  · show Steps p.tables e below (s₁.setTop (mkF m 0 #[.val (.ref w_APPROVED)] [])) _
    refine XS.aloadN X0.here hx rfl (hb hby d1_0) rfl rfl ?_
    show Steps p.tables e below (s₁.setTop (mkF m 1 #[.val (.ref w_APPROVED)] [(.ref w_APPROVED)])) _
    refine st1 _ ?_
    show Steps p.tables e below (T1.setTop (mkF m 4 #[.val (.ref w_APPROVED)] [(.ref w_COMPLETED), (.ref w_APPROVED)])) _
    refine Jvm.RoadKit.acmp (g := (mkF m 4 #[.val (.ref w_APPROVED)] [(.ref w_COMPLETED), (.ref w_APPROVED)])) X1 hx rfl rfl rfl (pc0 := 4) (pc' := 7) (same := false) rfl (hb hby d1_4) rfl (decide_eq_false fun q => (Ne.symm (Fld.ne F_ordinal_w_COMPLETED F_ordinal_w_APPROVED (by decide))) (Value.ref.inj q)) (by decide) (by decide) ?_
    show Steps p.tables e below (T1.setTop (mkF m 7 #[.val (.ref w_APPROVED)] [])) _
    refine XS.aloadN X1.here hx rfl (hb hby d1_7) rfl rfl ?_
    show Steps p.tables e below (T1.setTop (mkF m 8 #[.val (.ref w_APPROVED)] [(.ref w_APPROVED)])) _
    refine st2 _ ?_
    show Steps p.tables e below (T2.setTop (mkF m 11 #[.val (.ref w_APPROVED)] [(.ref w_FAILED), (.ref w_APPROVED)])) _
    refine Jvm.RoadKit.acmp (g := (mkF m 11 #[.val (.ref w_APPROVED)] [(.ref w_FAILED), (.ref w_APPROVED)])) X2 hx rfl rfl rfl (pc0 := 11) (pc' := 14) (same := false) rfl (hb hby d1_11) rfl (decide_eq_false fun q => (Ne.symm (Fld.ne F_ordinal_w_FAILED F_ordinal_w_APPROVED (by decide))) (Value.ref.inj q)) (by decide) (by decide) ?_
    show Steps p.tables e below (T2.setTop (mkF m 14 #[.val (.ref w_APPROVED)] [])) _
    refine XS.aloadN X2.here hx rfl (hb hby d1_14) rfl rfl ?_
    show Steps p.tables e below (T2.setTop (mkF m 15 #[.val (.ref w_APPROVED)] [(.ref w_APPROVED)])) _
    refine st3 _ ?_
    show Steps p.tables e below (T3.setTop (mkF m 18 #[.val (.ref w_APPROVED)] [(.ref w_SKIPPED), (.ref w_APPROVED)])) _
    refine Jvm.RoadKit.acmp (g := (mkF m 18 #[.val (.ref w_APPROVED)] [(.ref w_SKIPPED), (.ref w_APPROVED)])) X3 hx rfl rfl rfl (pc0 := 18) (pc' := 21) (same := false) rfl (hb hby d1_18) rfl (decide_eq_false fun q => (Ne.symm (Fld.ne F_ordinal_w_SKIPPED F_ordinal_w_APPROVED (by decide))) (Value.ref.inj q)) (by decide) (by decide) ?_
    show Steps p.tables e below (T3.setTop (mkF m 21 #[.val (.ref w_APPROVED)] [])) _
    refine XS.aloadN X3.here hx rfl (hb hby d1_21) rfl rfl ?_
    show Steps p.tables e below (T3.setTop (mkF m 22 #[.val (.ref w_APPROVED)] [(.ref w_APPROVED)])) _
    refine st4 _ ?_
    show Steps p.tables e below (T4.setTop (mkF m 25 #[.val (.ref w_APPROVED)] [(.ref w_CANCELLED), (.ref w_APPROVED)])) _
    refine Jvm.RoadKit.acmp (g := (mkF m 25 #[.val (.ref w_APPROVED)] [(.ref w_CANCELLED), (.ref w_APPROVED)])) X4 hx rfl rfl rfl (pc0 := 25) (pc' := 32) (same := false) rfl (hb hby d1_25) rfl (decide_eq_false fun q => (Ne.symm (Fld.ne F_ordinal_w_CANCELLED F_ordinal_w_APPROVED (by decide))) (Value.ref.inj q)) (by decide) (by decide) ?_
    show Steps p.tables e below (T4.setTop (mkF m 32 #[.val (.ref w_APPROVED)] [])) _
    refine XS.iconst X4.here hx rfl (hb hby d1_32) ?_
    show Steps p.tables e below (T4.setTop (mkF m 33 #[.val (.ref w_APPROVED)] [(.int (0 : Int32))])) _
    exact retN X4 hx (t := .boolean) Bd.returns (by simp) (hb hby d1_33) hr
  · show Q_he_APPROVED Z w_PENDING w_RUNNING w_AWAITING_RETRY w_AWAITING_HUMAN w_APPROVED w_COMPLETED w_FAILED w_SKIPPED w_CANCELLED h0 n0 _ T4.heap _
    rw [e4]
    exact ⟨rfl, N0, rfl⟩
theorem ef_cb_APPROVED (m : MethodId) (w_APPROVED : Addr) (w_CANCELLED : Addr) : entryFrame m #[(.ref w_APPROVED), (.ref w_CANCELLED)] 2 = mkF m 0 #[.val (.ref w_APPROVED), .val (.ref w_CANCELLED)] [] := by first | (simp [entryFrame, mkF, argsToLocals, Value.category]; done) | rfl
def Q_cb_APPROVED (Z : State) (w_PENDING w_RUNNING w_AWAITING_RETRY w_AWAITING_HUMAN w_APPROVED w_COMPLETED w_FAILED w_SKIPPED w_CANCELLED : Addr) (h0 : Heap) (n0 : Nat) (v : Option Value) (h : Heap) (L : List Loc) : Prop := v = some (.int (1 : Int32)) ∧ Fr n0 L ∧ h = h0
set_option maxRecDepth 65536 in
set_option maxHeartbeats 40000000 in
theorem cb_APPROVED (l : Launch) (Z : State) (a0 : Array Value) (hw : ∀ d ∈ tables_1, d.before a0 Z = true) (ws : List Jvm.Cond) (w_PENDING w_RUNNING w_AWAITING_RETRY w_AWAITING_HUMAN w_APPROVED w_COMPLETED w_FAILED w_SKIPPED w_CANCELLED : Addr) (h0 : Heap) (n0 : Nat) (O0 : Old Z n0 h0) (hE : OwnEnv Z w_PENDING w_RUNNING w_AWAITING_RETRY w_AWAITING_HUMAN w_APPROVED w_COMPLETED w_FAILED w_SKIPPED w_CANCELLED) :
    MetFree l (⟨"com/example/glacial_workflow/glacialworkflow/core/StepState", "canBecome", "(Lcom/example/glacial_workflow/glacialworkflow/core/StepState;)Z"⟩ : MethodName) (head1 (Jvm.Cond.code (⟨"com/example/glacial_workflow/glacialworkflow/core/StepState", "canBecome", "(Lcom/example/glacial_workflow/glacialworkflow/core/StepState;)Z"⟩ : MethodName) prog_26_method_5_code 2 (some .boolean) :: ws) ({ frames := 1, cells := 0, slots := 0, locals := 12 } : Room)) (fun a U => a = #[(.ref w_APPROVED), (.ref w_CANCELLED)] ∧ Z.Warmed39 U.vm ∧ U.heap = h0) (fun _ _ _ _ _ => True) (fun _ U o U' => ∃ v L, o = .returned v ∧ Q_cb_APPROVED Z w_PENDING w_RUNNING w_AWAITING_RETRY w_AWAITING_HUMAN w_APPROVED w_COMPLETED w_FAILED w_SKIPPED w_CANCELLED h0 n0 v U'.heap L ∧ FrameEnd U o U' L ({ frames := 1, cells := 0, slots := 0, locals := 12 } : Room).cells ({ frames := 1, cells := 0, slots := 0, locals := 12 } : Room).slots) := by
  refine MetFree.of_bodySF (plainFor_of_name pn_com_example_glacial_workflow_glacialworkflow_core_StepState) hisR ?_
  intro p e s m args below meth c s₁ Bd hml0 hP hK
  obtain ⟨rfl, hZ, hh⟩ := hP
  have hx := Bd.exec
  have hby := Bd.bytes
  have hml : c.maxLocals = 2 := hml0
  have hown : s.vm.findClass "com/example/glacial_workflow/glacialworkflow/core/StepState" = some m.cls := findClass_of_methodNamed Bd.named
  have hnm := (name_of_methodNamed Bd.named Bd.method).1
  have X0 : Stand p l e ({ frames := 1, cells := 0, slots := 0, locals := 12 } : Room) s m #[(.ref w_APPROVED), (.ref w_CANCELLED)] below meth c s₁ [] 0 0 := Stand.of_body Bd
  have e0 : s₁.heap = h0 := by rw [← hh, Bd.state]; rfl
  have N0 := Fr.nil n0
  have pre0 : ∀ t, Steps p.tables e below (s₁.setTop (mkF m 0 #[.val (.ref w_APPROVED), .val (.ref w_CANCELLED)] [])) t → Steps p.tables e below (s₁.setTop (entryFrame m #[(.ref w_APPROVED), (.ref w_CANCELLED)] 2)) t := fun t k => castTop (ef_cb_APPROVED m w_APPROVED w_CANCELLED) k
  have hE_ := hE; obtain ⟨S_w_PENDING, E_w_PENDING, S_w_RUNNING, E_w_RUNNING, S_w_AWAITING_RETRY, E_w_AWAITING_RETRY, S_w_AWAITING_HUMAN, E_w_AWAITING_HUMAN, S_w_APPROVED, E_w_APPROVED, S_w_COMPLETED, E_w_COMPLETED, S_w_FAILED, E_w_FAILED, S_w_SKIPPED, E_w_SKIPPED, S_w_CANCELLED, E_w_CANCELLED, F_ordinal_w_PENDING, F_ordinal_w_COMPLETED, F_ordinal_w_FAILED, F_ordinal_w_SKIPPED, F_ordinal_w_CANCELLED, F_ordinal_w_RUNNING, F_ordinal_w_AWAITING_HUMAN, F_ordinal_w_APPROVED, F_ordinal_w_AWAITING_RETRY⟩ := hE_
  obtain ⟨cq1, kq1, q1a, q1b, q1c⟩ := isOf hZ e0 (E_w_APPROVED.ext O0.2)
  obtain ⟨_, _, ⟨T1, L1, k1, n1⟩, -, X1, ⟨Lc1, hQ1, l1, y1, z1⟩, st1⟩ := X0.virtualBackUp hx (owner := "java/lang/Enum") (x := (⟨"com/example/glacial_workflow/glacialworkflow/core/StepState", "ordinal", "()I"⟩ : MethodName)) (y := (⟨"java/lang/Enum", "ordinal", "()I"⟩ : MethodName)) hown (mvT hZ (hw _ (List.mem_of_getElem? (i := 37) rfl))) (mvT hZ (hw _ (List.mem_of_getElem? (i := 38) rfl))) (mvT hZ (hw _ (List.mem_of_getElem? (i := 39) rfl))) (by decide) (mvT hZ (hw _ (List.mem_of_getElem? (i := 41) rfl))) (mvT hZ (hw _ (List.mem_of_getElem? (i := 40) rfl))) (backOf (W := 0) (ordn l Z a0 hw [] w_APPROVED (4 : Int32) h0 n0 O0 (F_ordinal_w_APPROVED.ext O0.2)) hZ (hw _ (List.mem_of_getElem? (i := 43) rfl)) (hw _ (List.mem_of_getElem? (i := 42) rfl)) (by decide) (by decide)) q1a q1c (g := (mkF m 1 #[.val (.ref w_APPROVED), .val (.ref w_CANCELLED)] [(.ref w_APPROVED)])) rfl (by rw [hml]; rfl) (Steps.refl _) (argsL := []) (rest := []) (lenOf pd___I rfl) rfl (by show 2 * 0 + _ ≤ _; exact Nat.le_of_eq rfl) (hb hby d2_1) (fun _ _ => ⟨rfl, e0, (by decide : 0 + 0 ≤ _), (by decide : 0 + 0 ≤ _)⟩)
  dsimp only [Pt.U, Pt.locs, Pt.cells, Pt.slots] at X1 l1 y1 z1 st1 hQ1
  subst l1 y1 z1
  obtain ⟨rfl, Nq1, eq1⟩ := hQ1
  have N1 := Fr.app N0 Nq1
  obtain ⟨T2, X2, e2, st2⟩ := getS2 X1 hx hZ hown (host := "") (Or.inl (hw _ (List.mem_of_getElem? (i := 46) rfl))) Via.refl eq1 (S_w_RUNNING.ext O0.2) (g := (mkF m 182 #[.val (.ref w_APPROVED), .val (.ref w_CANCELLED)] [(.ref w_CANCELLED)])) rfl (hb hby d2_182)
  obtain ⟨T3, X3, e3, st3⟩ := getS2 X2 hx hZ hown (host := "") (Or.inl (hw _ (List.mem_of_getElem? (i := 31) rfl))) Via.refl e2 (S_w_CANCELLED.ext O0.2) (g := (mkF m 189 #[.val (.ref w_APPROVED), .val (.ref w_CANCELLED)] [(.ref w_CANCELLED)])) rfl (hb hby d2_189)
  obtain ⟨fs, hr, hrun, hended, hW, hsame⟩ := X3.leave (v := some (.int (1 : Int32))) (fun h => by rw [Bd.returns] at h; cases h)
  refine ⟨_, _, pre0 _ ?_, hrun, hended, _, _, rfl, ?_, ⟨_, rfl⟩, hW, hsame.mono (by decide) (by decide)⟩
  · show Steps p.tables e below (s₁.setTop (mkF m 0 #[.val (.ref w_APPROVED), .val (.ref w_CANCELLED)] [])) _
    refine XS.aloadN X0.here hx rfl (hb hby d2_0) rfl rfl ?_
    show Steps p.tables e below (s₁.setTop (mkF m 1 #[.val (.ref w_APPROVED), .val (.ref w_CANCELLED)] [(.ref w_APPROVED)])) _
    refine st1.trans ?_
    show Steps p.tables e below (T1.setTop (mkF m 4 #[.val (.ref w_APPROVED), .val (.ref w_CANCELLED)] [(.int (4 : Int32))])) _
    refine XS.tswIn X1.here hx rfl (pc0 := 4) (pc' := 181) rfl (hb hby d2_4) rfl (by decide) (o := 177) (by decide) (by decide) (by decide) ?_
    show Steps p.tables e below (T1.setTop (mkF m 181 #[.val (.ref w_APPROVED), .val (.ref w_CANCELLED)] [])) _
    refine XS.aloadN X1.here hx rfl (hb hby d2_181) rfl rfl ?_
    show Steps p.tables e below (T1.setTop (mkF m 182 #[.val (.ref w_APPROVED), .val (.ref w_CANCELLED)] [(.ref w_CANCELLED)])) _
    refine st2 _ ?_
    show Steps p.tables e below (T2.setTop (mkF m 185 #[.val (.ref w_APPROVED), .val (.ref w_CANCELLED)] [(.ref w_RUNNING), (.ref w_CANCELLED)])) _
    refine Jvm.RoadKit.acmp (g := (mkF m 185 #[.val (.ref w_APPROVED), .val (.ref w_CANCELLED)] [(.ref w_RUNNING), (.ref w_CANCELLED)])) X2 hx rfl rfl rfl (pc0 := 185) (pc' := 188) (same := false) rfl (hb hby d2_185) rfl (decide_eq_false fun q => (Fld.ne F_ordinal_w_CANCELLED F_ordinal_w_RUNNING (by decide)) (Value.ref.inj q)) (by decide) (by decide) ?_
    show Steps p.tables e below (T2.setTop (mkF m 188 #[.val (.ref w_APPROVED), .val (.ref w_CANCELLED)] [])) _
    refine XS.aloadN X2.here hx rfl (hb hby d2_188) rfl rfl ?_
    show Steps p.tables e below (T2.setTop (mkF m 189 #[.val (.ref w_APPROVED), .val (.ref w_CANCELLED)] [(.ref w_CANCELLED)])) _
    refine st3 _ ?_
    show Steps p.tables e below (T3.setTop (mkF m 192 #[.val (.ref w_APPROVED), .val (.ref w_CANCELLED)] [(.ref w_CANCELLED), (.ref w_CANCELLED)])) _
    refine Jvm.RoadKit.acmp (g := (mkF m 192 #[.val (.ref w_APPROVED), .val (.ref w_CANCELLED)] [(.ref w_CANCELLED), (.ref w_CANCELLED)])) X3 hx rfl rfl rfl (pc0 := 192) (pc' := 195) (same := true) rfl (hb hby d2_192) rfl (decide_eq_true (congrArg Value.ref (rfl : w_CANCELLED = w_CANCELLED))) (by decide) (by decide) ?_
    show Steps p.tables e below (T3.setTop (mkF m 195 #[.val (.ref w_APPROVED), .val (.ref w_CANCELLED)] [])) _
    refine XS.iconst X3.here hx rfl (hb hby d2_195) ?_
    show Steps p.tables e below (T3.setTop (mkF m 196 #[.val (.ref w_APPROVED), .val (.ref w_CANCELLED)] [(.int (1 : Int32))])) _
    refine XS.goto X3.here hx rfl (pc0 := 196) (pc' := 247) rfl (hb hby d2_196) (by decide) (by decide) ?_
    show Steps p.tables e below (T3.setTop (mkF m 247 #[.val (.ref w_APPROVED), .val (.ref w_CANCELLED)] [(.int (1 : Int32))])) _
    exact retN X3 hx (t := .boolean) Bd.returns (by simp) (hb hby d2_247) hr
  · show Q_cb_APPROVED Z w_PENDING w_RUNNING w_AWAITING_RETRY w_AWAITING_HUMAN w_APPROVED w_COMPLETED w_FAILED w_SKIPPED w_CANCELLED h0 n0 _ T3.heap _
    rw [e3]
    exact ⟨rfl, N1, rfl⟩
theorem ef_he_COMPLETED (m : MethodId) (w_COMPLETED : Addr) : entryFrame m #[(.ref w_COMPLETED)] 1 = mkF m 0 #[.val (.ref w_COMPLETED)] [] := by first | (simp [entryFrame, mkF, argsToLocals, Value.category]; done) | rfl
def Q_he_COMPLETED (Z : State) (w_PENDING w_RUNNING w_AWAITING_RETRY w_AWAITING_HUMAN w_APPROVED w_COMPLETED w_FAILED w_SKIPPED w_CANCELLED : Addr) (h0 : Heap) (n0 : Nat) (v : Option Value) (h : Heap) (L : List Loc) : Prop := v = some (.int (1 : Int32)) ∧ Fr n0 L ∧ h = h0
set_option maxRecDepth 65536 in
set_option maxHeartbeats 40000000 in
theorem he_COMPLETED (l : Launch) (Z : State) (a0 : Array Value) (hw : ∀ d ∈ tables_1, d.before a0 Z = true) (ws : List Jvm.Cond) (w_PENDING w_RUNNING w_AWAITING_RETRY w_AWAITING_HUMAN w_APPROVED w_COMPLETED w_FAILED w_SKIPPED w_CANCELLED : Addr) (h0 : Heap) (n0 : Nat) (O0 : Old Z n0 h0) (hE : OwnEnv Z w_PENDING w_RUNNING w_AWAITING_RETRY w_AWAITING_HUMAN w_APPROVED w_COMPLETED w_FAILED w_SKIPPED w_CANCELLED) :
    MetFree l (⟨"com/example/glacial_workflow/glacialworkflow/core/StepState", "hasEnded", "()Z"⟩ : MethodName) (head1 (Jvm.Cond.code (⟨"com/example/glacial_workflow/glacialworkflow/core/StepState", "hasEnded", "()Z"⟩ : MethodName) prog_26_method_4_code 1 (some .boolean) :: ws) ({ frames := 0, cells := 0, slots := 0, locals := 0 } : Room)) (fun a U => a = #[(.ref w_COMPLETED)] ∧ Z.Warmed39 U.vm ∧ U.heap = h0) (fun _ _ _ _ _ => True) (fun _ U o U' => ∃ v L, o = .returned v ∧ Q_he_COMPLETED Z w_PENDING w_RUNNING w_AWAITING_RETRY w_AWAITING_HUMAN w_APPROVED w_COMPLETED w_FAILED w_SKIPPED w_CANCELLED h0 n0 v U'.heap L ∧ FrameEnd U o U' L ({ frames := 0, cells := 0, slots := 0, locals := 0 } : Room).cells ({ frames := 0, cells := 0, slots := 0, locals := 0 } : Room).slots) := by
  refine MetFree.of_bodySF (plainFor_of_name pn_com_example_glacial_workflow_glacialworkflow_core_StepState) hisR ?_
  intro p e s m args below meth c s₁ Bd hml0 hP hK
  obtain ⟨rfl, hZ, hh⟩ := hP
  have hx := Bd.exec
  have hby := Bd.bytes
  have hml : c.maxLocals = 1 := hml0
  have hown : s.vm.findClass "com/example/glacial_workflow/glacialworkflow/core/StepState" = some m.cls := findClass_of_methodNamed Bd.named
  have hnm := (name_of_methodNamed Bd.named Bd.method).1
  have X0 : Stand p l e ({ frames := 0, cells := 0, slots := 0, locals := 0 } : Room) s m #[(.ref w_COMPLETED)] below meth c s₁ [] 0 0 := Stand.of_body Bd
  have e0 : s₁.heap = h0 := by rw [← hh, Bd.state]; rfl
  have N0 := Fr.nil n0
  have pre0 : ∀ t, Steps p.tables e below (s₁.setTop (mkF m 0 #[.val (.ref w_COMPLETED)] [])) t → Steps p.tables e below (s₁.setTop (entryFrame m #[(.ref w_COMPLETED)] 1)) t := fun t k => castTop (ef_he_COMPLETED m w_COMPLETED) k
  have hE_ := hE; obtain ⟨S_w_PENDING, E_w_PENDING, S_w_RUNNING, E_w_RUNNING, S_w_AWAITING_RETRY, E_w_AWAITING_RETRY, S_w_AWAITING_HUMAN, E_w_AWAITING_HUMAN, S_w_APPROVED, E_w_APPROVED, S_w_COMPLETED, E_w_COMPLETED, S_w_FAILED, E_w_FAILED, S_w_SKIPPED, E_w_SKIPPED, S_w_CANCELLED, E_w_CANCELLED, F_ordinal_w_PENDING, F_ordinal_w_COMPLETED, F_ordinal_w_FAILED, F_ordinal_w_SKIPPED, F_ordinal_w_CANCELLED, F_ordinal_w_RUNNING, F_ordinal_w_AWAITING_HUMAN, F_ordinal_w_APPROVED, F_ordinal_w_AWAITING_RETRY⟩ := hE_
  obtain ⟨T1, X1, e1, st1⟩ := getS2 X0 hx hZ hown (host := "") (Or.inl (hw _ (List.mem_of_getElem? (i := 28) rfl))) Via.refl e0 (S_w_COMPLETED.ext O0.2) (g := (mkF m 1 #[.val (.ref w_COMPLETED)] [(.ref w_COMPLETED)])) rfl (hb hby d1_1)
  obtain ⟨fs, hr, hrun, hended, hW, hsame⟩ := X1.leave (v := some (.int (1 : Int32))) (fun h => by rw [Bd.returns] at h; cases h)
  refine ⟨_, _, pre0 _ ?_, hrun, hended, _, _, rfl, ?_, ⟨_, rfl⟩, hW, hsame.mono (by decide) (by decide)⟩
  · show Steps p.tables e below (s₁.setTop (mkF m 0 #[.val (.ref w_COMPLETED)] [])) _
    refine XS.aloadN X0.here hx rfl (hb hby d1_0) rfl rfl ?_
    show Steps p.tables e below (s₁.setTop (mkF m 1 #[.val (.ref w_COMPLETED)] [(.ref w_COMPLETED)])) _
    refine st1 _ ?_
    show Steps p.tables e below (T1.setTop (mkF m 4 #[.val (.ref w_COMPLETED)] [(.ref w_COMPLETED), (.ref w_COMPLETED)])) _
    refine Jvm.RoadKit.acmp (g := (mkF m 4 #[.val (.ref w_COMPLETED)] [(.ref w_COMPLETED), (.ref w_COMPLETED)])) X1 hx rfl rfl rfl (pc0 := 4) (pc' := 28) (same := true) rfl (hb hby d1_4) rfl (decide_eq_true (congrArg Value.ref (rfl : w_COMPLETED = w_COMPLETED))) (by decide) (by decide) ?_
    show Steps p.tables e below (T1.setTop (mkF m 28 #[.val (.ref w_COMPLETED)] [])) _
    refine XS.iconst X1.here hx rfl (hb hby d1_28) ?_
    show Steps p.tables e below (T1.setTop (mkF m 29 #[.val (.ref w_COMPLETED)] [(.int (1 : Int32))])) _
    refine XS.goto X1.here hx rfl (pc0 := 29) (pc' := 33) rfl (hb hby d1_29) (by decide) (by decide) ?_
    show Steps p.tables e below (T1.setTop (mkF m 33 #[.val (.ref w_COMPLETED)] [(.int (1 : Int32))])) _
    exact retN X1 hx (t := .boolean) Bd.returns (by simp) (hb hby d1_33) hr
  · show Q_he_COMPLETED Z w_PENDING w_RUNNING w_AWAITING_RETRY w_AWAITING_HUMAN w_APPROVED w_COMPLETED w_FAILED w_SKIPPED w_CANCELLED h0 n0 _ T1.heap _
    rw [e1]
    exact ⟨rfl, N0, rfl⟩
theorem ef_cb_COMPLETED (m : MethodId) (w_COMPLETED : Addr) (a1 : Addr) : entryFrame m #[(.ref w_COMPLETED), (.ref a1)] 2 = mkF m 0 #[.val (.ref w_COMPLETED), .val (.ref a1)] [] := by first | (simp [entryFrame, mkF, argsToLocals, Value.category]; done) | rfl
def Q_cb_COMPLETED (Z : State) (a1 : Addr) (w_PENDING w_RUNNING w_AWAITING_RETRY w_AWAITING_HUMAN w_APPROVED w_COMPLETED w_FAILED w_SKIPPED w_CANCELLED : Addr) (h0 : Heap) (n0 : Nat) (v : Option Value) (h : Heap) (L : List Loc) : Prop := v = some (.int (0 : Int32)) ∧ Fr n0 L ∧ h = h0
set_option maxRecDepth 65536 in
set_option maxHeartbeats 40000000 in
theorem cb_COMPLETED (l : Launch) (Z : State) (a0 : Array Value) (hw : ∀ d ∈ tables_1, d.before a0 Z = true) (ws : List Jvm.Cond) (a1 : Addr) (w_PENDING w_RUNNING w_AWAITING_RETRY w_AWAITING_HUMAN w_APPROVED w_COMPLETED w_FAILED w_SKIPPED w_CANCELLED : Addr) (h0 : Heap) (n0 : Nat) (O0 : Old Z n0 h0) (hE : OwnEnv Z w_PENDING w_RUNNING w_AWAITING_RETRY w_AWAITING_HUMAN w_APPROVED w_COMPLETED w_FAILED w_SKIPPED w_CANCELLED) :
    MetFree l (⟨"com/example/glacial_workflow/glacialworkflow/core/StepState", "canBecome", "(Lcom/example/glacial_workflow/glacialworkflow/core/StepState;)Z"⟩ : MethodName) (head1 (Jvm.Cond.code (⟨"com/example/glacial_workflow/glacialworkflow/core/StepState", "canBecome", "(Lcom/example/glacial_workflow/glacialworkflow/core/StepState;)Z"⟩ : MethodName) prog_26_method_5_code 2 (some .boolean) :: ws) ({ frames := 1, cells := 0, slots := 0, locals := 12 } : Room)) (fun a U => a = #[(.ref w_COMPLETED), (.ref a1)] ∧ Z.Warmed39 U.vm ∧ U.heap = h0) (fun _ _ _ _ _ => True) (fun _ U o U' => ∃ v L, o = .returned v ∧ Q_cb_COMPLETED Z a1 w_PENDING w_RUNNING w_AWAITING_RETRY w_AWAITING_HUMAN w_APPROVED w_COMPLETED w_FAILED w_SKIPPED w_CANCELLED h0 n0 v U'.heap L ∧ FrameEnd U o U' L ({ frames := 1, cells := 0, slots := 0, locals := 12 } : Room).cells ({ frames := 1, cells := 0, slots := 0, locals := 12 } : Room).slots) := by
  refine MetFree.of_bodySF (plainFor_of_name pn_com_example_glacial_workflow_glacialworkflow_core_StepState) hisR ?_
  intro p e s m args below meth c s₁ Bd hml0 hP hK
  obtain ⟨rfl, hZ, hh⟩ := hP
  have hx := Bd.exec
  have hby := Bd.bytes
  have hml : c.maxLocals = 2 := hml0
  have hown : s.vm.findClass "com/example/glacial_workflow/glacialworkflow/core/StepState" = some m.cls := findClass_of_methodNamed Bd.named
  have hnm := (name_of_methodNamed Bd.named Bd.method).1
  have X0 : Stand p l e ({ frames := 1, cells := 0, slots := 0, locals := 12 } : Room) s m #[(.ref w_COMPLETED), (.ref a1)] below meth c s₁ [] 0 0 := Stand.of_body Bd
  have e0 : s₁.heap = h0 := by rw [← hh, Bd.state]; rfl
  have N0 := Fr.nil n0
  have pre0 : ∀ t, Steps p.tables e below (s₁.setTop (mkF m 0 #[.val (.ref w_COMPLETED), .val (.ref a1)] [])) t → Steps p.tables e below (s₁.setTop (entryFrame m #[(.ref w_COMPLETED), (.ref a1)] 2)) t := fun t k => castTop (ef_cb_COMPLETED m w_COMPLETED a1) k
  have hE_ := hE; obtain ⟨S_w_PENDING, E_w_PENDING, S_w_RUNNING, E_w_RUNNING, S_w_AWAITING_RETRY, E_w_AWAITING_RETRY, S_w_AWAITING_HUMAN, E_w_AWAITING_HUMAN, S_w_APPROVED, E_w_APPROVED, S_w_COMPLETED, E_w_COMPLETED, S_w_FAILED, E_w_FAILED, S_w_SKIPPED, E_w_SKIPPED, S_w_CANCELLED, E_w_CANCELLED, F_ordinal_w_PENDING, F_ordinal_w_COMPLETED, F_ordinal_w_FAILED, F_ordinal_w_SKIPPED, F_ordinal_w_CANCELLED, F_ordinal_w_RUNNING, F_ordinal_w_AWAITING_HUMAN, F_ordinal_w_APPROVED, F_ordinal_w_AWAITING_RETRY⟩ := hE_
  obtain ⟨cq1, kq1, q1a, q1b, q1c⟩ := isOf hZ e0 (E_w_COMPLETED.ext O0.2)
  obtain ⟨_, _, ⟨T1, L1, k1, n1⟩, -, X1, ⟨Lc1, hQ1, l1, y1, z1⟩, st1⟩ := X0.virtualBackUp hx (owner := "java/lang/Enum") (x := (⟨"com/example/glacial_workflow/glacialworkflow/core/StepState", "ordinal", "()I"⟩ : MethodName)) (y := (⟨"java/lang/Enum", "ordinal", "()I"⟩ : MethodName)) hown (mvT hZ (hw _ (List.mem_of_getElem? (i := 37) rfl))) (mvT hZ (hw _ (List.mem_of_getElem? (i := 38) rfl))) (mvT hZ (hw _ (List.mem_of_getElem? (i := 39) rfl))) (by decide) (mvT hZ (hw _ (List.mem_of_getElem? (i := 41) rfl))) (mvT hZ (hw _ (List.mem_of_getElem? (i := 40) rfl))) (backOf (W := 0) (ordn l Z a0 hw [] w_COMPLETED (5 : Int32) h0 n0 O0 (F_ordinal_w_COMPLETED.ext O0.2)) hZ (hw _ (List.mem_of_getElem? (i := 43) rfl)) (hw _ (List.mem_of_getElem? (i := 42) rfl)) (by decide) (by decide)) q1a q1c (g := (mkF m 1 #[.val (.ref w_COMPLETED), .val (.ref a1)] [(.ref w_COMPLETED)])) rfl (by rw [hml]; rfl) (Steps.refl _) (argsL := []) (rest := []) (lenOf pd___I rfl) rfl (by show 2 * 0 + _ ≤ _; exact Nat.le_of_eq rfl) (hb hby d2_1) (fun _ _ => ⟨rfl, e0, (by decide : 0 + 0 ≤ _), (by decide : 0 + 0 ≤ _)⟩)
  dsimp only [Pt.U, Pt.locs, Pt.cells, Pt.slots] at X1 l1 y1 z1 st1 hQ1
  subst l1 y1 z1
  obtain ⟨rfl, Nq1, eq1⟩ := hQ1
  have N1 := Fr.app N0 Nq1
  obtain ⟨fs, hr, hrun, hended, hW, hsame⟩ := X1.leave (v := some (.int (0 : Int32))) (fun h => by rw [Bd.returns] at h; cases h)
  refine ⟨_, _, pre0 _ ?_, hrun, hended, _, _, rfl, ?_, ⟨_, rfl⟩, hW, hsame.mono (by decide) (by decide)⟩
  · show Steps p.tables e below (s₁.setTop (mkF m 0 #[.val (.ref w_COMPLETED), .val (.ref a1)] [])) _
    refine XS.aloadN X0.here hx rfl (hb hby d2_0) rfl rfl ?_
    show Steps p.tables e below (s₁.setTop (mkF m 1 #[.val (.ref w_COMPLETED), .val (.ref a1)] [(.ref w_COMPLETED)])) _
    refine st1.trans ?_
    show Steps p.tables e below (T1.setTop (mkF m 4 #[.val (.ref w_COMPLETED), .val (.ref a1)] [(.int (5 : Int32))])) _
    refine XS.tswIn X1.here hx rfl (pc0 := 4) (pc' := 246) rfl (hb hby d2_4) rfl (by decide) (o := 242) (by decide) (by decide) (by decide) ?_
    show Steps p.tables e below (T1.setTop (mkF m 246 #[.val (.ref w_COMPLETED), .val (.ref a1)] [])) _
    refine XS.iconst X1.here hx rfl (hb hby d2_246) ?_
    show Steps p.tables e below (T1.setTop (mkF m 247 #[.val (.ref w_COMPLETED), .val (.ref a1)] [(.int (0 : Int32))])) _
    exact retN X1 hx (t := .boolean) Bd.returns (by simp) (hb hby d2_247) hr
  · show Q_cb_COMPLETED Z a1 w_PENDING w_RUNNING w_AWAITING_RETRY w_AWAITING_HUMAN w_APPROVED w_COMPLETED w_FAILED w_SKIPPED w_CANCELLED h0 n0 _ T1.heap _
    rw [eq1]
    exact ⟨rfl, N1, rfl⟩
theorem ef_he_FAILED (m : MethodId) (w_FAILED : Addr) : entryFrame m #[(.ref w_FAILED)] 1 = mkF m 0 #[.val (.ref w_FAILED)] [] := by first | (simp [entryFrame, mkF, argsToLocals, Value.category]; done) | rfl
def Q_he_FAILED (Z : State) (w_PENDING w_RUNNING w_AWAITING_RETRY w_AWAITING_HUMAN w_APPROVED w_COMPLETED w_FAILED w_SKIPPED w_CANCELLED : Addr) (h0 : Heap) (n0 : Nat) (v : Option Value) (h : Heap) (L : List Loc) : Prop := v = some (.int (1 : Int32)) ∧ Fr n0 L ∧ h = h0
set_option maxRecDepth 65536 in
set_option maxHeartbeats 40000000 in
theorem he_FAILED (l : Launch) (Z : State) (a0 : Array Value) (hw : ∀ d ∈ tables_1, d.before a0 Z = true) (ws : List Jvm.Cond) (w_PENDING w_RUNNING w_AWAITING_RETRY w_AWAITING_HUMAN w_APPROVED w_COMPLETED w_FAILED w_SKIPPED w_CANCELLED : Addr) (h0 : Heap) (n0 : Nat) (O0 : Old Z n0 h0) (hE : OwnEnv Z w_PENDING w_RUNNING w_AWAITING_RETRY w_AWAITING_HUMAN w_APPROVED w_COMPLETED w_FAILED w_SKIPPED w_CANCELLED) :
    MetFree l (⟨"com/example/glacial_workflow/glacialworkflow/core/StepState", "hasEnded", "()Z"⟩ : MethodName) (head1 (Jvm.Cond.code (⟨"com/example/glacial_workflow/glacialworkflow/core/StepState", "hasEnded", "()Z"⟩ : MethodName) prog_26_method_4_code 1 (some .boolean) :: ws) ({ frames := 0, cells := 0, slots := 0, locals := 0 } : Room)) (fun a U => a = #[(.ref w_FAILED)] ∧ Z.Warmed39 U.vm ∧ U.heap = h0) (fun _ _ _ _ _ => True) (fun _ U o U' => ∃ v L, o = .returned v ∧ Q_he_FAILED Z w_PENDING w_RUNNING w_AWAITING_RETRY w_AWAITING_HUMAN w_APPROVED w_COMPLETED w_FAILED w_SKIPPED w_CANCELLED h0 n0 v U'.heap L ∧ FrameEnd U o U' L ({ frames := 0, cells := 0, slots := 0, locals := 0 } : Room).cells ({ frames := 0, cells := 0, slots := 0, locals := 0 } : Room).slots) := by
  refine MetFree.of_bodySF (plainFor_of_name pn_com_example_glacial_workflow_glacialworkflow_core_StepState) hisR ?_
  intro p e s m args below meth c s₁ Bd hml0 hP hK
  obtain ⟨rfl, hZ, hh⟩ := hP
  have hx := Bd.exec
  have hby := Bd.bytes
  have hml : c.maxLocals = 1 := hml0
  have hown : s.vm.findClass "com/example/glacial_workflow/glacialworkflow/core/StepState" = some m.cls := findClass_of_methodNamed Bd.named
  have hnm := (name_of_methodNamed Bd.named Bd.method).1
  have X0 : Stand p l e ({ frames := 0, cells := 0, slots := 0, locals := 0 } : Room) s m #[(.ref w_FAILED)] below meth c s₁ [] 0 0 := Stand.of_body Bd
  have e0 : s₁.heap = h0 := by rw [← hh, Bd.state]; rfl
  have N0 := Fr.nil n0
  have pre0 : ∀ t, Steps p.tables e below (s₁.setTop (mkF m 0 #[.val (.ref w_FAILED)] [])) t → Steps p.tables e below (s₁.setTop (entryFrame m #[(.ref w_FAILED)] 1)) t := fun t k => castTop (ef_he_FAILED m w_FAILED) k
  have hE_ := hE; obtain ⟨S_w_PENDING, E_w_PENDING, S_w_RUNNING, E_w_RUNNING, S_w_AWAITING_RETRY, E_w_AWAITING_RETRY, S_w_AWAITING_HUMAN, E_w_AWAITING_HUMAN, S_w_APPROVED, E_w_APPROVED, S_w_COMPLETED, E_w_COMPLETED, S_w_FAILED, E_w_FAILED, S_w_SKIPPED, E_w_SKIPPED, S_w_CANCELLED, E_w_CANCELLED, F_ordinal_w_PENDING, F_ordinal_w_COMPLETED, F_ordinal_w_FAILED, F_ordinal_w_SKIPPED, F_ordinal_w_CANCELLED, F_ordinal_w_RUNNING, F_ordinal_w_AWAITING_HUMAN, F_ordinal_w_APPROVED, F_ordinal_w_AWAITING_RETRY⟩ := hE_
  obtain ⟨T1, X1, e1, st1⟩ := getS2 X0 hx hZ hown (host := "") (Or.inl (hw _ (List.mem_of_getElem? (i := 28) rfl))) Via.refl e0 (S_w_COMPLETED.ext O0.2) (g := (mkF m 1 #[.val (.ref w_FAILED)] [(.ref w_FAILED)])) rfl (hb hby d1_1)
  obtain ⟨T2, X2, e2, st2⟩ := getS2 X1 hx hZ hown (host := "") (Or.inl (hw _ (List.mem_of_getElem? (i := 29) rfl))) Via.refl e1 (S_w_FAILED.ext O0.2) (g := (mkF m 8 #[.val (.ref w_FAILED)] [(.ref w_FAILED)])) rfl (hb hby d1_8)
  obtain ⟨fs, hr, hrun, hended, hW, hsame⟩ := X2.leave (v := some (.int (1 : Int32))) (fun h => by rw [Bd.returns] at h; cases h)
  refine ⟨_, _, pre0 _ ?_, hrun, hended, _, _, rfl, ?_, ⟨_, rfl⟩, hW, hsame.mono (by decide) (by decide)⟩
  · show Steps p.tables e below (s₁.setTop (mkF m 0 #[.val (.ref w_FAILED)] [])) _
    refine XS.aloadN X0.here hx rfl (hb hby d1_0) rfl rfl ?_
    show Steps p.tables e below (s₁.setTop (mkF m 1 #[.val (.ref w_FAILED)] [(.ref w_FAILED)])) _
    refine st1 _ ?_
    show Steps p.tables e below (T1.setTop (mkF m 4 #[.val (.ref w_FAILED)] [(.ref w_COMPLETED), (.ref w_FAILED)])) _
    refine Jvm.RoadKit.acmp (g := (mkF m 4 #[.val (.ref w_FAILED)] [(.ref w_COMPLETED), (.ref w_FAILED)])) X1 hx rfl rfl rfl (pc0 := 4) (pc' := 7) (same := false) rfl (hb hby d1_4) rfl (decide_eq_false fun q => (Ne.symm (Fld.ne F_ordinal_w_COMPLETED F_ordinal_w_FAILED (by decide))) (Value.ref.inj q)) (by decide) (by decide) ?_
    show Steps p.tables e below (T1.setTop (mkF m 7 #[.val (.ref w_FAILED)] [])) _
    refine XS.aloadN X1.here hx rfl (hb hby d1_7) rfl rfl ?_
    show Steps p.tables e below (T1.setTop (mkF m 8 #[.val (.ref w_FAILED)] [(.ref w_FAILED)])) _
    refine st2 _ ?_
    show Steps p.tables e below (T2.setTop (mkF m 11 #[.val (.ref w_FAILED)] [(.ref w_FAILED), (.ref w_FAILED)])) _
    refine Jvm.RoadKit.acmp (g := (mkF m 11 #[.val (.ref w_FAILED)] [(.ref w_FAILED), (.ref w_FAILED)])) X2 hx rfl rfl rfl (pc0 := 11) (pc' := 28) (same := true) rfl (hb hby d1_11) rfl (decide_eq_true (congrArg Value.ref (rfl : w_FAILED = w_FAILED))) (by decide) (by decide) ?_
    show Steps p.tables e below (T2.setTop (mkF m 28 #[.val (.ref w_FAILED)] [])) _
    refine XS.iconst X2.here hx rfl (hb hby d1_28) ?_
    show Steps p.tables e below (T2.setTop (mkF m 29 #[.val (.ref w_FAILED)] [(.int (1 : Int32))])) _
    refine XS.goto X2.here hx rfl (pc0 := 29) (pc' := 33) rfl (hb hby d1_29) (by decide) (by decide) ?_
    show Steps p.tables e below (T2.setTop (mkF m 33 #[.val (.ref w_FAILED)] [(.int (1 : Int32))])) _
    exact retN X2 hx (t := .boolean) Bd.returns (by simp) (hb hby d1_33) hr
  · show Q_he_FAILED Z w_PENDING w_RUNNING w_AWAITING_RETRY w_AWAITING_HUMAN w_APPROVED w_COMPLETED w_FAILED w_SKIPPED w_CANCELLED h0 n0 _ T2.heap _
    rw [e2]
    exact ⟨rfl, N0, rfl⟩
theorem ef_cb_FAILED (m : MethodId) (w_FAILED : Addr) (a1 : Addr) : entryFrame m #[(.ref w_FAILED), (.ref a1)] 2 = mkF m 0 #[.val (.ref w_FAILED), .val (.ref a1)] [] := by first | (simp [entryFrame, mkF, argsToLocals, Value.category]; done) | rfl
def Q_cb_FAILED (Z : State) (a1 : Addr) (w_PENDING w_RUNNING w_AWAITING_RETRY w_AWAITING_HUMAN w_APPROVED w_COMPLETED w_FAILED w_SKIPPED w_CANCELLED : Addr) (h0 : Heap) (n0 : Nat) (v : Option Value) (h : Heap) (L : List Loc) : Prop := v = some (.int (0 : Int32)) ∧ Fr n0 L ∧ h = h0
set_option maxRecDepth 65536 in
set_option maxHeartbeats 40000000 in
theorem cb_FAILED (l : Launch) (Z : State) (a0 : Array Value) (hw : ∀ d ∈ tables_1, d.before a0 Z = true) (ws : List Jvm.Cond) (a1 : Addr) (w_PENDING w_RUNNING w_AWAITING_RETRY w_AWAITING_HUMAN w_APPROVED w_COMPLETED w_FAILED w_SKIPPED w_CANCELLED : Addr) (h0 : Heap) (n0 : Nat) (O0 : Old Z n0 h0) (hE : OwnEnv Z w_PENDING w_RUNNING w_AWAITING_RETRY w_AWAITING_HUMAN w_APPROVED w_COMPLETED w_FAILED w_SKIPPED w_CANCELLED) :
    MetFree l (⟨"com/example/glacial_workflow/glacialworkflow/core/StepState", "canBecome", "(Lcom/example/glacial_workflow/glacialworkflow/core/StepState;)Z"⟩ : MethodName) (head1 (Jvm.Cond.code (⟨"com/example/glacial_workflow/glacialworkflow/core/StepState", "canBecome", "(Lcom/example/glacial_workflow/glacialworkflow/core/StepState;)Z"⟩ : MethodName) prog_26_method_5_code 2 (some .boolean) :: ws) ({ frames := 1, cells := 0, slots := 0, locals := 12 } : Room)) (fun a U => a = #[(.ref w_FAILED), (.ref a1)] ∧ Z.Warmed39 U.vm ∧ U.heap = h0) (fun _ _ _ _ _ => True) (fun _ U o U' => ∃ v L, o = .returned v ∧ Q_cb_FAILED Z a1 w_PENDING w_RUNNING w_AWAITING_RETRY w_AWAITING_HUMAN w_APPROVED w_COMPLETED w_FAILED w_SKIPPED w_CANCELLED h0 n0 v U'.heap L ∧ FrameEnd U o U' L ({ frames := 1, cells := 0, slots := 0, locals := 12 } : Room).cells ({ frames := 1, cells := 0, slots := 0, locals := 12 } : Room).slots) := by
  refine MetFree.of_bodySF (plainFor_of_name pn_com_example_glacial_workflow_glacialworkflow_core_StepState) hisR ?_
  intro p e s m args below meth c s₁ Bd hml0 hP hK
  obtain ⟨rfl, hZ, hh⟩ := hP
  have hx := Bd.exec
  have hby := Bd.bytes
  have hml : c.maxLocals = 2 := hml0
  have hown : s.vm.findClass "com/example/glacial_workflow/glacialworkflow/core/StepState" = some m.cls := findClass_of_methodNamed Bd.named
  have hnm := (name_of_methodNamed Bd.named Bd.method).1
  have X0 : Stand p l e ({ frames := 1, cells := 0, slots := 0, locals := 12 } : Room) s m #[(.ref w_FAILED), (.ref a1)] below meth c s₁ [] 0 0 := Stand.of_body Bd
  have e0 : s₁.heap = h0 := by rw [← hh, Bd.state]; rfl
  have N0 := Fr.nil n0
  have pre0 : ∀ t, Steps p.tables e below (s₁.setTop (mkF m 0 #[.val (.ref w_FAILED), .val (.ref a1)] [])) t → Steps p.tables e below (s₁.setTop (entryFrame m #[(.ref w_FAILED), (.ref a1)] 2)) t := fun t k => castTop (ef_cb_FAILED m w_FAILED a1) k
  have hE_ := hE; obtain ⟨S_w_PENDING, E_w_PENDING, S_w_RUNNING, E_w_RUNNING, S_w_AWAITING_RETRY, E_w_AWAITING_RETRY, S_w_AWAITING_HUMAN, E_w_AWAITING_HUMAN, S_w_APPROVED, E_w_APPROVED, S_w_COMPLETED, E_w_COMPLETED, S_w_FAILED, E_w_FAILED, S_w_SKIPPED, E_w_SKIPPED, S_w_CANCELLED, E_w_CANCELLED, F_ordinal_w_PENDING, F_ordinal_w_COMPLETED, F_ordinal_w_FAILED, F_ordinal_w_SKIPPED, F_ordinal_w_CANCELLED, F_ordinal_w_RUNNING, F_ordinal_w_AWAITING_HUMAN, F_ordinal_w_APPROVED, F_ordinal_w_AWAITING_RETRY⟩ := hE_
  obtain ⟨cq1, kq1, q1a, q1b, q1c⟩ := isOf hZ e0 (E_w_FAILED.ext O0.2)
  obtain ⟨_, _, ⟨T1, L1, k1, n1⟩, -, X1, ⟨Lc1, hQ1, l1, y1, z1⟩, st1⟩ := X0.virtualBackUp hx (owner := "java/lang/Enum") (x := (⟨"com/example/glacial_workflow/glacialworkflow/core/StepState", "ordinal", "()I"⟩ : MethodName)) (y := (⟨"java/lang/Enum", "ordinal", "()I"⟩ : MethodName)) hown (mvT hZ (hw _ (List.mem_of_getElem? (i := 37) rfl))) (mvT hZ (hw _ (List.mem_of_getElem? (i := 38) rfl))) (mvT hZ (hw _ (List.mem_of_getElem? (i := 39) rfl))) (by decide) (mvT hZ (hw _ (List.mem_of_getElem? (i := 41) rfl))) (mvT hZ (hw _ (List.mem_of_getElem? (i := 40) rfl))) (backOf (W := 0) (ordn l Z a0 hw [] w_FAILED (6 : Int32) h0 n0 O0 (F_ordinal_w_FAILED.ext O0.2)) hZ (hw _ (List.mem_of_getElem? (i := 43) rfl)) (hw _ (List.mem_of_getElem? (i := 42) rfl)) (by decide) (by decide)) q1a q1c (g := (mkF m 1 #[.val (.ref w_FAILED), .val (.ref a1)] [(.ref w_FAILED)])) rfl (by rw [hml]; rfl) (Steps.refl _) (argsL := []) (rest := []) (lenOf pd___I rfl) rfl (by show 2 * 0 + _ ≤ _; exact Nat.le_of_eq rfl) (hb hby d2_1) (fun _ _ => ⟨rfl, e0, (by decide : 0 + 0 ≤ _), (by decide : 0 + 0 ≤ _)⟩)
  dsimp only [Pt.U, Pt.locs, Pt.cells, Pt.slots] at X1 l1 y1 z1 st1 hQ1
  subst l1 y1 z1
  obtain ⟨rfl, Nq1, eq1⟩ := hQ1
  have N1 := Fr.app N0 Nq1
  obtain ⟨fs, hr, hrun, hended, hW, hsame⟩ := X1.leave (v := some (.int (0 : Int32))) (fun h => by rw [Bd.returns] at h; cases h)
  refine ⟨_, _, pre0 _ ?_, hrun, hended, _, _, rfl, ?_, ⟨_, rfl⟩, hW, hsame.mono (by decide) (by decide)⟩
  · show Steps p.tables e below (s₁.setTop (mkF m 0 #[.val (.ref w_FAILED), .val (.ref a1)] [])) _
    refine XS.aloadN X0.here hx rfl (hb hby d2_0) rfl rfl ?_
    show Steps p.tables e below (s₁.setTop (mkF m 1 #[.val (.ref w_FAILED), .val (.ref a1)] [(.ref w_FAILED)])) _
    refine st1.trans ?_
    show Steps p.tables e below (T1.setTop (mkF m 4 #[.val (.ref w_FAILED), .val (.ref a1)] [(.int (6 : Int32))])) _
    refine XS.tswIn X1.here hx rfl (pc0 := 4) (pc' := 246) rfl (hb hby d2_4) rfl (by decide) (o := 242) (by decide) (by decide) (by decide) ?_
    show Steps p.tables e below (T1.setTop (mkF m 246 #[.val (.ref w_FAILED), .val (.ref a1)] [])) _
    refine XS.iconst X1.here hx rfl (hb hby d2_246) ?_
    show Steps p.tables e below (T1.setTop (mkF m 247 #[.val (.ref w_FAILED), .val (.ref a1)] [(.int (0 : Int32))])) _
    exact retN X1 hx (t := .boolean) Bd.returns (by simp) (hb hby d2_247) hr
  · show Q_cb_FAILED Z a1 w_PENDING w_RUNNING w_AWAITING_RETRY w_AWAITING_HUMAN w_APPROVED w_COMPLETED w_FAILED w_SKIPPED w_CANCELLED h0 n0 _ T1.heap _
    rw [eq1]
    exact ⟨rfl, N1, rfl⟩
theorem ef_he_SKIPPED (m : MethodId) (w_SKIPPED : Addr) : entryFrame m #[(.ref w_SKIPPED)] 1 = mkF m 0 #[.val (.ref w_SKIPPED)] [] := by first | (simp [entryFrame, mkF, argsToLocals, Value.category]; done) | rfl
def Q_he_SKIPPED (Z : State) (w_PENDING w_RUNNING w_AWAITING_RETRY w_AWAITING_HUMAN w_APPROVED w_COMPLETED w_FAILED w_SKIPPED w_CANCELLED : Addr) (h0 : Heap) (n0 : Nat) (v : Option Value) (h : Heap) (L : List Loc) : Prop := v = some (.int (1 : Int32)) ∧ Fr n0 L ∧ h = h0
set_option maxRecDepth 65536 in
set_option maxHeartbeats 40000000 in
theorem he_SKIPPED (l : Launch) (Z : State) (a0 : Array Value) (hw : ∀ d ∈ tables_1, d.before a0 Z = true) (ws : List Jvm.Cond) (w_PENDING w_RUNNING w_AWAITING_RETRY w_AWAITING_HUMAN w_APPROVED w_COMPLETED w_FAILED w_SKIPPED w_CANCELLED : Addr) (h0 : Heap) (n0 : Nat) (O0 : Old Z n0 h0) (hE : OwnEnv Z w_PENDING w_RUNNING w_AWAITING_RETRY w_AWAITING_HUMAN w_APPROVED w_COMPLETED w_FAILED w_SKIPPED w_CANCELLED) :
    MetFree l (⟨"com/example/glacial_workflow/glacialworkflow/core/StepState", "hasEnded", "()Z"⟩ : MethodName) (head1 (Jvm.Cond.code (⟨"com/example/glacial_workflow/glacialworkflow/core/StepState", "hasEnded", "()Z"⟩ : MethodName) prog_26_method_4_code 1 (some .boolean) :: ws) ({ frames := 0, cells := 0, slots := 0, locals := 0 } : Room)) (fun a U => a = #[(.ref w_SKIPPED)] ∧ Z.Warmed39 U.vm ∧ U.heap = h0) (fun _ _ _ _ _ => True) (fun _ U o U' => ∃ v L, o = .returned v ∧ Q_he_SKIPPED Z w_PENDING w_RUNNING w_AWAITING_RETRY w_AWAITING_HUMAN w_APPROVED w_COMPLETED w_FAILED w_SKIPPED w_CANCELLED h0 n0 v U'.heap L ∧ FrameEnd U o U' L ({ frames := 0, cells := 0, slots := 0, locals := 0 } : Room).cells ({ frames := 0, cells := 0, slots := 0, locals := 0 } : Room).slots) := by
  refine MetFree.of_bodySF (plainFor_of_name pn_com_example_glacial_workflow_glacialworkflow_core_StepState) hisR ?_
  intro p e s m args below meth c s₁ Bd hml0 hP hK
  obtain ⟨rfl, hZ, hh⟩ := hP
  have hx := Bd.exec
  have hby := Bd.bytes
  have hml : c.maxLocals = 1 := hml0
  have hown : s.vm.findClass "com/example/glacial_workflow/glacialworkflow/core/StepState" = some m.cls := findClass_of_methodNamed Bd.named
  have hnm := (name_of_methodNamed Bd.named Bd.method).1
  have X0 : Stand p l e ({ frames := 0, cells := 0, slots := 0, locals := 0 } : Room) s m #[(.ref w_SKIPPED)] below meth c s₁ [] 0 0 := Stand.of_body Bd
  have e0 : s₁.heap = h0 := by rw [← hh, Bd.state]; rfl
  have N0 := Fr.nil n0
  have pre0 : ∀ t, Steps p.tables e below (s₁.setTop (mkF m 0 #[.val (.ref w_SKIPPED)] [])) t → Steps p.tables e below (s₁.setTop (entryFrame m #[(.ref w_SKIPPED)] 1)) t := fun t k => castTop (ef_he_SKIPPED m w_SKIPPED) k
  have hE_ := hE; obtain ⟨S_w_PENDING, E_w_PENDING, S_w_RUNNING, E_w_RUNNING, S_w_AWAITING_RETRY, E_w_AWAITING_RETRY, S_w_AWAITING_HUMAN, E_w_AWAITING_HUMAN, S_w_APPROVED, E_w_APPROVED, S_w_COMPLETED, E_w_COMPLETED, S_w_FAILED, E_w_FAILED, S_w_SKIPPED, E_w_SKIPPED, S_w_CANCELLED, E_w_CANCELLED, F_ordinal_w_PENDING, F_ordinal_w_COMPLETED, F_ordinal_w_FAILED, F_ordinal_w_SKIPPED, F_ordinal_w_CANCELLED, F_ordinal_w_RUNNING, F_ordinal_w_AWAITING_HUMAN, F_ordinal_w_APPROVED, F_ordinal_w_AWAITING_RETRY⟩ := hE_
  obtain ⟨T1, X1, e1, st1⟩ := getS2 X0 hx hZ hown (host := "") (Or.inl (hw _ (List.mem_of_getElem? (i := 28) rfl))) Via.refl e0 (S_w_COMPLETED.ext O0.2) (g := (mkF m 1 #[.val (.ref w_SKIPPED)] [(.ref w_SKIPPED)])) rfl (hb hby d1_1)
  obtain ⟨T2, X2, e2, st2⟩ := getS2 X1 hx hZ hown (host := "") (Or.inl (hw _ (List.mem_of_getElem? (i := 29) rfl))) Via.refl e1 (S_w_FAILED.ext O0.2) (g := (mkF m 8 #[.val (.ref w_SKIPPED)] [(.ref w_SKIPPED)])) rfl (hb hby d1_8)
  obtain ⟨T3, X3, e3, st3⟩ := getS2 X2 hx hZ hown (host := "") (Or.inl (hw _ (List.mem_of_getElem? (i := 30) rfl))) Via.refl e2 (S_w_SKIPPED.ext O0.2) (g := (mkF m 15 #[.val (.ref w_SKIPPED)] [(.ref w_SKIPPED)])) rfl (hb hby d1_15)
  obtain ⟨fs, hr, hrun, hended, hW, hsame⟩ := X3.leave (v := some (.int (1 : Int32))) (fun h => by rw [Bd.returns] at h; cases h)
  refine ⟨_, _, pre0 _ ?_, hrun, hended, _, _, rfl, ?_, ⟨_, rfl⟩, hW, hsame.mono (by decide) (by decide)⟩
  · show Steps p.tables e below (s₁.setTop (mkF m 0 #[.val (.ref w_SKIPPED)] [])) _
    refine XS.aloadN X0.here hx rfl (hb hby d1_0) rfl rfl ?_
    show Steps p.tables e below (s₁.setTop (mkF m 1 #[.val (.ref w_SKIPPED)] [(.ref w_SKIPPED)])) _
    refine st1 _ ?_
    show Steps p.tables e below (T1.setTop (mkF m 4 #[.val (.ref w_SKIPPED)] [(.ref w_COMPLETED), (.ref w_SKIPPED)])) _
    refine Jvm.RoadKit.acmp (g := (mkF m 4 #[.val (.ref w_SKIPPED)] [(.ref w_COMPLETED), (.ref w_SKIPPED)])) X1 hx rfl rfl rfl (pc0 := 4) (pc' := 7) (same := false) rfl (hb hby d1_4) rfl (decide_eq_false fun q => (Ne.symm (Fld.ne F_ordinal_w_COMPLETED F_ordinal_w_SKIPPED (by decide))) (Value.ref.inj q)) (by decide) (by decide) ?_
    show Steps p.tables e below (T1.setTop (mkF m 7 #[.val (.ref w_SKIPPED)] [])) _
    refine XS.aloadN X1.here hx rfl (hb hby d1_7) rfl rfl ?_
    show Steps p.tables e below (T1.setTop (mkF m 8 #[.val (.ref w_SKIPPED)] [(.ref w_SKIPPED)])) _
    refine st2 _ ?_
    show Steps p.tables e below (T2.setTop (mkF m 11 #[.val (.ref w_SKIPPED)] [(.ref w_FAILED), (.ref w_SKIPPED)])) _
    refine Jvm.RoadKit.acmp (g := (mkF m 11 #[.val (.ref w_SKIPPED)] [(.ref w_FAILED), (.ref w_SKIPPED)])) X2 hx rfl rfl rfl (pc0 := 11) (pc' := 14) (same := false) rfl (hb hby d1_11) rfl (decide_eq_false fun q => (Ne.symm (Fld.ne F_ordinal_w_FAILED F_ordinal_w_SKIPPED (by decide))) (Value.ref.inj q)) (by decide) (by decide) ?_
    show Steps p.tables e below (T2.setTop (mkF m 14 #[.val (.ref w_SKIPPED)] [])) _
    refine XS.aloadN X2.here hx rfl (hb hby d1_14) rfl rfl ?_
    show Steps p.tables e below (T2.setTop (mkF m 15 #[.val (.ref w_SKIPPED)] [(.ref w_SKIPPED)])) _
    refine st3 _ ?_
    show Steps p.tables e below (T3.setTop (mkF m 18 #[.val (.ref w_SKIPPED)] [(.ref w_SKIPPED), (.ref w_SKIPPED)])) _
    refine Jvm.RoadKit.acmp (g := (mkF m 18 #[.val (.ref w_SKIPPED)] [(.ref w_SKIPPED), (.ref w_SKIPPED)])) X3 hx rfl rfl rfl (pc0 := 18) (pc' := 28) (same := true) rfl (hb hby d1_18) rfl (decide_eq_true (congrArg Value.ref (rfl : w_SKIPPED = w_SKIPPED))) (by decide) (by decide) ?_
    show Steps p.tables e below (T3.setTop (mkF m 28 #[.val (.ref w_SKIPPED)] [])) _
    refine XS.iconst X3.here hx rfl (hb hby d1_28) ?_
    show Steps p.tables e below (T3.setTop (mkF m 29 #[.val (.ref w_SKIPPED)] [(.int (1 : Int32))])) _
    refine XS.goto X3.here hx rfl (pc0 := 29) (pc' := 33) rfl (hb hby d1_29) (by decide) (by decide) ?_
    show Steps p.tables e below (T3.setTop (mkF m 33 #[.val (.ref w_SKIPPED)] [(.int (1 : Int32))])) _
    exact retN X3 hx (t := .boolean) Bd.returns (by simp) (hb hby d1_33) hr
  · show Q_he_SKIPPED Z w_PENDING w_RUNNING w_AWAITING_RETRY w_AWAITING_HUMAN w_APPROVED w_COMPLETED w_FAILED w_SKIPPED w_CANCELLED h0 n0 _ T3.heap _
    rw [e3]
    exact ⟨rfl, N0, rfl⟩
theorem ef_cb_SKIPPED (m : MethodId) (w_SKIPPED : Addr) (a1 : Addr) : entryFrame m #[(.ref w_SKIPPED), (.ref a1)] 2 = mkF m 0 #[.val (.ref w_SKIPPED), .val (.ref a1)] [] := by first | (simp [entryFrame, mkF, argsToLocals, Value.category]; done) | rfl
def Q_cb_SKIPPED (Z : State) (a1 : Addr) (w_PENDING w_RUNNING w_AWAITING_RETRY w_AWAITING_HUMAN w_APPROVED w_COMPLETED w_FAILED w_SKIPPED w_CANCELLED : Addr) (h0 : Heap) (n0 : Nat) (v : Option Value) (h : Heap) (L : List Loc) : Prop := v = some (.int (0 : Int32)) ∧ Fr n0 L ∧ h = h0
set_option maxRecDepth 65536 in
set_option maxHeartbeats 40000000 in
theorem cb_SKIPPED (l : Launch) (Z : State) (a0 : Array Value) (hw : ∀ d ∈ tables_1, d.before a0 Z = true) (ws : List Jvm.Cond) (a1 : Addr) (w_PENDING w_RUNNING w_AWAITING_RETRY w_AWAITING_HUMAN w_APPROVED w_COMPLETED w_FAILED w_SKIPPED w_CANCELLED : Addr) (h0 : Heap) (n0 : Nat) (O0 : Old Z n0 h0) (hE : OwnEnv Z w_PENDING w_RUNNING w_AWAITING_RETRY w_AWAITING_HUMAN w_APPROVED w_COMPLETED w_FAILED w_SKIPPED w_CANCELLED) :
    MetFree l (⟨"com/example/glacial_workflow/glacialworkflow/core/StepState", "canBecome", "(Lcom/example/glacial_workflow/glacialworkflow/core/StepState;)Z"⟩ : MethodName) (head1 (Jvm.Cond.code (⟨"com/example/glacial_workflow/glacialworkflow/core/StepState", "canBecome", "(Lcom/example/glacial_workflow/glacialworkflow/core/StepState;)Z"⟩ : MethodName) prog_26_method_5_code 2 (some .boolean) :: ws) ({ frames := 1, cells := 0, slots := 0, locals := 12 } : Room)) (fun a U => a = #[(.ref w_SKIPPED), (.ref a1)] ∧ Z.Warmed39 U.vm ∧ U.heap = h0) (fun _ _ _ _ _ => True) (fun _ U o U' => ∃ v L, o = .returned v ∧ Q_cb_SKIPPED Z a1 w_PENDING w_RUNNING w_AWAITING_RETRY w_AWAITING_HUMAN w_APPROVED w_COMPLETED w_FAILED w_SKIPPED w_CANCELLED h0 n0 v U'.heap L ∧ FrameEnd U o U' L ({ frames := 1, cells := 0, slots := 0, locals := 12 } : Room).cells ({ frames := 1, cells := 0, slots := 0, locals := 12 } : Room).slots) := by
  refine MetFree.of_bodySF (plainFor_of_name pn_com_example_glacial_workflow_glacialworkflow_core_StepState) hisR ?_
  intro p e s m args below meth c s₁ Bd hml0 hP hK
  obtain ⟨rfl, hZ, hh⟩ := hP
  have hx := Bd.exec
  have hby := Bd.bytes
  have hml : c.maxLocals = 2 := hml0
  have hown : s.vm.findClass "com/example/glacial_workflow/glacialworkflow/core/StepState" = some m.cls := findClass_of_methodNamed Bd.named
  have hnm := (name_of_methodNamed Bd.named Bd.method).1
  have X0 : Stand p l e ({ frames := 1, cells := 0, slots := 0, locals := 12 } : Room) s m #[(.ref w_SKIPPED), (.ref a1)] below meth c s₁ [] 0 0 := Stand.of_body Bd
  have e0 : s₁.heap = h0 := by rw [← hh, Bd.state]; rfl
  have N0 := Fr.nil n0
  have pre0 : ∀ t, Steps p.tables e below (s₁.setTop (mkF m 0 #[.val (.ref w_SKIPPED), .val (.ref a1)] [])) t → Steps p.tables e below (s₁.setTop (entryFrame m #[(.ref w_SKIPPED), (.ref a1)] 2)) t := fun t k => castTop (ef_cb_SKIPPED m w_SKIPPED a1) k
  have hE_ := hE; obtain ⟨S_w_PENDING, E_w_PENDING, S_w_RUNNING, E_w_RUNNING, S_w_AWAITING_RETRY, E_w_AWAITING_RETRY, S_w_AWAITING_HUMAN, E_w_AWAITING_HUMAN, S_w_APPROVED, E_w_APPROVED, S_w_COMPLETED, E_w_COMPLETED, S_w_FAILED, E_w_FAILED, S_w_SKIPPED, E_w_SKIPPED, S_w_CANCELLED, E_w_CANCELLED, F_ordinal_w_PENDING, F_ordinal_w_COMPLETED, F_ordinal_w_FAILED, F_ordinal_w_SKIPPED, F_ordinal_w_CANCELLED, F_ordinal_w_RUNNING, F_ordinal_w_AWAITING_HUMAN, F_ordinal_w_APPROVED, F_ordinal_w_AWAITING_RETRY⟩ := hE_
  obtain ⟨cq1, kq1, q1a, q1b, q1c⟩ := isOf hZ e0 (E_w_SKIPPED.ext O0.2)
  obtain ⟨_, _, ⟨T1, L1, k1, n1⟩, -, X1, ⟨Lc1, hQ1, l1, y1, z1⟩, st1⟩ := X0.virtualBackUp hx (owner := "java/lang/Enum") (x := (⟨"com/example/glacial_workflow/glacialworkflow/core/StepState", "ordinal", "()I"⟩ : MethodName)) (y := (⟨"java/lang/Enum", "ordinal", "()I"⟩ : MethodName)) hown (mvT hZ (hw _ (List.mem_of_getElem? (i := 37) rfl))) (mvT hZ (hw _ (List.mem_of_getElem? (i := 38) rfl))) (mvT hZ (hw _ (List.mem_of_getElem? (i := 39) rfl))) (by decide) (mvT hZ (hw _ (List.mem_of_getElem? (i := 41) rfl))) (mvT hZ (hw _ (List.mem_of_getElem? (i := 40) rfl))) (backOf (W := 0) (ordn l Z a0 hw [] w_SKIPPED (7 : Int32) h0 n0 O0 (F_ordinal_w_SKIPPED.ext O0.2)) hZ (hw _ (List.mem_of_getElem? (i := 43) rfl)) (hw _ (List.mem_of_getElem? (i := 42) rfl)) (by decide) (by decide)) q1a q1c (g := (mkF m 1 #[.val (.ref w_SKIPPED), .val (.ref a1)] [(.ref w_SKIPPED)])) rfl (by rw [hml]; rfl) (Steps.refl _) (argsL := []) (rest := []) (lenOf pd___I rfl) rfl (by show 2 * 0 + _ ≤ _; exact Nat.le_of_eq rfl) (hb hby d2_1) (fun _ _ => ⟨rfl, e0, (by decide : 0 + 0 ≤ _), (by decide : 0 + 0 ≤ _)⟩)
  dsimp only [Pt.U, Pt.locs, Pt.cells, Pt.slots] at X1 l1 y1 z1 st1 hQ1
  subst l1 y1 z1
  obtain ⟨rfl, Nq1, eq1⟩ := hQ1
  have N1 := Fr.app N0 Nq1
  obtain ⟨fs, hr, hrun, hended, hW, hsame⟩ := X1.leave (v := some (.int (0 : Int32))) (fun h => by rw [Bd.returns] at h; cases h)
  refine ⟨_, _, pre0 _ ?_, hrun, hended, _, _, rfl, ?_, ⟨_, rfl⟩, hW, hsame.mono (by decide) (by decide)⟩
  · show Steps p.tables e below (s₁.setTop (mkF m 0 #[.val (.ref w_SKIPPED), .val (.ref a1)] [])) _
    refine XS.aloadN X0.here hx rfl (hb hby d2_0) rfl rfl ?_
    show Steps p.tables e below (s₁.setTop (mkF m 1 #[.val (.ref w_SKIPPED), .val (.ref a1)] [(.ref w_SKIPPED)])) _
    refine st1.trans ?_
    show Steps p.tables e below (T1.setTop (mkF m 4 #[.val (.ref w_SKIPPED), .val (.ref a1)] [(.int (7 : Int32))])) _
    refine XS.tswIn X1.here hx rfl (pc0 := 4) (pc' := 246) rfl (hb hby d2_4) rfl (by decide) (o := 242) (by decide) (by decide) (by decide) ?_
    show Steps p.tables e below (T1.setTop (mkF m 246 #[.val (.ref w_SKIPPED), .val (.ref a1)] [])) _
    refine XS.iconst X1.here hx rfl (hb hby d2_246) ?_
    show Steps p.tables e below (T1.setTop (mkF m 247 #[.val (.ref w_SKIPPED), .val (.ref a1)] [(.int (0 : Int32))])) _
    exact retN X1 hx (t := .boolean) Bd.returns (by simp) (hb hby d2_247) hr
  · show Q_cb_SKIPPED Z a1 w_PENDING w_RUNNING w_AWAITING_RETRY w_AWAITING_HUMAN w_APPROVED w_COMPLETED w_FAILED w_SKIPPED w_CANCELLED h0 n0 _ T1.heap _
    rw [eq1]
    exact ⟨rfl, N1, rfl⟩
theorem ef_he_CANCELLED (m : MethodId) (w_CANCELLED : Addr) : entryFrame m #[(.ref w_CANCELLED)] 1 = mkF m 0 #[.val (.ref w_CANCELLED)] [] := by first | (simp [entryFrame, mkF, argsToLocals, Value.category]; done) | rfl
def Q_he_CANCELLED (Z : State) (w_PENDING w_RUNNING w_AWAITING_RETRY w_AWAITING_HUMAN w_APPROVED w_COMPLETED w_FAILED w_SKIPPED w_CANCELLED : Addr) (h0 : Heap) (n0 : Nat) (v : Option Value) (h : Heap) (L : List Loc) : Prop := v = some (.int (1 : Int32)) ∧ Fr n0 L ∧ h = h0
set_option maxRecDepth 65536 in
set_option maxHeartbeats 40000000 in
theorem he_CANCELLED (l : Launch) (Z : State) (a0 : Array Value) (hw : ∀ d ∈ tables_1, d.before a0 Z = true) (ws : List Jvm.Cond) (w_PENDING w_RUNNING w_AWAITING_RETRY w_AWAITING_HUMAN w_APPROVED w_COMPLETED w_FAILED w_SKIPPED w_CANCELLED : Addr) (h0 : Heap) (n0 : Nat) (O0 : Old Z n0 h0) (hE : OwnEnv Z w_PENDING w_RUNNING w_AWAITING_RETRY w_AWAITING_HUMAN w_APPROVED w_COMPLETED w_FAILED w_SKIPPED w_CANCELLED) :
    MetFree l (⟨"com/example/glacial_workflow/glacialworkflow/core/StepState", "hasEnded", "()Z"⟩ : MethodName) (head1 (Jvm.Cond.code (⟨"com/example/glacial_workflow/glacialworkflow/core/StepState", "hasEnded", "()Z"⟩ : MethodName) prog_26_method_4_code 1 (some .boolean) :: ws) ({ frames := 0, cells := 0, slots := 0, locals := 0 } : Room)) (fun a U => a = #[(.ref w_CANCELLED)] ∧ Z.Warmed39 U.vm ∧ U.heap = h0) (fun _ _ _ _ _ => True) (fun _ U o U' => ∃ v L, o = .returned v ∧ Q_he_CANCELLED Z w_PENDING w_RUNNING w_AWAITING_RETRY w_AWAITING_HUMAN w_APPROVED w_COMPLETED w_FAILED w_SKIPPED w_CANCELLED h0 n0 v U'.heap L ∧ FrameEnd U o U' L ({ frames := 0, cells := 0, slots := 0, locals := 0 } : Room).cells ({ frames := 0, cells := 0, slots := 0, locals := 0 } : Room).slots) := by
  refine MetFree.of_bodySF (plainFor_of_name pn_com_example_glacial_workflow_glacialworkflow_core_StepState) hisR ?_
  intro p e s m args below meth c s₁ Bd hml0 hP hK
  obtain ⟨rfl, hZ, hh⟩ := hP
  have hx := Bd.exec
  have hby := Bd.bytes
  have hml : c.maxLocals = 1 := hml0
  have hown : s.vm.findClass "com/example/glacial_workflow/glacialworkflow/core/StepState" = some m.cls := findClass_of_methodNamed Bd.named
  have hnm := (name_of_methodNamed Bd.named Bd.method).1
  have X0 : Stand p l e ({ frames := 0, cells := 0, slots := 0, locals := 0 } : Room) s m #[(.ref w_CANCELLED)] below meth c s₁ [] 0 0 := Stand.of_body Bd
  have e0 : s₁.heap = h0 := by rw [← hh, Bd.state]; rfl
  have N0 := Fr.nil n0
  have pre0 : ∀ t, Steps p.tables e below (s₁.setTop (mkF m 0 #[.val (.ref w_CANCELLED)] [])) t → Steps p.tables e below (s₁.setTop (entryFrame m #[(.ref w_CANCELLED)] 1)) t := fun t k => castTop (ef_he_CANCELLED m w_CANCELLED) k
  have hE_ := hE; obtain ⟨S_w_PENDING, E_w_PENDING, S_w_RUNNING, E_w_RUNNING, S_w_AWAITING_RETRY, E_w_AWAITING_RETRY, S_w_AWAITING_HUMAN, E_w_AWAITING_HUMAN, S_w_APPROVED, E_w_APPROVED, S_w_COMPLETED, E_w_COMPLETED, S_w_FAILED, E_w_FAILED, S_w_SKIPPED, E_w_SKIPPED, S_w_CANCELLED, E_w_CANCELLED, F_ordinal_w_PENDING, F_ordinal_w_COMPLETED, F_ordinal_w_FAILED, F_ordinal_w_SKIPPED, F_ordinal_w_CANCELLED, F_ordinal_w_RUNNING, F_ordinal_w_AWAITING_HUMAN, F_ordinal_w_APPROVED, F_ordinal_w_AWAITING_RETRY⟩ := hE_
  obtain ⟨T1, X1, e1, st1⟩ := getS2 X0 hx hZ hown (host := "") (Or.inl (hw _ (List.mem_of_getElem? (i := 28) rfl))) Via.refl e0 (S_w_COMPLETED.ext O0.2) (g := (mkF m 1 #[.val (.ref w_CANCELLED)] [(.ref w_CANCELLED)])) rfl (hb hby d1_1)
  obtain ⟨T2, X2, e2, st2⟩ := getS2 X1 hx hZ hown (host := "") (Or.inl (hw _ (List.mem_of_getElem? (i := 29) rfl))) Via.refl e1 (S_w_FAILED.ext O0.2) (g := (mkF m 8 #[.val (.ref w_CANCELLED)] [(.ref w_CANCELLED)])) rfl (hb hby d1_8)
  obtain ⟨T3, X3, e3, st3⟩ := getS2 X2 hx hZ hown (host := "") (Or.inl (hw _ (List.mem_of_getElem? (i := 30) rfl))) Via.refl e2 (S_w_SKIPPED.ext O0.2) (g := (mkF m 15 #[.val (.ref w_CANCELLED)] [(.ref w_CANCELLED)])) rfl (hb hby d1_15)
  obtain ⟨T4, X4, e4, st4⟩ := getS2 X3 hx hZ hown (host := "") (Or.inl (hw _ (List.mem_of_getElem? (i := 31) rfl))) Via.refl e3 (S_w_CANCELLED.ext O0.2) (g := (mkF m 22 #[.val (.ref w_CANCELLED)] [(.ref w_CANCELLED)])) rfl (hb hby d1_22)
  obtain ⟨fs, hr, hrun, hended, hW, hsame⟩ := X4.leave (v := some (.int (1 : Int32))) (fun h => by rw [Bd.returns] at h; cases h)
  refine ⟨_, _, pre0 _ ?_, hrun, hended, _, _, rfl, ?_, ⟨_, rfl⟩, hW, hsame.mono (by decide) (by decide)⟩
  · show Steps p.tables e below (s₁.setTop (mkF m 0 #[.val (.ref w_CANCELLED)] [])) _
    refine XS.aloadN X0.here hx rfl (hb hby d1_0) rfl rfl ?_
    show Steps p.tables e below (s₁.setTop (mkF m 1 #[.val (.ref w_CANCELLED)] [(.ref w_CANCELLED)])) _
    refine st1 _ ?_
    show Steps p.tables e below (T1.setTop (mkF m 4 #[.val (.ref w_CANCELLED)] [(.ref w_COMPLETED), (.ref w_CANCELLED)])) _
    refine Jvm.RoadKit.acmp (g := (mkF m 4 #[.val (.ref w_CANCELLED)] [(.ref w_COMPLETED), (.ref w_CANCELLED)])) X1 hx rfl rfl rfl (pc0 := 4) (pc' := 7) (same := false) rfl (hb hby d1_4) rfl (decide_eq_false fun q => (Ne.symm (Fld.ne F_ordinal_w_COMPLETED F_ordinal_w_CANCELLED (by decide))) (Value.ref.inj q)) (by decide) (by decide) ?_
    show Steps p.tables e below (T1.setTop (mkF m 7 #[.val (.ref w_CANCELLED)] [])) _
    refine XS.aloadN X1.here hx rfl (hb hby d1_7) rfl rfl ?_
    show Steps p.tables e below (T1.setTop (mkF m 8 #[.val (.ref w_CANCELLED)] [(.ref w_CANCELLED)])) _
    refine st2 _ ?_
    show Steps p.tables e below (T2.setTop (mkF m 11 #[.val (.ref w_CANCELLED)] [(.ref w_FAILED), (.ref w_CANCELLED)])) _
    refine Jvm.RoadKit.acmp (g := (mkF m 11 #[.val (.ref w_CANCELLED)] [(.ref w_FAILED), (.ref w_CANCELLED)])) X2 hx rfl rfl rfl (pc0 := 11) (pc' := 14) (same := false) rfl (hb hby d1_11) rfl (decide_eq_false fun q => (Ne.symm (Fld.ne F_ordinal_w_FAILED F_ordinal_w_CANCELLED (by decide))) (Value.ref.inj q)) (by decide) (by decide) ?_
    show Steps p.tables e below (T2.setTop (mkF m 14 #[.val (.ref w_CANCELLED)] [])) _
    refine XS.aloadN X2.here hx rfl (hb hby d1_14) rfl rfl ?_
    show Steps p.tables e below (T2.setTop (mkF m 15 #[.val (.ref w_CANCELLED)] [(.ref w_CANCELLED)])) _
    refine st3 _ ?_
    show Steps p.tables e below (T3.setTop (mkF m 18 #[.val (.ref w_CANCELLED)] [(.ref w_SKIPPED), (.ref w_CANCELLED)])) _
    refine Jvm.RoadKit.acmp (g := (mkF m 18 #[.val (.ref w_CANCELLED)] [(.ref w_SKIPPED), (.ref w_CANCELLED)])) X3 hx rfl rfl rfl (pc0 := 18) (pc' := 21) (same := false) rfl (hb hby d1_18) rfl (decide_eq_false fun q => (Ne.symm (Fld.ne F_ordinal_w_SKIPPED F_ordinal_w_CANCELLED (by decide))) (Value.ref.inj q)) (by decide) (by decide) ?_
    show Steps p.tables e below (T3.setTop (mkF m 21 #[.val (.ref w_CANCELLED)] [])) _
    refine XS.aloadN X3.here hx rfl (hb hby d1_21) rfl rfl ?_
    show Steps p.tables e below (T3.setTop (mkF m 22 #[.val (.ref w_CANCELLED)] [(.ref w_CANCELLED)])) _
    refine st4 _ ?_
    show Steps p.tables e below (T4.setTop (mkF m 25 #[.val (.ref w_CANCELLED)] [(.ref w_CANCELLED), (.ref w_CANCELLED)])) _
    refine Jvm.RoadKit.acmp (g := (mkF m 25 #[.val (.ref w_CANCELLED)] [(.ref w_CANCELLED), (.ref w_CANCELLED)])) X4 hx rfl rfl rfl (pc0 := 25) (pc' := 28) (same := true) rfl (hb hby d1_25) rfl (decide_eq_true (congrArg Value.ref (rfl : w_CANCELLED = w_CANCELLED))) (by decide) (by decide) ?_
    show Steps p.tables e below (T4.setTop (mkF m 28 #[.val (.ref w_CANCELLED)] [])) _
    refine XS.iconst X4.here hx rfl (hb hby d1_28) ?_
    show Steps p.tables e below (T4.setTop (mkF m 29 #[.val (.ref w_CANCELLED)] [(.int (1 : Int32))])) _
    refine XS.goto X4.here hx rfl (pc0 := 29) (pc' := 33) rfl (hb hby d1_29) (by decide) (by decide) ?_
    show Steps p.tables e below (T4.setTop (mkF m 33 #[.val (.ref w_CANCELLED)] [(.int (1 : Int32))])) _
    exact retN X4 hx (t := .boolean) Bd.returns (by simp) (hb hby d1_33) hr
  · show Q_he_CANCELLED Z w_PENDING w_RUNNING w_AWAITING_RETRY w_AWAITING_HUMAN w_APPROVED w_COMPLETED w_FAILED w_SKIPPED w_CANCELLED h0 n0 _ T4.heap _
    rw [e4]
    exact ⟨rfl, N0, rfl⟩
theorem ef_cb_CANCELLED (m : MethodId) (w_CANCELLED : Addr) (a1 : Addr) : entryFrame m #[(.ref w_CANCELLED), (.ref a1)] 2 = mkF m 0 #[.val (.ref w_CANCELLED), .val (.ref a1)] [] := by first | (simp [entryFrame, mkF, argsToLocals, Value.category]; done) | rfl
def Q_cb_CANCELLED (Z : State) (a1 : Addr) (w_PENDING w_RUNNING w_AWAITING_RETRY w_AWAITING_HUMAN w_APPROVED w_COMPLETED w_FAILED w_SKIPPED w_CANCELLED : Addr) (h0 : Heap) (n0 : Nat) (v : Option Value) (h : Heap) (L : List Loc) : Prop := v = some (.int (0 : Int32)) ∧ Fr n0 L ∧ h = h0
set_option maxRecDepth 65536 in
set_option maxHeartbeats 40000000 in
theorem cb_CANCELLED (l : Launch) (Z : State) (a0 : Array Value) (hw : ∀ d ∈ tables_1, d.before a0 Z = true) (ws : List Jvm.Cond) (a1 : Addr) (w_PENDING w_RUNNING w_AWAITING_RETRY w_AWAITING_HUMAN w_APPROVED w_COMPLETED w_FAILED w_SKIPPED w_CANCELLED : Addr) (h0 : Heap) (n0 : Nat) (O0 : Old Z n0 h0) (hE : OwnEnv Z w_PENDING w_RUNNING w_AWAITING_RETRY w_AWAITING_HUMAN w_APPROVED w_COMPLETED w_FAILED w_SKIPPED w_CANCELLED) :
    MetFree l (⟨"com/example/glacial_workflow/glacialworkflow/core/StepState", "canBecome", "(Lcom/example/glacial_workflow/glacialworkflow/core/StepState;)Z"⟩ : MethodName) (head1 (Jvm.Cond.code (⟨"com/example/glacial_workflow/glacialworkflow/core/StepState", "canBecome", "(Lcom/example/glacial_workflow/glacialworkflow/core/StepState;)Z"⟩ : MethodName) prog_26_method_5_code 2 (some .boolean) :: ws) ({ frames := 1, cells := 0, slots := 0, locals := 12 } : Room)) (fun a U => a = #[(.ref w_CANCELLED), (.ref a1)] ∧ Z.Warmed39 U.vm ∧ U.heap = h0) (fun _ _ _ _ _ => True) (fun _ U o U' => ∃ v L, o = .returned v ∧ Q_cb_CANCELLED Z a1 w_PENDING w_RUNNING w_AWAITING_RETRY w_AWAITING_HUMAN w_APPROVED w_COMPLETED w_FAILED w_SKIPPED w_CANCELLED h0 n0 v U'.heap L ∧ FrameEnd U o U' L ({ frames := 1, cells := 0, slots := 0, locals := 12 } : Room).cells ({ frames := 1, cells := 0, slots := 0, locals := 12 } : Room).slots) := by
  refine MetFree.of_bodySF (plainFor_of_name pn_com_example_glacial_workflow_glacialworkflow_core_StepState) hisR ?_
  intro p e s m args below meth c s₁ Bd hml0 hP hK
  obtain ⟨rfl, hZ, hh⟩ := hP
  have hx := Bd.exec
  have hby := Bd.bytes
  have hml : c.maxLocals = 2 := hml0
  have hown : s.vm.findClass "com/example/glacial_workflow/glacialworkflow/core/StepState" = some m.cls := findClass_of_methodNamed Bd.named
  have hnm := (name_of_methodNamed Bd.named Bd.method).1
  have X0 : Stand p l e ({ frames := 1, cells := 0, slots := 0, locals := 12 } : Room) s m #[(.ref w_CANCELLED), (.ref a1)] below meth c s₁ [] 0 0 := Stand.of_body Bd
  have e0 : s₁.heap = h0 := by rw [← hh, Bd.state]; rfl
  have N0 := Fr.nil n0
  have pre0 : ∀ t, Steps p.tables e below (s₁.setTop (mkF m 0 #[.val (.ref w_CANCELLED), .val (.ref a1)] [])) t → Steps p.tables e below (s₁.setTop (entryFrame m #[(.ref w_CANCELLED), (.ref a1)] 2)) t := fun t k => castTop (ef_cb_CANCELLED m w_CANCELLED a1) k
  have hE_ := hE; obtain ⟨S_w_PENDING, E_w_PENDING, S_w_RUNNING, E_w_RUNNING, S_w_AWAITING_RETRY, E_w_AWAITING_RETRY, S_w_AWAITING_HUMAN, E_w_AWAITING_HUMAN, S_w_APPROVED, E_w_APPROVED, S_w_COMPLETED, E_w_COMPLETED, S_w_FAILED, E_w_FAILED, S_w_SKIPPED, E_w_SKIPPED, S_w_CANCELLED, E_w_CANCELLED, F_ordinal_w_PENDING, F_ordinal_w_COMPLETED, F_ordinal_w_FAILED, F_ordinal_w_SKIPPED, F_ordinal_w_CANCELLED, F_ordinal_w_RUNNING, F_ordinal_w_AWAITING_HUMAN, F_ordinal_w_APPROVED, F_ordinal_w_AWAITING_RETRY⟩ := hE_
  obtain ⟨cq1, kq1, q1a, q1b, q1c⟩ := isOf hZ e0 (E_w_CANCELLED.ext O0.2)
  obtain ⟨_, _, ⟨T1, L1, k1, n1⟩, -, X1, ⟨Lc1, hQ1, l1, y1, z1⟩, st1⟩ := X0.virtualBackUp hx (owner := "java/lang/Enum") (x := (⟨"com/example/glacial_workflow/glacialworkflow/core/StepState", "ordinal", "()I"⟩ : MethodName)) (y := (⟨"java/lang/Enum", "ordinal", "()I"⟩ : MethodName)) hown (mvT hZ (hw _ (List.mem_of_getElem? (i := 37) rfl))) (mvT hZ (hw _ (List.mem_of_getElem? (i := 38) rfl))) (mvT hZ (hw _ (List.mem_of_getElem? (i := 39) rfl))) (by decide) (mvT hZ (hw _ (List.mem_of_getElem? (i := 41) rfl))) (mvT hZ (hw _ (List.mem_of_getElem? (i := 40) rfl))) (backOf (W := 0) (ordn l Z a0 hw [] w_CANCELLED (8 : Int32) h0 n0 O0 (F_ordinal_w_CANCELLED.ext O0.2)) hZ (hw _ (List.mem_of_getElem? (i := 43) rfl)) (hw _ (List.mem_of_getElem? (i := 42) rfl)) (by decide) (by decide)) q1a q1c (g := (mkF m 1 #[.val (.ref w_CANCELLED), .val (.ref a1)] [(.ref w_CANCELLED)])) rfl (by rw [hml]; rfl) (Steps.refl _) (argsL := []) (rest := []) (lenOf pd___I rfl) rfl (by show 2 * 0 + _ ≤ _; exact Nat.le_of_eq rfl) (hb hby d2_1) (fun _ _ => ⟨rfl, e0, (by decide : 0 + 0 ≤ _), (by decide : 0 + 0 ≤ _)⟩)
  dsimp only [Pt.U, Pt.locs, Pt.cells, Pt.slots] at X1 l1 y1 z1 st1 hQ1
  subst l1 y1 z1
  obtain ⟨rfl, Nq1, eq1⟩ := hQ1
  have N1 := Fr.app N0 Nq1
  obtain ⟨fs, hr, hrun, hended, hW, hsame⟩ := X1.leave (v := some (.int (0 : Int32))) (fun h => by rw [Bd.returns] at h; cases h)
  refine ⟨_, _, pre0 _ ?_, hrun, hended, _, _, rfl, ?_, ⟨_, rfl⟩, hW, hsame.mono (by decide) (by decide)⟩
  · show Steps p.tables e below (s₁.setTop (mkF m 0 #[.val (.ref w_CANCELLED), .val (.ref a1)] [])) _
    refine XS.aloadN X0.here hx rfl (hb hby d2_0) rfl rfl ?_
    show Steps p.tables e below (s₁.setTop (mkF m 1 #[.val (.ref w_CANCELLED), .val (.ref a1)] [(.ref w_CANCELLED)])) _
    refine st1.trans ?_
    show Steps p.tables e below (T1.setTop (mkF m 4 #[.val (.ref w_CANCELLED), .val (.ref a1)] [(.int (8 : Int32))])) _
    refine XS.tswIn X1.here hx rfl (pc0 := 4) (pc' := 246) rfl (hb hby d2_4) rfl (by decide) (o := 242) (by decide) (by decide) (by decide) ?_
    show Steps p.tables e below (T1.setTop (mkF m 246 #[.val (.ref w_CANCELLED), .val (.ref a1)] [])) _
    refine XS.iconst X1.here hx rfl (hb hby d2_246) ?_
    show Steps p.tables e below (T1.setTop (mkF m 247 #[.val (.ref w_CANCELLED), .val (.ref a1)] [(.int (0 : Int32))])) _
    exact retN X1 hx (t := .boolean) Bd.returns (by simp) (hb hby d2_247) hr
  · show Q_cb_CANCELLED Z a1 w_PENDING w_RUNNING w_AWAITING_RETRY w_AWAITING_HUMAN w_APPROVED w_COMPLETED w_FAILED w_SKIPPED w_CANCELLED h0 n0 _ T1.heap _
    rw [eq1]
    exact ⟨rfl, N1, rfl⟩
theorem ef_rm0 (m : MethodId) (p1 : Int32) (p2 : Int32) : entryFrame m #[(.int p1), (.int p2)] maxLocals = mkF m 0 #[.val (.int p1), .val (.int p2), .unset, .unset, .unset, .unset] [] := by first | (simp [entryFrame, mkF, argsToLocals, Value.category, maxLocals]; done) | rfl
def Q_rm0 (Z : State) (p1 p2 : Int32) (w_PENDING w_RUNNING w_AWAITING_RETRY w_AWAITING_HUMAN w_APPROVED w_COMPLETED w_FAILED w_SKIPPED w_CANCELLED : Addr) (h0 : Heap) (n0 : Nat) (v : Option Value) (h : Heap) (L : List Loc) : Prop := v = some (.int (1 : Int32)) ∧ Fr n0 L
set_option maxRecDepth 65536 in
set_option maxHeartbeats 40000000 in
theorem rm0 (l : Launch) (Z : State) (a0 : Array Value) (hw : ∀ d ∈ tables_1, d.before a0 Z = true) (ws : List Jvm.Cond) (p1 p2 : Int32) (w_PENDING w_RUNNING w_AWAITING_RETRY w_AWAITING_HUMAN w_APPROVED w_COMPLETED w_FAILED w_SKIPPED w_CANCELLED : Addr) (h0 : Heap) (n0 : Nat) (O0 : Old Z n0 h0) (hE : OwnEnv Z w_PENDING w_RUNNING w_AWAITING_RETRY w_AWAITING_HUMAN w_APPROVED w_COMPLETED w_FAILED w_SKIPPED w_CANCELLED) :
    MetFree l x (head1 (Jvm.Cond.code x code maxLocals ret :: ws) room_1) (fun a U => a = #[(.int p1), (.int p2)] ∧ Z.Warmed39 U.vm ∧ U.heap = h0) (fun _ _ _ _ _ => True) (fun _ U o U' => ∃ v L, o = .returned v ∧ Q_rm0 Z p1 p2 w_PENDING w_RUNNING w_AWAITING_RETRY w_AWAITING_HUMAN w_APPROVED w_COMPLETED w_FAILED w_SKIPPED w_CANCELLED h0 n0 v U'.heap L ∧ FrameEnd U o U' L room_1.cells room_1.slots) := by
  refine MetFree.of_bodySF (plainFor_of_name pn_com_example_glacial_workflow_glacialworkflow_core_StepStateHasEndedPinLaw) hisR ?_
  intro p e s m args below meth c s₁ Bd hml0 hP hK
  obtain ⟨rfl, hZ, hh⟩ := hP
  have hx := Bd.exec
  have hby := Bd.bytes
  have hml : c.maxLocals = 6 := hml0
  have hown : s.vm.findClass "com/example/glacial_workflow/glacialworkflow/core/StepStateHasEndedPinLaw" = some m.cls := findClass_of_methodNamed Bd.named
  have hnm := (name_of_methodNamed Bd.named Bd.method).1
  have X0 : Stand p l e room_1 s m #[(.int p1), (.int p2)] below meth c s₁ [] 0 0 := Stand.of_body Bd
  have e0 : s₁.heap = h0 := by rw [← hh, Bd.state]; rfl
  have N0 := Fr.nil n0
  have pre0 : ∀ t, Steps p.tables e below (s₁.setTop (mkF m 0 #[.val (.int p1), .val (.int p2), .unset, .unset, .unset, .unset] [])) t → Steps p.tables e below (s₁.setTop (entryFrame m #[(.int p1), (.int p2)] maxLocals)) t := fun t k => castTop (ef_rm0 m p1 p2) k
  have hE_ := hE; obtain ⟨S_w_PENDING, E_w_PENDING, S_w_RUNNING, E_w_RUNNING, S_w_AWAITING_RETRY, E_w_AWAITING_RETRY, S_w_AWAITING_HUMAN, E_w_AWAITING_HUMAN, S_w_APPROVED, E_w_APPROVED, S_w_COMPLETED, E_w_COMPLETED, S_w_FAILED, E_w_FAILED, S_w_SKIPPED, E_w_SKIPPED, S_w_CANCELLED, E_w_CANCELLED, F_ordinal_w_PENDING, F_ordinal_w_COMPLETED, F_ordinal_w_FAILED, F_ordinal_w_SKIPPED, F_ordinal_w_CANCELLED, F_ordinal_w_RUNNING, F_ordinal_w_AWAITING_HUMAN, F_ordinal_w_APPROVED, F_ordinal_w_AWAITING_RETRY⟩ := hE_
  obtain ⟨T1, h1, k1, X1, e1, E1, A1, Ov1, st1⟩ := newR X0 hx hZ hown (hw _ (List.mem_of_getElem? (i := 0) rfl)) (hw _ (List.mem_of_getElem? (i := 1) rfl)) e0 (g := (mkF m 2 #[.val (.int p1), .val (.int p2), .unset, .unset, .unset, .unset] [(.int (9 : Int32))])) rfl (hb hby at_2) rfl (by decide) (cap := 9) (by decide) (by decide) (by decide) (by decide)
  obtain ⟨b1, g1⟩ : ∃ z, z = h0.size := ⟨_, rfl⟩
  rw [← g1] at A1 st1
  have g_b1 : n0 ≤ b1 := Nat.le_trans (own_le O0) (Nat.le_of_eq g1.symm)
  have O1 := O0.ext E1
  have V1 : Arv Z h1 b1 k1 (.object "com/example/glacial_workflow/glacialworkflow/core/StepState") (9 : Int32) [.null, .null, .null, .null, .null, .null, .null, .null, .null] .null := (Arv.new A1 (by decide)).pad (pad_rep [] .null 9)
  obtain ⟨T2, X2, e2, st2⟩ := getS2 X1 hx hZ hown (host := "") (Or.inl (hw _ (List.mem_of_getElem? (i := 2) rfl))) Via.refl e1 (S_w_PENDING.ext O1.2) (g := (mkF m 7 #[.val (.int p1), .val (.int p2), .unset, .unset, .unset, .unset] [(.int (0 : Int32)), (.ref b1), (.ref b1)])) rfl (hb hby at_7)
  have Vc3 := V1
  obtain ⟨cl3, Ar3, qa3, Sz3, Nn3, Ha3, Ga3⟩ := Vc3
  have hin3 : ¬ ((0 : Int32) < 0 ∨ cl3.slots.size ≤ ((0 : Int32)).toNatClampNeg) := inb_of Sz3 ⟨by decide, by decide⟩
  obtain ⟨T3, h3, X3, e3, W3, st3⟩ := stR X2 hx hZ e2 Ar3 (j := (0 : Int32)) hin3 rfl (Sto.ofV Ar3 qa3 Ov1 (Ins.self (E_w_PENDING.ext O1.2))) (g := (mkF m 10 #[.val (.int p1), .val (.int p2), .unset, .unset, .unset, .unset] [(.ref w_PENDING), (.int (0 : Int32)), (.ref b1), (.ref b1)])) rfl rfl (hb hby at_10)
  have V3 : Arv Z h3 b1 k1 (.object "com/example/glacial_workflow/glacialworkflow/core/StepState") (9 : Int32) [(.ref w_PENDING), .null, .null, .null, .null, .null, .null, .null, .null] .null := Arv.set Ar3 qa3 Sz3 Nn3 Ha3 Ga3 rfl W3 0 rfl (Nat.le_of_ble_eq_true rfl)
  have O3 := O1.wr W3 g_b1
  have N3 := Fr.snoc X3 N0 g_b1
  obtain ⟨T4, X4, e4, st4⟩ := getS2 X3 hx hZ hown (host := "") (Or.inl (hw _ (List.mem_of_getElem? (i := 6) rfl))) Via.refl e3 (S_w_RUNNING.ext O3.2) (g := (mkF m 13 #[.val (.int p1), .val (.int p2), .unset, .unset, .unset, .unset] [(.int (1 : Int32)), (.ref b1), (.ref b1)])) rfl (hb hby at_13)
  have Vc5 := V3
  obtain ⟨cl5, Ar5, qa5, Sz5, Nn5, Ha5, Ga5⟩ := Vc5
  have hin5 : ¬ ((1 : Int32) < 0 ∨ cl5.slots.size ≤ ((1 : Int32)).toNatClampNeg) := inb_of Sz5 ⟨by decide, by decide⟩
  obtain ⟨T5, h5, X5, e5, W5, st5⟩ := stR X4 hx hZ e4 Ar5 (j := (1 : Int32)) hin5 rfl (Sto.ofV Ar5 qa5 Ov1 (Ins.self (E_w_RUNNING.ext O3.2))) (g := (mkF m 16 #[.val (.int p1), .val (.int p2), .unset, .unset, .unset, .unset] [(.ref w_RUNNING), (.int (1 : Int32)), (.ref b1), (.ref b1)])) rfl rfl (hb hby at_16)
  have V5 : Arv Z h5 b1 k1 (.object "com/example/glacial_workflow/glacialworkflow/core/StepState") (9 : Int32) [(.ref w_PENDING), (.ref w_RUNNING), .null, .null, .null, .null, .null, .null, .null] .null := Arv.set Ar5 qa5 Sz5 Nn5 Ha5 Ga5 rfl W5 1 rfl (Nat.le_of_ble_eq_true rfl)
  have O5 := O3.wr W5 g_b1
  have N5 := Fr.snoc X5 N3 g_b1
  obtain ⟨T6, X6, e6, st6⟩ := getS2 X5 hx hZ hown (host := "") (Or.inl (hw _ (List.mem_of_getElem? (i := 8) rfl))) Via.refl e5 (S_w_AWAITING_RETRY.ext O5.2) (g := (mkF m 19 #[.val (.int p1), .val (.int p2), .unset, .unset, .unset, .unset] [(.int (2 : Int32)), (.ref b1), (.ref b1)])) rfl (hb hby at_19)
  have Vc7 := V5
  obtain ⟨cl7, Ar7, qa7, Sz7, Nn7, Ha7, Ga7⟩ := Vc7
  have hin7 : ¬ ((2 : Int32) < 0 ∨ cl7.slots.size ≤ ((2 : Int32)).toNatClampNeg) := inb_of Sz7 ⟨by decide, by decide⟩
  obtain ⟨T7, h7, X7, e7, W7, st7⟩ := stR X6 hx hZ e6 Ar7 (j := (2 : Int32)) hin7 rfl (Sto.ofV Ar7 qa7 Ov1 (Ins.self (E_w_AWAITING_RETRY.ext O5.2))) (g := (mkF m 22 #[.val (.int p1), .val (.int p2), .unset, .unset, .unset, .unset] [(.ref w_AWAITING_RETRY), (.int (2 : Int32)), (.ref b1), (.ref b1)])) rfl rfl (hb hby at_22)
  have V7 : Arv Z h7 b1 k1 (.object "com/example/glacial_workflow/glacialworkflow/core/StepState") (9 : Int32) [(.ref w_PENDING), (.ref w_RUNNING), (.ref w_AWAITING_RETRY), .null, .null, .null, .null, .null, .null] .null := Arv.set Ar7 qa7 Sz7 Nn7 Ha7 Ga7 rfl W7 2 rfl (Nat.le_of_ble_eq_true rfl)
  have O7 := O5.wr W7 g_b1
  have N7 := Fr.snoc X7 N5 g_b1
  obtain ⟨T8, X8, e8, st8⟩ := getS2 X7 hx hZ hown (host := "") (Or.inl (hw _ (List.mem_of_getElem? (i := 10) rfl))) Via.refl e7 (S_w_AWAITING_HUMAN.ext O7.2) (g := (mkF m 25 #[.val (.int p1), .val (.int p2), .unset, .unset, .unset, .unset] [(.int (3 : Int32)), (.ref b1), (.ref b1)])) rfl (hb hby at_25)
  have Vc9 := V7
  obtain ⟨cl9, Ar9, qa9, Sz9, Nn9, Ha9, Ga9⟩ := Vc9
  have hin9 : ¬ ((3 : Int32) < 0 ∨ cl9.slots.size ≤ ((3 : Int32)).toNatClampNeg) := inb_of Sz9 ⟨by decide, by decide⟩
  obtain ⟨T9, h9, X9, e9, W9, st9⟩ := stR X8 hx hZ e8 Ar9 (j := (3 : Int32)) hin9 rfl (Sto.ofV Ar9 qa9 Ov1 (Ins.self (E_w_AWAITING_HUMAN.ext O7.2))) (g := (mkF m 28 #[.val (.int p1), .val (.int p2), .unset, .unset, .unset, .unset] [(.ref w_AWAITING_HUMAN), (.int (3 : Int32)), (.ref b1), (.ref b1)])) rfl rfl (hb hby at_28)
  have V9 : Arv Z h9 b1 k1 (.object "com/example/glacial_workflow/glacialworkflow/core/StepState") (9 : Int32) [(.ref w_PENDING), (.ref w_RUNNING), (.ref w_AWAITING_RETRY), (.ref w_AWAITING_HUMAN), .null, .null, .null, .null, .null] .null := Arv.set Ar9 qa9 Sz9 Nn9 Ha9 Ga9 rfl W9 3 rfl (Nat.le_of_ble_eq_true rfl)
  have O9 := O7.wr W9 g_b1
  have N9 := Fr.snoc X9 N7 g_b1
  obtain ⟨T10, X10, e10, st10⟩ := getS2 X9 hx hZ hown (host := "") (Or.inl (hw _ (List.mem_of_getElem? (i := 12) rfl))) Via.refl e9 (S_w_APPROVED.ext O9.2) (g := (mkF m 31 #[.val (.int p1), .val (.int p2), .unset, .unset, .unset, .unset] [(.int (4 : Int32)), (.ref b1), (.ref b1)])) rfl (hb hby at_31)
  have Vc11 := V9
  obtain ⟨cl11, Ar11, qa11, Sz11, Nn11, Ha11, Ga11⟩ := Vc11
  have hin11 : ¬ ((4 : Int32) < 0 ∨ cl11.slots.size ≤ ((4 : Int32)).toNatClampNeg) := inb_of Sz11 ⟨by decide, by decide⟩
  obtain ⟨T11, h11, X11, e11, W11, st11⟩ := stR X10 hx hZ e10 Ar11 (j := (4 : Int32)) hin11 rfl (Sto.ofV Ar11 qa11 Ov1 (Ins.self (E_w_APPROVED.ext O9.2))) (g := (mkF m 34 #[.val (.int p1), .val (.int p2), .unset, .unset, .unset, .unset] [(.ref w_APPROVED), (.int (4 : Int32)), (.ref b1), (.ref b1)])) rfl rfl (hb hby at_34)
  have V11 : Arv Z h11 b1 k1 (.object "com/example/glacial_workflow/glacialworkflow/core/StepState") (9 : Int32) [(.ref w_PENDING), (.ref w_RUNNING), (.ref w_AWAITING_RETRY), (.ref w_AWAITING_HUMAN), (.ref w_APPROVED), .null, .null, .null, .null] .null := Arv.set Ar11 qa11 Sz11 Nn11 Ha11 Ga11 rfl W11 4 rfl (Nat.le_of_ble_eq_true rfl)
  have O11 := O9.wr W11 g_b1
  have N11 := Fr.snoc X11 N9 g_b1
  obtain ⟨T12, X12, e12, st12⟩ := getS2 X11 hx hZ hown (host := "") (Or.inl (hw _ (List.mem_of_getElem? (i := 14) rfl))) Via.refl e11 (S_w_COMPLETED.ext O11.2) (g := (mkF m 37 #[.val (.int p1), .val (.int p2), .unset, .unset, .unset, .unset] [(.int (5 : Int32)), (.ref b1), (.ref b1)])) rfl (hb hby at_37)
  have Vc13 := V11
  obtain ⟨cl13, Ar13, qa13, Sz13, Nn13, Ha13, Ga13⟩ := Vc13
  have hin13 : ¬ ((5 : Int32) < 0 ∨ cl13.slots.size ≤ ((5 : Int32)).toNatClampNeg) := inb_of Sz13 ⟨by decide, by decide⟩
  obtain ⟨T13, h13, X13, e13, W13, st13⟩ := stR X12 hx hZ e12 Ar13 (j := (5 : Int32)) hin13 rfl (Sto.ofV Ar13 qa13 Ov1 (Ins.self (E_w_COMPLETED.ext O11.2))) (g := (mkF m 40 #[.val (.int p1), .val (.int p2), .unset, .unset, .unset, .unset] [(.ref w_COMPLETED), (.int (5 : Int32)), (.ref b1), (.ref b1)])) rfl rfl (hb hby at_40)
  have V13 : Arv Z h13 b1 k1 (.object "com/example/glacial_workflow/glacialworkflow/core/StepState") (9 : Int32) [(.ref w_PENDING), (.ref w_RUNNING), (.ref w_AWAITING_RETRY), (.ref w_AWAITING_HUMAN), (.ref w_APPROVED), (.ref w_COMPLETED), .null, .null, .null] .null := Arv.set Ar13 qa13 Sz13 Nn13 Ha13 Ga13 rfl W13 5 rfl (Nat.le_of_ble_eq_true rfl)
  have O13 := O11.wr W13 g_b1
  have N13 := Fr.snoc X13 N11 g_b1
  obtain ⟨T14, X14, e14, st14⟩ := getS2 X13 hx hZ hown (host := "") (Or.inl (hw _ (List.mem_of_getElem? (i := 16) rfl))) Via.refl e13 (S_w_FAILED.ext O13.2) (g := (mkF m 44 #[.val (.int p1), .val (.int p2), .unset, .unset, .unset, .unset] [(.int (6 : Int32)), (.ref b1), (.ref b1)])) rfl (hb hby at_44)
  have Vc15 := V13
  obtain ⟨cl15, Ar15, qa15, Sz15, Nn15, Ha15, Ga15⟩ := Vc15
  have hin15 : ¬ ((6 : Int32) < 0 ∨ cl15.slots.size ≤ ((6 : Int32)).toNatClampNeg) := inb_of Sz15 ⟨by decide, by decide⟩
  obtain ⟨T15, h15, X15, e15, W15, st15⟩ := stR X14 hx hZ e14 Ar15 (j := (6 : Int32)) hin15 rfl (Sto.ofV Ar15 qa15 Ov1 (Ins.self (E_w_FAILED.ext O13.2))) (g := (mkF m 47 #[.val (.int p1), .val (.int p2), .unset, .unset, .unset, .unset] [(.ref w_FAILED), (.int (6 : Int32)), (.ref b1), (.ref b1)])) rfl rfl (hb hby at_47)
  have V15 : Arv Z h15 b1 k1 (.object "com/example/glacial_workflow/glacialworkflow/core/StepState") (9 : Int32) [(.ref w_PENDING), (.ref w_RUNNING), (.ref w_AWAITING_RETRY), (.ref w_AWAITING_HUMAN), (.ref w_APPROVED), (.ref w_COMPLETED), (.ref w_FAILED), .null, .null] .null := Arv.set Ar15 qa15 Sz15 Nn15 Ha15 Ga15 rfl W15 6 rfl (Nat.le_of_ble_eq_true rfl)
  have O15 := O13.wr W15 g_b1
  have N15 := Fr.snoc X15 N13 g_b1
  obtain ⟨T16, X16, e16, st16⟩ := getS2 X15 hx hZ hown (host := "") (Or.inl (hw _ (List.mem_of_getElem? (i := 18) rfl))) Via.refl e15 (S_w_SKIPPED.ext O15.2) (g := (mkF m 51 #[.val (.int p1), .val (.int p2), .unset, .unset, .unset, .unset] [(.int (7 : Int32)), (.ref b1), (.ref b1)])) rfl (hb hby at_51)
  have Vc17 := V15
  obtain ⟨cl17, Ar17, qa17, Sz17, Nn17, Ha17, Ga17⟩ := Vc17
  have hin17 : ¬ ((7 : Int32) < 0 ∨ cl17.slots.size ≤ ((7 : Int32)).toNatClampNeg) := inb_of Sz17 ⟨by decide, by decide⟩
  obtain ⟨T17, h17, X17, e17, W17, st17⟩ := stR X16 hx hZ e16 Ar17 (j := (7 : Int32)) hin17 rfl (Sto.ofV Ar17 qa17 Ov1 (Ins.self (E_w_SKIPPED.ext O15.2))) (g := (mkF m 54 #[.val (.int p1), .val (.int p2), .unset, .unset, .unset, .unset] [(.ref w_SKIPPED), (.int (7 : Int32)), (.ref b1), (.ref b1)])) rfl rfl (hb hby at_54)
  have V17 : Arv Z h17 b1 k1 (.object "com/example/glacial_workflow/glacialworkflow/core/StepState") (9 : Int32) [(.ref w_PENDING), (.ref w_RUNNING), (.ref w_AWAITING_RETRY), (.ref w_AWAITING_HUMAN), (.ref w_APPROVED), (.ref w_COMPLETED), (.ref w_FAILED), (.ref w_SKIPPED), .null] .null := Arv.set Ar17 qa17 Sz17 Nn17 Ha17 Ga17 rfl W17 7 rfl (Nat.le_of_ble_eq_true rfl)
  have O17 := O15.wr W17 g_b1
  have N17 := Fr.snoc X17 N15 g_b1
  obtain ⟨T18, X18, e18, st18⟩ := getS2 X17 hx hZ hown (host := "") (Or.inl (hw _ (List.mem_of_getElem? (i := 20) rfl))) Via.refl e17 (S_w_CANCELLED.ext O17.2) (g := (mkF m 58 #[.val (.int p1), .val (.int p2), .unset, .unset, .unset, .unset] [(.int (8 : Int32)), (.ref b1), (.ref b1)])) rfl (hb hby at_58)
  have Vc19 := V17
  obtain ⟨cl19, Ar19, qa19, Sz19, Nn19, Ha19, Ga19⟩ := Vc19
  have hin19 : ¬ ((8 : Int32) < 0 ∨ cl19.slots.size ≤ ((8 : Int32)).toNatClampNeg) := inb_of Sz19 ⟨by decide, by decide⟩
  obtain ⟨T19, h19, X19, e19, W19, st19⟩ := stR X18 hx hZ e18 Ar19 (j := (8 : Int32)) hin19 rfl (Sto.ofV Ar19 qa19 Ov1 (Ins.self (E_w_CANCELLED.ext O17.2))) (g := (mkF m 61 #[.val (.int p1), .val (.int p2), .unset, .unset, .unset, .unset] [(.ref w_CANCELLED), (.int (8 : Int32)), (.ref b1), (.ref b1)])) rfl rfl (hb hby at_61)
  have V19 : Arv Z h19 b1 k1 (.object "com/example/glacial_workflow/glacialworkflow/core/StepState") (9 : Int32) [(.ref w_PENDING), (.ref w_RUNNING), (.ref w_AWAITING_RETRY), (.ref w_AWAITING_HUMAN), (.ref w_APPROVED), (.ref w_COMPLETED), (.ref w_FAILED), (.ref w_SKIPPED), (.ref w_CANCELLED)] .null := Arv.set Ar19 qa19 Sz19 Nn19 Ha19 Ga19 rfl W19 8 rfl (Nat.le_of_ble_eq_true rfl)
  have O19 := O17.wr W19 g_b1
  have N19 := Fr.snoc X19 N17 g_b1
  have pre20 : ∀ t, Steps p.tables e below (T19.setTop (mkF m 71 #[.val (.int p1), .val (.int p2), .val (.ref b1), .unset, .unset, .unset] [(.int ((p1 &&& (2147483647 : Int32)) % (9 : Int32))), (.ref b1)])) t → Steps p.tables e below (s₁.setTop (entryFrame m #[(.int p1), (.int p2)] maxLocals)) t := by
    intro t kt
    refine pre0 _ ?_
    show Steps p.tables e below (s₁.setTop (mkF m 0 #[.val (.int p1), .val (.int p2), .unset, .unset, .unset, .unset] [])) _
    refine XS.bipush X0.here hx rfl (hb hby at_0) ?_
    show Steps p.tables e below (s₁.setTop (mkF m 2 #[.val (.int p1), .val (.int p2), .unset, .unset, .unset, .unset] [(.int (9 : Int32))])) _
    refine st1 _ ?_
    show Steps p.tables e below (T1.setTop (mkF m 5 #[.val (.int p1), .val (.int p2), .unset, .unset, .unset, .unset] [(.ref b1)])) _
    refine XS.dup X1.here hx rfl (hb hby at_5) rfl rfl ?_
    show Steps p.tables e below (T1.setTop (mkF m 6 #[.val (.int p1), .val (.int p2), .unset, .unset, .unset, .unset] [(.ref b1), (.ref b1)])) _
    refine XS.iconst X1.here hx rfl (hb hby at_6) ?_
    show Steps p.tables e below (T1.setTop (mkF m 7 #[.val (.int p1), .val (.int p2), .unset, .unset, .unset, .unset] [(.int (0 : Int32)), (.ref b1), (.ref b1)])) _
    refine st2 _ ?_
    show Steps p.tables e below (T2.setTop (mkF m 10 #[.val (.int p1), .val (.int p2), .unset, .unset, .unset, .unset] [(.ref w_PENDING), (.int (0 : Int32)), (.ref b1), (.ref b1)])) _
    refine st3 _ ?_
    show Steps p.tables e below (T3.setTop (mkF m 11 #[.val (.int p1), .val (.int p2), .unset, .unset, .unset, .unset] [(.ref b1)])) _
    refine XS.dup X3.here hx rfl (hb hby at_11) rfl rfl ?_
    show Steps p.tables e below (T3.setTop (mkF m 12 #[.val (.int p1), .val (.int p2), .unset, .unset, .unset, .unset] [(.ref b1), (.ref b1)])) _
    refine XS.iconst X3.here hx rfl (hb hby at_12) ?_
    show Steps p.tables e below (T3.setTop (mkF m 13 #[.val (.int p1), .val (.int p2), .unset, .unset, .unset, .unset] [(.int (1 : Int32)), (.ref b1), (.ref b1)])) _
    refine st4 _ ?_
    show Steps p.tables e below (T4.setTop (mkF m 16 #[.val (.int p1), .val (.int p2), .unset, .unset, .unset, .unset] [(.ref w_RUNNING), (.int (1 : Int32)), (.ref b1), (.ref b1)])) _
    refine st5 _ ?_
    show Steps p.tables e below (T5.setTop (mkF m 17 #[.val (.int p1), .val (.int p2), .unset, .unset, .unset, .unset] [(.ref b1)])) _
    refine XS.dup X5.here hx rfl (hb hby at_17) rfl rfl ?_
    show Steps p.tables e below (T5.setTop (mkF m 18 #[.val (.int p1), .val (.int p2), .unset, .unset, .unset, .unset] [(.ref b1), (.ref b1)])) _
    refine XS.iconst X5.here hx rfl (hb hby at_18) ?_
    show Steps p.tables e below (T5.setTop (mkF m 19 #[.val (.int p1), .val (.int p2), .unset, .unset, .unset, .unset] [(.int (2 : Int32)), (.ref b1), (.ref b1)])) _
    refine st6 _ ?_
    show Steps p.tables e below (T6.setTop (mkF m 22 #[.val (.int p1), .val (.int p2), .unset, .unset, .unset, .unset] [(.ref w_AWAITING_RETRY), (.int (2 : Int32)), (.ref b1), (.ref b1)])) _
    refine st7 _ ?_
    show Steps p.tables e below (T7.setTop (mkF m 23 #[.val (.int p1), .val (.int p2), .unset, .unset, .unset, .unset] [(.ref b1)])) _
    refine XS.dup X7.here hx rfl (hb hby at_23) rfl rfl ?_
    show Steps p.tables e below (T7.setTop (mkF m 24 #[.val (.int p1), .val (.int p2), .unset, .unset, .unset, .unset] [(.ref b1), (.ref b1)])) _
    refine XS.iconst X7.here hx rfl (hb hby at_24) ?_
    show Steps p.tables e below (T7.setTop (mkF m 25 #[.val (.int p1), .val (.int p2), .unset, .unset, .unset, .unset] [(.int (3 : Int32)), (.ref b1), (.ref b1)])) _
    refine st8 _ ?_
    show Steps p.tables e below (T8.setTop (mkF m 28 #[.val (.int p1), .val (.int p2), .unset, .unset, .unset, .unset] [(.ref w_AWAITING_HUMAN), (.int (3 : Int32)), (.ref b1), (.ref b1)])) _
    refine st9 _ ?_
    show Steps p.tables e below (T9.setTop (mkF m 29 #[.val (.int p1), .val (.int p2), .unset, .unset, .unset, .unset] [(.ref b1)])) _
    refine XS.dup X9.here hx rfl (hb hby at_29) rfl rfl ?_
    show Steps p.tables e below (T9.setTop (mkF m 30 #[.val (.int p1), .val (.int p2), .unset, .unset, .unset, .unset] [(.ref b1), (.ref b1)])) _
    refine XS.iconst X9.here hx rfl (hb hby at_30) ?_
    show Steps p.tables e below (T9.setTop (mkF m 31 #[.val (.int p1), .val (.int p2), .unset, .unset, .unset, .unset] [(.int (4 : Int32)), (.ref b1), (.ref b1)])) _
    refine st10 _ ?_
    show Steps p.tables e below (T10.setTop (mkF m 34 #[.val (.int p1), .val (.int p2), .unset, .unset, .unset, .unset] [(.ref w_APPROVED), (.int (4 : Int32)), (.ref b1), (.ref b1)])) _
    refine st11 _ ?_
    show Steps p.tables e below (T11.setTop (mkF m 35 #[.val (.int p1), .val (.int p2), .unset, .unset, .unset, .unset] [(.ref b1)])) _
    refine XS.dup X11.here hx rfl (hb hby at_35) rfl rfl ?_
    show Steps p.tables e below (T11.setTop (mkF m 36 #[.val (.int p1), .val (.int p2), .unset, .unset, .unset, .unset] [(.ref b1), (.ref b1)])) _
    refine XS.iconst X11.here hx rfl (hb hby at_36) ?_
    show Steps p.tables e below (T11.setTop (mkF m 37 #[.val (.int p1), .val (.int p2), .unset, .unset, .unset, .unset] [(.int (5 : Int32)), (.ref b1), (.ref b1)])) _
    refine st12 _ ?_
    show Steps p.tables e below (T12.setTop (mkF m 40 #[.val (.int p1), .val (.int p2), .unset, .unset, .unset, .unset] [(.ref w_COMPLETED), (.int (5 : Int32)), (.ref b1), (.ref b1)])) _
    refine st13 _ ?_
    show Steps p.tables e below (T13.setTop (mkF m 41 #[.val (.int p1), .val (.int p2), .unset, .unset, .unset, .unset] [(.ref b1)])) _
    refine XS.dup X13.here hx rfl (hb hby at_41) rfl rfl ?_
    show Steps p.tables e below (T13.setTop (mkF m 42 #[.val (.int p1), .val (.int p2), .unset, .unset, .unset, .unset] [(.ref b1), (.ref b1)])) _
    refine XS.bipush X13.here hx rfl (hb hby at_42) ?_
    show Steps p.tables e below (T13.setTop (mkF m 44 #[.val (.int p1), .val (.int p2), .unset, .unset, .unset, .unset] [(.int (6 : Int32)), (.ref b1), (.ref b1)])) _
    refine st14 _ ?_
    show Steps p.tables e below (T14.setTop (mkF m 47 #[.val (.int p1), .val (.int p2), .unset, .unset, .unset, .unset] [(.ref w_FAILED), (.int (6 : Int32)), (.ref b1), (.ref b1)])) _
    refine st15 _ ?_
    show Steps p.tables e below (T15.setTop (mkF m 48 #[.val (.int p1), .val (.int p2), .unset, .unset, .unset, .unset] [(.ref b1)])) _
    refine XS.dup X15.here hx rfl (hb hby at_48) rfl rfl ?_
    show Steps p.tables e below (T15.setTop (mkF m 49 #[.val (.int p1), .val (.int p2), .unset, .unset, .unset, .unset] [(.ref b1), (.ref b1)])) _
    refine XS.bipush X15.here hx rfl (hb hby at_49) ?_
    show Steps p.tables e below (T15.setTop (mkF m 51 #[.val (.int p1), .val (.int p2), .unset, .unset, .unset, .unset] [(.int (7 : Int32)), (.ref b1), (.ref b1)])) _
    refine st16 _ ?_
    show Steps p.tables e below (T16.setTop (mkF m 54 #[.val (.int p1), .val (.int p2), .unset, .unset, .unset, .unset] [(.ref w_SKIPPED), (.int (7 : Int32)), (.ref b1), (.ref b1)])) _
    refine st17 _ ?_
    show Steps p.tables e below (T17.setTop (mkF m 55 #[.val (.int p1), .val (.int p2), .unset, .unset, .unset, .unset] [(.ref b1)])) _
    refine XS.dup X17.here hx rfl (hb hby at_55) rfl rfl ?_
    show Steps p.tables e below (T17.setTop (mkF m 56 #[.val (.int p1), .val (.int p2), .unset, .unset, .unset, .unset] [(.ref b1), (.ref b1)])) _
    refine XS.bipush X17.here hx rfl (hb hby at_56) ?_
    show Steps p.tables e below (T17.setTop (mkF m 58 #[.val (.int p1), .val (.int p2), .unset, .unset, .unset, .unset] [(.int (8 : Int32)), (.ref b1), (.ref b1)])) _
    refine st18 _ ?_
    show Steps p.tables e below (T18.setTop (mkF m 61 #[.val (.int p1), .val (.int p2), .unset, .unset, .unset, .unset] [(.ref w_CANCELLED), (.int (8 : Int32)), (.ref b1), (.ref b1)])) _
    refine st19 _ ?_
    show Steps p.tables e below (T19.setTop (mkF m 62 #[.val (.int p1), .val (.int p2), .unset, .unset, .unset, .unset] [(.ref b1)])) _
    refine XS.astoreN X19.here hx rfl (hb hby at_62) rfl rfl (l' := #[.val (.int p1), .val (.int p2), .val (.ref b1), .unset, .unset, .unset]) rfl ?_
    show Steps p.tables e below (T19.setTop (mkF m 63 #[.val (.int p1), .val (.int p2), .val (.ref b1), .unset, .unset, .unset] [])) _
    refine XS.aloadN X19.here hx rfl (hb hby at_63) rfl rfl ?_
    show Steps p.tables e below (T19.setTop (mkF m 64 #[.val (.int p1), .val (.int p2), .val (.ref b1), .unset, .unset, .unset] [(.ref b1)])) _
    refine XS.iloadN X19.here hx rfl (hb hby at_64) rfl ?_
    show Steps p.tables e below (T19.setTop (mkF m 65 #[.val (.int p1), .val (.int p2), .val (.ref b1), .unset, .unset, .unset] [(.int p1), (.ref b1)])) _
    refine X19.ldcInt hx hown (mvT hZ (hw _ (List.mem_of_getElem? (i := 22) rfl))) (g := (mkF m 65 #[.val (.int p1), .val (.int p2), .val (.ref b1), .unset, .unset, .unset] [(.int p1), (.ref b1)])) rfl (hb hby at_65) _ ?_
    show Steps p.tables e below (T19.setTop (mkF m 67 #[.val (.int p1), .val (.int p2), .val (.ref b1), .unset, .unset, .unset] [(.int (2147483647 : Int32)), (.int p1), (.ref b1)])) _
    refine XS.iand X19.here hx rfl (hb hby at_67) rfl ?_
    show Steps p.tables e below (T19.setTop (mkF m 68 #[.val (.int p1), .val (.int p2), .val (.ref b1), .unset, .unset, .unset] [(.int (p1 &&& (2147483647 : Int32))), (.ref b1)])) _
    refine XS.bipush X19.here hx rfl (hb hby at_68) ?_
    show Steps p.tables e below (T19.setTop (mkF m 70 #[.val (.int p1), .val (.int p2), .val (.ref b1), .unset, .unset, .unset] [(.int (9 : Int32)), (.int (p1 &&& (2147483647 : Int32))), (.ref b1)])) _
    refine iremM X19 hx (g := (mkF m 70 #[.val (.int p1), .val (.int p2), .val (.ref b1), .unset, .unset, .unset] [(.int (9 : Int32)), (.int (p1 &&& (2147483647 : Int32))), (.ref b1)])) rfl (hb hby at_70) rfl (by decide) ?_
    exact kt
  rcases own_k p1 with hv21 | hv21 | hv21 | hv21 | hv21 | hv21 | hv21 | hv21 | hv21
  · rw [hv21] at pre20
    have Vc22 := V19
    obtain ⟨cl22, Ar22, qa22, Sz22, Nn22, Ha22, Ga22⟩ := Vc22
    have hin22 : ¬ ((0 : Int32) < 0 ∨ cl22.slots.size ≤ ((0 : Int32)).toNatClampNeg) := inb_of Sz22 ⟨by decide, by decide⟩
    have hat22 : cl22.slots[((0 : Int32)).toNatClampNeg]? = some (.ref w_PENDING) := Has.at Ha22 hin22 rfl
    have Vc23 := V19
    obtain ⟨cl23, Ar23, qa23, Sz23, Nn23, Ha23, Ga23⟩ := Vc23
    have hin23 : ¬ (((p2 &&& (2147483647 : Int32)) % (9 : Int32)) < 0 ∨ cl23.slots.size ≤ (((p2 &&& (2147483647 : Int32)) % (9 : Int32))).toNatClampNeg) := inb_of Sz23 (own_b p2)
    obtain ⟨wn, hwn⟩ : ∃ wn, ([(.ref w_PENDING), (.ref w_RUNNING), (.ref w_AWAITING_RETRY), (.ref w_AWAITING_HUMAN), (.ref w_APPROVED), (.ref w_COMPLETED), (.ref w_FAILED), (.ref w_SKIPPED), (.ref w_CANCELLED)] : List Value).getD (((p2 &&& (2147483647 : Int32)) % (9 : Int32))).toNatClampNeg .null = .ref wn := by rcases own_k p2 with h | h | h | h | h | h | h | h | h <;> (rw [h]; exact ⟨_, rfl⟩)
    have hat23 := Has.at Ha23 hin23 hwn
    obtain ⟨cq24, kq24, q24a, q24b, q24c⟩ := isOf hZ e19 (E_w_PENDING.ext O19.2)
    obtain ⟨_, _, ⟨T24, L24, k24, n24⟩, -, X24, ⟨Lc24, hQ24, l24, y24, z24⟩, st24⟩ := X19.virtualBack hx (y := (⟨"com/example/glacial_workflow/glacialworkflow/core/StepState", "hasEnded", "()Z"⟩ : MethodName)) (z := (⟨"com/example/glacial_workflow/glacialworkflow/core/StepState", "hasEnded", "()Z"⟩ : MethodName)) hown (mvT hZ (hw _ (List.mem_of_getElem? (i := 23) rfl))) (mvT hZ (hw _ (List.mem_of_getElem? (i := 24) rfl))) (notFace_of_selects (args := #[]) (mvT hZ (hw _ (List.mem_of_getElem? (i := 26) rfl)))) (mvT hZ (hw _ (List.mem_of_getElem? (i := 26) rfl))) (mvT hZ (hw _ (List.mem_of_getElem? (i := 25) rfl))) (by decide) (backOf (W := 0) (he_PENDING l Z a0 hw [] w_PENDING w_RUNNING w_AWAITING_RETRY w_AWAITING_HUMAN w_APPROVED w_COMPLETED w_FAILED w_SKIPPED w_CANCELLED h19 n0 O19 hE) hZ (hw _ (List.mem_of_getElem? (i := 27) rfl)) (hw _ (List.mem_of_getElem? (i := 3) rfl)) (by decide) (by decide)) q24a q24c (g := (mkF m 85 #[.val (.int p1), .val (.int p2), .val (.ref b1), .val (.ref w_PENDING), .val (.ref wn), .unset] [(.ref w_PENDING)])) rfl (by rw [hml]; rfl) (Steps.refl _) (argsL := []) (rest := []) (lenOf pd___Z rfl) rfl (by show 2 * 0 + _ ≤ _; exact Nat.le_of_eq rfl) (hb hby at_85) (fun _ _ => ⟨rfl, e19, (by decide : 1 + 0 ≤ _), (by decide : 9 + 0 ≤ _)⟩)
    dsimp only [Pt.U, Pt.locs, Pt.cells, Pt.slots] at X24 l24 y24 z24 st24 hQ24
    subst l24 y24 z24
    obtain ⟨rfl, Nq24, eq24⟩ := hQ24
    have N24 := Fr.app N19 Nq24
    obtain ⟨T25, X25, e25, st25⟩ := getS2 X24 hx hZ hown (host := "") (Or.inl (hw _ (List.mem_of_getElem? (i := 20) rfl))) Via.refl eq24 (S_w_CANCELLED.ext O19.2) (g := (mkF m 93 #[.val (.int p1), .val (.int p2), .val (.ref b1), .val (.ref w_PENDING), .val (.ref wn), .val (.int (0 : Int32))] [(.ref w_PENDING), (.int (0 : Int32))])) rfl (hb hby at_93)
    obtain ⟨cq26, kq26, q26a, q26b, q26c⟩ := isOf hZ e25 (E_w_PENDING.ext O19.2)
    obtain ⟨_, _, ⟨T26, L26, k26, n26⟩, -, X26, ⟨Lc26, hQ26, l26, y26, z26⟩, st26⟩ := X25.virtualBack hx (y := (⟨"com/example/glacial_workflow/glacialworkflow/core/StepState", "canBecome", "(Lcom/example/glacial_workflow/glacialworkflow/core/StepState;)Z"⟩ : MethodName)) (z := (⟨"com/example/glacial_workflow/glacialworkflow/core/StepState", "canBecome", "(Lcom/example/glacial_workflow/glacialworkflow/core/StepState;)Z"⟩ : MethodName)) hown (mvT hZ (hw _ (List.mem_of_getElem? (i := 32) rfl))) (mvT hZ (hw _ (List.mem_of_getElem? (i := 33) rfl))) (notFace_of_selects (args := #[]) (mvT hZ (hw _ (List.mem_of_getElem? (i := 35) rfl)))) (mvT hZ (hw _ (List.mem_of_getElem? (i := 35) rfl))) (mvT hZ (hw _ (List.mem_of_getElem? (i := 34) rfl))) (by decide) (backOf (W := 1) (cb_PENDING l Z a0 hw [] w_PENDING w_RUNNING w_AWAITING_RETRY w_AWAITING_HUMAN w_APPROVED w_COMPLETED w_FAILED w_SKIPPED w_CANCELLED h19 n0 O19 hE) hZ (hw _ (List.mem_of_getElem? (i := 36) rfl)) (hw _ (List.mem_of_getElem? (i := 3) rfl)) (by decide) (by decide)) q26a q26c (g := (mkF m 96 #[.val (.int p1), .val (.int p2), .val (.ref b1), .val (.ref w_PENDING), .val (.ref wn), .val (.int (0 : Int32))] [(.ref w_CANCELLED), (.ref w_PENDING), (.int (0 : Int32))])) rfl (by rw [hml]; rfl) (Steps.refl _) (argsL := [(.ref w_CANCELLED)]) (rest := [(.int (0 : Int32))]) (lenOf pd__Lcom_example_glacial_workflow_glacialworkflow_core_StepState__Z rfl) rfl (by show 2 * 0 + _ ≤ _; exact Nat.le_of_eq rfl) (hb hby at_96) (fun _ _ => ⟨rfl, e25, (by decide : 1 + 0 ≤ _), (by decide : 9 + 0 ≤ _)⟩)
    dsimp only [Pt.U, Pt.locs, Pt.cells, Pt.slots] at X26 l26 y26 z26 st26 hQ26
    subst l26 y26 z26
    obtain ⟨rfl, Nq26, eq26⟩ := hQ26
    have N26 := Fr.app N24 Nq26
    obtain ⟨fs, hr, hrun, hended, hW, hsame⟩ := X26.leave (v := some (.int (1 : Int32))) (fun h => by rw [Bd.returns] at h; cases h)
    refine ⟨_, _, pre20 _ ?_, hrun, hended, _, _, rfl, ?_, ⟨_, rfl⟩, hW, hsame.mono (by decide) (by decide)⟩
    · show Steps p.tables e below (T19.setTop (mkF m 71 #[.val (.int p1), .val (.int p2), .val (.ref b1), .unset, .unset, .unset] [(.int (0 : Int32)), (.ref b1)])) _
      refine X19.aaload hx (j := (0 : Int32)) (v := (.ref w_PENDING)) (by rw [e19]; exact Ar22.1) (State.isArrayOf_alike hZ.alike Ar22.2.1) rfl Ar22.2.2 hin22 hat22 (g := (mkF m 71 #[.val (.int p1), .val (.int p2), .val (.ref b1), .unset, .unset, .unset] [(.int (0 : Int32)), (.ref b1)])) rfl rfl (hb hby at_71) _ ?_
      show Steps p.tables e below (T19.setTop (mkF m 72 #[.val (.int p1), .val (.int p2), .val (.ref b1), .unset, .unset, .unset] [(.ref w_PENDING)])) _
      refine XS.astoreN X19.here hx rfl (hb hby at_72) rfl rfl (l' := #[.val (.int p1), .val (.int p2), .val (.ref b1), .val (.ref w_PENDING), .unset, .unset]) rfl ?_
      show Steps p.tables e below (T19.setTop (mkF m 73 #[.val (.int p1), .val (.int p2), .val (.ref b1), .val (.ref w_PENDING), .unset, .unset] [])) _
      refine XS.aloadN X19.here hx rfl (hb hby at_73) rfl rfl ?_
      show Steps p.tables e below (T19.setTop (mkF m 74 #[.val (.int p1), .val (.int p2), .val (.ref b1), .val (.ref w_PENDING), .unset, .unset] [(.ref b1)])) _
      refine XS.iloadN X19.here hx rfl (hb hby at_74) rfl ?_
      show Steps p.tables e below (T19.setTop (mkF m 75 #[.val (.int p1), .val (.int p2), .val (.ref b1), .val (.ref w_PENDING), .unset, .unset] [(.int p2), (.ref b1)])) _
      refine X19.ldcInt hx hown (mvT hZ (hw _ (List.mem_of_getElem? (i := 22) rfl))) (g := (mkF m 75 #[.val (.int p1), .val (.int p2), .val (.ref b1), .val (.ref w_PENDING), .unset, .unset] [(.int p2), (.ref b1)])) rfl (hb hby at_75) _ ?_
      show Steps p.tables e below (T19.setTop (mkF m 77 #[.val (.int p1), .val (.int p2), .val (.ref b1), .val (.ref w_PENDING), .unset, .unset] [(.int (2147483647 : Int32)), (.int p2), (.ref b1)])) _
      refine XS.iand X19.here hx rfl (hb hby at_77) rfl ?_
      show Steps p.tables e below (T19.setTop (mkF m 78 #[.val (.int p1), .val (.int p2), .val (.ref b1), .val (.ref w_PENDING), .unset, .unset] [(.int (p2 &&& (2147483647 : Int32))), (.ref b1)])) _
      refine XS.bipush X19.here hx rfl (hb hby at_78) ?_
      show Steps p.tables e below (T19.setTop (mkF m 80 #[.val (.int p1), .val (.int p2), .val (.ref b1), .val (.ref w_PENDING), .unset, .unset] [(.int (9 : Int32)), (.int (p2 &&& (2147483647 : Int32))), (.ref b1)])) _
      refine iremM X19 hx (g := (mkF m 80 #[.val (.int p1), .val (.int p2), .val (.ref b1), .val (.ref w_PENDING), .unset, .unset] [(.int (9 : Int32)), (.int (p2 &&& (2147483647 : Int32))), (.ref b1)])) rfl (hb hby at_80) rfl (by decide) ?_
      show Steps p.tables e below (T19.setTop (mkF m 81 #[.val (.int p1), .val (.int p2), .val (.ref b1), .val (.ref w_PENDING), .unset, .unset] [(.int ((p2 &&& (2147483647 : Int32)) % (9 : Int32))), (.ref b1)])) _
      refine X19.aaload hx (j := ((p2 &&& (2147483647 : Int32)) % (9 : Int32))) (v := .ref wn) (by rw [e19]; exact Ar23.1) (State.isArrayOf_alike hZ.alike Ar23.2.1) rfl Ar23.2.2 hin23 hat23 (g := (mkF m 81 #[.val (.int p1), .val (.int p2), .val (.ref b1), .val (.ref w_PENDING), .unset, .unset] [(.int ((p2 &&& (2147483647 : Int32)) % (9 : Int32))), (.ref b1)])) rfl rfl (hb hby at_81) _ ?_
      show Steps p.tables e below (T19.setTop (mkF m 82 #[.val (.int p1), .val (.int p2), .val (.ref b1), .val (.ref w_PENDING), .unset, .unset] [(.ref wn)])) _
      refine XS.astore X19.here hx rfl (hb hby at_82) rfl rfl (l' := #[.val (.int p1), .val (.int p2), .val (.ref b1), .val (.ref w_PENDING), .val (.ref wn), .unset]) rfl ?_
      show Steps p.tables e below (T19.setTop (mkF m 84 #[.val (.int p1), .val (.int p2), .val (.ref b1), .val (.ref w_PENDING), .val (.ref wn), .unset] [])) _
      refine XS.aloadN X19.here hx rfl (hb hby at_84) rfl rfl ?_
      show Steps p.tables e below (T19.setTop (mkF m 85 #[.val (.int p1), .val (.int p2), .val (.ref b1), .val (.ref w_PENDING), .val (.ref wn), .unset] [(.ref w_PENDING)])) _
      refine st24.trans ?_
      show Steps p.tables e below (T24.setTop (mkF m 88 #[.val (.int p1), .val (.int p2), .val (.ref b1), .val (.ref w_PENDING), .val (.ref wn), .unset] [(.int (0 : Int32))])) _
      refine XS.istore X24.here hx rfl (hb hby at_88) rfl (l' := #[.val (.int p1), .val (.int p2), .val (.ref b1), .val (.ref w_PENDING), .val (.ref wn), .val (.int (0 : Int32))]) rfl ?_
      show Steps p.tables e below (T24.setTop (mkF m 90 #[.val (.int p1), .val (.int p2), .val (.ref b1), .val (.ref w_PENDING), .val (.ref wn), .val (.int (0 : Int32))] [])) _
      refine XS.iload X24.here hx rfl (hb hby at_90) rfl ?_
      show Steps p.tables e below (T24.setTop (mkF m 92 #[.val (.int p1), .val (.int p2), .val (.ref b1), .val (.ref w_PENDING), .val (.ref wn), .val (.int (0 : Int32))] [(.int (0 : Int32))])) _
      refine XS.aloadN X24.here hx rfl (hb hby at_92) rfl rfl ?_
      show Steps p.tables e below (T24.setTop (mkF m 93 #[.val (.int p1), .val (.int p2), .val (.ref b1), .val (.ref w_PENDING), .val (.ref wn), .val (.int (0 : Int32))] [(.ref w_PENDING), (.int (0 : Int32))])) _
      refine st25 _ ?_
      show Steps p.tables e below (T25.setTop (mkF m 96 #[.val (.int p1), .val (.int p2), .val (.ref b1), .val (.ref w_PENDING), .val (.ref wn), .val (.int (0 : Int32))] [(.ref w_CANCELLED), (.ref w_PENDING), (.int (0 : Int32))])) _
      refine st26.trans ?_
      show Steps p.tables e below (T26.setTop (mkF m 99 #[.val (.int p1), .val (.int p2), .val (.ref b1), .val (.ref w_PENDING), .val (.ref wn), .val (.int (0 : Int32))] [(.int (1 : Int32)), (.int (0 : Int32))])) _
      refine XS.icmpYes X26.here hx rfl (pc0 := 99) (pc' := 104) rfl (hb hby at_99) rfl (feq (by decide : ¬ ((0 : Int32) = (1 : Int32)))).2 (by decide) (by decide) ?_
      show Steps p.tables e below (T26.setTop (mkF m 104 #[.val (.int p1), .val (.int p2), .val (.ref b1), .val (.ref w_PENDING), .val (.ref wn), .val (.int (0 : Int32))] [])) _
      refine XS.iload X26.here hx rfl (hb hby at_104) rfl ?_
      show Steps p.tables e below (T26.setTop (mkF m 106 #[.val (.int p1), .val (.int p2), .val (.ref b1), .val (.ref w_PENDING), .val (.ref wn), .val (.int (0 : Int32))] [(.int (0 : Int32))])) _
      refine XS.ifYes X26.here hx rfl (pc0 := 106) (pc' := 120) rfl (hb hby at_106) rfl ((if0 _ _).trans (teq (by decide : (0 : Int32) = (0 : Int32))).1) (by decide) (by decide) ?_
      show Steps p.tables e below (T26.setTop (mkF m 120 #[.val (.int p1), .val (.int p2), .val (.ref b1), .val (.ref w_PENDING), .val (.ref wn), .val (.int (0 : Int32))] [])) _
      refine XS.iconst X26.here hx rfl (hb hby at_120) ?_
      show Steps p.tables e below (T26.setTop (mkF m 121 #[.val (.int p1), .val (.int p2), .val (.ref b1), .val (.ref w_PENDING), .val (.ref wn), .val (.int (0 : Int32))] [(.int (1 : Int32))])) _
      exact retN X26 hx (t := .boolean) Bd.returns (by simp) (hb hby at_121) hr
    · show Q_rm0 Z p1 p2 w_PENDING w_RUNNING w_AWAITING_RETRY w_AWAITING_HUMAN w_APPROVED w_COMPLETED w_FAILED w_SKIPPED w_CANCELLED h0 n0 _ T26.heap _
      rw [eq26]
      exact ⟨rfl, N26⟩
  · rw [hv21] at pre20
    have Vc27 := V19
    obtain ⟨cl27, Ar27, qa27, Sz27, Nn27, Ha27, Ga27⟩ := Vc27
    have hin27 : ¬ ((1 : Int32) < 0 ∨ cl27.slots.size ≤ ((1 : Int32)).toNatClampNeg) := inb_of Sz27 ⟨by decide, by decide⟩
    have hat27 : cl27.slots[((1 : Int32)).toNatClampNeg]? = some (.ref w_RUNNING) := Has.at Ha27 hin27 rfl
    have Vc28 := V19
    obtain ⟨cl28, Ar28, qa28, Sz28, Nn28, Ha28, Ga28⟩ := Vc28
    have hin28 : ¬ (((p2 &&& (2147483647 : Int32)) % (9 : Int32)) < 0 ∨ cl28.slots.size ≤ (((p2 &&& (2147483647 : Int32)) % (9 : Int32))).toNatClampNeg) := inb_of Sz28 (own_b p2)
    obtain ⟨wn, hwn⟩ : ∃ wn, ([(.ref w_PENDING), (.ref w_RUNNING), (.ref w_AWAITING_RETRY), (.ref w_AWAITING_HUMAN), (.ref w_APPROVED), (.ref w_COMPLETED), (.ref w_FAILED), (.ref w_SKIPPED), (.ref w_CANCELLED)] : List Value).getD (((p2 &&& (2147483647 : Int32)) % (9 : Int32))).toNatClampNeg .null = .ref wn := by rcases own_k p2 with h | h | h | h | h | h | h | h | h <;> (rw [h]; exact ⟨_, rfl⟩)
    have hat28 := Has.at Ha28 hin28 hwn
    obtain ⟨cq29, kq29, q29a, q29b, q29c⟩ := isOf hZ e19 (E_w_RUNNING.ext O19.2)
    obtain ⟨_, _, ⟨T29, L29, k29, n29⟩, -, X29, ⟨Lc29, hQ29, l29, y29, z29⟩, st29⟩ := X19.virtualBack hx (y := (⟨"com/example/glacial_workflow/glacialworkflow/core/StepState", "hasEnded", "()Z"⟩ : MethodName)) (z := (⟨"com/example/glacial_workflow/glacialworkflow/core/StepState", "hasEnded", "()Z"⟩ : MethodName)) hown (mvT hZ (hw _ (List.mem_of_getElem? (i := 23) rfl))) (mvT hZ (hw _ (List.mem_of_getElem? (i := 24) rfl))) (notFace_of_selects (args := #[]) (mvT hZ (hw _ (List.mem_of_getElem? (i := 26) rfl)))) (mvT hZ (hw _ (List.mem_of_getElem? (i := 26) rfl))) (mvT hZ (hw _ (List.mem_of_getElem? (i := 25) rfl))) (by decide) (backOf (W := 0) (he_RUNNING l Z a0 hw [] w_PENDING w_RUNNING w_AWAITING_RETRY w_AWAITING_HUMAN w_APPROVED w_COMPLETED w_FAILED w_SKIPPED w_CANCELLED h19 n0 O19 hE) hZ (hw _ (List.mem_of_getElem? (i := 27) rfl)) (hw _ (List.mem_of_getElem? (i := 3) rfl)) (by decide) (by decide)) q29a q29c (g := (mkF m 85 #[.val (.int p1), .val (.int p2), .val (.ref b1), .val (.ref w_RUNNING), .val (.ref wn), .unset] [(.ref w_RUNNING)])) rfl (by rw [hml]; rfl) (Steps.refl _) (argsL := []) (rest := []) (lenOf pd___Z rfl) rfl (by show 2 * 0 + _ ≤ _; exact Nat.le_of_eq rfl) (hb hby at_85) (fun _ _ => ⟨rfl, e19, (by decide : 1 + 0 ≤ _), (by decide : 9 + 0 ≤ _)⟩)
    dsimp only [Pt.U, Pt.locs, Pt.cells, Pt.slots] at X29 l29 y29 z29 st29 hQ29
    subst l29 y29 z29
    obtain ⟨rfl, Nq29, eq29⟩ := hQ29
    have N29 := Fr.app N19 Nq29
    obtain ⟨T30, X30, e30, st30⟩ := getS2 X29 hx hZ hown (host := "") (Or.inl (hw _ (List.mem_of_getElem? (i := 20) rfl))) Via.refl eq29 (S_w_CANCELLED.ext O19.2) (g := (mkF m 93 #[.val (.int p1), .val (.int p2), .val (.ref b1), .val (.ref w_RUNNING), .val (.ref wn), .val (.int (0 : Int32))] [(.ref w_RUNNING), (.int (0 : Int32))])) rfl (hb hby at_93)
    obtain ⟨cq31, kq31, q31a, q31b, q31c⟩ := isOf hZ e30 (E_w_RUNNING.ext O19.2)
    obtain ⟨_, _, ⟨T31, L31, k31, n31⟩, -, X31, ⟨Lc31, hQ31, l31, y31, z31⟩, st31⟩ := X30.virtualBack hx (y := (⟨"com/example/glacial_workflow/glacialworkflow/core/StepState", "canBecome", "(Lcom/example/glacial_workflow/glacialworkflow/core/StepState;)Z"⟩ : MethodName)) (z := (⟨"com/example/glacial_workflow/glacialworkflow/core/StepState", "canBecome", "(Lcom/example/glacial_workflow/glacialworkflow/core/StepState;)Z"⟩ : MethodName)) hown (mvT hZ (hw _ (List.mem_of_getElem? (i := 32) rfl))) (mvT hZ (hw _ (List.mem_of_getElem? (i := 33) rfl))) (notFace_of_selects (args := #[]) (mvT hZ (hw _ (List.mem_of_getElem? (i := 35) rfl)))) (mvT hZ (hw _ (List.mem_of_getElem? (i := 35) rfl))) (mvT hZ (hw _ (List.mem_of_getElem? (i := 34) rfl))) (by decide) (backOf (W := 1) (cb_RUNNING l Z a0 hw [] w_PENDING w_RUNNING w_AWAITING_RETRY w_AWAITING_HUMAN w_APPROVED w_COMPLETED w_FAILED w_SKIPPED w_CANCELLED h19 n0 O19 hE) hZ (hw _ (List.mem_of_getElem? (i := 36) rfl)) (hw _ (List.mem_of_getElem? (i := 3) rfl)) (by decide) (by decide)) q31a q31c (g := (mkF m 96 #[.val (.int p1), .val (.int p2), .val (.ref b1), .val (.ref w_RUNNING), .val (.ref wn), .val (.int (0 : Int32))] [(.ref w_CANCELLED), (.ref w_RUNNING), (.int (0 : Int32))])) rfl (by rw [hml]; rfl) (Steps.refl _) (argsL := [(.ref w_CANCELLED)]) (rest := [(.int (0 : Int32))]) (lenOf pd__Lcom_example_glacial_workflow_glacialworkflow_core_StepState__Z rfl) rfl (by show 2 * 0 + _ ≤ _; exact Nat.le_of_eq rfl) (hb hby at_96) (fun _ _ => ⟨rfl, e30, (by decide : 1 + 0 ≤ _), (by decide : 9 + 0 ≤ _)⟩)
    dsimp only [Pt.U, Pt.locs, Pt.cells, Pt.slots] at X31 l31 y31 z31 st31 hQ31
    subst l31 y31 z31
    obtain ⟨rfl, Nq31, eq31⟩ := hQ31
    have N31 := Fr.app N29 Nq31
    obtain ⟨fs, hr, hrun, hended, hW, hsame⟩ := X31.leave (v := some (.int (1 : Int32))) (fun h => by rw [Bd.returns] at h; cases h)
    refine ⟨_, _, pre20 _ ?_, hrun, hended, _, _, rfl, ?_, ⟨_, rfl⟩, hW, hsame.mono (by decide) (by decide)⟩
    · show Steps p.tables e below (T19.setTop (mkF m 71 #[.val (.int p1), .val (.int p2), .val (.ref b1), .unset, .unset, .unset] [(.int (1 : Int32)), (.ref b1)])) _
      refine X19.aaload hx (j := (1 : Int32)) (v := (.ref w_RUNNING)) (by rw [e19]; exact Ar27.1) (State.isArrayOf_alike hZ.alike Ar27.2.1) rfl Ar27.2.2 hin27 hat27 (g := (mkF m 71 #[.val (.int p1), .val (.int p2), .val (.ref b1), .unset, .unset, .unset] [(.int (1 : Int32)), (.ref b1)])) rfl rfl (hb hby at_71) _ ?_
      show Steps p.tables e below (T19.setTop (mkF m 72 #[.val (.int p1), .val (.int p2), .val (.ref b1), .unset, .unset, .unset] [(.ref w_RUNNING)])) _
      refine XS.astoreN X19.here hx rfl (hb hby at_72) rfl rfl (l' := #[.val (.int p1), .val (.int p2), .val (.ref b1), .val (.ref w_RUNNING), .unset, .unset]) rfl ?_
      show Steps p.tables e below (T19.setTop (mkF m 73 #[.val (.int p1), .val (.int p2), .val (.ref b1), .val (.ref w_RUNNING), .unset, .unset] [])) _
      refine XS.aloadN X19.here hx rfl (hb hby at_73) rfl rfl ?_
      show Steps p.tables e below (T19.setTop (mkF m 74 #[.val (.int p1), .val (.int p2), .val (.ref b1), .val (.ref w_RUNNING), .unset, .unset] [(.ref b1)])) _
      refine XS.iloadN X19.here hx rfl (hb hby at_74) rfl ?_
      show Steps p.tables e below (T19.setTop (mkF m 75 #[.val (.int p1), .val (.int p2), .val (.ref b1), .val (.ref w_RUNNING), .unset, .unset] [(.int p2), (.ref b1)])) _
      refine X19.ldcInt hx hown (mvT hZ (hw _ (List.mem_of_getElem? (i := 22) rfl))) (g := (mkF m 75 #[.val (.int p1), .val (.int p2), .val (.ref b1), .val (.ref w_RUNNING), .unset, .unset] [(.int p2), (.ref b1)])) rfl (hb hby at_75) _ ?_
      show Steps p.tables e below (T19.setTop (mkF m 77 #[.val (.int p1), .val (.int p2), .val (.ref b1), .val (.ref w_RUNNING), .unset, .unset] [(.int (2147483647 : Int32)), (.int p2), (.ref b1)])) _
      refine XS.iand X19.here hx rfl (hb hby at_77) rfl ?_
      show Steps p.tables e below (T19.setTop (mkF m 78 #[.val (.int p1), .val (.int p2), .val (.ref b1), .val (.ref w_RUNNING), .unset, .unset] [(.int (p2 &&& (2147483647 : Int32))), (.ref b1)])) _
      refine XS.bipush X19.here hx rfl (hb hby at_78) ?_
      show Steps p.tables e below (T19.setTop (mkF m 80 #[.val (.int p1), .val (.int p2), .val (.ref b1), .val (.ref w_RUNNING), .unset, .unset] [(.int (9 : Int32)), (.int (p2 &&& (2147483647 : Int32))), (.ref b1)])) _
      refine iremM X19 hx (g := (mkF m 80 #[.val (.int p1), .val (.int p2), .val (.ref b1), .val (.ref w_RUNNING), .unset, .unset] [(.int (9 : Int32)), (.int (p2 &&& (2147483647 : Int32))), (.ref b1)])) rfl (hb hby at_80) rfl (by decide) ?_
      show Steps p.tables e below (T19.setTop (mkF m 81 #[.val (.int p1), .val (.int p2), .val (.ref b1), .val (.ref w_RUNNING), .unset, .unset] [(.int ((p2 &&& (2147483647 : Int32)) % (9 : Int32))), (.ref b1)])) _
      refine X19.aaload hx (j := ((p2 &&& (2147483647 : Int32)) % (9 : Int32))) (v := .ref wn) (by rw [e19]; exact Ar28.1) (State.isArrayOf_alike hZ.alike Ar28.2.1) rfl Ar28.2.2 hin28 hat28 (g := (mkF m 81 #[.val (.int p1), .val (.int p2), .val (.ref b1), .val (.ref w_RUNNING), .unset, .unset] [(.int ((p2 &&& (2147483647 : Int32)) % (9 : Int32))), (.ref b1)])) rfl rfl (hb hby at_81) _ ?_
      show Steps p.tables e below (T19.setTop (mkF m 82 #[.val (.int p1), .val (.int p2), .val (.ref b1), .val (.ref w_RUNNING), .unset, .unset] [(.ref wn)])) _
      refine XS.astore X19.here hx rfl (hb hby at_82) rfl rfl (l' := #[.val (.int p1), .val (.int p2), .val (.ref b1), .val (.ref w_RUNNING), .val (.ref wn), .unset]) rfl ?_
      show Steps p.tables e below (T19.setTop (mkF m 84 #[.val (.int p1), .val (.int p2), .val (.ref b1), .val (.ref w_RUNNING), .val (.ref wn), .unset] [])) _
      refine XS.aloadN X19.here hx rfl (hb hby at_84) rfl rfl ?_
      show Steps p.tables e below (T19.setTop (mkF m 85 #[.val (.int p1), .val (.int p2), .val (.ref b1), .val (.ref w_RUNNING), .val (.ref wn), .unset] [(.ref w_RUNNING)])) _
      refine st29.trans ?_
      show Steps p.tables e below (T29.setTop (mkF m 88 #[.val (.int p1), .val (.int p2), .val (.ref b1), .val (.ref w_RUNNING), .val (.ref wn), .unset] [(.int (0 : Int32))])) _
      refine XS.istore X29.here hx rfl (hb hby at_88) rfl (l' := #[.val (.int p1), .val (.int p2), .val (.ref b1), .val (.ref w_RUNNING), .val (.ref wn), .val (.int (0 : Int32))]) rfl ?_
      show Steps p.tables e below (T29.setTop (mkF m 90 #[.val (.int p1), .val (.int p2), .val (.ref b1), .val (.ref w_RUNNING), .val (.ref wn), .val (.int (0 : Int32))] [])) _
      refine XS.iload X29.here hx rfl (hb hby at_90) rfl ?_
      show Steps p.tables e below (T29.setTop (mkF m 92 #[.val (.int p1), .val (.int p2), .val (.ref b1), .val (.ref w_RUNNING), .val (.ref wn), .val (.int (0 : Int32))] [(.int (0 : Int32))])) _
      refine XS.aloadN X29.here hx rfl (hb hby at_92) rfl rfl ?_
      show Steps p.tables e below (T29.setTop (mkF m 93 #[.val (.int p1), .val (.int p2), .val (.ref b1), .val (.ref w_RUNNING), .val (.ref wn), .val (.int (0 : Int32))] [(.ref w_RUNNING), (.int (0 : Int32))])) _
      refine st30 _ ?_
      show Steps p.tables e below (T30.setTop (mkF m 96 #[.val (.int p1), .val (.int p2), .val (.ref b1), .val (.ref w_RUNNING), .val (.ref wn), .val (.int (0 : Int32))] [(.ref w_CANCELLED), (.ref w_RUNNING), (.int (0 : Int32))])) _
      refine st31.trans ?_
      show Steps p.tables e below (T31.setTop (mkF m 99 #[.val (.int p1), .val (.int p2), .val (.ref b1), .val (.ref w_RUNNING), .val (.ref wn), .val (.int (0 : Int32))] [(.int (1 : Int32)), (.int (0 : Int32))])) _
      refine XS.icmpYes X31.here hx rfl (pc0 := 99) (pc' := 104) rfl (hb hby at_99) rfl (feq (by decide : ¬ ((0 : Int32) = (1 : Int32)))).2 (by decide) (by decide) ?_
      show Steps p.tables e below (T31.setTop (mkF m 104 #[.val (.int p1), .val (.int p2), .val (.ref b1), .val (.ref w_RUNNING), .val (.ref wn), .val (.int (0 : Int32))] [])) _
      refine XS.iload X31.here hx rfl (hb hby at_104) rfl ?_
      show Steps p.tables e below (T31.setTop (mkF m 106 #[.val (.int p1), .val (.int p2), .val (.ref b1), .val (.ref w_RUNNING), .val (.ref wn), .val (.int (0 : Int32))] [(.int (0 : Int32))])) _
      refine XS.ifYes X31.here hx rfl (pc0 := 106) (pc' := 120) rfl (hb hby at_106) rfl ((if0 _ _).trans (teq (by decide : (0 : Int32) = (0 : Int32))).1) (by decide) (by decide) ?_
      show Steps p.tables e below (T31.setTop (mkF m 120 #[.val (.int p1), .val (.int p2), .val (.ref b1), .val (.ref w_RUNNING), .val (.ref wn), .val (.int (0 : Int32))] [])) _
      refine XS.iconst X31.here hx rfl (hb hby at_120) ?_
      show Steps p.tables e below (T31.setTop (mkF m 121 #[.val (.int p1), .val (.int p2), .val (.ref b1), .val (.ref w_RUNNING), .val (.ref wn), .val (.int (0 : Int32))] [(.int (1 : Int32))])) _
      exact retN X31 hx (t := .boolean) Bd.returns (by simp) (hb hby at_121) hr
    · show Q_rm0 Z p1 p2 w_PENDING w_RUNNING w_AWAITING_RETRY w_AWAITING_HUMAN w_APPROVED w_COMPLETED w_FAILED w_SKIPPED w_CANCELLED h0 n0 _ T31.heap _
      rw [eq31]
      exact ⟨rfl, N31⟩
  · rw [hv21] at pre20
    have Vc32 := V19
    obtain ⟨cl32, Ar32, qa32, Sz32, Nn32, Ha32, Ga32⟩ := Vc32
    have hin32 : ¬ ((2 : Int32) < 0 ∨ cl32.slots.size ≤ ((2 : Int32)).toNatClampNeg) := inb_of Sz32 ⟨by decide, by decide⟩
    have hat32 : cl32.slots[((2 : Int32)).toNatClampNeg]? = some (.ref w_AWAITING_RETRY) := Has.at Ha32 hin32 rfl
    have Vc33 := V19
    obtain ⟨cl33, Ar33, qa33, Sz33, Nn33, Ha33, Ga33⟩ := Vc33
    have hin33 : ¬ (((p2 &&& (2147483647 : Int32)) % (9 : Int32)) < 0 ∨ cl33.slots.size ≤ (((p2 &&& (2147483647 : Int32)) % (9 : Int32))).toNatClampNeg) := inb_of Sz33 (own_b p2)
    obtain ⟨wn, hwn⟩ : ∃ wn, ([(.ref w_PENDING), (.ref w_RUNNING), (.ref w_AWAITING_RETRY), (.ref w_AWAITING_HUMAN), (.ref w_APPROVED), (.ref w_COMPLETED), (.ref w_FAILED), (.ref w_SKIPPED), (.ref w_CANCELLED)] : List Value).getD (((p2 &&& (2147483647 : Int32)) % (9 : Int32))).toNatClampNeg .null = .ref wn := by rcases own_k p2 with h | h | h | h | h | h | h | h | h <;> (rw [h]; exact ⟨_, rfl⟩)
    have hat33 := Has.at Ha33 hin33 hwn
    obtain ⟨cq34, kq34, q34a, q34b, q34c⟩ := isOf hZ e19 (E_w_AWAITING_RETRY.ext O19.2)
    obtain ⟨_, _, ⟨T34, L34, k34, n34⟩, -, X34, ⟨Lc34, hQ34, l34, y34, z34⟩, st34⟩ := X19.virtualBack hx (y := (⟨"com/example/glacial_workflow/glacialworkflow/core/StepState", "hasEnded", "()Z"⟩ : MethodName)) (z := (⟨"com/example/glacial_workflow/glacialworkflow/core/StepState", "hasEnded", "()Z"⟩ : MethodName)) hown (mvT hZ (hw _ (List.mem_of_getElem? (i := 23) rfl))) (mvT hZ (hw _ (List.mem_of_getElem? (i := 24) rfl))) (notFace_of_selects (args := #[]) (mvT hZ (hw _ (List.mem_of_getElem? (i := 26) rfl)))) (mvT hZ (hw _ (List.mem_of_getElem? (i := 26) rfl))) (mvT hZ (hw _ (List.mem_of_getElem? (i := 25) rfl))) (by decide) (backOf (W := 0) (he_AWAITING_RETRY l Z a0 hw [] w_PENDING w_RUNNING w_AWAITING_RETRY w_AWAITING_HUMAN w_APPROVED w_COMPLETED w_FAILED w_SKIPPED w_CANCELLED h19 n0 O19 hE) hZ (hw _ (List.mem_of_getElem? (i := 27) rfl)) (hw _ (List.mem_of_getElem? (i := 3) rfl)) (by decide) (by decide)) q34a q34c (g := (mkF m 85 #[.val (.int p1), .val (.int p2), .val (.ref b1), .val (.ref w_AWAITING_RETRY), .val (.ref wn), .unset] [(.ref w_AWAITING_RETRY)])) rfl (by rw [hml]; rfl) (Steps.refl _) (argsL := []) (rest := []) (lenOf pd___Z rfl) rfl (by show 2 * 0 + _ ≤ _; exact Nat.le_of_eq rfl) (hb hby at_85) (fun _ _ => ⟨rfl, e19, (by decide : 1 + 0 ≤ _), (by decide : 9 + 0 ≤ _)⟩)
    dsimp only [Pt.U, Pt.locs, Pt.cells, Pt.slots] at X34 l34 y34 z34 st34 hQ34
    subst l34 y34 z34
    obtain ⟨rfl, Nq34, eq34⟩ := hQ34
    have N34 := Fr.app N19 Nq34
    obtain ⟨T35, X35, e35, st35⟩ := getS2 X34 hx hZ hown (host := "") (Or.inl (hw _ (List.mem_of_getElem? (i := 20) rfl))) Via.refl eq34 (S_w_CANCELLED.ext O19.2) (g := (mkF m 93 #[.val (.int p1), .val (.int p2), .val (.ref b1), .val (.ref w_AWAITING_RETRY), .val (.ref wn), .val (.int (0 : Int32))] [(.ref w_AWAITING_RETRY), (.int (0 : Int32))])) rfl (hb hby at_93)
    obtain ⟨cq36, kq36, q36a, q36b, q36c⟩ := isOf hZ e35 (E_w_AWAITING_RETRY.ext O19.2)
    obtain ⟨_, _, ⟨T36, L36, k36, n36⟩, -, X36, ⟨Lc36, hQ36, l36, y36, z36⟩, st36⟩ := X35.virtualBack hx (y := (⟨"com/example/glacial_workflow/glacialworkflow/core/StepState", "canBecome", "(Lcom/example/glacial_workflow/glacialworkflow/core/StepState;)Z"⟩ : MethodName)) (z := (⟨"com/example/glacial_workflow/glacialworkflow/core/StepState", "canBecome", "(Lcom/example/glacial_workflow/glacialworkflow/core/StepState;)Z"⟩ : MethodName)) hown (mvT hZ (hw _ (List.mem_of_getElem? (i := 32) rfl))) (mvT hZ (hw _ (List.mem_of_getElem? (i := 33) rfl))) (notFace_of_selects (args := #[]) (mvT hZ (hw _ (List.mem_of_getElem? (i := 35) rfl)))) (mvT hZ (hw _ (List.mem_of_getElem? (i := 35) rfl))) (mvT hZ (hw _ (List.mem_of_getElem? (i := 34) rfl))) (by decide) (backOf (W := 1) (cb_AWAITING_RETRY l Z a0 hw [] w_PENDING w_RUNNING w_AWAITING_RETRY w_AWAITING_HUMAN w_APPROVED w_COMPLETED w_FAILED w_SKIPPED w_CANCELLED h19 n0 O19 hE) hZ (hw _ (List.mem_of_getElem? (i := 36) rfl)) (hw _ (List.mem_of_getElem? (i := 3) rfl)) (by decide) (by decide)) q36a q36c (g := (mkF m 96 #[.val (.int p1), .val (.int p2), .val (.ref b1), .val (.ref w_AWAITING_RETRY), .val (.ref wn), .val (.int (0 : Int32))] [(.ref w_CANCELLED), (.ref w_AWAITING_RETRY), (.int (0 : Int32))])) rfl (by rw [hml]; rfl) (Steps.refl _) (argsL := [(.ref w_CANCELLED)]) (rest := [(.int (0 : Int32))]) (lenOf pd__Lcom_example_glacial_workflow_glacialworkflow_core_StepState__Z rfl) rfl (by show 2 * 0 + _ ≤ _; exact Nat.le_of_eq rfl) (hb hby at_96) (fun _ _ => ⟨rfl, e35, (by decide : 1 + 0 ≤ _), (by decide : 9 + 0 ≤ _)⟩)
    dsimp only [Pt.U, Pt.locs, Pt.cells, Pt.slots] at X36 l36 y36 z36 st36 hQ36
    subst l36 y36 z36
    obtain ⟨rfl, Nq36, eq36⟩ := hQ36
    have N36 := Fr.app N34 Nq36
    obtain ⟨fs, hr, hrun, hended, hW, hsame⟩ := X36.leave (v := some (.int (1 : Int32))) (fun h => by rw [Bd.returns] at h; cases h)
    refine ⟨_, _, pre20 _ ?_, hrun, hended, _, _, rfl, ?_, ⟨_, rfl⟩, hW, hsame.mono (by decide) (by decide)⟩
    · show Steps p.tables e below (T19.setTop (mkF m 71 #[.val (.int p1), .val (.int p2), .val (.ref b1), .unset, .unset, .unset] [(.int (2 : Int32)), (.ref b1)])) _
      refine X19.aaload hx (j := (2 : Int32)) (v := (.ref w_AWAITING_RETRY)) (by rw [e19]; exact Ar32.1) (State.isArrayOf_alike hZ.alike Ar32.2.1) rfl Ar32.2.2 hin32 hat32 (g := (mkF m 71 #[.val (.int p1), .val (.int p2), .val (.ref b1), .unset, .unset, .unset] [(.int (2 : Int32)), (.ref b1)])) rfl rfl (hb hby at_71) _ ?_
      show Steps p.tables e below (T19.setTop (mkF m 72 #[.val (.int p1), .val (.int p2), .val (.ref b1), .unset, .unset, .unset] [(.ref w_AWAITING_RETRY)])) _
      refine XS.astoreN X19.here hx rfl (hb hby at_72) rfl rfl (l' := #[.val (.int p1), .val (.int p2), .val (.ref b1), .val (.ref w_AWAITING_RETRY), .unset, .unset]) rfl ?_
      show Steps p.tables e below (T19.setTop (mkF m 73 #[.val (.int p1), .val (.int p2), .val (.ref b1), .val (.ref w_AWAITING_RETRY), .unset, .unset] [])) _
      refine XS.aloadN X19.here hx rfl (hb hby at_73) rfl rfl ?_
      show Steps p.tables e below (T19.setTop (mkF m 74 #[.val (.int p1), .val (.int p2), .val (.ref b1), .val (.ref w_AWAITING_RETRY), .unset, .unset] [(.ref b1)])) _
      refine XS.iloadN X19.here hx rfl (hb hby at_74) rfl ?_
      show Steps p.tables e below (T19.setTop (mkF m 75 #[.val (.int p1), .val (.int p2), .val (.ref b1), .val (.ref w_AWAITING_RETRY), .unset, .unset] [(.int p2), (.ref b1)])) _
      refine X19.ldcInt hx hown (mvT hZ (hw _ (List.mem_of_getElem? (i := 22) rfl))) (g := (mkF m 75 #[.val (.int p1), .val (.int p2), .val (.ref b1), .val (.ref w_AWAITING_RETRY), .unset, .unset] [(.int p2), (.ref b1)])) rfl (hb hby at_75) _ ?_
      show Steps p.tables e below (T19.setTop (mkF m 77 #[.val (.int p1), .val (.int p2), .val (.ref b1), .val (.ref w_AWAITING_RETRY), .unset, .unset] [(.int (2147483647 : Int32)), (.int p2), (.ref b1)])) _
      refine XS.iand X19.here hx rfl (hb hby at_77) rfl ?_
      show Steps p.tables e below (T19.setTop (mkF m 78 #[.val (.int p1), .val (.int p2), .val (.ref b1), .val (.ref w_AWAITING_RETRY), .unset, .unset] [(.int (p2 &&& (2147483647 : Int32))), (.ref b1)])) _
      refine XS.bipush X19.here hx rfl (hb hby at_78) ?_
      show Steps p.tables e below (T19.setTop (mkF m 80 #[.val (.int p1), .val (.int p2), .val (.ref b1), .val (.ref w_AWAITING_RETRY), .unset, .unset] [(.int (9 : Int32)), (.int (p2 &&& (2147483647 : Int32))), (.ref b1)])) _
      refine iremM X19 hx (g := (mkF m 80 #[.val (.int p1), .val (.int p2), .val (.ref b1), .val (.ref w_AWAITING_RETRY), .unset, .unset] [(.int (9 : Int32)), (.int (p2 &&& (2147483647 : Int32))), (.ref b1)])) rfl (hb hby at_80) rfl (by decide) ?_
      show Steps p.tables e below (T19.setTop (mkF m 81 #[.val (.int p1), .val (.int p2), .val (.ref b1), .val (.ref w_AWAITING_RETRY), .unset, .unset] [(.int ((p2 &&& (2147483647 : Int32)) % (9 : Int32))), (.ref b1)])) _
      refine X19.aaload hx (j := ((p2 &&& (2147483647 : Int32)) % (9 : Int32))) (v := .ref wn) (by rw [e19]; exact Ar33.1) (State.isArrayOf_alike hZ.alike Ar33.2.1) rfl Ar33.2.2 hin33 hat33 (g := (mkF m 81 #[.val (.int p1), .val (.int p2), .val (.ref b1), .val (.ref w_AWAITING_RETRY), .unset, .unset] [(.int ((p2 &&& (2147483647 : Int32)) % (9 : Int32))), (.ref b1)])) rfl rfl (hb hby at_81) _ ?_
      show Steps p.tables e below (T19.setTop (mkF m 82 #[.val (.int p1), .val (.int p2), .val (.ref b1), .val (.ref w_AWAITING_RETRY), .unset, .unset] [(.ref wn)])) _
      refine XS.astore X19.here hx rfl (hb hby at_82) rfl rfl (l' := #[.val (.int p1), .val (.int p2), .val (.ref b1), .val (.ref w_AWAITING_RETRY), .val (.ref wn), .unset]) rfl ?_
      show Steps p.tables e below (T19.setTop (mkF m 84 #[.val (.int p1), .val (.int p2), .val (.ref b1), .val (.ref w_AWAITING_RETRY), .val (.ref wn), .unset] [])) _
      refine XS.aloadN X19.here hx rfl (hb hby at_84) rfl rfl ?_
      show Steps p.tables e below (T19.setTop (mkF m 85 #[.val (.int p1), .val (.int p2), .val (.ref b1), .val (.ref w_AWAITING_RETRY), .val (.ref wn), .unset] [(.ref w_AWAITING_RETRY)])) _
      refine st34.trans ?_
      show Steps p.tables e below (T34.setTop (mkF m 88 #[.val (.int p1), .val (.int p2), .val (.ref b1), .val (.ref w_AWAITING_RETRY), .val (.ref wn), .unset] [(.int (0 : Int32))])) _
      refine XS.istore X34.here hx rfl (hb hby at_88) rfl (l' := #[.val (.int p1), .val (.int p2), .val (.ref b1), .val (.ref w_AWAITING_RETRY), .val (.ref wn), .val (.int (0 : Int32))]) rfl ?_
      show Steps p.tables e below (T34.setTop (mkF m 90 #[.val (.int p1), .val (.int p2), .val (.ref b1), .val (.ref w_AWAITING_RETRY), .val (.ref wn), .val (.int (0 : Int32))] [])) _
      refine XS.iload X34.here hx rfl (hb hby at_90) rfl ?_
      show Steps p.tables e below (T34.setTop (mkF m 92 #[.val (.int p1), .val (.int p2), .val (.ref b1), .val (.ref w_AWAITING_RETRY), .val (.ref wn), .val (.int (0 : Int32))] [(.int (0 : Int32))])) _
      refine XS.aloadN X34.here hx rfl (hb hby at_92) rfl rfl ?_
      show Steps p.tables e below (T34.setTop (mkF m 93 #[.val (.int p1), .val (.int p2), .val (.ref b1), .val (.ref w_AWAITING_RETRY), .val (.ref wn), .val (.int (0 : Int32))] [(.ref w_AWAITING_RETRY), (.int (0 : Int32))])) _
      refine st35 _ ?_
      show Steps p.tables e below (T35.setTop (mkF m 96 #[.val (.int p1), .val (.int p2), .val (.ref b1), .val (.ref w_AWAITING_RETRY), .val (.ref wn), .val (.int (0 : Int32))] [(.ref w_CANCELLED), (.ref w_AWAITING_RETRY), (.int (0 : Int32))])) _
      refine st36.trans ?_
      show Steps p.tables e below (T36.setTop (mkF m 99 #[.val (.int p1), .val (.int p2), .val (.ref b1), .val (.ref w_AWAITING_RETRY), .val (.ref wn), .val (.int (0 : Int32))] [(.int (1 : Int32)), (.int (0 : Int32))])) _
      refine XS.icmpYes X36.here hx rfl (pc0 := 99) (pc' := 104) rfl (hb hby at_99) rfl (feq (by decide : ¬ ((0 : Int32) = (1 : Int32)))).2 (by decide) (by decide) ?_
      show Steps p.tables e below (T36.setTop (mkF m 104 #[.val (.int p1), .val (.int p2), .val (.ref b1), .val (.ref w_AWAITING_RETRY), .val (.ref wn), .val (.int (0 : Int32))] [])) _
      refine XS.iload X36.here hx rfl (hb hby at_104) rfl ?_
      show Steps p.tables e below (T36.setTop (mkF m 106 #[.val (.int p1), .val (.int p2), .val (.ref b1), .val (.ref w_AWAITING_RETRY), .val (.ref wn), .val (.int (0 : Int32))] [(.int (0 : Int32))])) _
      refine XS.ifYes X36.here hx rfl (pc0 := 106) (pc' := 120) rfl (hb hby at_106) rfl ((if0 _ _).trans (teq (by decide : (0 : Int32) = (0 : Int32))).1) (by decide) (by decide) ?_
      show Steps p.tables e below (T36.setTop (mkF m 120 #[.val (.int p1), .val (.int p2), .val (.ref b1), .val (.ref w_AWAITING_RETRY), .val (.ref wn), .val (.int (0 : Int32))] [])) _
      refine XS.iconst X36.here hx rfl (hb hby at_120) ?_
      show Steps p.tables e below (T36.setTop (mkF m 121 #[.val (.int p1), .val (.int p2), .val (.ref b1), .val (.ref w_AWAITING_RETRY), .val (.ref wn), .val (.int (0 : Int32))] [(.int (1 : Int32))])) _
      exact retN X36 hx (t := .boolean) Bd.returns (by simp) (hb hby at_121) hr
    · show Q_rm0 Z p1 p2 w_PENDING w_RUNNING w_AWAITING_RETRY w_AWAITING_HUMAN w_APPROVED w_COMPLETED w_FAILED w_SKIPPED w_CANCELLED h0 n0 _ T36.heap _
      rw [eq36]
      exact ⟨rfl, N36⟩
  · rw [hv21] at pre20
    have Vc37 := V19
    obtain ⟨cl37, Ar37, qa37, Sz37, Nn37, Ha37, Ga37⟩ := Vc37
    have hin37 : ¬ ((3 : Int32) < 0 ∨ cl37.slots.size ≤ ((3 : Int32)).toNatClampNeg) := inb_of Sz37 ⟨by decide, by decide⟩
    have hat37 : cl37.slots[((3 : Int32)).toNatClampNeg]? = some (.ref w_AWAITING_HUMAN) := Has.at Ha37 hin37 rfl
    have Vc38 := V19
    obtain ⟨cl38, Ar38, qa38, Sz38, Nn38, Ha38, Ga38⟩ := Vc38
    have hin38 : ¬ (((p2 &&& (2147483647 : Int32)) % (9 : Int32)) < 0 ∨ cl38.slots.size ≤ (((p2 &&& (2147483647 : Int32)) % (9 : Int32))).toNatClampNeg) := inb_of Sz38 (own_b p2)
    obtain ⟨wn, hwn⟩ : ∃ wn, ([(.ref w_PENDING), (.ref w_RUNNING), (.ref w_AWAITING_RETRY), (.ref w_AWAITING_HUMAN), (.ref w_APPROVED), (.ref w_COMPLETED), (.ref w_FAILED), (.ref w_SKIPPED), (.ref w_CANCELLED)] : List Value).getD (((p2 &&& (2147483647 : Int32)) % (9 : Int32))).toNatClampNeg .null = .ref wn := by rcases own_k p2 with h | h | h | h | h | h | h | h | h <;> (rw [h]; exact ⟨_, rfl⟩)
    have hat38 := Has.at Ha38 hin38 hwn
    obtain ⟨cq39, kq39, q39a, q39b, q39c⟩ := isOf hZ e19 (E_w_AWAITING_HUMAN.ext O19.2)
    obtain ⟨_, _, ⟨T39, L39, k39, n39⟩, -, X39, ⟨Lc39, hQ39, l39, y39, z39⟩, st39⟩ := X19.virtualBack hx (y := (⟨"com/example/glacial_workflow/glacialworkflow/core/StepState", "hasEnded", "()Z"⟩ : MethodName)) (z := (⟨"com/example/glacial_workflow/glacialworkflow/core/StepState", "hasEnded", "()Z"⟩ : MethodName)) hown (mvT hZ (hw _ (List.mem_of_getElem? (i := 23) rfl))) (mvT hZ (hw _ (List.mem_of_getElem? (i := 24) rfl))) (notFace_of_selects (args := #[]) (mvT hZ (hw _ (List.mem_of_getElem? (i := 26) rfl)))) (mvT hZ (hw _ (List.mem_of_getElem? (i := 26) rfl))) (mvT hZ (hw _ (List.mem_of_getElem? (i := 25) rfl))) (by decide) (backOf (W := 0) (he_AWAITING_HUMAN l Z a0 hw [] w_PENDING w_RUNNING w_AWAITING_RETRY w_AWAITING_HUMAN w_APPROVED w_COMPLETED w_FAILED w_SKIPPED w_CANCELLED h19 n0 O19 hE) hZ (hw _ (List.mem_of_getElem? (i := 27) rfl)) (hw _ (List.mem_of_getElem? (i := 3) rfl)) (by decide) (by decide)) q39a q39c (g := (mkF m 85 #[.val (.int p1), .val (.int p2), .val (.ref b1), .val (.ref w_AWAITING_HUMAN), .val (.ref wn), .unset] [(.ref w_AWAITING_HUMAN)])) rfl (by rw [hml]; rfl) (Steps.refl _) (argsL := []) (rest := []) (lenOf pd___Z rfl) rfl (by show 2 * 0 + _ ≤ _; exact Nat.le_of_eq rfl) (hb hby at_85) (fun _ _ => ⟨rfl, e19, (by decide : 1 + 0 ≤ _), (by decide : 9 + 0 ≤ _)⟩)
    dsimp only [Pt.U, Pt.locs, Pt.cells, Pt.slots] at X39 l39 y39 z39 st39 hQ39
    subst l39 y39 z39
    obtain ⟨rfl, Nq39, eq39⟩ := hQ39
    have N39 := Fr.app N19 Nq39
    obtain ⟨T40, X40, e40, st40⟩ := getS2 X39 hx hZ hown (host := "") (Or.inl (hw _ (List.mem_of_getElem? (i := 20) rfl))) Via.refl eq39 (S_w_CANCELLED.ext O19.2) (g := (mkF m 93 #[.val (.int p1), .val (.int p2), .val (.ref b1), .val (.ref w_AWAITING_HUMAN), .val (.ref wn), .val (.int (0 : Int32))] [(.ref w_AWAITING_HUMAN), (.int (0 : Int32))])) rfl (hb hby at_93)
    obtain ⟨cq41, kq41, q41a, q41b, q41c⟩ := isOf hZ e40 (E_w_AWAITING_HUMAN.ext O19.2)
    obtain ⟨_, _, ⟨T41, L41, k41, n41⟩, -, X41, ⟨Lc41, hQ41, l41, y41, z41⟩, st41⟩ := X40.virtualBack hx (y := (⟨"com/example/glacial_workflow/glacialworkflow/core/StepState", "canBecome", "(Lcom/example/glacial_workflow/glacialworkflow/core/StepState;)Z"⟩ : MethodName)) (z := (⟨"com/example/glacial_workflow/glacialworkflow/core/StepState", "canBecome", "(Lcom/example/glacial_workflow/glacialworkflow/core/StepState;)Z"⟩ : MethodName)) hown (mvT hZ (hw _ (List.mem_of_getElem? (i := 32) rfl))) (mvT hZ (hw _ (List.mem_of_getElem? (i := 33) rfl))) (notFace_of_selects (args := #[]) (mvT hZ (hw _ (List.mem_of_getElem? (i := 35) rfl)))) (mvT hZ (hw _ (List.mem_of_getElem? (i := 35) rfl))) (mvT hZ (hw _ (List.mem_of_getElem? (i := 34) rfl))) (by decide) (backOf (W := 1) (cb_AWAITING_HUMAN l Z a0 hw [] w_PENDING w_RUNNING w_AWAITING_RETRY w_AWAITING_HUMAN w_APPROVED w_COMPLETED w_FAILED w_SKIPPED w_CANCELLED h19 n0 O19 hE) hZ (hw _ (List.mem_of_getElem? (i := 36) rfl)) (hw _ (List.mem_of_getElem? (i := 3) rfl)) (by decide) (by decide)) q41a q41c (g := (mkF m 96 #[.val (.int p1), .val (.int p2), .val (.ref b1), .val (.ref w_AWAITING_HUMAN), .val (.ref wn), .val (.int (0 : Int32))] [(.ref w_CANCELLED), (.ref w_AWAITING_HUMAN), (.int (0 : Int32))])) rfl (by rw [hml]; rfl) (Steps.refl _) (argsL := [(.ref w_CANCELLED)]) (rest := [(.int (0 : Int32))]) (lenOf pd__Lcom_example_glacial_workflow_glacialworkflow_core_StepState__Z rfl) rfl (by show 2 * 0 + _ ≤ _; exact Nat.le_of_eq rfl) (hb hby at_96) (fun _ _ => ⟨rfl, e40, (by decide : 1 + 0 ≤ _), (by decide : 9 + 0 ≤ _)⟩)
    dsimp only [Pt.U, Pt.locs, Pt.cells, Pt.slots] at X41 l41 y41 z41 st41 hQ41
    subst l41 y41 z41
    obtain ⟨rfl, Nq41, eq41⟩ := hQ41
    have N41 := Fr.app N39 Nq41
    obtain ⟨fs, hr, hrun, hended, hW, hsame⟩ := X41.leave (v := some (.int (1 : Int32))) (fun h => by rw [Bd.returns] at h; cases h)
    refine ⟨_, _, pre20 _ ?_, hrun, hended, _, _, rfl, ?_, ⟨_, rfl⟩, hW, hsame.mono (by decide) (by decide)⟩
    · show Steps p.tables e below (T19.setTop (mkF m 71 #[.val (.int p1), .val (.int p2), .val (.ref b1), .unset, .unset, .unset] [(.int (3 : Int32)), (.ref b1)])) _
      refine X19.aaload hx (j := (3 : Int32)) (v := (.ref w_AWAITING_HUMAN)) (by rw [e19]; exact Ar37.1) (State.isArrayOf_alike hZ.alike Ar37.2.1) rfl Ar37.2.2 hin37 hat37 (g := (mkF m 71 #[.val (.int p1), .val (.int p2), .val (.ref b1), .unset, .unset, .unset] [(.int (3 : Int32)), (.ref b1)])) rfl rfl (hb hby at_71) _ ?_
      show Steps p.tables e below (T19.setTop (mkF m 72 #[.val (.int p1), .val (.int p2), .val (.ref b1), .unset, .unset, .unset] [(.ref w_AWAITING_HUMAN)])) _
      refine XS.astoreN X19.here hx rfl (hb hby at_72) rfl rfl (l' := #[.val (.int p1), .val (.int p2), .val (.ref b1), .val (.ref w_AWAITING_HUMAN), .unset, .unset]) rfl ?_
      show Steps p.tables e below (T19.setTop (mkF m 73 #[.val (.int p1), .val (.int p2), .val (.ref b1), .val (.ref w_AWAITING_HUMAN), .unset, .unset] [])) _
      refine XS.aloadN X19.here hx rfl (hb hby at_73) rfl rfl ?_
      show Steps p.tables e below (T19.setTop (mkF m 74 #[.val (.int p1), .val (.int p2), .val (.ref b1), .val (.ref w_AWAITING_HUMAN), .unset, .unset] [(.ref b1)])) _
      refine XS.iloadN X19.here hx rfl (hb hby at_74) rfl ?_
      show Steps p.tables e below (T19.setTop (mkF m 75 #[.val (.int p1), .val (.int p2), .val (.ref b1), .val (.ref w_AWAITING_HUMAN), .unset, .unset] [(.int p2), (.ref b1)])) _
      refine X19.ldcInt hx hown (mvT hZ (hw _ (List.mem_of_getElem? (i := 22) rfl))) (g := (mkF m 75 #[.val (.int p1), .val (.int p2), .val (.ref b1), .val (.ref w_AWAITING_HUMAN), .unset, .unset] [(.int p2), (.ref b1)])) rfl (hb hby at_75) _ ?_
      show Steps p.tables e below (T19.setTop (mkF m 77 #[.val (.int p1), .val (.int p2), .val (.ref b1), .val (.ref w_AWAITING_HUMAN), .unset, .unset] [(.int (2147483647 : Int32)), (.int p2), (.ref b1)])) _
      refine XS.iand X19.here hx rfl (hb hby at_77) rfl ?_
      show Steps p.tables e below (T19.setTop (mkF m 78 #[.val (.int p1), .val (.int p2), .val (.ref b1), .val (.ref w_AWAITING_HUMAN), .unset, .unset] [(.int (p2 &&& (2147483647 : Int32))), (.ref b1)])) _
      refine XS.bipush X19.here hx rfl (hb hby at_78) ?_
      show Steps p.tables e below (T19.setTop (mkF m 80 #[.val (.int p1), .val (.int p2), .val (.ref b1), .val (.ref w_AWAITING_HUMAN), .unset, .unset] [(.int (9 : Int32)), (.int (p2 &&& (2147483647 : Int32))), (.ref b1)])) _
      refine iremM X19 hx (g := (mkF m 80 #[.val (.int p1), .val (.int p2), .val (.ref b1), .val (.ref w_AWAITING_HUMAN), .unset, .unset] [(.int (9 : Int32)), (.int (p2 &&& (2147483647 : Int32))), (.ref b1)])) rfl (hb hby at_80) rfl (by decide) ?_
      show Steps p.tables e below (T19.setTop (mkF m 81 #[.val (.int p1), .val (.int p2), .val (.ref b1), .val (.ref w_AWAITING_HUMAN), .unset, .unset] [(.int ((p2 &&& (2147483647 : Int32)) % (9 : Int32))), (.ref b1)])) _
      refine X19.aaload hx (j := ((p2 &&& (2147483647 : Int32)) % (9 : Int32))) (v := .ref wn) (by rw [e19]; exact Ar38.1) (State.isArrayOf_alike hZ.alike Ar38.2.1) rfl Ar38.2.2 hin38 hat38 (g := (mkF m 81 #[.val (.int p1), .val (.int p2), .val (.ref b1), .val (.ref w_AWAITING_HUMAN), .unset, .unset] [(.int ((p2 &&& (2147483647 : Int32)) % (9 : Int32))), (.ref b1)])) rfl rfl (hb hby at_81) _ ?_
      show Steps p.tables e below (T19.setTop (mkF m 82 #[.val (.int p1), .val (.int p2), .val (.ref b1), .val (.ref w_AWAITING_HUMAN), .unset, .unset] [(.ref wn)])) _
      refine XS.astore X19.here hx rfl (hb hby at_82) rfl rfl (l' := #[.val (.int p1), .val (.int p2), .val (.ref b1), .val (.ref w_AWAITING_HUMAN), .val (.ref wn), .unset]) rfl ?_
      show Steps p.tables e below (T19.setTop (mkF m 84 #[.val (.int p1), .val (.int p2), .val (.ref b1), .val (.ref w_AWAITING_HUMAN), .val (.ref wn), .unset] [])) _
      refine XS.aloadN X19.here hx rfl (hb hby at_84) rfl rfl ?_
      show Steps p.tables e below (T19.setTop (mkF m 85 #[.val (.int p1), .val (.int p2), .val (.ref b1), .val (.ref w_AWAITING_HUMAN), .val (.ref wn), .unset] [(.ref w_AWAITING_HUMAN)])) _
      refine st39.trans ?_
      show Steps p.tables e below (T39.setTop (mkF m 88 #[.val (.int p1), .val (.int p2), .val (.ref b1), .val (.ref w_AWAITING_HUMAN), .val (.ref wn), .unset] [(.int (0 : Int32))])) _
      refine XS.istore X39.here hx rfl (hb hby at_88) rfl (l' := #[.val (.int p1), .val (.int p2), .val (.ref b1), .val (.ref w_AWAITING_HUMAN), .val (.ref wn), .val (.int (0 : Int32))]) rfl ?_
      show Steps p.tables e below (T39.setTop (mkF m 90 #[.val (.int p1), .val (.int p2), .val (.ref b1), .val (.ref w_AWAITING_HUMAN), .val (.ref wn), .val (.int (0 : Int32))] [])) _
      refine XS.iload X39.here hx rfl (hb hby at_90) rfl ?_
      show Steps p.tables e below (T39.setTop (mkF m 92 #[.val (.int p1), .val (.int p2), .val (.ref b1), .val (.ref w_AWAITING_HUMAN), .val (.ref wn), .val (.int (0 : Int32))] [(.int (0 : Int32))])) _
      refine XS.aloadN X39.here hx rfl (hb hby at_92) rfl rfl ?_
      show Steps p.tables e below (T39.setTop (mkF m 93 #[.val (.int p1), .val (.int p2), .val (.ref b1), .val (.ref w_AWAITING_HUMAN), .val (.ref wn), .val (.int (0 : Int32))] [(.ref w_AWAITING_HUMAN), (.int (0 : Int32))])) _
      refine st40 _ ?_
      show Steps p.tables e below (T40.setTop (mkF m 96 #[.val (.int p1), .val (.int p2), .val (.ref b1), .val (.ref w_AWAITING_HUMAN), .val (.ref wn), .val (.int (0 : Int32))] [(.ref w_CANCELLED), (.ref w_AWAITING_HUMAN), (.int (0 : Int32))])) _
      refine st41.trans ?_
      show Steps p.tables e below (T41.setTop (mkF m 99 #[.val (.int p1), .val (.int p2), .val (.ref b1), .val (.ref w_AWAITING_HUMAN), .val (.ref wn), .val (.int (0 : Int32))] [(.int (1 : Int32)), (.int (0 : Int32))])) _
      refine XS.icmpYes X41.here hx rfl (pc0 := 99) (pc' := 104) rfl (hb hby at_99) rfl (feq (by decide : ¬ ((0 : Int32) = (1 : Int32)))).2 (by decide) (by decide) ?_
      show Steps p.tables e below (T41.setTop (mkF m 104 #[.val (.int p1), .val (.int p2), .val (.ref b1), .val (.ref w_AWAITING_HUMAN), .val (.ref wn), .val (.int (0 : Int32))] [])) _
      refine XS.iload X41.here hx rfl (hb hby at_104) rfl ?_
      show Steps p.tables e below (T41.setTop (mkF m 106 #[.val (.int p1), .val (.int p2), .val (.ref b1), .val (.ref w_AWAITING_HUMAN), .val (.ref wn), .val (.int (0 : Int32))] [(.int (0 : Int32))])) _
      refine XS.ifYes X41.here hx rfl (pc0 := 106) (pc' := 120) rfl (hb hby at_106) rfl ((if0 _ _).trans (teq (by decide : (0 : Int32) = (0 : Int32))).1) (by decide) (by decide) ?_
      show Steps p.tables e below (T41.setTop (mkF m 120 #[.val (.int p1), .val (.int p2), .val (.ref b1), .val (.ref w_AWAITING_HUMAN), .val (.ref wn), .val (.int (0 : Int32))] [])) _
      refine XS.iconst X41.here hx rfl (hb hby at_120) ?_
      show Steps p.tables e below (T41.setTop (mkF m 121 #[.val (.int p1), .val (.int p2), .val (.ref b1), .val (.ref w_AWAITING_HUMAN), .val (.ref wn), .val (.int (0 : Int32))] [(.int (1 : Int32))])) _
      exact retN X41 hx (t := .boolean) Bd.returns (by simp) (hb hby at_121) hr
    · show Q_rm0 Z p1 p2 w_PENDING w_RUNNING w_AWAITING_RETRY w_AWAITING_HUMAN w_APPROVED w_COMPLETED w_FAILED w_SKIPPED w_CANCELLED h0 n0 _ T41.heap _
      rw [eq41]
      exact ⟨rfl, N41⟩
  · rw [hv21] at pre20
    have Vc42 := V19
    obtain ⟨cl42, Ar42, qa42, Sz42, Nn42, Ha42, Ga42⟩ := Vc42
    have hin42 : ¬ ((4 : Int32) < 0 ∨ cl42.slots.size ≤ ((4 : Int32)).toNatClampNeg) := inb_of Sz42 ⟨by decide, by decide⟩
    have hat42 : cl42.slots[((4 : Int32)).toNatClampNeg]? = some (.ref w_APPROVED) := Has.at Ha42 hin42 rfl
    have Vc43 := V19
    obtain ⟨cl43, Ar43, qa43, Sz43, Nn43, Ha43, Ga43⟩ := Vc43
    have hin43 : ¬ (((p2 &&& (2147483647 : Int32)) % (9 : Int32)) < 0 ∨ cl43.slots.size ≤ (((p2 &&& (2147483647 : Int32)) % (9 : Int32))).toNatClampNeg) := inb_of Sz43 (own_b p2)
    obtain ⟨wn, hwn⟩ : ∃ wn, ([(.ref w_PENDING), (.ref w_RUNNING), (.ref w_AWAITING_RETRY), (.ref w_AWAITING_HUMAN), (.ref w_APPROVED), (.ref w_COMPLETED), (.ref w_FAILED), (.ref w_SKIPPED), (.ref w_CANCELLED)] : List Value).getD (((p2 &&& (2147483647 : Int32)) % (9 : Int32))).toNatClampNeg .null = .ref wn := by rcases own_k p2 with h | h | h | h | h | h | h | h | h <;> (rw [h]; exact ⟨_, rfl⟩)
    have hat43 := Has.at Ha43 hin43 hwn
    obtain ⟨cq44, kq44, q44a, q44b, q44c⟩ := isOf hZ e19 (E_w_APPROVED.ext O19.2)
    obtain ⟨_, _, ⟨T44, L44, k44, n44⟩, -, X44, ⟨Lc44, hQ44, l44, y44, z44⟩, st44⟩ := X19.virtualBack hx (y := (⟨"com/example/glacial_workflow/glacialworkflow/core/StepState", "hasEnded", "()Z"⟩ : MethodName)) (z := (⟨"com/example/glacial_workflow/glacialworkflow/core/StepState", "hasEnded", "()Z"⟩ : MethodName)) hown (mvT hZ (hw _ (List.mem_of_getElem? (i := 23) rfl))) (mvT hZ (hw _ (List.mem_of_getElem? (i := 24) rfl))) (notFace_of_selects (args := #[]) (mvT hZ (hw _ (List.mem_of_getElem? (i := 26) rfl)))) (mvT hZ (hw _ (List.mem_of_getElem? (i := 26) rfl))) (mvT hZ (hw _ (List.mem_of_getElem? (i := 25) rfl))) (by decide) (backOf (W := 0) (he_APPROVED l Z a0 hw [] w_PENDING w_RUNNING w_AWAITING_RETRY w_AWAITING_HUMAN w_APPROVED w_COMPLETED w_FAILED w_SKIPPED w_CANCELLED h19 n0 O19 hE) hZ (hw _ (List.mem_of_getElem? (i := 27) rfl)) (hw _ (List.mem_of_getElem? (i := 3) rfl)) (by decide) (by decide)) q44a q44c (g := (mkF m 85 #[.val (.int p1), .val (.int p2), .val (.ref b1), .val (.ref w_APPROVED), .val (.ref wn), .unset] [(.ref w_APPROVED)])) rfl (by rw [hml]; rfl) (Steps.refl _) (argsL := []) (rest := []) (lenOf pd___Z rfl) rfl (by show 2 * 0 + _ ≤ _; exact Nat.le_of_eq rfl) (hb hby at_85) (fun _ _ => ⟨rfl, e19, (by decide : 1 + 0 ≤ _), (by decide : 9 + 0 ≤ _)⟩)
    dsimp only [Pt.U, Pt.locs, Pt.cells, Pt.slots] at X44 l44 y44 z44 st44 hQ44
    subst l44 y44 z44
    obtain ⟨rfl, Nq44, eq44⟩ := hQ44
    have N44 := Fr.app N19 Nq44
    obtain ⟨T45, X45, e45, st45⟩ := getS2 X44 hx hZ hown (host := "") (Or.inl (hw _ (List.mem_of_getElem? (i := 20) rfl))) Via.refl eq44 (S_w_CANCELLED.ext O19.2) (g := (mkF m 93 #[.val (.int p1), .val (.int p2), .val (.ref b1), .val (.ref w_APPROVED), .val (.ref wn), .val (.int (0 : Int32))] [(.ref w_APPROVED), (.int (0 : Int32))])) rfl (hb hby at_93)
    obtain ⟨cq46, kq46, q46a, q46b, q46c⟩ := isOf hZ e45 (E_w_APPROVED.ext O19.2)
    obtain ⟨_, _, ⟨T46, L46, k46, n46⟩, -, X46, ⟨Lc46, hQ46, l46, y46, z46⟩, st46⟩ := X45.virtualBack hx (y := (⟨"com/example/glacial_workflow/glacialworkflow/core/StepState", "canBecome", "(Lcom/example/glacial_workflow/glacialworkflow/core/StepState;)Z"⟩ : MethodName)) (z := (⟨"com/example/glacial_workflow/glacialworkflow/core/StepState", "canBecome", "(Lcom/example/glacial_workflow/glacialworkflow/core/StepState;)Z"⟩ : MethodName)) hown (mvT hZ (hw _ (List.mem_of_getElem? (i := 32) rfl))) (mvT hZ (hw _ (List.mem_of_getElem? (i := 33) rfl))) (notFace_of_selects (args := #[]) (mvT hZ (hw _ (List.mem_of_getElem? (i := 35) rfl)))) (mvT hZ (hw _ (List.mem_of_getElem? (i := 35) rfl))) (mvT hZ (hw _ (List.mem_of_getElem? (i := 34) rfl))) (by decide) (backOf (W := 1) (cb_APPROVED l Z a0 hw [] w_PENDING w_RUNNING w_AWAITING_RETRY w_AWAITING_HUMAN w_APPROVED w_COMPLETED w_FAILED w_SKIPPED w_CANCELLED h19 n0 O19 hE) hZ (hw _ (List.mem_of_getElem? (i := 36) rfl)) (hw _ (List.mem_of_getElem? (i := 3) rfl)) (by decide) (by decide)) q46a q46c (g := (mkF m 96 #[.val (.int p1), .val (.int p2), .val (.ref b1), .val (.ref w_APPROVED), .val (.ref wn), .val (.int (0 : Int32))] [(.ref w_CANCELLED), (.ref w_APPROVED), (.int (0 : Int32))])) rfl (by rw [hml]; rfl) (Steps.refl _) (argsL := [(.ref w_CANCELLED)]) (rest := [(.int (0 : Int32))]) (lenOf pd__Lcom_example_glacial_workflow_glacialworkflow_core_StepState__Z rfl) rfl (by show 2 * 0 + _ ≤ _; exact Nat.le_of_eq rfl) (hb hby at_96) (fun _ _ => ⟨rfl, e45, (by decide : 1 + 0 ≤ _), (by decide : 9 + 0 ≤ _)⟩)
    dsimp only [Pt.U, Pt.locs, Pt.cells, Pt.slots] at X46 l46 y46 z46 st46 hQ46
    subst l46 y46 z46
    obtain ⟨rfl, Nq46, eq46⟩ := hQ46
    have N46 := Fr.app N44 Nq46
    obtain ⟨fs, hr, hrun, hended, hW, hsame⟩ := X46.leave (v := some (.int (1 : Int32))) (fun h => by rw [Bd.returns] at h; cases h)
    refine ⟨_, _, pre20 _ ?_, hrun, hended, _, _, rfl, ?_, ⟨_, rfl⟩, hW, hsame.mono (by decide) (by decide)⟩
    · show Steps p.tables e below (T19.setTop (mkF m 71 #[.val (.int p1), .val (.int p2), .val (.ref b1), .unset, .unset, .unset] [(.int (4 : Int32)), (.ref b1)])) _
      refine X19.aaload hx (j := (4 : Int32)) (v := (.ref w_APPROVED)) (by rw [e19]; exact Ar42.1) (State.isArrayOf_alike hZ.alike Ar42.2.1) rfl Ar42.2.2 hin42 hat42 (g := (mkF m 71 #[.val (.int p1), .val (.int p2), .val (.ref b1), .unset, .unset, .unset] [(.int (4 : Int32)), (.ref b1)])) rfl rfl (hb hby at_71) _ ?_
      show Steps p.tables e below (T19.setTop (mkF m 72 #[.val (.int p1), .val (.int p2), .val (.ref b1), .unset, .unset, .unset] [(.ref w_APPROVED)])) _
      refine XS.astoreN X19.here hx rfl (hb hby at_72) rfl rfl (l' := #[.val (.int p1), .val (.int p2), .val (.ref b1), .val (.ref w_APPROVED), .unset, .unset]) rfl ?_
      show Steps p.tables e below (T19.setTop (mkF m 73 #[.val (.int p1), .val (.int p2), .val (.ref b1), .val (.ref w_APPROVED), .unset, .unset] [])) _
      refine XS.aloadN X19.here hx rfl (hb hby at_73) rfl rfl ?_
      show Steps p.tables e below (T19.setTop (mkF m 74 #[.val (.int p1), .val (.int p2), .val (.ref b1), .val (.ref w_APPROVED), .unset, .unset] [(.ref b1)])) _
      refine XS.iloadN X19.here hx rfl (hb hby at_74) rfl ?_
      show Steps p.tables e below (T19.setTop (mkF m 75 #[.val (.int p1), .val (.int p2), .val (.ref b1), .val (.ref w_APPROVED), .unset, .unset] [(.int p2), (.ref b1)])) _
      refine X19.ldcInt hx hown (mvT hZ (hw _ (List.mem_of_getElem? (i := 22) rfl))) (g := (mkF m 75 #[.val (.int p1), .val (.int p2), .val (.ref b1), .val (.ref w_APPROVED), .unset, .unset] [(.int p2), (.ref b1)])) rfl (hb hby at_75) _ ?_
      show Steps p.tables e below (T19.setTop (mkF m 77 #[.val (.int p1), .val (.int p2), .val (.ref b1), .val (.ref w_APPROVED), .unset, .unset] [(.int (2147483647 : Int32)), (.int p2), (.ref b1)])) _
      refine XS.iand X19.here hx rfl (hb hby at_77) rfl ?_
      show Steps p.tables e below (T19.setTop (mkF m 78 #[.val (.int p1), .val (.int p2), .val (.ref b1), .val (.ref w_APPROVED), .unset, .unset] [(.int (p2 &&& (2147483647 : Int32))), (.ref b1)])) _
      refine XS.bipush X19.here hx rfl (hb hby at_78) ?_
      show Steps p.tables e below (T19.setTop (mkF m 80 #[.val (.int p1), .val (.int p2), .val (.ref b1), .val (.ref w_APPROVED), .unset, .unset] [(.int (9 : Int32)), (.int (p2 &&& (2147483647 : Int32))), (.ref b1)])) _
      refine iremM X19 hx (g := (mkF m 80 #[.val (.int p1), .val (.int p2), .val (.ref b1), .val (.ref w_APPROVED), .unset, .unset] [(.int (9 : Int32)), (.int (p2 &&& (2147483647 : Int32))), (.ref b1)])) rfl (hb hby at_80) rfl (by decide) ?_
      show Steps p.tables e below (T19.setTop (mkF m 81 #[.val (.int p1), .val (.int p2), .val (.ref b1), .val (.ref w_APPROVED), .unset, .unset] [(.int ((p2 &&& (2147483647 : Int32)) % (9 : Int32))), (.ref b1)])) _
      refine X19.aaload hx (j := ((p2 &&& (2147483647 : Int32)) % (9 : Int32))) (v := .ref wn) (by rw [e19]; exact Ar43.1) (State.isArrayOf_alike hZ.alike Ar43.2.1) rfl Ar43.2.2 hin43 hat43 (g := (mkF m 81 #[.val (.int p1), .val (.int p2), .val (.ref b1), .val (.ref w_APPROVED), .unset, .unset] [(.int ((p2 &&& (2147483647 : Int32)) % (9 : Int32))), (.ref b1)])) rfl rfl (hb hby at_81) _ ?_
      show Steps p.tables e below (T19.setTop (mkF m 82 #[.val (.int p1), .val (.int p2), .val (.ref b1), .val (.ref w_APPROVED), .unset, .unset] [(.ref wn)])) _
      refine XS.astore X19.here hx rfl (hb hby at_82) rfl rfl (l' := #[.val (.int p1), .val (.int p2), .val (.ref b1), .val (.ref w_APPROVED), .val (.ref wn), .unset]) rfl ?_
      show Steps p.tables e below (T19.setTop (mkF m 84 #[.val (.int p1), .val (.int p2), .val (.ref b1), .val (.ref w_APPROVED), .val (.ref wn), .unset] [])) _
      refine XS.aloadN X19.here hx rfl (hb hby at_84) rfl rfl ?_
      show Steps p.tables e below (T19.setTop (mkF m 85 #[.val (.int p1), .val (.int p2), .val (.ref b1), .val (.ref w_APPROVED), .val (.ref wn), .unset] [(.ref w_APPROVED)])) _
      refine st44.trans ?_
      show Steps p.tables e below (T44.setTop (mkF m 88 #[.val (.int p1), .val (.int p2), .val (.ref b1), .val (.ref w_APPROVED), .val (.ref wn), .unset] [(.int (0 : Int32))])) _
      refine XS.istore X44.here hx rfl (hb hby at_88) rfl (l' := #[.val (.int p1), .val (.int p2), .val (.ref b1), .val (.ref w_APPROVED), .val (.ref wn), .val (.int (0 : Int32))]) rfl ?_
      show Steps p.tables e below (T44.setTop (mkF m 90 #[.val (.int p1), .val (.int p2), .val (.ref b1), .val (.ref w_APPROVED), .val (.ref wn), .val (.int (0 : Int32))] [])) _
      refine XS.iload X44.here hx rfl (hb hby at_90) rfl ?_
      show Steps p.tables e below (T44.setTop (mkF m 92 #[.val (.int p1), .val (.int p2), .val (.ref b1), .val (.ref w_APPROVED), .val (.ref wn), .val (.int (0 : Int32))] [(.int (0 : Int32))])) _
      refine XS.aloadN X44.here hx rfl (hb hby at_92) rfl rfl ?_
      show Steps p.tables e below (T44.setTop (mkF m 93 #[.val (.int p1), .val (.int p2), .val (.ref b1), .val (.ref w_APPROVED), .val (.ref wn), .val (.int (0 : Int32))] [(.ref w_APPROVED), (.int (0 : Int32))])) _
      refine st45 _ ?_
      show Steps p.tables e below (T45.setTop (mkF m 96 #[.val (.int p1), .val (.int p2), .val (.ref b1), .val (.ref w_APPROVED), .val (.ref wn), .val (.int (0 : Int32))] [(.ref w_CANCELLED), (.ref w_APPROVED), (.int (0 : Int32))])) _
      refine st46.trans ?_
      show Steps p.tables e below (T46.setTop (mkF m 99 #[.val (.int p1), .val (.int p2), .val (.ref b1), .val (.ref w_APPROVED), .val (.ref wn), .val (.int (0 : Int32))] [(.int (1 : Int32)), (.int (0 : Int32))])) _
      refine XS.icmpYes X46.here hx rfl (pc0 := 99) (pc' := 104) rfl (hb hby at_99) rfl (feq (by decide : ¬ ((0 : Int32) = (1 : Int32)))).2 (by decide) (by decide) ?_
      show Steps p.tables e below (T46.setTop (mkF m 104 #[.val (.int p1), .val (.int p2), .val (.ref b1), .val (.ref w_APPROVED), .val (.ref wn), .val (.int (0 : Int32))] [])) _
      refine XS.iload X46.here hx rfl (hb hby at_104) rfl ?_
      show Steps p.tables e below (T46.setTop (mkF m 106 #[.val (.int p1), .val (.int p2), .val (.ref b1), .val (.ref w_APPROVED), .val (.ref wn), .val (.int (0 : Int32))] [(.int (0 : Int32))])) _
      refine XS.ifYes X46.here hx rfl (pc0 := 106) (pc' := 120) rfl (hb hby at_106) rfl ((if0 _ _).trans (teq (by decide : (0 : Int32) = (0 : Int32))).1) (by decide) (by decide) ?_
      show Steps p.tables e below (T46.setTop (mkF m 120 #[.val (.int p1), .val (.int p2), .val (.ref b1), .val (.ref w_APPROVED), .val (.ref wn), .val (.int (0 : Int32))] [])) _
      refine XS.iconst X46.here hx rfl (hb hby at_120) ?_
      show Steps p.tables e below (T46.setTop (mkF m 121 #[.val (.int p1), .val (.int p2), .val (.ref b1), .val (.ref w_APPROVED), .val (.ref wn), .val (.int (0 : Int32))] [(.int (1 : Int32))])) _
      exact retN X46 hx (t := .boolean) Bd.returns (by simp) (hb hby at_121) hr
    · show Q_rm0 Z p1 p2 w_PENDING w_RUNNING w_AWAITING_RETRY w_AWAITING_HUMAN w_APPROVED w_COMPLETED w_FAILED w_SKIPPED w_CANCELLED h0 n0 _ T46.heap _
      rw [eq46]
      exact ⟨rfl, N46⟩
  · rw [hv21] at pre20
    have Vc47 := V19
    obtain ⟨cl47, Ar47, qa47, Sz47, Nn47, Ha47, Ga47⟩ := Vc47
    have hin47 : ¬ ((5 : Int32) < 0 ∨ cl47.slots.size ≤ ((5 : Int32)).toNatClampNeg) := inb_of Sz47 ⟨by decide, by decide⟩
    have hat47 : cl47.slots[((5 : Int32)).toNatClampNeg]? = some (.ref w_COMPLETED) := Has.at Ha47 hin47 rfl
    have Vc48 := V19
    obtain ⟨cl48, Ar48, qa48, Sz48, Nn48, Ha48, Ga48⟩ := Vc48
    have hin48 : ¬ (((p2 &&& (2147483647 : Int32)) % (9 : Int32)) < 0 ∨ cl48.slots.size ≤ (((p2 &&& (2147483647 : Int32)) % (9 : Int32))).toNatClampNeg) := inb_of Sz48 (own_b p2)
    obtain ⟨wn, hwn⟩ : ∃ wn, ([(.ref w_PENDING), (.ref w_RUNNING), (.ref w_AWAITING_RETRY), (.ref w_AWAITING_HUMAN), (.ref w_APPROVED), (.ref w_COMPLETED), (.ref w_FAILED), (.ref w_SKIPPED), (.ref w_CANCELLED)] : List Value).getD (((p2 &&& (2147483647 : Int32)) % (9 : Int32))).toNatClampNeg .null = .ref wn := by rcases own_k p2 with h | h | h | h | h | h | h | h | h <;> (rw [h]; exact ⟨_, rfl⟩)
    have hat48 := Has.at Ha48 hin48 hwn
    obtain ⟨cq49, kq49, q49a, q49b, q49c⟩ := isOf hZ e19 (E_w_COMPLETED.ext O19.2)
    obtain ⟨_, _, ⟨T49, L49, k49, n49⟩, -, X49, ⟨Lc49, hQ49, l49, y49, z49⟩, st49⟩ := X19.virtualBack hx (y := (⟨"com/example/glacial_workflow/glacialworkflow/core/StepState", "hasEnded", "()Z"⟩ : MethodName)) (z := (⟨"com/example/glacial_workflow/glacialworkflow/core/StepState", "hasEnded", "()Z"⟩ : MethodName)) hown (mvT hZ (hw _ (List.mem_of_getElem? (i := 23) rfl))) (mvT hZ (hw _ (List.mem_of_getElem? (i := 24) rfl))) (notFace_of_selects (args := #[]) (mvT hZ (hw _ (List.mem_of_getElem? (i := 26) rfl)))) (mvT hZ (hw _ (List.mem_of_getElem? (i := 26) rfl))) (mvT hZ (hw _ (List.mem_of_getElem? (i := 25) rfl))) (by decide) (backOf (W := 0) (he_COMPLETED l Z a0 hw [] w_PENDING w_RUNNING w_AWAITING_RETRY w_AWAITING_HUMAN w_APPROVED w_COMPLETED w_FAILED w_SKIPPED w_CANCELLED h19 n0 O19 hE) hZ (hw _ (List.mem_of_getElem? (i := 27) rfl)) (hw _ (List.mem_of_getElem? (i := 3) rfl)) (by decide) (by decide)) q49a q49c (g := (mkF m 85 #[.val (.int p1), .val (.int p2), .val (.ref b1), .val (.ref w_COMPLETED), .val (.ref wn), .unset] [(.ref w_COMPLETED)])) rfl (by rw [hml]; rfl) (Steps.refl _) (argsL := []) (rest := []) (lenOf pd___Z rfl) rfl (by show 2 * 0 + _ ≤ _; exact Nat.le_of_eq rfl) (hb hby at_85) (fun _ _ => ⟨rfl, e19, (by decide : 1 + 0 ≤ _), (by decide : 9 + 0 ≤ _)⟩)
    dsimp only [Pt.U, Pt.locs, Pt.cells, Pt.slots] at X49 l49 y49 z49 st49 hQ49
    subst l49 y49 z49
    obtain ⟨rfl, Nq49, eq49⟩ := hQ49
    have N49 := Fr.app N19 Nq49
    obtain ⟨T50, X50, e50, st50⟩ := getS2 X49 hx hZ hown (host := "") (Or.inl (hw _ (List.mem_of_getElem? (i := 20) rfl))) Via.refl eq49 (S_w_CANCELLED.ext O19.2) (g := (mkF m 93 #[.val (.int p1), .val (.int p2), .val (.ref b1), .val (.ref w_COMPLETED), .val (.ref wn), .val (.int (1 : Int32))] [(.ref w_COMPLETED), (.int (1 : Int32))])) rfl (hb hby at_93)
    obtain ⟨cq51, kq51, q51a, q51b, q51c⟩ := isOf hZ e50 (E_w_COMPLETED.ext O19.2)
    obtain ⟨_, _, ⟨T51, L51, k51, n51⟩, -, X51, ⟨Lc51, hQ51, l51, y51, z51⟩, st51⟩ := X50.virtualBack hx (y := (⟨"com/example/glacial_workflow/glacialworkflow/core/StepState", "canBecome", "(Lcom/example/glacial_workflow/glacialworkflow/core/StepState;)Z"⟩ : MethodName)) (z := (⟨"com/example/glacial_workflow/glacialworkflow/core/StepState", "canBecome", "(Lcom/example/glacial_workflow/glacialworkflow/core/StepState;)Z"⟩ : MethodName)) hown (mvT hZ (hw _ (List.mem_of_getElem? (i := 32) rfl))) (mvT hZ (hw _ (List.mem_of_getElem? (i := 33) rfl))) (notFace_of_selects (args := #[]) (mvT hZ (hw _ (List.mem_of_getElem? (i := 35) rfl)))) (mvT hZ (hw _ (List.mem_of_getElem? (i := 35) rfl))) (mvT hZ (hw _ (List.mem_of_getElem? (i := 34) rfl))) (by decide) (backOf (W := 1) (cb_COMPLETED l Z a0 hw [] w_CANCELLED w_PENDING w_RUNNING w_AWAITING_RETRY w_AWAITING_HUMAN w_APPROVED w_COMPLETED w_FAILED w_SKIPPED w_CANCELLED h19 n0 O19 hE) hZ (hw _ (List.mem_of_getElem? (i := 36) rfl)) (hw _ (List.mem_of_getElem? (i := 3) rfl)) (by decide) (by decide)) q51a q51c (g := (mkF m 96 #[.val (.int p1), .val (.int p2), .val (.ref b1), .val (.ref w_COMPLETED), .val (.ref wn), .val (.int (1 : Int32))] [(.ref w_CANCELLED), (.ref w_COMPLETED), (.int (1 : Int32))])) rfl (by rw [hml]; rfl) (Steps.refl _) (argsL := [(.ref w_CANCELLED)]) (rest := [(.int (1 : Int32))]) (lenOf pd__Lcom_example_glacial_workflow_glacialworkflow_core_StepState__Z rfl) rfl (by show 2 * 0 + _ ≤ _; exact Nat.le_of_eq rfl) (hb hby at_96) (fun _ _ => ⟨rfl, e50, (by decide : 1 + 0 ≤ _), (by decide : 9 + 0 ≤ _)⟩)
    dsimp only [Pt.U, Pt.locs, Pt.cells, Pt.slots] at X51 l51 y51 z51 st51 hQ51
    subst l51 y51 z51
    obtain ⟨rfl, Nq51, eq51⟩ := hQ51
    have N51 := Fr.app N49 Nq51
    obtain ⟨cq52, kq52, q52a, q52b, q52c⟩ := isOf hZ eq51 (E_w_COMPLETED.ext O19.2)
    obtain ⟨_, _, ⟨T52, L52, k52, n52⟩, -, X52, ⟨Lc52, hQ52, l52, y52, z52⟩, st52⟩ := X51.virtualBack hx (y := (⟨"com/example/glacial_workflow/glacialworkflow/core/StepState", "canBecome", "(Lcom/example/glacial_workflow/glacialworkflow/core/StepState;)Z"⟩ : MethodName)) (z := (⟨"com/example/glacial_workflow/glacialworkflow/core/StepState", "canBecome", "(Lcom/example/glacial_workflow/glacialworkflow/core/StepState;)Z"⟩ : MethodName)) hown (mvT hZ (hw _ (List.mem_of_getElem? (i := 32) rfl))) (mvT hZ (hw _ (List.mem_of_getElem? (i := 33) rfl))) (notFace_of_selects (args := #[]) (mvT hZ (hw _ (List.mem_of_getElem? (i := 35) rfl)))) (mvT hZ (hw _ (List.mem_of_getElem? (i := 35) rfl))) (mvT hZ (hw _ (List.mem_of_getElem? (i := 34) rfl))) (by decide) (backOf (W := 0) (cb_COMPLETED l Z a0 hw [] wn w_PENDING w_RUNNING w_AWAITING_RETRY w_AWAITING_HUMAN w_APPROVED w_COMPLETED w_FAILED w_SKIPPED w_CANCELLED h19 n0 O19 hE) hZ (hw _ (List.mem_of_getElem? (i := 36) rfl)) (hw _ (List.mem_of_getElem? (i := 3) rfl)) (by decide) (by decide)) q52a q52c (g := (mkF m 112 #[.val (.int p1), .val (.int p2), .val (.ref b1), .val (.ref w_COMPLETED), .val (.ref wn), .val (.int (1 : Int32))] [(.ref wn), (.ref w_COMPLETED)])) rfl (by rw [hml]; rfl) (Steps.refl _) (argsL := [(.ref wn)]) (rest := []) (lenOf pd__Lcom_example_glacial_workflow_glacialworkflow_core_StepState__Z rfl) rfl (by show 2 * 0 + _ ≤ _; exact Nat.le_of_eq rfl) (hb hby at_112) (fun _ _ => ⟨rfl, eq51, (by decide : 1 + 0 ≤ _), (by decide : 9 + 0 ≤ _)⟩)
    dsimp only [Pt.U, Pt.locs, Pt.cells, Pt.slots] at X52 l52 y52 z52 st52 hQ52
    subst l52 y52 z52
    obtain ⟨rfl, Nq52, eq52⟩ := hQ52
    have N52 := Fr.app N51 Nq52
    obtain ⟨fs, hr, hrun, hended, hW, hsame⟩ := X52.leave (v := some (.int (1 : Int32))) (fun h => by rw [Bd.returns] at h; cases h)
    refine ⟨_, _, pre20 _ ?_, hrun, hended, _, _, rfl, ?_, ⟨_, rfl⟩, hW, hsame.mono (by decide) (by decide)⟩
    · show Steps p.tables e below (T19.setTop (mkF m 71 #[.val (.int p1), .val (.int p2), .val (.ref b1), .unset, .unset, .unset] [(.int (5 : Int32)), (.ref b1)])) _
      refine X19.aaload hx (j := (5 : Int32)) (v := (.ref w_COMPLETED)) (by rw [e19]; exact Ar47.1) (State.isArrayOf_alike hZ.alike Ar47.2.1) rfl Ar47.2.2 hin47 hat47 (g := (mkF m 71 #[.val (.int p1), .val (.int p2), .val (.ref b1), .unset, .unset, .unset] [(.int (5 : Int32)), (.ref b1)])) rfl rfl (hb hby at_71) _ ?_
      show Steps p.tables e below (T19.setTop (mkF m 72 #[.val (.int p1), .val (.int p2), .val (.ref b1), .unset, .unset, .unset] [(.ref w_COMPLETED)])) _
      refine XS.astoreN X19.here hx rfl (hb hby at_72) rfl rfl (l' := #[.val (.int p1), .val (.int p2), .val (.ref b1), .val (.ref w_COMPLETED), .unset, .unset]) rfl ?_
      show Steps p.tables e below (T19.setTop (mkF m 73 #[.val (.int p1), .val (.int p2), .val (.ref b1), .val (.ref w_COMPLETED), .unset, .unset] [])) _
      refine XS.aloadN X19.here hx rfl (hb hby at_73) rfl rfl ?_
      show Steps p.tables e below (T19.setTop (mkF m 74 #[.val (.int p1), .val (.int p2), .val (.ref b1), .val (.ref w_COMPLETED), .unset, .unset] [(.ref b1)])) _
      refine XS.iloadN X19.here hx rfl (hb hby at_74) rfl ?_
      show Steps p.tables e below (T19.setTop (mkF m 75 #[.val (.int p1), .val (.int p2), .val (.ref b1), .val (.ref w_COMPLETED), .unset, .unset] [(.int p2), (.ref b1)])) _
      refine X19.ldcInt hx hown (mvT hZ (hw _ (List.mem_of_getElem? (i := 22) rfl))) (g := (mkF m 75 #[.val (.int p1), .val (.int p2), .val (.ref b1), .val (.ref w_COMPLETED), .unset, .unset] [(.int p2), (.ref b1)])) rfl (hb hby at_75) _ ?_
      show Steps p.tables e below (T19.setTop (mkF m 77 #[.val (.int p1), .val (.int p2), .val (.ref b1), .val (.ref w_COMPLETED), .unset, .unset] [(.int (2147483647 : Int32)), (.int p2), (.ref b1)])) _
      refine XS.iand X19.here hx rfl (hb hby at_77) rfl ?_
      show Steps p.tables e below (T19.setTop (mkF m 78 #[.val (.int p1), .val (.int p2), .val (.ref b1), .val (.ref w_COMPLETED), .unset, .unset] [(.int (p2 &&& (2147483647 : Int32))), (.ref b1)])) _
      refine XS.bipush X19.here hx rfl (hb hby at_78) ?_
      show Steps p.tables e below (T19.setTop (mkF m 80 #[.val (.int p1), .val (.int p2), .val (.ref b1), .val (.ref w_COMPLETED), .unset, .unset] [(.int (9 : Int32)), (.int (p2 &&& (2147483647 : Int32))), (.ref b1)])) _
      refine iremM X19 hx (g := (mkF m 80 #[.val (.int p1), .val (.int p2), .val (.ref b1), .val (.ref w_COMPLETED), .unset, .unset] [(.int (9 : Int32)), (.int (p2 &&& (2147483647 : Int32))), (.ref b1)])) rfl (hb hby at_80) rfl (by decide) ?_
      show Steps p.tables e below (T19.setTop (mkF m 81 #[.val (.int p1), .val (.int p2), .val (.ref b1), .val (.ref w_COMPLETED), .unset, .unset] [(.int ((p2 &&& (2147483647 : Int32)) % (9 : Int32))), (.ref b1)])) _
      refine X19.aaload hx (j := ((p2 &&& (2147483647 : Int32)) % (9 : Int32))) (v := .ref wn) (by rw [e19]; exact Ar48.1) (State.isArrayOf_alike hZ.alike Ar48.2.1) rfl Ar48.2.2 hin48 hat48 (g := (mkF m 81 #[.val (.int p1), .val (.int p2), .val (.ref b1), .val (.ref w_COMPLETED), .unset, .unset] [(.int ((p2 &&& (2147483647 : Int32)) % (9 : Int32))), (.ref b1)])) rfl rfl (hb hby at_81) _ ?_
      show Steps p.tables e below (T19.setTop (mkF m 82 #[.val (.int p1), .val (.int p2), .val (.ref b1), .val (.ref w_COMPLETED), .unset, .unset] [(.ref wn)])) _
      refine XS.astore X19.here hx rfl (hb hby at_82) rfl rfl (l' := #[.val (.int p1), .val (.int p2), .val (.ref b1), .val (.ref w_COMPLETED), .val (.ref wn), .unset]) rfl ?_
      show Steps p.tables e below (T19.setTop (mkF m 84 #[.val (.int p1), .val (.int p2), .val (.ref b1), .val (.ref w_COMPLETED), .val (.ref wn), .unset] [])) _
      refine XS.aloadN X19.here hx rfl (hb hby at_84) rfl rfl ?_
      show Steps p.tables e below (T19.setTop (mkF m 85 #[.val (.int p1), .val (.int p2), .val (.ref b1), .val (.ref w_COMPLETED), .val (.ref wn), .unset] [(.ref w_COMPLETED)])) _
      refine st49.trans ?_
      show Steps p.tables e below (T49.setTop (mkF m 88 #[.val (.int p1), .val (.int p2), .val (.ref b1), .val (.ref w_COMPLETED), .val (.ref wn), .unset] [(.int (1 : Int32))])) _
      refine XS.istore X49.here hx rfl (hb hby at_88) rfl (l' := #[.val (.int p1), .val (.int p2), .val (.ref b1), .val (.ref w_COMPLETED), .val (.ref wn), .val (.int (1 : Int32))]) rfl ?_
      show Steps p.tables e below (T49.setTop (mkF m 90 #[.val (.int p1), .val (.int p2), .val (.ref b1), .val (.ref w_COMPLETED), .val (.ref wn), .val (.int (1 : Int32))] [])) _
      refine XS.iload X49.here hx rfl (hb hby at_90) rfl ?_
      show Steps p.tables e below (T49.setTop (mkF m 92 #[.val (.int p1), .val (.int p2), .val (.ref b1), .val (.ref w_COMPLETED), .val (.ref wn), .val (.int (1 : Int32))] [(.int (1 : Int32))])) _
      refine XS.aloadN X49.here hx rfl (hb hby at_92) rfl rfl ?_
      show Steps p.tables e below (T49.setTop (mkF m 93 #[.val (.int p1), .val (.int p2), .val (.ref b1), .val (.ref w_COMPLETED), .val (.ref wn), .val (.int (1 : Int32))] [(.ref w_COMPLETED), (.int (1 : Int32))])) _
      refine st50 _ ?_
      show Steps p.tables e below (T50.setTop (mkF m 96 #[.val (.int p1), .val (.int p2), .val (.ref b1), .val (.ref w_COMPLETED), .val (.ref wn), .val (.int (1 : Int32))] [(.ref w_CANCELLED), (.ref w_COMPLETED), (.int (1 : Int32))])) _
      refine st51.trans ?_
      show Steps p.tables e below (T51.setTop (mkF m 99 #[.val (.int p1), .val (.int p2), .val (.ref b1), .val (.ref w_COMPLETED), .val (.ref wn), .val (.int (1 : Int32))] [(.int (0 : Int32)), (.int (1 : Int32))])) _
      refine XS.icmpYes X51.here hx rfl (pc0 := 99) (pc' := 104) rfl (hb hby at_99) rfl (feq (by decide : ¬ ((1 : Int32) = (0 : Int32)))).2 (by decide) (by decide) ?_
      show Steps p.tables e below (T51.setTop (mkF m 104 #[.val (.int p1), .val (.int p2), .val (.ref b1), .val (.ref w_COMPLETED), .val (.ref wn), .val (.int (1 : Int32))] [])) _
      refine XS.iload X51.here hx rfl (hb hby at_104) rfl ?_
      show Steps p.tables e below (T51.setTop (mkF m 106 #[.val (.int p1), .val (.int p2), .val (.ref b1), .val (.ref w_COMPLETED), .val (.ref wn), .val (.int (1 : Int32))] [(.int (1 : Int32))])) _
      refine XS.ifNo X51.here hx rfl (hb hby at_106) rfl ((if0 _ _).trans (feq (by decide : ¬ ((1 : Int32) = (0 : Int32)))).1) ?_
      show Steps p.tables e below (T51.setTop (mkF m 109 #[.val (.int p1), .val (.int p2), .val (.ref b1), .val (.ref w_COMPLETED), .val (.ref wn), .val (.int (1 : Int32))] [])) _
      refine XS.aloadN X51.here hx rfl (hb hby at_109) rfl rfl ?_
      show Steps p.tables e below (T51.setTop (mkF m 110 #[.val (.int p1), .val (.int p2), .val (.ref b1), .val (.ref w_COMPLETED), .val (.ref wn), .val (.int (1 : Int32))] [(.ref w_COMPLETED)])) _
      refine XS.aload X51.here hx rfl (hb hby at_110) rfl rfl ?_
      show Steps p.tables e below (T51.setTop (mkF m 112 #[.val (.int p1), .val (.int p2), .val (.ref b1), .val (.ref w_COMPLETED), .val (.ref wn), .val (.int (1 : Int32))] [(.ref wn), (.ref w_COMPLETED)])) _
      refine st52.trans ?_
      show Steps p.tables e below (T52.setTop (mkF m 115 #[.val (.int p1), .val (.int p2), .val (.ref b1), .val (.ref w_COMPLETED), .val (.ref wn), .val (.int (1 : Int32))] [(.int (0 : Int32))])) _
      refine XS.ifYes X52.here hx rfl (pc0 := 115) (pc' := 120) rfl (hb hby at_115) rfl ((if0 _ _).trans (teq (by decide : (0 : Int32) = (0 : Int32))).1) (by decide) (by decide) ?_
      show Steps p.tables e below (T52.setTop (mkF m 120 #[.val (.int p1), .val (.int p2), .val (.ref b1), .val (.ref w_COMPLETED), .val (.ref wn), .val (.int (1 : Int32))] [])) _
      refine XS.iconst X52.here hx rfl (hb hby at_120) ?_
      show Steps p.tables e below (T52.setTop (mkF m 121 #[.val (.int p1), .val (.int p2), .val (.ref b1), .val (.ref w_COMPLETED), .val (.ref wn), .val (.int (1 : Int32))] [(.int (1 : Int32))])) _
      exact retN X52 hx (t := .boolean) Bd.returns (by simp) (hb hby at_121) hr
    · show Q_rm0 Z p1 p2 w_PENDING w_RUNNING w_AWAITING_RETRY w_AWAITING_HUMAN w_APPROVED w_COMPLETED w_FAILED w_SKIPPED w_CANCELLED h0 n0 _ T52.heap _
      rw [eq52]
      exact ⟨rfl, N52⟩
  · rw [hv21] at pre20
    have Vc53 := V19
    obtain ⟨cl53, Ar53, qa53, Sz53, Nn53, Ha53, Ga53⟩ := Vc53
    have hin53 : ¬ ((6 : Int32) < 0 ∨ cl53.slots.size ≤ ((6 : Int32)).toNatClampNeg) := inb_of Sz53 ⟨by decide, by decide⟩
    have hat53 : cl53.slots[((6 : Int32)).toNatClampNeg]? = some (.ref w_FAILED) := Has.at Ha53 hin53 rfl
    have Vc54 := V19
    obtain ⟨cl54, Ar54, qa54, Sz54, Nn54, Ha54, Ga54⟩ := Vc54
    have hin54 : ¬ (((p2 &&& (2147483647 : Int32)) % (9 : Int32)) < 0 ∨ cl54.slots.size ≤ (((p2 &&& (2147483647 : Int32)) % (9 : Int32))).toNatClampNeg) := inb_of Sz54 (own_b p2)
    obtain ⟨wn, hwn⟩ : ∃ wn, ([(.ref w_PENDING), (.ref w_RUNNING), (.ref w_AWAITING_RETRY), (.ref w_AWAITING_HUMAN), (.ref w_APPROVED), (.ref w_COMPLETED), (.ref w_FAILED), (.ref w_SKIPPED), (.ref w_CANCELLED)] : List Value).getD (((p2 &&& (2147483647 : Int32)) % (9 : Int32))).toNatClampNeg .null = .ref wn := by rcases own_k p2 with h | h | h | h | h | h | h | h | h <;> (rw [h]; exact ⟨_, rfl⟩)
    have hat54 := Has.at Ha54 hin54 hwn
    obtain ⟨cq55, kq55, q55a, q55b, q55c⟩ := isOf hZ e19 (E_w_FAILED.ext O19.2)
    obtain ⟨_, _, ⟨T55, L55, k55, n55⟩, -, X55, ⟨Lc55, hQ55, l55, y55, z55⟩, st55⟩ := X19.virtualBack hx (y := (⟨"com/example/glacial_workflow/glacialworkflow/core/StepState", "hasEnded", "()Z"⟩ : MethodName)) (z := (⟨"com/example/glacial_workflow/glacialworkflow/core/StepState", "hasEnded", "()Z"⟩ : MethodName)) hown (mvT hZ (hw _ (List.mem_of_getElem? (i := 23) rfl))) (mvT hZ (hw _ (List.mem_of_getElem? (i := 24) rfl))) (notFace_of_selects (args := #[]) (mvT hZ (hw _ (List.mem_of_getElem? (i := 26) rfl)))) (mvT hZ (hw _ (List.mem_of_getElem? (i := 26) rfl))) (mvT hZ (hw _ (List.mem_of_getElem? (i := 25) rfl))) (by decide) (backOf (W := 0) (he_FAILED l Z a0 hw [] w_PENDING w_RUNNING w_AWAITING_RETRY w_AWAITING_HUMAN w_APPROVED w_COMPLETED w_FAILED w_SKIPPED w_CANCELLED h19 n0 O19 hE) hZ (hw _ (List.mem_of_getElem? (i := 27) rfl)) (hw _ (List.mem_of_getElem? (i := 3) rfl)) (by decide) (by decide)) q55a q55c (g := (mkF m 85 #[.val (.int p1), .val (.int p2), .val (.ref b1), .val (.ref w_FAILED), .val (.ref wn), .unset] [(.ref w_FAILED)])) rfl (by rw [hml]; rfl) (Steps.refl _) (argsL := []) (rest := []) (lenOf pd___Z rfl) rfl (by show 2 * 0 + _ ≤ _; exact Nat.le_of_eq rfl) (hb hby at_85) (fun _ _ => ⟨rfl, e19, (by decide : 1 + 0 ≤ _), (by decide : 9 + 0 ≤ _)⟩)
    dsimp only [Pt.U, Pt.locs, Pt.cells, Pt.slots] at X55 l55 y55 z55 st55 hQ55
    subst l55 y55 z55
    obtain ⟨rfl, Nq55, eq55⟩ := hQ55
    have N55 := Fr.app N19 Nq55
    obtain ⟨T56, X56, e56, st56⟩ := getS2 X55 hx hZ hown (host := "") (Or.inl (hw _ (List.mem_of_getElem? (i := 20) rfl))) Via.refl eq55 (S_w_CANCELLED.ext O19.2) (g := (mkF m 93 #[.val (.int p1), .val (.int p2), .val (.ref b1), .val (.ref w_FAILED), .val (.ref wn), .val (.int (1 : Int32))] [(.ref w_FAILED), (.int (1 : Int32))])) rfl (hb hby at_93)
    obtain ⟨cq57, kq57, q57a, q57b, q57c⟩ := isOf hZ e56 (E_w_FAILED.ext O19.2)
    obtain ⟨_, _, ⟨T57, L57, k57, n57⟩, -, X57, ⟨Lc57, hQ57, l57, y57, z57⟩, st57⟩ := X56.virtualBack hx (y := (⟨"com/example/glacial_workflow/glacialworkflow/core/StepState", "canBecome", "(Lcom/example/glacial_workflow/glacialworkflow/core/StepState;)Z"⟩ : MethodName)) (z := (⟨"com/example/glacial_workflow/glacialworkflow/core/StepState", "canBecome", "(Lcom/example/glacial_workflow/glacialworkflow/core/StepState;)Z"⟩ : MethodName)) hown (mvT hZ (hw _ (List.mem_of_getElem? (i := 32) rfl))) (mvT hZ (hw _ (List.mem_of_getElem? (i := 33) rfl))) (notFace_of_selects (args := #[]) (mvT hZ (hw _ (List.mem_of_getElem? (i := 35) rfl)))) (mvT hZ (hw _ (List.mem_of_getElem? (i := 35) rfl))) (mvT hZ (hw _ (List.mem_of_getElem? (i := 34) rfl))) (by decide) (backOf (W := 1) (cb_FAILED l Z a0 hw [] w_CANCELLED w_PENDING w_RUNNING w_AWAITING_RETRY w_AWAITING_HUMAN w_APPROVED w_COMPLETED w_FAILED w_SKIPPED w_CANCELLED h19 n0 O19 hE) hZ (hw _ (List.mem_of_getElem? (i := 36) rfl)) (hw _ (List.mem_of_getElem? (i := 3) rfl)) (by decide) (by decide)) q57a q57c (g := (mkF m 96 #[.val (.int p1), .val (.int p2), .val (.ref b1), .val (.ref w_FAILED), .val (.ref wn), .val (.int (1 : Int32))] [(.ref w_CANCELLED), (.ref w_FAILED), (.int (1 : Int32))])) rfl (by rw [hml]; rfl) (Steps.refl _) (argsL := [(.ref w_CANCELLED)]) (rest := [(.int (1 : Int32))]) (lenOf pd__Lcom_example_glacial_workflow_glacialworkflow_core_StepState__Z rfl) rfl (by show 2 * 0 + _ ≤ _; exact Nat.le_of_eq rfl) (hb hby at_96) (fun _ _ => ⟨rfl, e56, (by decide : 1 + 0 ≤ _), (by decide : 9 + 0 ≤ _)⟩)
    dsimp only [Pt.U, Pt.locs, Pt.cells, Pt.slots] at X57 l57 y57 z57 st57 hQ57
    subst l57 y57 z57
    obtain ⟨rfl, Nq57, eq57⟩ := hQ57
    have N57 := Fr.app N55 Nq57
    obtain ⟨cq58, kq58, q58a, q58b, q58c⟩ := isOf hZ eq57 (E_w_FAILED.ext O19.2)
    obtain ⟨_, _, ⟨T58, L58, k58, n58⟩, -, X58, ⟨Lc58, hQ58, l58, y58, z58⟩, st58⟩ := X57.virtualBack hx (y := (⟨"com/example/glacial_workflow/glacialworkflow/core/StepState", "canBecome", "(Lcom/example/glacial_workflow/glacialworkflow/core/StepState;)Z"⟩ : MethodName)) (z := (⟨"com/example/glacial_workflow/glacialworkflow/core/StepState", "canBecome", "(Lcom/example/glacial_workflow/glacialworkflow/core/StepState;)Z"⟩ : MethodName)) hown (mvT hZ (hw _ (List.mem_of_getElem? (i := 32) rfl))) (mvT hZ (hw _ (List.mem_of_getElem? (i := 33) rfl))) (notFace_of_selects (args := #[]) (mvT hZ (hw _ (List.mem_of_getElem? (i := 35) rfl)))) (mvT hZ (hw _ (List.mem_of_getElem? (i := 35) rfl))) (mvT hZ (hw _ (List.mem_of_getElem? (i := 34) rfl))) (by decide) (backOf (W := 0) (cb_FAILED l Z a0 hw [] wn w_PENDING w_RUNNING w_AWAITING_RETRY w_AWAITING_HUMAN w_APPROVED w_COMPLETED w_FAILED w_SKIPPED w_CANCELLED h19 n0 O19 hE) hZ (hw _ (List.mem_of_getElem? (i := 36) rfl)) (hw _ (List.mem_of_getElem? (i := 3) rfl)) (by decide) (by decide)) q58a q58c (g := (mkF m 112 #[.val (.int p1), .val (.int p2), .val (.ref b1), .val (.ref w_FAILED), .val (.ref wn), .val (.int (1 : Int32))] [(.ref wn), (.ref w_FAILED)])) rfl (by rw [hml]; rfl) (Steps.refl _) (argsL := [(.ref wn)]) (rest := []) (lenOf pd__Lcom_example_glacial_workflow_glacialworkflow_core_StepState__Z rfl) rfl (by show 2 * 0 + _ ≤ _; exact Nat.le_of_eq rfl) (hb hby at_112) (fun _ _ => ⟨rfl, eq57, (by decide : 1 + 0 ≤ _), (by decide : 9 + 0 ≤ _)⟩)
    dsimp only [Pt.U, Pt.locs, Pt.cells, Pt.slots] at X58 l58 y58 z58 st58 hQ58
    subst l58 y58 z58
    obtain ⟨rfl, Nq58, eq58⟩ := hQ58
    have N58 := Fr.app N57 Nq58
    obtain ⟨fs, hr, hrun, hended, hW, hsame⟩ := X58.leave (v := some (.int (1 : Int32))) (fun h => by rw [Bd.returns] at h; cases h)
    refine ⟨_, _, pre20 _ ?_, hrun, hended, _, _, rfl, ?_, ⟨_, rfl⟩, hW, hsame.mono (by decide) (by decide)⟩
    · show Steps p.tables e below (T19.setTop (mkF m 71 #[.val (.int p1), .val (.int p2), .val (.ref b1), .unset, .unset, .unset] [(.int (6 : Int32)), (.ref b1)])) _
      refine X19.aaload hx (j := (6 : Int32)) (v := (.ref w_FAILED)) (by rw [e19]; exact Ar53.1) (State.isArrayOf_alike hZ.alike Ar53.2.1) rfl Ar53.2.2 hin53 hat53 (g := (mkF m 71 #[.val (.int p1), .val (.int p2), .val (.ref b1), .unset, .unset, .unset] [(.int (6 : Int32)), (.ref b1)])) rfl rfl (hb hby at_71) _ ?_
      show Steps p.tables e below (T19.setTop (mkF m 72 #[.val (.int p1), .val (.int p2), .val (.ref b1), .unset, .unset, .unset] [(.ref w_FAILED)])) _
      refine XS.astoreN X19.here hx rfl (hb hby at_72) rfl rfl (l' := #[.val (.int p1), .val (.int p2), .val (.ref b1), .val (.ref w_FAILED), .unset, .unset]) rfl ?_
      show Steps p.tables e below (T19.setTop (mkF m 73 #[.val (.int p1), .val (.int p2), .val (.ref b1), .val (.ref w_FAILED), .unset, .unset] [])) _
      refine XS.aloadN X19.here hx rfl (hb hby at_73) rfl rfl ?_
      show Steps p.tables e below (T19.setTop (mkF m 74 #[.val (.int p1), .val (.int p2), .val (.ref b1), .val (.ref w_FAILED), .unset, .unset] [(.ref b1)])) _
      refine XS.iloadN X19.here hx rfl (hb hby at_74) rfl ?_
      show Steps p.tables e below (T19.setTop (mkF m 75 #[.val (.int p1), .val (.int p2), .val (.ref b1), .val (.ref w_FAILED), .unset, .unset] [(.int p2), (.ref b1)])) _
      refine X19.ldcInt hx hown (mvT hZ (hw _ (List.mem_of_getElem? (i := 22) rfl))) (g := (mkF m 75 #[.val (.int p1), .val (.int p2), .val (.ref b1), .val (.ref w_FAILED), .unset, .unset] [(.int p2), (.ref b1)])) rfl (hb hby at_75) _ ?_
      show Steps p.tables e below (T19.setTop (mkF m 77 #[.val (.int p1), .val (.int p2), .val (.ref b1), .val (.ref w_FAILED), .unset, .unset] [(.int (2147483647 : Int32)), (.int p2), (.ref b1)])) _
      refine XS.iand X19.here hx rfl (hb hby at_77) rfl ?_
      show Steps p.tables e below (T19.setTop (mkF m 78 #[.val (.int p1), .val (.int p2), .val (.ref b1), .val (.ref w_FAILED), .unset, .unset] [(.int (p2 &&& (2147483647 : Int32))), (.ref b1)])) _
      refine XS.bipush X19.here hx rfl (hb hby at_78) ?_
      show Steps p.tables e below (T19.setTop (mkF m 80 #[.val (.int p1), .val (.int p2), .val (.ref b1), .val (.ref w_FAILED), .unset, .unset] [(.int (9 : Int32)), (.int (p2 &&& (2147483647 : Int32))), (.ref b1)])) _
      refine iremM X19 hx (g := (mkF m 80 #[.val (.int p1), .val (.int p2), .val (.ref b1), .val (.ref w_FAILED), .unset, .unset] [(.int (9 : Int32)), (.int (p2 &&& (2147483647 : Int32))), (.ref b1)])) rfl (hb hby at_80) rfl (by decide) ?_
      show Steps p.tables e below (T19.setTop (mkF m 81 #[.val (.int p1), .val (.int p2), .val (.ref b1), .val (.ref w_FAILED), .unset, .unset] [(.int ((p2 &&& (2147483647 : Int32)) % (9 : Int32))), (.ref b1)])) _
      refine X19.aaload hx (j := ((p2 &&& (2147483647 : Int32)) % (9 : Int32))) (v := .ref wn) (by rw [e19]; exact Ar54.1) (State.isArrayOf_alike hZ.alike Ar54.2.1) rfl Ar54.2.2 hin54 hat54 (g := (mkF m 81 #[.val (.int p1), .val (.int p2), .val (.ref b1), .val (.ref w_FAILED), .unset, .unset] [(.int ((p2 &&& (2147483647 : Int32)) % (9 : Int32))), (.ref b1)])) rfl rfl (hb hby at_81) _ ?_
      show Steps p.tables e below (T19.setTop (mkF m 82 #[.val (.int p1), .val (.int p2), .val (.ref b1), .val (.ref w_FAILED), .unset, .unset] [(.ref wn)])) _
      refine XS.astore X19.here hx rfl (hb hby at_82) rfl rfl (l' := #[.val (.int p1), .val (.int p2), .val (.ref b1), .val (.ref w_FAILED), .val (.ref wn), .unset]) rfl ?_
      show Steps p.tables e below (T19.setTop (mkF m 84 #[.val (.int p1), .val (.int p2), .val (.ref b1), .val (.ref w_FAILED), .val (.ref wn), .unset] [])) _
      refine XS.aloadN X19.here hx rfl (hb hby at_84) rfl rfl ?_
      show Steps p.tables e below (T19.setTop (mkF m 85 #[.val (.int p1), .val (.int p2), .val (.ref b1), .val (.ref w_FAILED), .val (.ref wn), .unset] [(.ref w_FAILED)])) _
      refine st55.trans ?_
      show Steps p.tables e below (T55.setTop (mkF m 88 #[.val (.int p1), .val (.int p2), .val (.ref b1), .val (.ref w_FAILED), .val (.ref wn), .unset] [(.int (1 : Int32))])) _
      refine XS.istore X55.here hx rfl (hb hby at_88) rfl (l' := #[.val (.int p1), .val (.int p2), .val (.ref b1), .val (.ref w_FAILED), .val (.ref wn), .val (.int (1 : Int32))]) rfl ?_
      show Steps p.tables e below (T55.setTop (mkF m 90 #[.val (.int p1), .val (.int p2), .val (.ref b1), .val (.ref w_FAILED), .val (.ref wn), .val (.int (1 : Int32))] [])) _
      refine XS.iload X55.here hx rfl (hb hby at_90) rfl ?_
      show Steps p.tables e below (T55.setTop (mkF m 92 #[.val (.int p1), .val (.int p2), .val (.ref b1), .val (.ref w_FAILED), .val (.ref wn), .val (.int (1 : Int32))] [(.int (1 : Int32))])) _
      refine XS.aloadN X55.here hx rfl (hb hby at_92) rfl rfl ?_
      show Steps p.tables e below (T55.setTop (mkF m 93 #[.val (.int p1), .val (.int p2), .val (.ref b1), .val (.ref w_FAILED), .val (.ref wn), .val (.int (1 : Int32))] [(.ref w_FAILED), (.int (1 : Int32))])) _
      refine st56 _ ?_
      show Steps p.tables e below (T56.setTop (mkF m 96 #[.val (.int p1), .val (.int p2), .val (.ref b1), .val (.ref w_FAILED), .val (.ref wn), .val (.int (1 : Int32))] [(.ref w_CANCELLED), (.ref w_FAILED), (.int (1 : Int32))])) _
      refine st57.trans ?_
      show Steps p.tables e below (T57.setTop (mkF m 99 #[.val (.int p1), .val (.int p2), .val (.ref b1), .val (.ref w_FAILED), .val (.ref wn), .val (.int (1 : Int32))] [(.int (0 : Int32)), (.int (1 : Int32))])) _
      refine XS.icmpYes X57.here hx rfl (pc0 := 99) (pc' := 104) rfl (hb hby at_99) rfl (feq (by decide : ¬ ((1 : Int32) = (0 : Int32)))).2 (by decide) (by decide) ?_
      show Steps p.tables e below (T57.setTop (mkF m 104 #[.val (.int p1), .val (.int p2), .val (.ref b1), .val (.ref w_FAILED), .val (.ref wn), .val (.int (1 : Int32))] [])) _
      refine XS.iload X57.here hx rfl (hb hby at_104) rfl ?_
      show Steps p.tables e below (T57.setTop (mkF m 106 #[.val (.int p1), .val (.int p2), .val (.ref b1), .val (.ref w_FAILED), .val (.ref wn), .val (.int (1 : Int32))] [(.int (1 : Int32))])) _
      refine XS.ifNo X57.here hx rfl (hb hby at_106) rfl ((if0 _ _).trans (feq (by decide : ¬ ((1 : Int32) = (0 : Int32)))).1) ?_
      show Steps p.tables e below (T57.setTop (mkF m 109 #[.val (.int p1), .val (.int p2), .val (.ref b1), .val (.ref w_FAILED), .val (.ref wn), .val (.int (1 : Int32))] [])) _
      refine XS.aloadN X57.here hx rfl (hb hby at_109) rfl rfl ?_
      show Steps p.tables e below (T57.setTop (mkF m 110 #[.val (.int p1), .val (.int p2), .val (.ref b1), .val (.ref w_FAILED), .val (.ref wn), .val (.int (1 : Int32))] [(.ref w_FAILED)])) _
      refine XS.aload X57.here hx rfl (hb hby at_110) rfl rfl ?_
      show Steps p.tables e below (T57.setTop (mkF m 112 #[.val (.int p1), .val (.int p2), .val (.ref b1), .val (.ref w_FAILED), .val (.ref wn), .val (.int (1 : Int32))] [(.ref wn), (.ref w_FAILED)])) _
      refine st58.trans ?_
      show Steps p.tables e below (T58.setTop (mkF m 115 #[.val (.int p1), .val (.int p2), .val (.ref b1), .val (.ref w_FAILED), .val (.ref wn), .val (.int (1 : Int32))] [(.int (0 : Int32))])) _
      refine XS.ifYes X58.here hx rfl (pc0 := 115) (pc' := 120) rfl (hb hby at_115) rfl ((if0 _ _).trans (teq (by decide : (0 : Int32) = (0 : Int32))).1) (by decide) (by decide) ?_
      show Steps p.tables e below (T58.setTop (mkF m 120 #[.val (.int p1), .val (.int p2), .val (.ref b1), .val (.ref w_FAILED), .val (.ref wn), .val (.int (1 : Int32))] [])) _
      refine XS.iconst X58.here hx rfl (hb hby at_120) ?_
      show Steps p.tables e below (T58.setTop (mkF m 121 #[.val (.int p1), .val (.int p2), .val (.ref b1), .val (.ref w_FAILED), .val (.ref wn), .val (.int (1 : Int32))] [(.int (1 : Int32))])) _
      exact retN X58 hx (t := .boolean) Bd.returns (by simp) (hb hby at_121) hr
    · show Q_rm0 Z p1 p2 w_PENDING w_RUNNING w_AWAITING_RETRY w_AWAITING_HUMAN w_APPROVED w_COMPLETED w_FAILED w_SKIPPED w_CANCELLED h0 n0 _ T58.heap _
      rw [eq58]
      exact ⟨rfl, N58⟩
  · rw [hv21] at pre20
    have Vc59 := V19
    obtain ⟨cl59, Ar59, qa59, Sz59, Nn59, Ha59, Ga59⟩ := Vc59
    have hin59 : ¬ ((7 : Int32) < 0 ∨ cl59.slots.size ≤ ((7 : Int32)).toNatClampNeg) := inb_of Sz59 ⟨by decide, by decide⟩
    have hat59 : cl59.slots[((7 : Int32)).toNatClampNeg]? = some (.ref w_SKIPPED) := Has.at Ha59 hin59 rfl
    have Vc60 := V19
    obtain ⟨cl60, Ar60, qa60, Sz60, Nn60, Ha60, Ga60⟩ := Vc60
    have hin60 : ¬ (((p2 &&& (2147483647 : Int32)) % (9 : Int32)) < 0 ∨ cl60.slots.size ≤ (((p2 &&& (2147483647 : Int32)) % (9 : Int32))).toNatClampNeg) := inb_of Sz60 (own_b p2)
    obtain ⟨wn, hwn⟩ : ∃ wn, ([(.ref w_PENDING), (.ref w_RUNNING), (.ref w_AWAITING_RETRY), (.ref w_AWAITING_HUMAN), (.ref w_APPROVED), (.ref w_COMPLETED), (.ref w_FAILED), (.ref w_SKIPPED), (.ref w_CANCELLED)] : List Value).getD (((p2 &&& (2147483647 : Int32)) % (9 : Int32))).toNatClampNeg .null = .ref wn := by rcases own_k p2 with h | h | h | h | h | h | h | h | h <;> (rw [h]; exact ⟨_, rfl⟩)
    have hat60 := Has.at Ha60 hin60 hwn
    obtain ⟨cq61, kq61, q61a, q61b, q61c⟩ := isOf hZ e19 (E_w_SKIPPED.ext O19.2)
    obtain ⟨_, _, ⟨T61, L61, k61, n61⟩, -, X61, ⟨Lc61, hQ61, l61, y61, z61⟩, st61⟩ := X19.virtualBack hx (y := (⟨"com/example/glacial_workflow/glacialworkflow/core/StepState", "hasEnded", "()Z"⟩ : MethodName)) (z := (⟨"com/example/glacial_workflow/glacialworkflow/core/StepState", "hasEnded", "()Z"⟩ : MethodName)) hown (mvT hZ (hw _ (List.mem_of_getElem? (i := 23) rfl))) (mvT hZ (hw _ (List.mem_of_getElem? (i := 24) rfl))) (notFace_of_selects (args := #[]) (mvT hZ (hw _ (List.mem_of_getElem? (i := 26) rfl)))) (mvT hZ (hw _ (List.mem_of_getElem? (i := 26) rfl))) (mvT hZ (hw _ (List.mem_of_getElem? (i := 25) rfl))) (by decide) (backOf (W := 0) (he_SKIPPED l Z a0 hw [] w_PENDING w_RUNNING w_AWAITING_RETRY w_AWAITING_HUMAN w_APPROVED w_COMPLETED w_FAILED w_SKIPPED w_CANCELLED h19 n0 O19 hE) hZ (hw _ (List.mem_of_getElem? (i := 27) rfl)) (hw _ (List.mem_of_getElem? (i := 3) rfl)) (by decide) (by decide)) q61a q61c (g := (mkF m 85 #[.val (.int p1), .val (.int p2), .val (.ref b1), .val (.ref w_SKIPPED), .val (.ref wn), .unset] [(.ref w_SKIPPED)])) rfl (by rw [hml]; rfl) (Steps.refl _) (argsL := []) (rest := []) (lenOf pd___Z rfl) rfl (by show 2 * 0 + _ ≤ _; exact Nat.le_of_eq rfl) (hb hby at_85) (fun _ _ => ⟨rfl, e19, (by decide : 1 + 0 ≤ _), (by decide : 9 + 0 ≤ _)⟩)
    dsimp only [Pt.U, Pt.locs, Pt.cells, Pt.slots] at X61 l61 y61 z61 st61 hQ61
    subst l61 y61 z61
    obtain ⟨rfl, Nq61, eq61⟩ := hQ61
    have N61 := Fr.app N19 Nq61
    obtain ⟨T62, X62, e62, st62⟩ := getS2 X61 hx hZ hown (host := "") (Or.inl (hw _ (List.mem_of_getElem? (i := 20) rfl))) Via.refl eq61 (S_w_CANCELLED.ext O19.2) (g := (mkF m 93 #[.val (.int p1), .val (.int p2), .val (.ref b1), .val (.ref w_SKIPPED), .val (.ref wn), .val (.int (1 : Int32))] [(.ref w_SKIPPED), (.int (1 : Int32))])) rfl (hb hby at_93)
    obtain ⟨cq63, kq63, q63a, q63b, q63c⟩ := isOf hZ e62 (E_w_SKIPPED.ext O19.2)
    obtain ⟨_, _, ⟨T63, L63, k63, n63⟩, -, X63, ⟨Lc63, hQ63, l63, y63, z63⟩, st63⟩ := X62.virtualBack hx (y := (⟨"com/example/glacial_workflow/glacialworkflow/core/StepState", "canBecome", "(Lcom/example/glacial_workflow/glacialworkflow/core/StepState;)Z"⟩ : MethodName)) (z := (⟨"com/example/glacial_workflow/glacialworkflow/core/StepState", "canBecome", "(Lcom/example/glacial_workflow/glacialworkflow/core/StepState;)Z"⟩ : MethodName)) hown (mvT hZ (hw _ (List.mem_of_getElem? (i := 32) rfl))) (mvT hZ (hw _ (List.mem_of_getElem? (i := 33) rfl))) (notFace_of_selects (args := #[]) (mvT hZ (hw _ (List.mem_of_getElem? (i := 35) rfl)))) (mvT hZ (hw _ (List.mem_of_getElem? (i := 35) rfl))) (mvT hZ (hw _ (List.mem_of_getElem? (i := 34) rfl))) (by decide) (backOf (W := 1) (cb_SKIPPED l Z a0 hw [] w_CANCELLED w_PENDING w_RUNNING w_AWAITING_RETRY w_AWAITING_HUMAN w_APPROVED w_COMPLETED w_FAILED w_SKIPPED w_CANCELLED h19 n0 O19 hE) hZ (hw _ (List.mem_of_getElem? (i := 36) rfl)) (hw _ (List.mem_of_getElem? (i := 3) rfl)) (by decide) (by decide)) q63a q63c (g := (mkF m 96 #[.val (.int p1), .val (.int p2), .val (.ref b1), .val (.ref w_SKIPPED), .val (.ref wn), .val (.int (1 : Int32))] [(.ref w_CANCELLED), (.ref w_SKIPPED), (.int (1 : Int32))])) rfl (by rw [hml]; rfl) (Steps.refl _) (argsL := [(.ref w_CANCELLED)]) (rest := [(.int (1 : Int32))]) (lenOf pd__Lcom_example_glacial_workflow_glacialworkflow_core_StepState__Z rfl) rfl (by show 2 * 0 + _ ≤ _; exact Nat.le_of_eq rfl) (hb hby at_96) (fun _ _ => ⟨rfl, e62, (by decide : 1 + 0 ≤ _), (by decide : 9 + 0 ≤ _)⟩)
    dsimp only [Pt.U, Pt.locs, Pt.cells, Pt.slots] at X63 l63 y63 z63 st63 hQ63
    subst l63 y63 z63
    obtain ⟨rfl, Nq63, eq63⟩ := hQ63
    have N63 := Fr.app N61 Nq63
    obtain ⟨cq64, kq64, q64a, q64b, q64c⟩ := isOf hZ eq63 (E_w_SKIPPED.ext O19.2)
    obtain ⟨_, _, ⟨T64, L64, k64, n64⟩, -, X64, ⟨Lc64, hQ64, l64, y64, z64⟩, st64⟩ := X63.virtualBack hx (y := (⟨"com/example/glacial_workflow/glacialworkflow/core/StepState", "canBecome", "(Lcom/example/glacial_workflow/glacialworkflow/core/StepState;)Z"⟩ : MethodName)) (z := (⟨"com/example/glacial_workflow/glacialworkflow/core/StepState", "canBecome", "(Lcom/example/glacial_workflow/glacialworkflow/core/StepState;)Z"⟩ : MethodName)) hown (mvT hZ (hw _ (List.mem_of_getElem? (i := 32) rfl))) (mvT hZ (hw _ (List.mem_of_getElem? (i := 33) rfl))) (notFace_of_selects (args := #[]) (mvT hZ (hw _ (List.mem_of_getElem? (i := 35) rfl)))) (mvT hZ (hw _ (List.mem_of_getElem? (i := 35) rfl))) (mvT hZ (hw _ (List.mem_of_getElem? (i := 34) rfl))) (by decide) (backOf (W := 0) (cb_SKIPPED l Z a0 hw [] wn w_PENDING w_RUNNING w_AWAITING_RETRY w_AWAITING_HUMAN w_APPROVED w_COMPLETED w_FAILED w_SKIPPED w_CANCELLED h19 n0 O19 hE) hZ (hw _ (List.mem_of_getElem? (i := 36) rfl)) (hw _ (List.mem_of_getElem? (i := 3) rfl)) (by decide) (by decide)) q64a q64c (g := (mkF m 112 #[.val (.int p1), .val (.int p2), .val (.ref b1), .val (.ref w_SKIPPED), .val (.ref wn), .val (.int (1 : Int32))] [(.ref wn), (.ref w_SKIPPED)])) rfl (by rw [hml]; rfl) (Steps.refl _) (argsL := [(.ref wn)]) (rest := []) (lenOf pd__Lcom_example_glacial_workflow_glacialworkflow_core_StepState__Z rfl) rfl (by show 2 * 0 + _ ≤ _; exact Nat.le_of_eq rfl) (hb hby at_112) (fun _ _ => ⟨rfl, eq63, (by decide : 1 + 0 ≤ _), (by decide : 9 + 0 ≤ _)⟩)
    dsimp only [Pt.U, Pt.locs, Pt.cells, Pt.slots] at X64 l64 y64 z64 st64 hQ64
    subst l64 y64 z64
    obtain ⟨rfl, Nq64, eq64⟩ := hQ64
    have N64 := Fr.app N63 Nq64
    obtain ⟨fs, hr, hrun, hended, hW, hsame⟩ := X64.leave (v := some (.int (1 : Int32))) (fun h => by rw [Bd.returns] at h; cases h)
    refine ⟨_, _, pre20 _ ?_, hrun, hended, _, _, rfl, ?_, ⟨_, rfl⟩, hW, hsame.mono (by decide) (by decide)⟩
    · show Steps p.tables e below (T19.setTop (mkF m 71 #[.val (.int p1), .val (.int p2), .val (.ref b1), .unset, .unset, .unset] [(.int (7 : Int32)), (.ref b1)])) _
      refine X19.aaload hx (j := (7 : Int32)) (v := (.ref w_SKIPPED)) (by rw [e19]; exact Ar59.1) (State.isArrayOf_alike hZ.alike Ar59.2.1) rfl Ar59.2.2 hin59 hat59 (g := (mkF m 71 #[.val (.int p1), .val (.int p2), .val (.ref b1), .unset, .unset, .unset] [(.int (7 : Int32)), (.ref b1)])) rfl rfl (hb hby at_71) _ ?_
      show Steps p.tables e below (T19.setTop (mkF m 72 #[.val (.int p1), .val (.int p2), .val (.ref b1), .unset, .unset, .unset] [(.ref w_SKIPPED)])) _
      refine XS.astoreN X19.here hx rfl (hb hby at_72) rfl rfl (l' := #[.val (.int p1), .val (.int p2), .val (.ref b1), .val (.ref w_SKIPPED), .unset, .unset]) rfl ?_
      show Steps p.tables e below (T19.setTop (mkF m 73 #[.val (.int p1), .val (.int p2), .val (.ref b1), .val (.ref w_SKIPPED), .unset, .unset] [])) _
      refine XS.aloadN X19.here hx rfl (hb hby at_73) rfl rfl ?_
      show Steps p.tables e below (T19.setTop (mkF m 74 #[.val (.int p1), .val (.int p2), .val (.ref b1), .val (.ref w_SKIPPED), .unset, .unset] [(.ref b1)])) _
      refine XS.iloadN X19.here hx rfl (hb hby at_74) rfl ?_
      show Steps p.tables e below (T19.setTop (mkF m 75 #[.val (.int p1), .val (.int p2), .val (.ref b1), .val (.ref w_SKIPPED), .unset, .unset] [(.int p2), (.ref b1)])) _
      refine X19.ldcInt hx hown (mvT hZ (hw _ (List.mem_of_getElem? (i := 22) rfl))) (g := (mkF m 75 #[.val (.int p1), .val (.int p2), .val (.ref b1), .val (.ref w_SKIPPED), .unset, .unset] [(.int p2), (.ref b1)])) rfl (hb hby at_75) _ ?_
      show Steps p.tables e below (T19.setTop (mkF m 77 #[.val (.int p1), .val (.int p2), .val (.ref b1), .val (.ref w_SKIPPED), .unset, .unset] [(.int (2147483647 : Int32)), (.int p2), (.ref b1)])) _
      refine XS.iand X19.here hx rfl (hb hby at_77) rfl ?_
      show Steps p.tables e below (T19.setTop (mkF m 78 #[.val (.int p1), .val (.int p2), .val (.ref b1), .val (.ref w_SKIPPED), .unset, .unset] [(.int (p2 &&& (2147483647 : Int32))), (.ref b1)])) _
      refine XS.bipush X19.here hx rfl (hb hby at_78) ?_
      show Steps p.tables e below (T19.setTop (mkF m 80 #[.val (.int p1), .val (.int p2), .val (.ref b1), .val (.ref w_SKIPPED), .unset, .unset] [(.int (9 : Int32)), (.int (p2 &&& (2147483647 : Int32))), (.ref b1)])) _
      refine iremM X19 hx (g := (mkF m 80 #[.val (.int p1), .val (.int p2), .val (.ref b1), .val (.ref w_SKIPPED), .unset, .unset] [(.int (9 : Int32)), (.int (p2 &&& (2147483647 : Int32))), (.ref b1)])) rfl (hb hby at_80) rfl (by decide) ?_
      show Steps p.tables e below (T19.setTop (mkF m 81 #[.val (.int p1), .val (.int p2), .val (.ref b1), .val (.ref w_SKIPPED), .unset, .unset] [(.int ((p2 &&& (2147483647 : Int32)) % (9 : Int32))), (.ref b1)])) _
      refine X19.aaload hx (j := ((p2 &&& (2147483647 : Int32)) % (9 : Int32))) (v := .ref wn) (by rw [e19]; exact Ar60.1) (State.isArrayOf_alike hZ.alike Ar60.2.1) rfl Ar60.2.2 hin60 hat60 (g := (mkF m 81 #[.val (.int p1), .val (.int p2), .val (.ref b1), .val (.ref w_SKIPPED), .unset, .unset] [(.int ((p2 &&& (2147483647 : Int32)) % (9 : Int32))), (.ref b1)])) rfl rfl (hb hby at_81) _ ?_
      show Steps p.tables e below (T19.setTop (mkF m 82 #[.val (.int p1), .val (.int p2), .val (.ref b1), .val (.ref w_SKIPPED), .unset, .unset] [(.ref wn)])) _
      refine XS.astore X19.here hx rfl (hb hby at_82) rfl rfl (l' := #[.val (.int p1), .val (.int p2), .val (.ref b1), .val (.ref w_SKIPPED), .val (.ref wn), .unset]) rfl ?_
      show Steps p.tables e below (T19.setTop (mkF m 84 #[.val (.int p1), .val (.int p2), .val (.ref b1), .val (.ref w_SKIPPED), .val (.ref wn), .unset] [])) _
      refine XS.aloadN X19.here hx rfl (hb hby at_84) rfl rfl ?_
      show Steps p.tables e below (T19.setTop (mkF m 85 #[.val (.int p1), .val (.int p2), .val (.ref b1), .val (.ref w_SKIPPED), .val (.ref wn), .unset] [(.ref w_SKIPPED)])) _
      refine st61.trans ?_
      show Steps p.tables e below (T61.setTop (mkF m 88 #[.val (.int p1), .val (.int p2), .val (.ref b1), .val (.ref w_SKIPPED), .val (.ref wn), .unset] [(.int (1 : Int32))])) _
      refine XS.istore X61.here hx rfl (hb hby at_88) rfl (l' := #[.val (.int p1), .val (.int p2), .val (.ref b1), .val (.ref w_SKIPPED), .val (.ref wn), .val (.int (1 : Int32))]) rfl ?_
      show Steps p.tables e below (T61.setTop (mkF m 90 #[.val (.int p1), .val (.int p2), .val (.ref b1), .val (.ref w_SKIPPED), .val (.ref wn), .val (.int (1 : Int32))] [])) _
      refine XS.iload X61.here hx rfl (hb hby at_90) rfl ?_
      show Steps p.tables e below (T61.setTop (mkF m 92 #[.val (.int p1), .val (.int p2), .val (.ref b1), .val (.ref w_SKIPPED), .val (.ref wn), .val (.int (1 : Int32))] [(.int (1 : Int32))])) _
      refine XS.aloadN X61.here hx rfl (hb hby at_92) rfl rfl ?_
      show Steps p.tables e below (T61.setTop (mkF m 93 #[.val (.int p1), .val (.int p2), .val (.ref b1), .val (.ref w_SKIPPED), .val (.ref wn), .val (.int (1 : Int32))] [(.ref w_SKIPPED), (.int (1 : Int32))])) _
      refine st62 _ ?_
      show Steps p.tables e below (T62.setTop (mkF m 96 #[.val (.int p1), .val (.int p2), .val (.ref b1), .val (.ref w_SKIPPED), .val (.ref wn), .val (.int (1 : Int32))] [(.ref w_CANCELLED), (.ref w_SKIPPED), (.int (1 : Int32))])) _
      refine st63.trans ?_
      show Steps p.tables e below (T63.setTop (mkF m 99 #[.val (.int p1), .val (.int p2), .val (.ref b1), .val (.ref w_SKIPPED), .val (.ref wn), .val (.int (1 : Int32))] [(.int (0 : Int32)), (.int (1 : Int32))])) _
      refine XS.icmpYes X63.here hx rfl (pc0 := 99) (pc' := 104) rfl (hb hby at_99) rfl (feq (by decide : ¬ ((1 : Int32) = (0 : Int32)))).2 (by decide) (by decide) ?_
      show Steps p.tables e below (T63.setTop (mkF m 104 #[.val (.int p1), .val (.int p2), .val (.ref b1), .val (.ref w_SKIPPED), .val (.ref wn), .val (.int (1 : Int32))] [])) _
      refine XS.iload X63.here hx rfl (hb hby at_104) rfl ?_
      show Steps p.tables e below (T63.setTop (mkF m 106 #[.val (.int p1), .val (.int p2), .val (.ref b1), .val (.ref w_SKIPPED), .val (.ref wn), .val (.int (1 : Int32))] [(.int (1 : Int32))])) _
      refine XS.ifNo X63.here hx rfl (hb hby at_106) rfl ((if0 _ _).trans (feq (by decide : ¬ ((1 : Int32) = (0 : Int32)))).1) ?_
      show Steps p.tables e below (T63.setTop (mkF m 109 #[.val (.int p1), .val (.int p2), .val (.ref b1), .val (.ref w_SKIPPED), .val (.ref wn), .val (.int (1 : Int32))] [])) _
      refine XS.aloadN X63.here hx rfl (hb hby at_109) rfl rfl ?_
      show Steps p.tables e below (T63.setTop (mkF m 110 #[.val (.int p1), .val (.int p2), .val (.ref b1), .val (.ref w_SKIPPED), .val (.ref wn), .val (.int (1 : Int32))] [(.ref w_SKIPPED)])) _
      refine XS.aload X63.here hx rfl (hb hby at_110) rfl rfl ?_
      show Steps p.tables e below (T63.setTop (mkF m 112 #[.val (.int p1), .val (.int p2), .val (.ref b1), .val (.ref w_SKIPPED), .val (.ref wn), .val (.int (1 : Int32))] [(.ref wn), (.ref w_SKIPPED)])) _
      refine st64.trans ?_
      show Steps p.tables e below (T64.setTop (mkF m 115 #[.val (.int p1), .val (.int p2), .val (.ref b1), .val (.ref w_SKIPPED), .val (.ref wn), .val (.int (1 : Int32))] [(.int (0 : Int32))])) _
      refine XS.ifYes X64.here hx rfl (pc0 := 115) (pc' := 120) rfl (hb hby at_115) rfl ((if0 _ _).trans (teq (by decide : (0 : Int32) = (0 : Int32))).1) (by decide) (by decide) ?_
      show Steps p.tables e below (T64.setTop (mkF m 120 #[.val (.int p1), .val (.int p2), .val (.ref b1), .val (.ref w_SKIPPED), .val (.ref wn), .val (.int (1 : Int32))] [])) _
      refine XS.iconst X64.here hx rfl (hb hby at_120) ?_
      show Steps p.tables e below (T64.setTop (mkF m 121 #[.val (.int p1), .val (.int p2), .val (.ref b1), .val (.ref w_SKIPPED), .val (.ref wn), .val (.int (1 : Int32))] [(.int (1 : Int32))])) _
      exact retN X64 hx (t := .boolean) Bd.returns (by simp) (hb hby at_121) hr
    · show Q_rm0 Z p1 p2 w_PENDING w_RUNNING w_AWAITING_RETRY w_AWAITING_HUMAN w_APPROVED w_COMPLETED w_FAILED w_SKIPPED w_CANCELLED h0 n0 _ T64.heap _
      rw [eq64]
      exact ⟨rfl, N64⟩
  · rw [hv21] at pre20
    have Vc65 := V19
    obtain ⟨cl65, Ar65, qa65, Sz65, Nn65, Ha65, Ga65⟩ := Vc65
    have hin65 : ¬ ((8 : Int32) < 0 ∨ cl65.slots.size ≤ ((8 : Int32)).toNatClampNeg) := inb_of Sz65 ⟨by decide, by decide⟩
    have hat65 : cl65.slots[((8 : Int32)).toNatClampNeg]? = some (.ref w_CANCELLED) := Has.at Ha65 hin65 rfl
    have Vc66 := V19
    obtain ⟨cl66, Ar66, qa66, Sz66, Nn66, Ha66, Ga66⟩ := Vc66
    have hin66 : ¬ (((p2 &&& (2147483647 : Int32)) % (9 : Int32)) < 0 ∨ cl66.slots.size ≤ (((p2 &&& (2147483647 : Int32)) % (9 : Int32))).toNatClampNeg) := inb_of Sz66 (own_b p2)
    obtain ⟨wn, hwn⟩ : ∃ wn, ([(.ref w_PENDING), (.ref w_RUNNING), (.ref w_AWAITING_RETRY), (.ref w_AWAITING_HUMAN), (.ref w_APPROVED), (.ref w_COMPLETED), (.ref w_FAILED), (.ref w_SKIPPED), (.ref w_CANCELLED)] : List Value).getD (((p2 &&& (2147483647 : Int32)) % (9 : Int32))).toNatClampNeg .null = .ref wn := by rcases own_k p2 with h | h | h | h | h | h | h | h | h <;> (rw [h]; exact ⟨_, rfl⟩)
    have hat66 := Has.at Ha66 hin66 hwn
    obtain ⟨cq67, kq67, q67a, q67b, q67c⟩ := isOf hZ e19 (E_w_CANCELLED.ext O19.2)
    obtain ⟨_, _, ⟨T67, L67, k67, n67⟩, -, X67, ⟨Lc67, hQ67, l67, y67, z67⟩, st67⟩ := X19.virtualBack hx (y := (⟨"com/example/glacial_workflow/glacialworkflow/core/StepState", "hasEnded", "()Z"⟩ : MethodName)) (z := (⟨"com/example/glacial_workflow/glacialworkflow/core/StepState", "hasEnded", "()Z"⟩ : MethodName)) hown (mvT hZ (hw _ (List.mem_of_getElem? (i := 23) rfl))) (mvT hZ (hw _ (List.mem_of_getElem? (i := 24) rfl))) (notFace_of_selects (args := #[]) (mvT hZ (hw _ (List.mem_of_getElem? (i := 26) rfl)))) (mvT hZ (hw _ (List.mem_of_getElem? (i := 26) rfl))) (mvT hZ (hw _ (List.mem_of_getElem? (i := 25) rfl))) (by decide) (backOf (W := 0) (he_CANCELLED l Z a0 hw [] w_PENDING w_RUNNING w_AWAITING_RETRY w_AWAITING_HUMAN w_APPROVED w_COMPLETED w_FAILED w_SKIPPED w_CANCELLED h19 n0 O19 hE) hZ (hw _ (List.mem_of_getElem? (i := 27) rfl)) (hw _ (List.mem_of_getElem? (i := 3) rfl)) (by decide) (by decide)) q67a q67c (g := (mkF m 85 #[.val (.int p1), .val (.int p2), .val (.ref b1), .val (.ref w_CANCELLED), .val (.ref wn), .unset] [(.ref w_CANCELLED)])) rfl (by rw [hml]; rfl) (Steps.refl _) (argsL := []) (rest := []) (lenOf pd___Z rfl) rfl (by show 2 * 0 + _ ≤ _; exact Nat.le_of_eq rfl) (hb hby at_85) (fun _ _ => ⟨rfl, e19, (by decide : 1 + 0 ≤ _), (by decide : 9 + 0 ≤ _)⟩)
    dsimp only [Pt.U, Pt.locs, Pt.cells, Pt.slots] at X67 l67 y67 z67 st67 hQ67
    subst l67 y67 z67
    obtain ⟨rfl, Nq67, eq67⟩ := hQ67
    have N67 := Fr.app N19 Nq67
    obtain ⟨T68, X68, e68, st68⟩ := getS2 X67 hx hZ hown (host := "") (Or.inl (hw _ (List.mem_of_getElem? (i := 20) rfl))) Via.refl eq67 (S_w_CANCELLED.ext O19.2) (g := (mkF m 93 #[.val (.int p1), .val (.int p2), .val (.ref b1), .val (.ref w_CANCELLED), .val (.ref wn), .val (.int (1 : Int32))] [(.ref w_CANCELLED), (.int (1 : Int32))])) rfl (hb hby at_93)
    obtain ⟨cq69, kq69, q69a, q69b, q69c⟩ := isOf hZ e68 (E_w_CANCELLED.ext O19.2)
    obtain ⟨_, _, ⟨T69, L69, k69, n69⟩, -, X69, ⟨Lc69, hQ69, l69, y69, z69⟩, st69⟩ := X68.virtualBack hx (y := (⟨"com/example/glacial_workflow/glacialworkflow/core/StepState", "canBecome", "(Lcom/example/glacial_workflow/glacialworkflow/core/StepState;)Z"⟩ : MethodName)) (z := (⟨"com/example/glacial_workflow/glacialworkflow/core/StepState", "canBecome", "(Lcom/example/glacial_workflow/glacialworkflow/core/StepState;)Z"⟩ : MethodName)) hown (mvT hZ (hw _ (List.mem_of_getElem? (i := 32) rfl))) (mvT hZ (hw _ (List.mem_of_getElem? (i := 33) rfl))) (notFace_of_selects (args := #[]) (mvT hZ (hw _ (List.mem_of_getElem? (i := 35) rfl)))) (mvT hZ (hw _ (List.mem_of_getElem? (i := 35) rfl))) (mvT hZ (hw _ (List.mem_of_getElem? (i := 34) rfl))) (by decide) (backOf (W := 1) (cb_CANCELLED l Z a0 hw [] w_CANCELLED w_PENDING w_RUNNING w_AWAITING_RETRY w_AWAITING_HUMAN w_APPROVED w_COMPLETED w_FAILED w_SKIPPED w_CANCELLED h19 n0 O19 hE) hZ (hw _ (List.mem_of_getElem? (i := 36) rfl)) (hw _ (List.mem_of_getElem? (i := 3) rfl)) (by decide) (by decide)) q69a q69c (g := (mkF m 96 #[.val (.int p1), .val (.int p2), .val (.ref b1), .val (.ref w_CANCELLED), .val (.ref wn), .val (.int (1 : Int32))] [(.ref w_CANCELLED), (.ref w_CANCELLED), (.int (1 : Int32))])) rfl (by rw [hml]; rfl) (Steps.refl _) (argsL := [(.ref w_CANCELLED)]) (rest := [(.int (1 : Int32))]) (lenOf pd__Lcom_example_glacial_workflow_glacialworkflow_core_StepState__Z rfl) rfl (by show 2 * 0 + _ ≤ _; exact Nat.le_of_eq rfl) (hb hby at_96) (fun _ _ => ⟨rfl, e68, (by decide : 1 + 0 ≤ _), (by decide : 9 + 0 ≤ _)⟩)
    dsimp only [Pt.U, Pt.locs, Pt.cells, Pt.slots] at X69 l69 y69 z69 st69 hQ69
    subst l69 y69 z69
    obtain ⟨rfl, Nq69, eq69⟩ := hQ69
    have N69 := Fr.app N67 Nq69
    obtain ⟨cq70, kq70, q70a, q70b, q70c⟩ := isOf hZ eq69 (E_w_CANCELLED.ext O19.2)
    obtain ⟨_, _, ⟨T70, L70, k70, n70⟩, -, X70, ⟨Lc70, hQ70, l70, y70, z70⟩, st70⟩ := X69.virtualBack hx (y := (⟨"com/example/glacial_workflow/glacialworkflow/core/StepState", "canBecome", "(Lcom/example/glacial_workflow/glacialworkflow/core/StepState;)Z"⟩ : MethodName)) (z := (⟨"com/example/glacial_workflow/glacialworkflow/core/StepState", "canBecome", "(Lcom/example/glacial_workflow/glacialworkflow/core/StepState;)Z"⟩ : MethodName)) hown (mvT hZ (hw _ (List.mem_of_getElem? (i := 32) rfl))) (mvT hZ (hw _ (List.mem_of_getElem? (i := 33) rfl))) (notFace_of_selects (args := #[]) (mvT hZ (hw _ (List.mem_of_getElem? (i := 35) rfl)))) (mvT hZ (hw _ (List.mem_of_getElem? (i := 35) rfl))) (mvT hZ (hw _ (List.mem_of_getElem? (i := 34) rfl))) (by decide) (backOf (W := 0) (cb_CANCELLED l Z a0 hw [] wn w_PENDING w_RUNNING w_AWAITING_RETRY w_AWAITING_HUMAN w_APPROVED w_COMPLETED w_FAILED w_SKIPPED w_CANCELLED h19 n0 O19 hE) hZ (hw _ (List.mem_of_getElem? (i := 36) rfl)) (hw _ (List.mem_of_getElem? (i := 3) rfl)) (by decide) (by decide)) q70a q70c (g := (mkF m 112 #[.val (.int p1), .val (.int p2), .val (.ref b1), .val (.ref w_CANCELLED), .val (.ref wn), .val (.int (1 : Int32))] [(.ref wn), (.ref w_CANCELLED)])) rfl (by rw [hml]; rfl) (Steps.refl _) (argsL := [(.ref wn)]) (rest := []) (lenOf pd__Lcom_example_glacial_workflow_glacialworkflow_core_StepState__Z rfl) rfl (by show 2 * 0 + _ ≤ _; exact Nat.le_of_eq rfl) (hb hby at_112) (fun _ _ => ⟨rfl, eq69, (by decide : 1 + 0 ≤ _), (by decide : 9 + 0 ≤ _)⟩)
    dsimp only [Pt.U, Pt.locs, Pt.cells, Pt.slots] at X70 l70 y70 z70 st70 hQ70
    subst l70 y70 z70
    obtain ⟨rfl, Nq70, eq70⟩ := hQ70
    have N70 := Fr.app N69 Nq70
    obtain ⟨fs, hr, hrun, hended, hW, hsame⟩ := X70.leave (v := some (.int (1 : Int32))) (fun h => by rw [Bd.returns] at h; cases h)
    refine ⟨_, _, pre20 _ ?_, hrun, hended, _, _, rfl, ?_, ⟨_, rfl⟩, hW, hsame.mono (by decide) (by decide)⟩
    · show Steps p.tables e below (T19.setTop (mkF m 71 #[.val (.int p1), .val (.int p2), .val (.ref b1), .unset, .unset, .unset] [(.int (8 : Int32)), (.ref b1)])) _
      refine X19.aaload hx (j := (8 : Int32)) (v := (.ref w_CANCELLED)) (by rw [e19]; exact Ar65.1) (State.isArrayOf_alike hZ.alike Ar65.2.1) rfl Ar65.2.2 hin65 hat65 (g := (mkF m 71 #[.val (.int p1), .val (.int p2), .val (.ref b1), .unset, .unset, .unset] [(.int (8 : Int32)), (.ref b1)])) rfl rfl (hb hby at_71) _ ?_
      show Steps p.tables e below (T19.setTop (mkF m 72 #[.val (.int p1), .val (.int p2), .val (.ref b1), .unset, .unset, .unset] [(.ref w_CANCELLED)])) _
      refine XS.astoreN X19.here hx rfl (hb hby at_72) rfl rfl (l' := #[.val (.int p1), .val (.int p2), .val (.ref b1), .val (.ref w_CANCELLED), .unset, .unset]) rfl ?_
      show Steps p.tables e below (T19.setTop (mkF m 73 #[.val (.int p1), .val (.int p2), .val (.ref b1), .val (.ref w_CANCELLED), .unset, .unset] [])) _
      refine XS.aloadN X19.here hx rfl (hb hby at_73) rfl rfl ?_
      show Steps p.tables e below (T19.setTop (mkF m 74 #[.val (.int p1), .val (.int p2), .val (.ref b1), .val (.ref w_CANCELLED), .unset, .unset] [(.ref b1)])) _
      refine XS.iloadN X19.here hx rfl (hb hby at_74) rfl ?_
      show Steps p.tables e below (T19.setTop (mkF m 75 #[.val (.int p1), .val (.int p2), .val (.ref b1), .val (.ref w_CANCELLED), .unset, .unset] [(.int p2), (.ref b1)])) _
      refine X19.ldcInt hx hown (mvT hZ (hw _ (List.mem_of_getElem? (i := 22) rfl))) (g := (mkF m 75 #[.val (.int p1), .val (.int p2), .val (.ref b1), .val (.ref w_CANCELLED), .unset, .unset] [(.int p2), (.ref b1)])) rfl (hb hby at_75) _ ?_
      show Steps p.tables e below (T19.setTop (mkF m 77 #[.val (.int p1), .val (.int p2), .val (.ref b1), .val (.ref w_CANCELLED), .unset, .unset] [(.int (2147483647 : Int32)), (.int p2), (.ref b1)])) _
      refine XS.iand X19.here hx rfl (hb hby at_77) rfl ?_
      show Steps p.tables e below (T19.setTop (mkF m 78 #[.val (.int p1), .val (.int p2), .val (.ref b1), .val (.ref w_CANCELLED), .unset, .unset] [(.int (p2 &&& (2147483647 : Int32))), (.ref b1)])) _
      refine XS.bipush X19.here hx rfl (hb hby at_78) ?_
      show Steps p.tables e below (T19.setTop (mkF m 80 #[.val (.int p1), .val (.int p2), .val (.ref b1), .val (.ref w_CANCELLED), .unset, .unset] [(.int (9 : Int32)), (.int (p2 &&& (2147483647 : Int32))), (.ref b1)])) _
      refine iremM X19 hx (g := (mkF m 80 #[.val (.int p1), .val (.int p2), .val (.ref b1), .val (.ref w_CANCELLED), .unset, .unset] [(.int (9 : Int32)), (.int (p2 &&& (2147483647 : Int32))), (.ref b1)])) rfl (hb hby at_80) rfl (by decide) ?_
      show Steps p.tables e below (T19.setTop (mkF m 81 #[.val (.int p1), .val (.int p2), .val (.ref b1), .val (.ref w_CANCELLED), .unset, .unset] [(.int ((p2 &&& (2147483647 : Int32)) % (9 : Int32))), (.ref b1)])) _
      refine X19.aaload hx (j := ((p2 &&& (2147483647 : Int32)) % (9 : Int32))) (v := .ref wn) (by rw [e19]; exact Ar66.1) (State.isArrayOf_alike hZ.alike Ar66.2.1) rfl Ar66.2.2 hin66 hat66 (g := (mkF m 81 #[.val (.int p1), .val (.int p2), .val (.ref b1), .val (.ref w_CANCELLED), .unset, .unset] [(.int ((p2 &&& (2147483647 : Int32)) % (9 : Int32))), (.ref b1)])) rfl rfl (hb hby at_81) _ ?_
      show Steps p.tables e below (T19.setTop (mkF m 82 #[.val (.int p1), .val (.int p2), .val (.ref b1), .val (.ref w_CANCELLED), .unset, .unset] [(.ref wn)])) _
      refine XS.astore X19.here hx rfl (hb hby at_82) rfl rfl (l' := #[.val (.int p1), .val (.int p2), .val (.ref b1), .val (.ref w_CANCELLED), .val (.ref wn), .unset]) rfl ?_
      show Steps p.tables e below (T19.setTop (mkF m 84 #[.val (.int p1), .val (.int p2), .val (.ref b1), .val (.ref w_CANCELLED), .val (.ref wn), .unset] [])) _
      refine XS.aloadN X19.here hx rfl (hb hby at_84) rfl rfl ?_
      show Steps p.tables e below (T19.setTop (mkF m 85 #[.val (.int p1), .val (.int p2), .val (.ref b1), .val (.ref w_CANCELLED), .val (.ref wn), .unset] [(.ref w_CANCELLED)])) _
      refine st67.trans ?_
      show Steps p.tables e below (T67.setTop (mkF m 88 #[.val (.int p1), .val (.int p2), .val (.ref b1), .val (.ref w_CANCELLED), .val (.ref wn), .unset] [(.int (1 : Int32))])) _
      refine XS.istore X67.here hx rfl (hb hby at_88) rfl (l' := #[.val (.int p1), .val (.int p2), .val (.ref b1), .val (.ref w_CANCELLED), .val (.ref wn), .val (.int (1 : Int32))]) rfl ?_
      show Steps p.tables e below (T67.setTop (mkF m 90 #[.val (.int p1), .val (.int p2), .val (.ref b1), .val (.ref w_CANCELLED), .val (.ref wn), .val (.int (1 : Int32))] [])) _
      refine XS.iload X67.here hx rfl (hb hby at_90) rfl ?_
      show Steps p.tables e below (T67.setTop (mkF m 92 #[.val (.int p1), .val (.int p2), .val (.ref b1), .val (.ref w_CANCELLED), .val (.ref wn), .val (.int (1 : Int32))] [(.int (1 : Int32))])) _
      refine XS.aloadN X67.here hx rfl (hb hby at_92) rfl rfl ?_
      show Steps p.tables e below (T67.setTop (mkF m 93 #[.val (.int p1), .val (.int p2), .val (.ref b1), .val (.ref w_CANCELLED), .val (.ref wn), .val (.int (1 : Int32))] [(.ref w_CANCELLED), (.int (1 : Int32))])) _
      refine st68 _ ?_
      show Steps p.tables e below (T68.setTop (mkF m 96 #[.val (.int p1), .val (.int p2), .val (.ref b1), .val (.ref w_CANCELLED), .val (.ref wn), .val (.int (1 : Int32))] [(.ref w_CANCELLED), (.ref w_CANCELLED), (.int (1 : Int32))])) _
      refine st69.trans ?_
      show Steps p.tables e below (T69.setTop (mkF m 99 #[.val (.int p1), .val (.int p2), .val (.ref b1), .val (.ref w_CANCELLED), .val (.ref wn), .val (.int (1 : Int32))] [(.int (0 : Int32)), (.int (1 : Int32))])) _
      refine XS.icmpYes X69.here hx rfl (pc0 := 99) (pc' := 104) rfl (hb hby at_99) rfl (feq (by decide : ¬ ((1 : Int32) = (0 : Int32)))).2 (by decide) (by decide) ?_
      show Steps p.tables e below (T69.setTop (mkF m 104 #[.val (.int p1), .val (.int p2), .val (.ref b1), .val (.ref w_CANCELLED), .val (.ref wn), .val (.int (1 : Int32))] [])) _
      refine XS.iload X69.here hx rfl (hb hby at_104) rfl ?_
      show Steps p.tables e below (T69.setTop (mkF m 106 #[.val (.int p1), .val (.int p2), .val (.ref b1), .val (.ref w_CANCELLED), .val (.ref wn), .val (.int (1 : Int32))] [(.int (1 : Int32))])) _
      refine XS.ifNo X69.here hx rfl (hb hby at_106) rfl ((if0 _ _).trans (feq (by decide : ¬ ((1 : Int32) = (0 : Int32)))).1) ?_
      show Steps p.tables e below (T69.setTop (mkF m 109 #[.val (.int p1), .val (.int p2), .val (.ref b1), .val (.ref w_CANCELLED), .val (.ref wn), .val (.int (1 : Int32))] [])) _
      refine XS.aloadN X69.here hx rfl (hb hby at_109) rfl rfl ?_
      show Steps p.tables e below (T69.setTop (mkF m 110 #[.val (.int p1), .val (.int p2), .val (.ref b1), .val (.ref w_CANCELLED), .val (.ref wn), .val (.int (1 : Int32))] [(.ref w_CANCELLED)])) _
      refine XS.aload X69.here hx rfl (hb hby at_110) rfl rfl ?_
      show Steps p.tables e below (T69.setTop (mkF m 112 #[.val (.int p1), .val (.int p2), .val (.ref b1), .val (.ref w_CANCELLED), .val (.ref wn), .val (.int (1 : Int32))] [(.ref wn), (.ref w_CANCELLED)])) _
      refine st70.trans ?_
      show Steps p.tables e below (T70.setTop (mkF m 115 #[.val (.int p1), .val (.int p2), .val (.ref b1), .val (.ref w_CANCELLED), .val (.ref wn), .val (.int (1 : Int32))] [(.int (0 : Int32))])) _
      refine XS.ifYes X70.here hx rfl (pc0 := 115) (pc' := 120) rfl (hb hby at_115) rfl ((if0 _ _).trans (teq (by decide : (0 : Int32) = (0 : Int32))).1) (by decide) (by decide) ?_
      show Steps p.tables e below (T70.setTop (mkF m 120 #[.val (.int p1), .val (.int p2), .val (.ref b1), .val (.ref w_CANCELLED), .val (.ref wn), .val (.int (1 : Int32))] [])) _
      refine XS.iconst X70.here hx rfl (hb hby at_120) ?_
      show Steps p.tables e below (T70.setTop (mkF m 121 #[.val (.int p1), .val (.int p2), .val (.ref b1), .val (.ref w_CANCELLED), .val (.ref wn), .val (.int (1 : Int32))] [(.int (1 : Int32))])) _
      exact retN X70 hx (t := .boolean) Bd.returns (by simp) (hb hby at_121) hr
    · show Q_rm0 Z p1 p2 w_PENDING w_RUNNING w_AWAITING_RETRY w_AWAITING_HUMAN w_APPROVED w_COMPLETED w_FAILED w_SKIPPED w_CANCELLED h0 n0 _ T70.heap _
      rw [eq70]
      exact ⟨rfl, N70⟩
set_option maxRecDepth 65536 in
set_option maxHeartbeats 40000000 in
theorem comes_1 {Post : Tables → Env → Array Value → State → Outcome → State → Prop} (hpost : ∀ tb e args s v u, (limb_1_1.after args s (.returned v) u = true ∧ limb_1_2.after args s (.returned v) u = true ∧ True) → FrameEnd s (.returned v) u (Jvm.fieldLocs frame_1_writes args s ++ Jvm.arrayLocs frame_1_arrays args s ++ Jvm.staticLocs frame_1_statics s) 16 128 → Post tb e args s (.returned v) u) :
    ArmFor flags0 classFile x code maxLocals ret World_1 tables_1 room_1 Calls_1 rest_1 Pre_1 Post := by
  intro l hfl _ _ p e ha hc hk s m args below hf hA hF happ hP
  obtain ⟨hcalls, hrest, hpre⟩ := hP
  obtain ⟨-, -, -, hnamed, -, -, -, hat⟩ := (Spec.applies_iff hf).mp happ
  obtain ⟨hg, hn⟩ := and_e (Cond.before_iff.mp (show (Jvm.Cond.and given_1 narrow_1).before args s = true from hpre))
  obtain ⟨hg0, hgr0⟩ := and_e hg
  obtain ⟨ha0, hgr1⟩ := and_e hgr0
  obtain ⟨w0, w1, rfl⟩ : ∃ w0 w1 : Value, args = #[w0, w1] := by
    have hs : args.size = 2 := by simpa [Cond.value, given_1] using hg0
    obtain ⟨L⟩ := args
    match L, hs with
    | [w0, w1], _ => exact ⟨w0, w1, rfl⟩
  have hw := fun d (hd : d ∈ tables_1) => atoms_spec (ws := Jvm.Cond.code x code maxLocals ret :: tables_1) hat d (List.mem_cons_of_mem _ hd)
  have hfit : Fit s := fun {y c} hc i hi => by
    obtain ⟨ha, rfl⟩ := Array.getElem?_eq_some_iff.mp hc
    have q := List.all_eq_true.mp ((Array.all_eq_true_iff_forall_mem.mp hF) _ (Array.getElem_mem ha)) i (List.mem_range.mpr hi)
    simpa [Array.getElem?_eq_getElem hi] using q
  obtain ⟨i0, ei0⟩ := is_v ha0
  obtain rfl : w0 = (.int i0) := Option.some.inj ei0
  obtain ⟨i1, ei1⟩ := is_v hgr1
  obtain rfl : w1 = (.int i1) := Option.some.inj ei1
  obtain ⟨hq1a, hq1b⟩ := and_e hn
  obtain ⟨hq2a, hq2b⟩ := and_e hq1b
  obtain ⟨hq3a, hq3b⟩ := and_e hq2b
  obtain ⟨hq4a, hq4b⟩ := and_e hq3b
  obtain ⟨hq5a, hq5b⟩ := and_e hq4b
  obtain ⟨hq6a, hq6b⟩ := and_e hq5b
  obtain ⟨hq7a, hq7b⟩ := and_e hq6b
  obtain ⟨hq8a, hq8b⟩ := and_e hq7b
  obtain ⟨hq9a, hq9b⟩ := and_e hq8b
  obtain ⟨hq10a, hq10b⟩ := and_e hq9b
  obtain ⟨hq11a, hq11b⟩ := and_e hq10b
  obtain ⟨hq12a, hq12b⟩ := and_e hq11b
  obtain ⟨hq13a, hq13b⟩ := and_e hq12b
  obtain ⟨hq14a, hq14b⟩ := and_e hq13b
  obtain ⟨hq15a, hq15b⟩ := and_e hq14b
  obtain ⟨hq16a, hq16b⟩ := and_e hq15b
  obtain ⟨hq17a, hq17b⟩ := and_e hq16b
  obtain ⟨w_PENDING, ev_w_PENDING⟩ := exa_v hq1a
  obtain ⟨w_RUNNING, ev_w_RUNNING⟩ := exa_v hq2a
  obtain ⟨w_AWAITING_RETRY, ev_w_AWAITING_RETRY⟩ := exa_v hq3a
  obtain ⟨w_AWAITING_HUMAN, ev_w_AWAITING_HUMAN⟩ := exa_v hq4a
  obtain ⟨w_APPROVED, ev_w_APPROVED⟩ := exa_v hq5a
  obtain ⟨w_COMPLETED, ev_w_COMPLETED⟩ := exa_v hq6a
  obtain ⟨w_FAILED, ev_w_FAILED⟩ := exa_v hq7a
  obtain ⟨w_SKIPPED, ev_w_SKIPPED⟩ := exa_v hq8a
  obtain ⟨w_CANCELLED, ev_w_CANCELLED⟩ := exa_v hq9a
  obtain ⟨n, o, h1, h2, h3, _, L, rfl, ⟨rfl, N⟩, hq⟩ := rm0 l s _ hw tables_1 i0 i1 w_PENDING w_RUNNING w_AWAITING_RETRY w_AWAITING_HUMAN w_APPROVED w_COMPLETED w_FAILED w_SKIPPED w_CANCELLED s.heap s.heap.size (Old.start s) ⟨(Sta.start ev_w_PENDING (Or.inr ⟨(hw _ (List.mem_of_getElem? (i := 3) rfl)), (hw _ (List.mem_of_getElem? (i := 4) rfl))⟩)), (own_exa hq1a ev_w_PENDING), (Sta.start ev_w_RUNNING (Or.inr ⟨(hw _ (List.mem_of_getElem? (i := 3) rfl)), (hw _ (List.mem_of_getElem? (i := 7) rfl))⟩)), (own_exa hq2a ev_w_RUNNING), (Sta.start ev_w_AWAITING_RETRY (Or.inr ⟨(hw _ (List.mem_of_getElem? (i := 3) rfl)), (hw _ (List.mem_of_getElem? (i := 9) rfl))⟩)), (own_exa hq3a ev_w_AWAITING_RETRY), (Sta.start ev_w_AWAITING_HUMAN (Or.inr ⟨(hw _ (List.mem_of_getElem? (i := 3) rfl)), (hw _ (List.mem_of_getElem? (i := 11) rfl))⟩)), (own_exa hq4a ev_w_AWAITING_HUMAN), (Sta.start ev_w_APPROVED (Or.inr ⟨(hw _ (List.mem_of_getElem? (i := 3) rfl)), (hw _ (List.mem_of_getElem? (i := 13) rfl))⟩)), (own_exa hq5a ev_w_APPROVED), (Sta.start ev_w_COMPLETED (Or.inr ⟨(hw _ (List.mem_of_getElem? (i := 3) rfl)), (hw _ (List.mem_of_getElem? (i := 15) rfl))⟩)), (own_exa hq6a ev_w_COMPLETED), (Sta.start ev_w_FAILED (Or.inr ⟨(hw _ (List.mem_of_getElem? (i := 3) rfl)), (hw _ (List.mem_of_getElem? (i := 17) rfl))⟩)), (own_exa hq7a ev_w_FAILED), (Sta.start ev_w_SKIPPED (Or.inr ⟨(hw _ (List.mem_of_getElem? (i := 3) rfl)), (hw _ (List.mem_of_getElem? (i := 19) rfl))⟩)), (own_exa hq8a ev_w_SKIPPED), (Sta.start ev_w_CANCELLED (Or.inr ⟨(hw _ (List.mem_of_getElem? (i := 3) rfl)), (hw _ (List.mem_of_getElem? (i := 21) rfl))⟩)), (own_exa hq9a ev_w_CANCELLED), (own_fi ev_w_PENDING hq10a), (own_fi ev_w_COMPLETED hq11a), (own_fi ev_w_FAILED hq12a), (own_fi ev_w_SKIPPED hq13a), (own_fi ev_w_CANCELLED hq14a), (own_fi ev_w_RUNNING hq15a), (own_fi ev_w_AWAITING_HUMAN hq16a), (own_fi ev_w_APPROVED hq17a), (own_fi ev_w_AWAITING_RETRY hq17b)⟩ p e ha hc hk s m _ below hf ((Spec.applies_iff_loose hf).mp happ).1 ⟨rfl, State.Warmed39.refl s, rfl⟩ trivial
  refine ⟨n, _, h1, h2, h3, hpost _ _ _ _ _ _ ⟨Cond.after_iff.mpr rfl, Cond.after_iff.mpr (eq_i res_at (Term.int_eval (1)) rfl), trivial⟩ ⟨hq.1, hq.2.1, (hq.2.2.sift fun y hy => Or.inr (N y hy)).mono (by decide) (by decide)⟩⟩
theorem main_1_1 : Claimed_1_1 := comes_1 fun _ _ _ _ _ _ h hF => ⟨h.1, hF⟩
theorem main_1_2 : Claimed_1_2 := comes_1 fun _ _ _ _ _ _ h hF => ⟨h.2.1, hF⟩
end Jvm.Pilot.@@N@@
namespace Jvm.Pilot.@@N@@
open Jvm Jvm.ClassFile Sem Op Lib Jvm.Free Jvm.Stand Jvm.Pilot.@@N@@.Jvm.D
/-! MADE BY PROGRAM (witnessworld.py) out of the Statement's table words and the real class files: 14 classes; the members and pool entries that the words name. The judged class is class 1, her method 1. -/
namespace start1
open Jvm.ClassFile
def u (s : String) : CpInfo := .utf8 (stringToUtf16 s)
/-- a pool by its gaps: so many unusable entries, then the entry; so many at the end -/
def gap : Nat → List CpInfo → List CpInfo
  | 0, r => r
  | n + 1, r => .unusable :: gap n r
def poolList (es : List (Nat × CpInfo)) (last : Nat) : List CpInfo := es.foldr (fun e r => gap e.1 (e.2 :: r)) (gap last [])
def pool (es : List (Nat × CpInfo)) (last : Nat) : Array CpInfo := ⟨poolList es last⟩
def fileOf (pool : Array CpInfo) (this : Nat) (attrs : Array Attribute := #[]) (ms : Array MethodInfo := #[]) (fl : Nat := 33) (sup : Nat := 0) (ifs : Array Nat := #[]) (fds : Array FieldInfo := #[]) : ClassFile where
  minorVersion := 0
  majorVersion := 65
  constantPool := pool
  accessFlags := fl
  thisClass := this
  superClass := sup
  interfaces := ifs
  fields := fds
  methods := ms
  attributes := attrs
def plain (name : String) (sup : Option ClassId) : Class where
  name := name
  kind := .ordinary
  loader := none
  accessFlags := 33
  super := sup
  interfaces := #[]
  cf := none
  fields := #[]
  methods := #[]
  instanceTypes := #[]
  staticTypes := #[]
  resolved := #[]
  callSites := []
  init := .initialized
  statics := none
  mirror := none

def pool0 : Array CpInfo := pool [(5, u "<init>"), (0, u "()V"), (1, .class_ 10), (1, u "java/lang/Object")] 113

def k0m0 : Method := { name := "<init>", desc := "()V", sig := { parameters := [], returnType := none }, accessFlags := 1, code := none }
/-- java/lang/Object -/
def k0 : Class := { plain "java/lang/Object" none with
  accessFlags := 33
  interfaces := #[]
  cf := some (fileOf pool0 8 #[] #[{ accessFlags := 1, nameIndex := 5, descriptorIndex := 6, attributes := #[] }] 33 0 #[] #[])
  fields := #[]
  methods := #[k0m0]
  instanceTypes := #[]
  staticTypes := #[]
  resolved := Array.replicate 124 none
  statics := none }

def pool1 : Array CpInfo := pool [(2, .class_ 4), (1, u "java/lang/Object"), (0, u "<init>"), (0, u "()V"), (0, .class_ 8), (0, u "com/example/glacial_workflow/glacialworkflow/core/StepState"), (0, .fieldref 7 10), (0, .nameAndType 11 12), (0, u "PENDING"), (0, u "Lcom/example/glacial_workflow/glacialworkflow/core/StepState;"), (0, .fieldref 7 14), (0, .nameAndType 15 12), (0, u "RUNNING"), (0, .fieldref 7 17), (0, .nameAndType 18 12), (0, u "AWAITING_RETRY"), (0, .fieldref 7 20), (0, .nameAndType 21 12), (0, u "AWAITING_HUMAN"), (0, .fieldref 7 23), (0, .nameAndType 24 12), (0, u "APPROVED"), (0, .fieldref 7 26), (0, .nameAndType 27 12), (0, u "COMPLETED"), (0, .fieldref 7 29), (0, .nameAndType 30 12), (0, u "FAILED"), (0, .fieldref 7 32), (0, .nameAndType 33 12), (0, u "SKIPPED"), (0, .fieldref 7 35), (0, .nameAndType 36 12), (0, u "CANCELLED"), (0, .integer 2147483647), (0, .methodref 7 39), (0, .nameAndType 40 41), (0, u "hasEnded"), (0, u "()Z"), (0, .methodref 7 43), (0, .nameAndType 44 45), (0, u "canBecome"), (0, u "(Lcom/example/glacial_workflow/glacialworkflow/core/StepState;)Z"), (0, .class_ 47), (0, u "com/example/glacial_workflow/glacialworkflow/core/StepStateHasEndedPinLaw"), (2, u "law"), (0, u "(II)Z")] 5

def k1m0 : Method := { name := "<init>", desc := "()V", sig := { parameters := [], returnType := none }, accessFlags := 1, code := none }
def k1c1 : Code := { maxStack := 4, maxLocals := 6, code := code, exceptionTable := #[], attributes := #[] }
def k1m1 : Method := { name := "law", desc := "(II)Z", sig := { parameters := [.int, .int], returnType := some .boolean }, accessFlags := 9, code := some k1c1 }
/-- com/example/glacial_workflow/glacialworkflow/core/StepStateHasEndedPinLaw -/
def k1 : Class := { plain "com/example/glacial_workflow/glacialworkflow/core/StepStateHasEndedPinLaw" (some 0) with
  accessFlags := 49
  interfaces := #[]
  cf := some (fileOf pool1 46 #[] #[{ accessFlags := 1, nameIndex := 5, descriptorIndex := 6, attributes := #[] }, { accessFlags := 9, nameIndex := 50, descriptorIndex := 51, attributes := #[] }] 49 2 #[] #[])
  fields := #[]
  methods := #[k1m0, k1m1]
  instanceTypes := #[]
  staticTypes := #[]
  resolved := Array.replicate 57 none
  statics := none }

def pool2 : Array CpInfo := pool [(1, .class_ 2), (0, u "java/lang/constant/Constable"), (0, .class_ 4), (0, u "java/lang/Object")] 6

/-- java/lang/constant/Constable -/
def k2 : Class := { plain "java/lang/constant/Constable" (some 0) with
  accessFlags := 1537
  interfaces := #[]
  cf := some (fileOf pool2 1 #[] #[] 1537 3 #[] #[])
  fields := #[]
  methods := #[]
  instanceTypes := #[]
  staticTypes := #[]
  resolved := Array.replicate 11 none
  statics := none }

def pool3 : Array CpInfo := pool [(1, .class_ 2), (0, u "java/lang/Comparable"), (0, .class_ 4), (0, u "java/lang/Object")] 7

/-- java/lang/Comparable -/
def k3 : Class := { plain "java/lang/Comparable" (some 0) with
  accessFlags := 1537
  interfaces := #[]
  cf := some (fileOf pool3 1 #[] #[] 1537 3 #[] #[])
  fields := #[]
  methods := #[]
  instanceTypes := #[]
  staticTypes := #[]
  resolved := Array.replicate 12 none
  statics := none }

def pool4 : Array CpInfo := pool [(1, .class_ 2), (0, u "java/io/Serializable"), (0, .class_ 4), (0, u "java/lang/Object")] 2

/-- java/io/Serializable -/
def k4 : Class := { plain "java/io/Serializable" (some 0) with
  accessFlags := 1537
  interfaces := #[]
  cf := some (fileOf pool4 1 #[] #[] 1537 3 #[] #[])
  fields := #[]
  methods := #[]
  instanceTypes := #[]
  staticTypes := #[]
  resolved := Array.replicate 7 none
  statics := none }

def pool5 : Array CpInfo := pool [(2, .class_ 4), (1, u "java/lang/Enum"), (0, u "name"), (0, u "Ljava/lang/String;"), (0, .fieldref 2 8), (0, .nameAndType 9 10), (0, u "ordinal"), (0, u "I"), (1, .class_ 14), (1, u "java/lang/Object"), (4, u "hash"), (86, .class_ 108), (1, u "java/lang/Enum$EnumDesc"), (2, .class_ 112), (0, u "java/lang/constant/Constable"), (0, .class_ 114), (0, u "java/lang/Comparable"), (0, .class_ 116), (0, u "java/io/Serializable"), (9, u "()I")] 77

def k5c0 : Code := { maxStack := 1, maxLocals := 1, code := jdk_37_method_2_code, exceptionTable := #[], attributes := #[] }
def k5m0 : Method := { name := "ordinal", desc := "()I", sig := { parameters := [], returnType := some .int }, accessFlags := 17, code := some k5c0 }
/-- java/lang/Enum -/
def k5 : Class := { plain "java/lang/Enum" (some 0) with
  accessFlags := 1057
  interfaces := #[2, 3, 4]
  cf := some (fileOf pool5 2 #[.nestMembers #[106]] #[{ accessFlags := 17, nameIndex := 9, descriptorIndex := 126, attributes := #[] }] 1057 12 #[111, 113, 115] #[{ accessFlags := 18, nameIndex := 5, descriptorIndex := 6, attributes := #[] }, { accessFlags := 18, nameIndex := 9, descriptorIndex := 10, attributes := #[] }, { accessFlags := 2, nameIndex := 19, descriptorIndex := 10, attributes := #[] }])
  fields := #[{ name := "name", type := (.object "java/lang/String"), accessFlags := 18, slot := 0, constantValue := 0 }, { name := "ordinal", type := .int, accessFlags := 18, slot := 1, constantValue := 0 }, { name := "hash", type := .int, accessFlags := 2, slot := 2, constantValue := 0 }]
  methods := #[k5m0]
  instanceTypes := #[(.object "java/lang/String"), .int, .int]
  staticTypes := #[]
  resolved := Array.replicate 204 none
  statics := none }

def pool6 : Array CpInfo := pool [(2, .class_ 4), (1, u "com/example/glacial_workflow/glacialworkflow/core/Labelled"), (14, .class_ 20), (0, u "java/lang/Object")] 5

/-- com/example/glacial_workflow/glacialworkflow/core/Labelled -/
def k6 : Class := { plain "com/example/glacial_workflow/glacialworkflow/core/Labelled" (some 0) with
  accessFlags := 1537
  interfaces := #[]
  cf := some (fileOf pool6 2 #[] #[] 1537 19 #[] #[])
  fields := #[]
  methods := #[]
  instanceTypes := #[]
  staticTypes := #[]
  resolved := Array.replicate 26 none
  statics := none }

def pool7 : Array CpInfo := pool [(1, .class_ 2), (0, u "com/example/glacial_workflow/glacialworkflow/core/StepState"), (2, u "PENDING"), (0, u "Lcom/example/glacial_workflow/glacialworkflow/core/StepState;"), (0, .fieldref 1 8), (0, .nameAndType 9 6), (0, u "RUNNING"), (0, .fieldref 1 11), (0, .nameAndType 12 6), (0, u "AWAITING_RETRY"), (0, .fieldref 1 14), (0, .nameAndType 15 6), (0, u "AWAITING_HUMAN"), (0, .fieldref 1 17), (0, .nameAndType 18 6), (0, u "APPROVED"), (0, .fieldref 1 20), (0, .nameAndType 21 6), (0, u "COMPLETED"), (0, .fieldref 1 23), (0, .nameAndType 24 6), (0, u "FAILED"), (0, .fieldref 1 26), (0, .nameAndType 27 6), (0, u "SKIPPED"), (0, .fieldref 1 29), (0, .nameAndType 30 6), (0, u "CANCELLED"), (2, u "$VALUES"), (0, u "[Lcom/example/glacial_workflow/glacialworkflow/core/StepState;"), (6, .class_ 43), (1, u "java/lang/Enum"), (6, .methodref 1 51), (0, .nameAndType 52 53), (0, u "ordinal"), (0, u "()I"), (34, .class_ 89), (0, u "com/example/glacial_workflow/glacialworkflow/core/Labelled"), (6, u "hasEnded"), (0, u "()Z"), (1, u "canBecome"), (0, u "(Lcom/example/glacial_workflow/glacialworkflow/core/StepState;)Z")] 5

def k7c0 : Code := { maxStack := 2, maxLocals := 1, code := prog_26_method_4_code, exceptionTable := #[], attributes := #[] }
def k7m0 : Method := { name := "hasEnded", desc := "()Z", sig := { parameters := [], returnType := some .boolean }, accessFlags := 1, code := some k7c0 }
def k7c1 : Code := { maxStack := 4, maxLocals := 2, code := prog_26_method_5_code, exceptionTable := #[], attributes := #[] }
def k7m1 : Method := { name := "canBecome", desc := "(Lcom/example/glacial_workflow/glacialworkflow/core/StepState;)Z", sig := { parameters := [(.object "com/example/glacial_workflow/glacialworkflow/core/StepState")], returnType := some .boolean }, accessFlags := 1, code := some k7c1 }
/-- com/example/glacial_workflow/glacialworkflow/core/StepState -/
def k7 : Class := { plain "com/example/glacial_workflow/glacialworkflow/core/StepState" (some 5) with
  accessFlags := 16433
  interfaces := #[6]
  cf := some (fileOf pool7 1 #[] #[{ accessFlags := 1, nameIndex := 96, descriptorIndex := 97, attributes := #[] }, { accessFlags := 1, nameIndex := 99, descriptorIndex := 100, attributes := #[] }] 16433 41 #[88] #[{ accessFlags := 16409, nameIndex := 5, descriptorIndex := 6, attributes := #[] }, { accessFlags := 16409, nameIndex := 9, descriptorIndex := 6, attributes := #[] }, { accessFlags := 16409, nameIndex := 12, descriptorIndex := 6, attributes := #[] }, { accessFlags := 16409, nameIndex := 15, descriptorIndex := 6, attributes := #[] }, { accessFlags := 16409, nameIndex := 18, descriptorIndex := 6, attributes := #[] }, { accessFlags := 16409, nameIndex := 21, descriptorIndex := 6, attributes := #[] }, { accessFlags := 16409, nameIndex := 24, descriptorIndex := 6, attributes := #[] }, { accessFlags := 16409, nameIndex := 27, descriptorIndex := 6, attributes := #[] }, { accessFlags := 16409, nameIndex := 30, descriptorIndex := 6, attributes := #[] }, { accessFlags := 4122, nameIndex := 33, descriptorIndex := 34, attributes := #[] }])
  fields := #[{ name := "PENDING", type := (.object "com/example/glacial_workflow/glacialworkflow/core/StepState"), accessFlags := 16409, slot := 0, constantValue := 0 }, { name := "RUNNING", type := (.object "com/example/glacial_workflow/glacialworkflow/core/StepState"), accessFlags := 16409, slot := 1, constantValue := 0 }, { name := "AWAITING_RETRY", type := (.object "com/example/glacial_workflow/glacialworkflow/core/StepState"), accessFlags := 16409, slot := 2, constantValue := 0 }, { name := "AWAITING_HUMAN", type := (.object "com/example/glacial_workflow/glacialworkflow/core/StepState"), accessFlags := 16409, slot := 3, constantValue := 0 }, { name := "APPROVED", type := (.object "com/example/glacial_workflow/glacialworkflow/core/StepState"), accessFlags := 16409, slot := 4, constantValue := 0 }, { name := "COMPLETED", type := (.object "com/example/glacial_workflow/glacialworkflow/core/StepState"), accessFlags := 16409, slot := 5, constantValue := 0 }, { name := "FAILED", type := (.object "com/example/glacial_workflow/glacialworkflow/core/StepState"), accessFlags := 16409, slot := 6, constantValue := 0 }, { name := "SKIPPED", type := (.object "com/example/glacial_workflow/glacialworkflow/core/StepState"), accessFlags := 16409, slot := 7, constantValue := 0 }, { name := "CANCELLED", type := (.object "com/example/glacial_workflow/glacialworkflow/core/StepState"), accessFlags := 16409, slot := 8, constantValue := 0 }, { name := "$VALUES", type := (.array (.object "com/example/glacial_workflow/glacialworkflow/core/StepState")), accessFlags := 4122, slot := 9, constantValue := 0 }]
  methods := #[k7m0, k7m1]
  instanceTypes := #[(.object "java/lang/String"), .int, .int]
  staticTypes := #[(.object "com/example/glacial_workflow/glacialworkflow/core/StepState"), (.object "com/example/glacial_workflow/glacialworkflow/core/StepState"), (.object "com/example/glacial_workflow/glacialworkflow/core/StepState"), (.object "com/example/glacial_workflow/glacialworkflow/core/StepState"), (.object "com/example/glacial_workflow/glacialworkflow/core/StepState"), (.object "com/example/glacial_workflow/glacialworkflow/core/StepState"), (.object "com/example/glacial_workflow/glacialworkflow/core/StepState"), (.object "com/example/glacial_workflow/glacialworkflow/core/StepState"), (.object "com/example/glacial_workflow/glacialworkflow/core/StepState"), (.array (.object "com/example/glacial_workflow/glacialworkflow/core/StepState"))]
  resolved := Array.replicate 106 none
  statics := some 0 }

def pool8 : Array CpInfo := pool [(1, u "java/lang/Cloneable"), (0, .class_ 1), (0, u "java/lang/Object"), (0, .class_ 3)] 3

/-- java/lang/Cloneable -/
def k8 : Class := { plain "java/lang/Cloneable" (some 0) with
  accessFlags := 1537
  interfaces := #[]
  cf := some (fileOf pool8 2 #[] #[] 1537 4 #[] #[])
  fields := #[]
  methods := #[]
  instanceTypes := #[]
  staticTypes := #[]
  resolved := Array.replicate 8 none
  statics := none }

/-- the primitive byte -/
def k9 : Class := { plain "byte" none with kind := .primitive 'B', accessFlags := 0x411 }
/-- [B -/
def k10 : Class := { plain "[B" (some 0) with kind := .array 9 .byte, interfaces := #[8, 4], accessFlags := 1041 }

/-- the primitive int -/
def k11 : Class := { plain "int" none with kind := .primitive 'I', accessFlags := 0x411 }
/-- [I -/
def k12 : Class := { plain "[I" (some 0) with kind := .array 11 .int, interfaces := #[8, 4], accessFlags := 1041 }

/-- [Lcom/example/glacial_workflow/glacialworkflow/core/StepState; -/
def k13 : Class := { plain "[Lcom/example/glacial_workflow/glacialworkflow/core/StepState;" (some 0) with kind := .array 7 (.object "com/example/glacial_workflow/glacialworkflow/core/StepState"), interfaces := #[8, 4], accessFlags := 1041 }

def heap : Heap := #[{ cls := 7, slots := #[.ref 1, .ref 2, .ref 3, .ref 4, .ref 5, .ref 6, .ref 7, .ref 8, .ref 9, .null], vm := .statics 7 },
  { cls := 7, slots := #[.null, .int 0, .int 0], vm := .none },
  { cls := 7, slots := #[.null, .int 1, .int 0], vm := .none },
  { cls := 7, slots := #[.null, .int 2, .int 0], vm := .none },
  { cls := 7, slots := #[.null, .int 3, .int 0], vm := .none },
  { cls := 7, slots := #[.null, .int 4, .int 0], vm := .none },
  { cls := 7, slots := #[.null, .int 5, .int 0], vm := .none },
  { cls := 7, slots := #[.null, .int 6, .int 0], vm := .none },
  { cls := 7, slots := #[.null, .int 7, .int 0], vm := .none },
  { cls := 7, slots := #[.null, .int 8, .int 0], vm := .none }]
def classes : Array Class := #[k0, k1, k2, k3, k4, k5, k6, k7, k8, k9, k10, k11, k12, k13]
def interned : List (Array UInt16 × Addr) := []
def slotsUsed : Nat := 37
def theMethod : MethodId := ⟨1, 1⟩
def args0 : Array Value := #[.int 5, .int 7]
def aboutOver (below : List Frame) : State where
  vm := { classes := classes, interned := interned.toArray }
  heap := heap
  slotsUsed := slotsUsed
  threads := #[{ frames := .invoking theMethod args0 :: below }]
def below0 : List Frame := [.native { method := ⟨0, 0⟩, args := #[] }]
def about1 : State := aboutOver below0
def p0 : Program := .bare "" "" ""
def e0 : Env := launch0.env 0 0 0
theorem w_frames : about1.frames = Frame.invoking theMethod args0 :: below0 := rfl
set_option maxRecDepth 65536 in
theorem w_args : argsFit about1.vm theMethod args0 = true := by decide +kernel
set_option maxRecDepth 65536 in
theorem w_heap : heapFits about1 = true := by decide +kernel
set_option maxRecDepth 65536 in
theorem w_runnable : about1.curStatus? = some .runnable := by decide +kernel
set_option maxRecDepth 65536 in
theorem w_alone : about1.alone = true := by decide +kernel
set_option maxRecDepth 65536 in
theorem w_named : about1.methodNamed? x = some theMethod := by decide +kernel
set_option maxRecDepth 65536 in
theorem w_hears : about1.hears theMethod below0 = true := by decide +kernel
set_option maxRecDepth 65536 in
theorem w_ripe : about1.ripe theMethod args0 below0 = true := by decide +kernel
theorem w_running : about1.status = .running := rfl
set_option maxRecDepth 65536 in
theorem w_room : about1.hasRoom e0.platform room_1 = true :=
  launch0.hasRoom_least _ room_1 (by decide +kernel) (by decide +kernel) (by decide +kernel) (by decide +kernel) (by decide +kernel) (by decide +kernel)
theorem allAtoms_all (ts : List Jvm.Cond) (a : Array Jvm.Value) (st : Jvm.State) : (allAtoms ts).before a st = ts.all (fun c => c.before a st) := by
  induction ts with
  | nil => rfl
  | cons c t ih =>
    show (Jvm.Cond.and c (allAtoms t)).before a st = _
    rw [Jvm.Cond.before_and, ih, List.all_cons]
def words1 : List Jvm.Cond := Jvm.Cond.code x code maxLocals ret :: tables_1
/-- a 'code' word, met by the world's own term for the bytes: nothing is compared byte by byte -/
theorem code_word {y : MethodName} {bytes : ByteArray} {mx : Nat} {rt : Option FieldType} {a : Array Value} {s : State} {m : MethodId} {meth : Method} {c : Code} (h1 : s.methodNamed? y = some m) (h2 : s.vm.method? m = some meth) (h3 : meth.code = some c) (h4 : c.code = bytes)
    (h5 : (c.maxLocals == mx && c.exceptionTable.isEmpty && decide (c.maxStack ≤ mostOperands) && decide (meth.sig.returnType = rt) && !meth.locks && decide (parseMethodDescriptor y.desc = some meth.sig)) = true) : (Jvm.Cond.code y bytes mx rt).before a s = true := by
  simp only [Bool.and_eq_true, beq_iff_eq, Bool.not_eq_true', decide_eq_true_eq] at h5
  obtain ⟨⟨⟨⟨⟨g1, g2⟩, g3⟩, g4⟩, g5⟩, g6⟩ := h5
  simp [Cond.before, Cond.holds, Cond.value, h1, h2, h3, h4, g1, g2, g3, g4, g5, g6]
def isCode : Jvm.Cond → Bool
  | .code _ _ _ _ => true
  | _ => false
theorem all_split {L : List Jvm.Cond} {P : Jvm.Cond → Bool} (h1 : L.all (fun c => isCode c || P c) = true) (h2 : ∀ c ∈ L.filter isCode, P c = true) : L.all P = true := by
  refine List.all_eq_true.mpr fun c hc => ?_
  have h := List.all_eq_true.mp h1 c hc
  rcases Bool.eq_false_or_eq_true (isCode c) with hi | hi
  · exact h2 c (List.mem_filter.mpr ⟨hc, hi⟩)
  · simpa [hi] using h
set_option maxRecDepth 65536 in
theorem w_c0 : (Jvm.Cond.code x code maxLocals ret).before args0 about1 = true := code_word (m := ⟨1, 1⟩) (meth := k1m1) (c := k1c1) (by decide +kernel) rfl rfl rfl (by decide +kernel)
set_option maxRecDepth 65536 in
theorem w_c1 : (Jvm.Cond.code ({ cls := "com/example/glacial_workflow/glacialworkflow/core/StepState", name := "hasEnded", desc := "()Z" } : Jvm.MethodName) prog_26_method_4_code (1 : Nat) (Option.some Jvm.ClassFile.FieldType.boolean)).before args0 about1 = true := code_word (m := ⟨7, 0⟩) (meth := k7m0) (c := k7c0) (by decide +kernel) rfl rfl rfl (by decide +kernel)
set_option maxRecDepth 65536 in
theorem w_c2 : (Jvm.Cond.code ({ cls := "com/example/glacial_workflow/glacialworkflow/core/StepState", name := "canBecome", desc := "(Lcom/example/glacial_workflow/glacialworkflow/core/StepState;)Z" } : Jvm.MethodName) prog_26_method_5_code (2 : Nat) (Option.some Jvm.ClassFile.FieldType.boolean)).before args0 about1 = true := code_word (m := ⟨7, 1⟩) (meth := k7m1) (c := k7c1) (by decide +kernel) rfl rfl rfl (by decide +kernel)
set_option maxRecDepth 65536 in
theorem w_c3 : (Jvm.Cond.code ({ cls := "java/lang/Enum", name := "ordinal", desc := "()I" } : Jvm.MethodName) jdk_37_method_2_code (1 : Nat) (Option.some Jvm.ClassFile.FieldType.int)).before args0 about1 = true := code_word (m := ⟨5, 0⟩) (meth := k5m0) (c := k5c0) (by decide +kernel) rfl rfl rfl (by decide +kernel)
def codes1 : List Jvm.Cond := [Jvm.Cond.code x code maxLocals ret, Jvm.Cond.code ({ cls := "com/example/glacial_workflow/glacialworkflow/core/StepState", name := "hasEnded", desc := "()Z" } : Jvm.MethodName) prog_26_method_4_code (1 : Nat) (Option.some Jvm.ClassFile.FieldType.boolean), Jvm.Cond.code ({ cls := "com/example/glacial_workflow/glacialworkflow/core/StepState", name := "canBecome", desc := "(Lcom/example/glacial_workflow/glacialworkflow/core/StepState;)Z" } : Jvm.MethodName) prog_26_method_5_code (2 : Nat) (Option.some Jvm.ClassFile.FieldType.boolean), Jvm.Cond.code ({ cls := "java/lang/Enum", name := "ordinal", desc := "()I" } : Jvm.MethodName) jdk_37_method_2_code (1 : Nat) (Option.some Jvm.ClassFile.FieldType.int)]
set_option maxRecDepth 65536 in
theorem codes_eq : words1.filter isCode = codes1 := rfl
theorem w_codes : ∀ c ∈ words1.filter isCode, c.before args0 about1 = true := by
  rw [codes_eq]
  intro c hc
  simp only [codes1, List.mem_cons, List.not_mem_nil, or_false] at hc
  rcases hc with rfl | rfl | rfl | rfl
  · exact w_c0
  · exact w_c1
  · exact w_c2
  · exact w_c3
set_option maxRecDepth 65536 in
theorem w_t1 : (words1.take 24).all (fun c => isCode c || c.before args0 about1) = true := by decide +kernel
set_option maxRecDepth 65536 in
theorem w_t2 : ((words1.drop 24).take 24).all (fun c => isCode c || c.before args0 about1) = true := by decide +kernel
set_option maxRecDepth 65536 in
theorem w_t3 : ((words1.drop 24).drop 24).all (fun c => isCode c || c.before args0 about1) = true := by decide +kernel
theorem w_tables : (allAtoms (Jvm.Cond.code x code maxLocals ret :: tables_1)).before args0 about1 = true := by
  rw [allAtoms_all]
  show words1.all (fun c => c.before args0 about1) = true
  refine all_split ?_ w_codes
  rw [← List.take_append_drop 24 words1, List.all_append, w_t1, ← List.take_append_drop 24 (words1.drop 24), List.all_append, w_t2, w_t3]
  rfl
set_option maxRecDepth 65536 in
theorem w_case : (Jvm.Cond.and given_1 narrow_1).before args0 about1 = true := by decide +kernel
theorem w_applies : (headSpec (Jvm.Cond.code x code maxLocals ret :: tables_1) room_1).applies x e0.platform about1 = true :=
  (Spec.applies_iff w_frames).mpr ⟨w_running, w_runnable, w_alone, w_named, w_hears, w_ripe, w_room, w_tables⟩
theorem atStart : AtStart classFile x code maxLocals ret World_1 tables_1 room_1 Calls_1 rest_1 Pre_1 launch0 p0 e0 about1 theMethod args0 below0 :=
  ⟨lists_1, trivial, launch0.admits_env _ _ _, launch0.least_env, fairChoices_fair.cas, fairChoices_fair.clock, w_frames, w_args, w_heap, w_applies, trivial, trivial, w_case⟩
end start1
theorem witness_1 : WitnessClaimed_1 := ⟨start1.p0, start1.e0, start1.about1, start1.theMethod, start1.args0, start1.below0, start1.atStart⟩
end Jvm.Pilot.@@N@@
