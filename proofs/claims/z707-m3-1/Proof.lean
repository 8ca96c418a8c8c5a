import JvmDerived
import JvmDerived.Pilot.@@N@@Statement
import JvmDerived.Pilot.@@N@@Code
set_option linter.unusedVariables false
set_option linter.unusedSimpArgs false
namespace Jvm.RoadKit
open Sem ClassFile Op Lib Jvm.Stand Jvm.Free Jvm.LawKit
section New
variable {p : Program} {l : Launch} {e : Env} {R : Room} {s : State} {m : MethodId} {args : Array Value} {below : List Frame} {meth : Method} {c : Code} {T : State} {locs : List Loc} {cells slots : Nat}
theorem retI (X : Stand p l e R s m args below meth c T locs cells slots) (hx : p.tables.exec = Jvm.exec) {pc : Nat} {Ls : Array Slot} {z : Int32} {rest : List Value} (hret : meth.sig.returnType = some .int) (hd : decode c.code pc = .ok (.ireturn, 1)) {fs : List Frame}
    (hl : ∀ (f : JFrame) (acts : List Action), f.method = m → f.locked = none → f.entered = [] → (doReturn e (T.setTop f) acts (some (.int z))).1 = T.setFrames fs) : Steps p.tables e below (T.setTop (mkF m pc Ls (.int z :: rest))) (T.setFrames fs) := by
  have hm' : T.vm.method? m = some meth := X.method'
  have hn : narrow .int (.int z) = .int z := rfl
  show Steps p.tables e below (T.setTop { method := m, pc := pc, locals := Ls, stack := _ :: rest, locked := none }) _
  jvm_step X.here [X.here.top, hx, hd, hm', hret, hn]
  first | (intro acts; rw [hl _ acts rfl rfl rfl]) | rw [hl _ _ rfl rfl rfl]
  exact Steps.refl _
end New
end Jvm.RoadKit
namespace Jvm.Pilot.@@N@@
open Jvm Jvm.ClassFile Sem Op Lib Jvm.Free Jvm.Stand Jvm.LawKit Jvm.RoadKit Bundle Jvm.Pilot.@@N@@.Jvm.D
theorem own_le {Z : State} {n0 : Nat} {h : Heap} (O : Old Z n0 h) : n0 ≤ h.size := O.1 ▸ O.2.1
theorem pn_com_example_riposte_riposte_txn_Notify : plainName "com/example/riposte/riposte/txn/Notify" = true := by first | (simp [plainName, overriddenIn]; done) | decide +kernel
theorem pn_com_example_riposte_riposte_txn_NotifyAsksForRetryPinLaw : plainName "com/example/riposte/riposte/txn/NotifyAsksForRetryPinLaw" = true := by first | (simp [plainName, overriddenIn]; done) | decide +kernel
theorem pn_java_lang_Record : plainName "java/lang/Record" = true := by first | (simp [plainName, overriddenIn]; done) | decide +kernel
theorem pd___V : parseMethodDescriptor "()V" = some ⟨[], none⟩ := by decide +kernel
theorem pd___Z : parseMethodDescriptor "()Z" = some ⟨[], some .boolean⟩ := by decide +kernel
theorem pd__Lcom_example_riposte_riposte_txn_Notify_Operation_JJIIII_V : parseMethodDescriptor "(Lcom/example/riposte/riposte/txn/Notify$Operation;JJIIII)V" = some ⟨[(.object "com/example/riposte/riposte/txn/Notify$Operation"), .long, .long, .int, .int, .int, .int], none⟩ := by decide +kernel
theorem d1_0 : decode prog_65_method_1_code 0 = .ok (.aload_n 0, 1) := by decide +kernel
theorem d1_1 : decode prog_65_method_1_code 1 = .ok (.invokespecial 1, 3) := by decide +kernel
theorem d1_4 : decode prog_65_method_1_code 4 = .ok (.aload_n 0, 1) := by decide +kernel
theorem d1_5 : decode prog_65_method_1_code 5 = .ok (.aload_n 1, 1) := by decide +kernel
theorem d1_6 : decode prog_65_method_1_code 6 = .ok (.putfield 7, 3) := by decide +kernel
theorem d1_9 : decode prog_65_method_1_code 9 = .ok (.aload_n 0, 1) := by decide +kernel
theorem d1_10 : decode prog_65_method_1_code 10 = .ok (.lload_n 2, 1) := by decide +kernel
theorem d1_11 : decode prog_65_method_1_code 11 = .ok (.putfield 13, 3) := by decide +kernel
theorem d1_14 : decode prog_65_method_1_code 14 = .ok (.aload_n 0, 1) := by decide +kernel
theorem d1_15 : decode prog_65_method_1_code 15 = .ok (.lload 4, 2) := by decide +kernel
theorem d1_17 : decode prog_65_method_1_code 17 = .ok (.putfield 17, 3) := by decide +kernel
theorem d1_20 : decode prog_65_method_1_code 20 = .ok (.aload_n 0, 1) := by decide +kernel
theorem d1_21 : decode prog_65_method_1_code 21 = .ok (.iload 6, 2) := by decide +kernel
theorem d1_23 : decode prog_65_method_1_code 23 = .ok (.putfield 20, 3) := by decide +kernel
theorem d1_26 : decode prog_65_method_1_code 26 = .ok (.aload_n 0, 1) := by decide +kernel
theorem d1_27 : decode prog_65_method_1_code 27 = .ok (.iload 7, 2) := by decide +kernel
theorem d1_29 : decode prog_65_method_1_code 29 = .ok (.putfield 24, 3) := by decide +kernel
theorem d1_32 : decode prog_65_method_1_code 32 = .ok (.aload_n 0, 1) := by decide +kernel
theorem d1_33 : decode prog_65_method_1_code 33 = .ok (.iload 8, 2) := by decide +kernel
theorem d1_35 : decode prog_65_method_1_code 35 = .ok (.putfield 27, 3) := by decide +kernel
theorem d1_38 : decode prog_65_method_1_code 38 = .ok (.aload_n 0, 1) := by decide +kernel
theorem d1_39 : decode prog_65_method_1_code 39 = .ok (.iload 9, 2) := by decide +kernel
theorem d1_41 : decode prog_65_method_1_code 41 = .ok (.putfield 30, 3) := by decide +kernel
theorem d1_44 : decode prog_65_method_1_code 44 = .ok (.return_, 1) := by decide +kernel
theorem d2_0 : decode jdk_30_method_1_code 0 = .ok (.aload_n 0, 1) := by decide +kernel
theorem d2_1 : decode jdk_30_method_1_code 1 = .ok (.invokespecial 1, 3) := by decide +kernel
theorem d2_4 : decode jdk_30_method_1_code 4 = .ok (.return_, 1) := by decide +kernel
theorem d4_0 : decode prog_65_method_6_code 0 = .ok (.aload_n 0, 1) := by decide +kernel
theorem d4_1 : decode prog_65_method_6_code 1 = .ok (.getfield 30, 3) := by decide +kernel
theorem d4_4 : decode prog_65_method_6_code 4 = .ok (.iconst 1, 1) := by decide +kernel
theorem d4_5 : decode prog_65_method_6_code 5 = .ok (.if_icmp .eq 11, 3) := by decide +kernel
theorem d4_8 : decode prog_65_method_6_code 8 = .ok (.aload_n 0, 1) := by decide +kernel
theorem d4_9 : decode prog_65_method_6_code 9 = .ok (.getfield 30, 3) := by decide +kernel
theorem d4_12 : decode prog_65_method_6_code 12 = .ok (.iconst 2, 1) := by decide +kernel
theorem d4_13 : decode prog_65_method_6_code 13 = .ok (.if_icmp .ne 7, 3) := by decide +kernel
theorem d4_16 : decode prog_65_method_6_code 16 = .ok (.iconst 1, 1) := by decide +kernel
theorem d4_17 : decode prog_65_method_6_code 17 = .ok (.goto 4, 3) := by decide +kernel
theorem d4_20 : decode prog_65_method_6_code 20 = .ok (.iconst 0, 1) := by decide +kernel
theorem d4_21 : decode prog_65_method_6_code 21 = .ok (.ireturn, 1) := by decide +kernel
section OwnWords
variable {args : Array Value} {s : State} {t u : Term} {a b : Addr} {C n d K : String}
theorem own_exa (h : (Jvm.Cond.exactly t K).value args s none s [] = some true) (ev : t.eval args s none [] s = some (.ref a)) : Exa s s.heap a K := Exa.start ev h
theorem own_fi {k : Int32} (ev : t.eval args s none [] s = some (.ref a)) (h : (Jvm.Cond.eq (.field t C n d) (.int k)).value args s none s [] = some true) : Fld s s.heap a C n d (.int k) := by
  refine Fld.start ?_
  have e := fld_at (C := C) (n := n) (dd := d) ev
  simp only [Cond.value, e] at h
  cases hv : s.fieldOf? a C n d with
  | none => simp [hv] at h
  | some z => cases z <;> simp [hv, Term.eval] at h ⊢; exact h
theorem own_fn (ev : t.eval args s none [] s = some (.ref a)) (h : (Jvm.Cond.eq (.field t C n d) .null).value args s none s [] = some true) : Fld s s.heap a C n d .null :=
  Fld.start ((fld_at ev).symm.trans (null_v h))
theorem own_fr (ev : t.eval args s none [] s = some (.ref a)) (ev' : u.eval args s none [] s = some (.ref b)) (h : (Jvm.Cond.eq (.field t C n d) u).value args s none s [] = some true) : Fld s s.heap a C n d (.ref b) := by
  refine Fld.start ?_
  have e := fld_at (C := C) (n := n) (dd := d) ev
  simp only [Cond.value, e, ev'] at h
  cases hv : s.fieldOf? a C n d with
  | none => simp [hv] at h
  | some z => cases z <;> simp [hv] at h ⊢; exact h
end OwnWords
def own_ask (k : Int32) : Int32 := if k = 1 then 1 else if k = 2 then 1 else 0
theorem own_ask_lt {k : Int32} (h : k < (1 : Int32)) : own_ask k = (0 : Int32) := by
  have h1 : ¬ k = 1 := fun e => by subst e; exact absurd h (by decide)
  have h2 : ¬ k = 2 := fun e => by subst e; exact absurd h (by decide)
  simp [own_ask, h1, h2]
theorem own_ask_gt {k : Int32} (h : (2 : Int32) < k) : own_ask k = (0 : Int32) := by
  have h1 : ¬ k = 1 := fun e => by subst e; exact absurd h (by decide)
  have h2 : ¬ k = 2 := fun e => by subst e; exact absurd h (by decide)
  simp [own_ask, h1, h2]
theorem own_ask_in {k : Int32} (h : ¬ k < (1 : Int32)) (h' : ¬ (2 : Int32) < k) : own_ask k = (1 : Int32) := by
  have q : k = 1 ∨ k = 2 := by
    rw [Int32.lt_iff_toInt_lt] at h h'
    have e1 : (1 : Int32).toInt = 1 := rfl
    have e2 : (2 : Int32).toInt = 2 := rfl
    have : k.toInt = 1 ∨ k.toInt = 2 := by omega
    exact this.imp (fun z => Int32.toInt_inj.mp (z.trans e1.symm)) (fun z => Int32.toInt_inj.mp (z.trans e2.symm))
  rcases q with rfl | rfl <;> decide
def own_ref (k : Int32) : Int32 := if k = 4 then 1 else if k = 8 then 1 else 0
theorem own_ref_no {k : Int32} (h : ¬ k = (4 : Int32)) (h' : ¬ k = (8 : Int32)) : own_ref k = (0 : Int32) := by simp [own_ref, h, h']
theorem own_ask_4 {k : Int32} (h : k = (4 : Int32)) : own_ask k = (0 : Int32) := by subst h; decide
theorem own_ask_8 {k : Int32} (h : k = (8 : Int32)) : own_ask k = (0 : Int32) := by subst h; decide
theorem own_ref_4 {k : Int32} (h : k = (4 : Int32)) : own_ref k = (1 : Int32) := by subst h; decide
theorem own_ref_8 {k : Int32} (h : k = (8 : Int32)) : own_ref k = (1 : Int32) := by subst h; decide
def own_pick (s c : Int32) : Int32 := if s = 1 then 4 else if s = 2 then 8 else if s = 3 then 3 else if s = 4 then 5 else if s = 5 then 7 else if s = 6 then 9 else if s = 7 then 12 else c
def OwnEnv (Z : State) (w_CLIENT w_SERVER : Addr) : Prop := Sta Z Z.heap "com/example/riposte/riposte/txn/Notify$Operation" "CLIENT" "Lcom/example/riposte/riposte/txn/Notify$Operation;" (.ref w_CLIENT) ∧ Exa Z Z.heap w_CLIENT "com/example/riposte/riposte/txn/Notify$Operation" ∧ Sta Z Z.heap "com/example/riposte/riposte/txn/Notify$Operation" "SERVER" "Lcom/example/riposte/riposte/txn/Notify$Operation;" (.ref w_SERVER) ∧ Exa Z Z.heap w_SERVER "com/example/riposte/riposte/txn/Notify$Operation"
theorem ef_recI (m : MethodId) (a1 : Addr) : entryFrame m #[(.ref a1)] 1 = mkF m 0 #[.val (.ref a1)] [] := by first | (simp [entryFrame, mkF, argsToLocals, Value.category]; done) | rfl
def Q_recI (Z : State) (a1 : Addr) (h0 : Heap) (n0 : Nat) (v : Option Value) (h : Heap) (L : List Loc) : Prop := v = none ∧ Fr n0 L ∧ h = h0
set_option maxRecDepth 65536 in
set_option maxHeartbeats 40000000 in
theorem recI (l : Launch) (Z : State) (a0 : Array Value) (hw : ∀ d ∈ tables_1, d.before a0 Z = true) (ws : List Jvm.Cond) (a1 : Addr) (h0 : Heap) (n0 : Nat) (O0 : Old Z n0 h0) :
    MetFree l (⟨"java/lang/Record", "<init>", "()V"⟩ : MethodName) (head1 (Jvm.Cond.code (⟨"java/lang/Record", "<init>", "()V"⟩ : MethodName) jdk_30_method_1_code 1 none :: ws) ({ frames := 1, cells := 0, slots := 0, locals := 12 } : Room)) (fun a U => a = #[(.ref a1)] ∧ Z.Warmed39 U.vm ∧ U.heap = h0) (fun _ _ _ _ _ => True) (fun _ U o U' => ∃ v L, o = .returned v ∧ Q_recI Z a1 h0 n0 v U'.heap L ∧ FrameEnd U o U' L ({ frames := 1, cells := 0, slots := 0, locals := 12 } : Room).cells ({ frames := 1, cells := 0, slots := 0, locals := 12 } : Room).slots) := by
  refine MetFree.of_bodySF (plainFor_of_name pn_java_lang_Record) hisR ?_
  intro p e s m args below meth c s₁ Bd hml0 hP hK
  obtain ⟨rfl, hZ, hh⟩ := hP
  have hx := Bd.exec
  have hby := Bd.bytes
  have hml : c.maxLocals = 1 := hml0
  have hown : s.vm.findClass "java/lang/Record" = some m.cls := findClass_of_methodNamed Bd.named
  have hnm := (name_of_methodNamed Bd.named Bd.method).1
  have X0 : Stand p l e ({ frames := 1, cells := 0, slots := 0, locals := 12 } : Room) s m #[(.ref a1)] below meth c s₁ [] 0 0 := Stand.of_body Bd
  have e0 : s₁.heap = h0 := by rw [← hh, Bd.state]; rfl
  have N0 := Fr.nil n0
  have pre0 : ∀ t, Steps p.tables e below (s₁.setTop (mkF m 0 #[.val (.ref a1)] [])) t → Steps p.tables e below (s₁.setTop (entryFrame m #[(.ref a1)] 1)) t := fun t k => castTop (ef_recI m a1) k
  obtain ⟨T1, X1, e1, st1⟩ := initO X0 hx hZ hown (hw _ (List.mem_of_getElem? (i := 14) rfl)) (hw _ (List.mem_of_getElem? (i := 15) rfl)) (hw _ (List.mem_of_getElem? (i := 16) rfl)) e0 (g := (mkF m 1 #[.val (.ref a1)] [(.ref a1)])) rfl (by rw [hml]; rfl) rfl (hb hby d2_1) (by decide) (W := 0) (by show 2 * 0 + _ ≤ _; exact Nat.le_of_eq rfl) (by decide)
  obtain ⟨fs, hr, hrun, hended, hW, hsame⟩ := X1.leave (v := none) (fun _ => rfl)
  refine ⟨_, _, pre0 _ ?_, hrun, hended, _, _, rfl, ?_, ⟨_, rfl⟩, hW, hsame.mono (by decide) (by decide)⟩
  · show Steps p.tables e below (s₁.setTop (mkF m 0 #[.val (.ref a1)] [])) _
    refine XS.aloadN X0.here hx rfl (hb hby d2_0) rfl rfl ?_
    show Steps p.tables e below (s₁.setTop (mkF m 1 #[.val (.ref a1)] [(.ref a1)])) _
    refine st1 _ ?_
    show Steps p.tables e below (T1.setTop (mkF m 4 #[.val (.ref a1)] [])) _
    exact X1.returnOut hx Bd.returns (hb hby d2_4) hr
  · show Q_recI Z a1 h0 n0 _ T1.heap _
    rw [e1]
    exact ⟨rfl, N0, rfl⟩
theorem ef_ntI (m : MethodId) (a1 : Addr) (a2 : Addr) (q1 : Int64) (q2 : Int64) (p1 : Int32) (p2 : Int32) (p3 : Int32) (p4 : Int32) : entryFrame m #[(.ref a1), (.ref a2), (.long q1), (.long q2), (.int p1), (.int p2), (.int p3), (.int p4)] 10 = mkF m 0 #[.val (.ref a1), .val (.ref a2), .val (.long q1), .second, .val (.long q2), .second, .val (.int p1), .val (.int p2), .val (.int p3), .val (.int p4)] [] := by first | (simp [entryFrame, mkF, argsToLocals, Value.category]; done) | rfl
def Q_ntI (Z : State) (a1 a2 : Addr) (q1 q2 : Int64) (p1 p2 p3 p4 : Int32) (h0 : Heap) (n0 : Nat) (v : Option Value) (h : Heap) (L : List Loc) : Prop := v = none ∧ Fr n0 L ∧ Keep h0 h [a1] ∧ Exa Z h a1 "com/example/riposte/riposte/txn/Notify" ∧ Fld Z h a1 "com/example/riposte/riposte/txn/Notify" "code" "I" (.int p4)
set_option maxRecDepth 65536 in
set_option maxHeartbeats 40000000 in
theorem ntI (l : Launch) (Z : State) (a0 : Array Value) (hw : ∀ d ∈ tables_1, d.before a0 Z = true) (ws : List Jvm.Cond) (a1 a2 : Addr) (q1 q2 : Int64) (p1 p2 p3 p4 : Int32) (h0 : Heap) (n0 : Nat) (O0 : Old Z n0 h0) (E1 : Exa Z h0 a1 "com/example/riposte/riposte/txn/Notify") (g1 : n0 ≤ a1) (F_operation : Fld Z h0 a1 "com/example/riposte/riposte/txn/Notify" "operation" "Lcom/example/riposte/riposte/txn/Notify$Operation;" .null) (F_client : Fld Z h0 a1 "com/example/riposte/riposte/txn/Notify" "client" "J" (.long (0 : Int64))) (F_server : Fld Z h0 a1 "com/example/riposte/riposte/txn/Notify" "server" "J" (.long (0 : Int64))) (F_transaction : Fld Z h0 a1 "com/example/riposte/riposte/txn/Notify" "transaction" "I" (.int (0 : Int32))) (F_control : Fld Z h0 a1 "com/example/riposte/riposte/txn/Notify" "control" "I" (.int (0 : Int32))) (F_delivery : Fld Z h0 a1 "com/example/riposte/riposte/txn/Notify" "delivery" "I" (.int (0 : Int32))) (F_code : Fld Z h0 a1 "com/example/riposte/riposte/txn/Notify" "code" "I" (.int (0 : Int32))) :
    MetFree l (⟨"com/example/riposte/riposte/txn/Notify", "<init>", "(Lcom/example/riposte/riposte/txn/Notify$Operation;JJIIII)V"⟩ : MethodName) (head1 (Jvm.Cond.code (⟨"com/example/riposte/riposte/txn/Notify", "<init>", "(Lcom/example/riposte/riposte/txn/Notify$Operation;JJIIII)V"⟩ : MethodName) prog_65_method_1_code 10 none :: ws) ({ frames := 2, cells := 0, slots := 0, locals := 24 } : Room)) (fun a U => a = #[(.ref a1), (.ref a2), (.long q1), (.long q2), (.int p1), (.int p2), (.int p3), (.int p4)] ∧ Z.Warmed39 U.vm ∧ U.heap = h0) (fun _ _ _ _ _ => True) (fun _ U o U' => ∃ v L, o = .returned v ∧ Q_ntI Z a1 a2 q1 q2 p1 p2 p3 p4 h0 n0 v U'.heap L ∧ FrameEnd U o U' L ({ frames := 2, cells := 0, slots := 0, locals := 24 } : Room).cells ({ frames := 2, cells := 0, slots := 0, locals := 24 } : Room).slots) := by
  refine MetFree.of_bodySF (plainFor_of_name pn_com_example_riposte_riposte_txn_Notify) hisR ?_
  intro p e s m args below meth c s₁ Bd hml0 hP hK
  obtain ⟨rfl, hZ, hh⟩ := hP
  have hx := Bd.exec
  have hby := Bd.bytes
  have hml : c.maxLocals = 10 := hml0
  have hown : s.vm.findClass "com/example/riposte/riposte/txn/Notify" = some m.cls := findClass_of_methodNamed Bd.named
  have hnm := (name_of_methodNamed Bd.named Bd.method).1
  have X0 : Stand p l e ({ frames := 2, cells := 0, slots := 0, locals := 24 } : Room) s m #[(.ref a1), (.ref a2), (.long q1), (.long q2), (.int p1), (.int p2), (.int p3), (.int p4)] below meth c s₁ [] 0 0 := Stand.of_body Bd
  have e0 : s₁.heap = h0 := by rw [← hh, Bd.state]; rfl
  have N0 := Fr.nil n0
  have pre0 : ∀ t, Steps p.tables e below (s₁.setTop (mkF m 0 #[.val (.ref a1), .val (.ref a2), .val (.long q1), .second, .val (.long q2), .second, .val (.int p1), .val (.int p2), .val (.int p3), .val (.int p4)] [])) t → Steps p.tables e below (s₁.setTop (entryFrame m #[(.ref a1), (.ref a2), (.long q1), (.long q2), (.int p1), (.int p2), (.int p3), (.int p4)] 10)) t := fun t k => castTop (ef_ntI m a1 a2 q1 q2 p1 p2 p3 p4) k
  obtain ⟨_, _, ⟨T1, L1, k1, n1⟩, -, X1, ⟨Lc1, hQ1, l1, y1, z1⟩, st1⟩ := X0.specialBack hx (y := (⟨"java/lang/Record", "<init>", "()V"⟩ : MethodName)) rfl hown (mvT hZ (hw _ (List.mem_of_getElem? (i := 9) rfl))) (mvT hZ (hw _ (List.mem_of_getElem? (i := 10) rfl))) (mvT hZ (hw _ (List.mem_of_getElem? (i := 13) rfl))) (by decide) (backOf (W := 0) (recI l Z a0 hw [] a1 h0 n0 O0) hZ (hw _ (List.mem_of_getElem? (i := 13) rfl)) (hw _ (List.mem_of_getElem? (i := 12) rfl)) (by decide) (by decide)) (g := (mkF m 1 #[.val (.ref a1), .val (.ref a2), .val (.long q1), .second, .val (.long q2), .second, .val (.int p1), .val (.int p2), .val (.int p3), .val (.int p4)] [(.ref a1)])) rfl (by rw [hml]; rfl) (Steps.refl _) (a := a1) (argsL := []) (rest := []) (lenOf pd___V rfl) rfl (by show 2 * 0 + _ ≤ _; exact Nat.le_of_eq rfl) (hb hby d1_1) (fun _ _ => ⟨rfl, e0, (by decide : 0 + 0 ≤ _), (by decide : 0 + 0 ≤ _)⟩)
  dsimp only [Pt.U, Pt.locs, Pt.cells, Pt.slots] at X1 l1 y1 z1 st1 hQ1
  subst l1 y1 z1
  obtain ⟨rfl, Nq1, eq1⟩ := hQ1
  have N1 := Fr.app N0 Nq1
  obtain ⟨T2, h2, X2, e2, W2, st2⟩ := putF X1 hx hZ hown (host := "") (Or.inl (hw _ (List.mem_of_getElem? (i := 17) rfl))) Via.refl eq1 F_operation E1 (Or.inr ⟨(hw _ (List.mem_of_getElem? (i := 18) rfl)), rfl, hnm⟩) (hw _ (List.mem_of_getElem? (i := 4) rfl)) (ty := (.object "com/example/riposte/riposte/txn/Notify$Operation")) (by decide) rfl rfl (g := (mkF m 6 #[.val (.ref a1), .val (.ref a2), .val (.long q1), .second, .val (.long q2), .second, .val (.int p1), .val (.int p2), .val (.int p3), .val (.int p4)] [(.ref a2), (.ref a1)])) rfl rfl (hb hby d1_6)
  have Fw2 := F_operation.same W2
  have O2 := O0.wr W2 g1
  have K2 : Keep h0 h2 [a1] := (Keep.refl h0 [a1]).wr W2 (Or.inl (List.mem_of_getElem? (i := 0) rfl))
  have N2 := Fr.snoc X2 N1 g1
  have f3 := (E1.wr W2)
  have f4 := (F_client.other W2 (Or.inr (slot_ne (Or.inr (hw _ (List.mem_of_getElem? (i := 20) rfl))) (Or.inr (hw _ (List.mem_of_getElem? (i := 18) rfl))) (by decide) (t := .long) (t' := (.object "com/example/riposte/riposte/txn/Notify$Operation")) (by decide) (by decide))))
  obtain ⟨T5, h5, X5, e5, W5, st5⟩ := putF X2 hx hZ hown (host := "") (Or.inl (hw _ (List.mem_of_getElem? (i := 19) rfl))) Via.refl e2 f4 f3 (Or.inr ⟨(hw _ (List.mem_of_getElem? (i := 20) rfl)), rfl, hnm⟩) (hw _ (List.mem_of_getElem? (i := 4) rfl)) (ty := .long) (by decide) rfl rfl (g := (mkF m 11 #[.val (.ref a1), .val (.ref a2), .val (.long q1), .second, .val (.long q2), .second, .val (.int p1), .val (.int p2), .val (.int p3), .val (.int p4)] [(.long q1), (.ref a1)])) rfl rfl (hb hby d1_11)
  have Fw5 := f4.same W5
  have O5 := O2.wr W5 g1
  have K5 : Keep h0 h5 [a1] := K2.wr W5 (Or.inl (List.mem_of_getElem? (i := 0) rfl))
  have N5 := Fr.snoc X5 N2 g1
  have f6 := (f3.wr W5)
  have f7 := ((F_server.other W2 (Or.inr (slot_ne (Or.inr (hw _ (List.mem_of_getElem? (i := 22) rfl))) (Or.inr (hw _ (List.mem_of_getElem? (i := 18) rfl))) (by decide) (t := .long) (t' := (.object "com/example/riposte/riposte/txn/Notify$Operation")) (by decide) (by decide)))).other W5 (Or.inr (slot_ne (Or.inr (hw _ (List.mem_of_getElem? (i := 22) rfl))) (Or.inr (hw _ (List.mem_of_getElem? (i := 20) rfl))) (by decide) (t := .long) (t' := .long) (by decide) (by decide))))
  obtain ⟨T8, h8, X8, e8, W8, st8⟩ := putF X5 hx hZ hown (host := "") (Or.inl (hw _ (List.mem_of_getElem? (i := 21) rfl))) Via.refl e5 f7 f6 (Or.inr ⟨(hw _ (List.mem_of_getElem? (i := 22) rfl)), rfl, hnm⟩) (hw _ (List.mem_of_getElem? (i := 4) rfl)) (ty := .long) (by decide) rfl rfl (g := (mkF m 17 #[.val (.ref a1), .val (.ref a2), .val (.long q1), .second, .val (.long q2), .second, .val (.int p1), .val (.int p2), .val (.int p3), .val (.int p4)] [(.long q2), (.ref a1)])) rfl rfl (hb hby d1_17)
  have Fw8 := f7.same W8
  have O8 := O5.wr W8 g1
  have K8 : Keep h0 h8 [a1] := K5.wr W8 (Or.inl (List.mem_of_getElem? (i := 0) rfl))
  have N8 := Fr.snoc X8 N5 g1
  have f9 := (f6.wr W8)
  have f10 := (((F_transaction.other W2 (Or.inr (slot_ne (Or.inr (hw _ (List.mem_of_getElem? (i := 24) rfl))) (Or.inr (hw _ (List.mem_of_getElem? (i := 18) rfl))) (by decide) (t := .int) (t' := (.object "com/example/riposte/riposte/txn/Notify$Operation")) (by decide) (by decide)))).other W5 (Or.inr (slot_ne (Or.inr (hw _ (List.mem_of_getElem? (i := 24) rfl))) (Or.inr (hw _ (List.mem_of_getElem? (i := 20) rfl))) (by decide) (t := .int) (t' := .long) (by decide) (by decide)))).other W8 (Or.inr (slot_ne (Or.inr (hw _ (List.mem_of_getElem? (i := 24) rfl))) (Or.inr (hw _ (List.mem_of_getElem? (i := 22) rfl))) (by decide) (t := .int) (t' := .long) (by decide) (by decide))))
  obtain ⟨T11, h11, X11, e11, W11, st11⟩ := putF X8 hx hZ hown (host := "") (Or.inl (hw _ (List.mem_of_getElem? (i := 23) rfl))) Via.refl e8 f10 f9 (Or.inr ⟨(hw _ (List.mem_of_getElem? (i := 24) rfl)), rfl, hnm⟩) (hw _ (List.mem_of_getElem? (i := 4) rfl)) (ty := .int) (by decide) rfl rfl (g := (mkF m 23 #[.val (.ref a1), .val (.ref a2), .val (.long q1), .second, .val (.long q2), .second, .val (.int p1), .val (.int p2), .val (.int p3), .val (.int p4)] [(.int p1), (.ref a1)])) rfl rfl (hb hby d1_23)
  have Fw11 := f10.same W11
  have O11 := O8.wr W11 g1
  have K11 : Keep h0 h11 [a1] := K8.wr W11 (Or.inl (List.mem_of_getElem? (i := 0) rfl))
  have N11 := Fr.snoc X11 N8 g1
  have f12 := (f9.wr W11)
  have f13 := ((((F_control.other W2 (Or.inr (slot_ne (Or.inr (hw _ (List.mem_of_getElem? (i := 26) rfl))) (Or.inr (hw _ (List.mem_of_getElem? (i := 18) rfl))) (by decide) (t := .int) (t' := (.object "com/example/riposte/riposte/txn/Notify$Operation")) (by decide) (by decide)))).other W5 (Or.inr (slot_ne (Or.inr (hw _ (List.mem_of_getElem? (i := 26) rfl))) (Or.inr (hw _ (List.mem_of_getElem? (i := 20) rfl))) (by decide) (t := .int) (t' := .long) (by decide) (by decide)))).other W8 (Or.inr (slot_ne (Or.inr (hw _ (List.mem_of_getElem? (i := 26) rfl))) (Or.inr (hw _ (List.mem_of_getElem? (i := 22) rfl))) (by decide) (t := .int) (t' := .long) (by decide) (by decide)))).other W11 (Or.inr (slot_ne (Or.inr (hw _ (List.mem_of_getElem? (i := 26) rfl))) (Or.inr (hw _ (List.mem_of_getElem? (i := 24) rfl))) (by decide) (t := .int) (t' := .int) (by decide) (by decide))))
  obtain ⟨T14, h14, X14, e14, W14, st14⟩ := putF X11 hx hZ hown (host := "") (Or.inl (hw _ (List.mem_of_getElem? (i := 25) rfl))) Via.refl e11 f13 f12 (Or.inr ⟨(hw _ (List.mem_of_getElem? (i := 26) rfl)), rfl, hnm⟩) (hw _ (List.mem_of_getElem? (i := 4) rfl)) (ty := .int) (by decide) rfl rfl (g := (mkF m 29 #[.val (.ref a1), .val (.ref a2), .val (.long q1), .second, .val (.long q2), .second, .val (.int p1), .val (.int p2), .val (.int p3), .val (.int p4)] [(.int p2), (.ref a1)])) rfl rfl (hb hby d1_29)
  have Fw14 := f13.same W14
  have O14 := O11.wr W14 g1
  have K14 : Keep h0 h14 [a1] := K11.wr W14 (Or.inl (List.mem_of_getElem? (i := 0) rfl))
  have N14 := Fr.snoc X14 N11 g1
  have f15 := (f12.wr W14)
  have f16 := (((((F_delivery.other W2 (Or.inr (slot_ne (Or.inr (hw _ (List.mem_of_getElem? (i := 28) rfl))) (Or.inr (hw _ (List.mem_of_getElem? (i := 18) rfl))) (by decide) (t := .int) (t' := (.object "com/example/riposte/riposte/txn/Notify$Operation")) (by decide) (by decide)))).other W5 (Or.inr (slot_ne (Or.inr (hw _ (List.mem_of_getElem? (i := 28) rfl))) (Or.inr (hw _ (List.mem_of_getElem? (i := 20) rfl))) (by decide) (t := .int) (t' := .long) (by decide) (by decide)))).other W8 (Or.inr (slot_ne (Or.inr (hw _ (List.mem_of_getElem? (i := 28) rfl))) (Or.inr (hw _ (List.mem_of_getElem? (i := 22) rfl))) (by decide) (t := .int) (t' := .long) (by decide) (by decide)))).other W11 (Or.inr (slot_ne (Or.inr (hw _ (List.mem_of_getElem? (i := 28) rfl))) (Or.inr (hw _ (List.mem_of_getElem? (i := 24) rfl))) (by decide) (t := .int) (t' := .int) (by decide) (by decide)))).other W14 (Or.inr (slot_ne (Or.inr (hw _ (List.mem_of_getElem? (i := 28) rfl))) (Or.inr (hw _ (List.mem_of_getElem? (i := 26) rfl))) (by decide) (t := .int) (t' := .int) (by decide) (by decide))))
  obtain ⟨T17, h17, X17, e17, W17, st17⟩ := putF X14 hx hZ hown (host := "") (Or.inl (hw _ (List.mem_of_getElem? (i := 27) rfl))) Via.refl e14 f16 f15 (Or.inr ⟨(hw _ (List.mem_of_getElem? (i := 28) rfl)), rfl, hnm⟩) (hw _ (List.mem_of_getElem? (i := 4) rfl)) (ty := .int) (by decide) rfl rfl (g := (mkF m 35 #[.val (.ref a1), .val (.ref a2), .val (.long q1), .second, .val (.long q2), .second, .val (.int p1), .val (.int p2), .val (.int p3), .val (.int p4)] [(.int p3), (.ref a1)])) rfl rfl (hb hby d1_35)
  have Fw17 := f16.same W17
  have O17 := O14.wr W17 g1
  have K17 : Keep h0 h17 [a1] := K14.wr W17 (Or.inl (List.mem_of_getElem? (i := 0) rfl))
  have N17 := Fr.snoc X17 N14 g1
  have f18 := (f15.wr W17)
  have f19 := ((((((F_code.other W2 (Or.inr (slot_ne (Or.inr (hw _ (List.mem_of_getElem? (i := 30) rfl))) (Or.inr (hw _ (List.mem_of_getElem? (i := 18) rfl))) (by decide) (t := .int) (t' := (.object "com/example/riposte/riposte/txn/Notify$Operation")) (by decide) (by decide)))).other W5 (Or.inr (slot_ne (Or.inr (hw _ (List.mem_of_getElem? (i := 30) rfl))) (Or.inr (hw _ (List.mem_of_getElem? (i := 20) rfl))) (by decide) (t := .int) (t' := .long) (by decide) (by decide)))).other W8 (Or.inr (slot_ne (Or.inr (hw _ (List.mem_of_getElem? (i := 30) rfl))) (Or.inr (hw _ (List.mem_of_getElem? (i := 22) rfl))) (by decide) (t := .int) (t' := .long) (by decide) (by decide)))).other W11 (Or.inr (slot_ne (Or.inr (hw _ (List.mem_of_getElem? (i := 30) rfl))) (Or.inr (hw _ (List.mem_of_getElem? (i := 24) rfl))) (by decide) (t := .int) (t' := .int) (by decide) (by decide)))).other W14 (Or.inr (slot_ne (Or.inr (hw _ (List.mem_of_getElem? (i := 30) rfl))) (Or.inr (hw _ (List.mem_of_getElem? (i := 26) rfl))) (by decide) (t := .int) (t' := .int) (by decide) (by decide)))).other W17 (Or.inr (slot_ne (Or.inr (hw _ (List.mem_of_getElem? (i := 30) rfl))) (Or.inr (hw _ (List.mem_of_getElem? (i := 28) rfl))) (by decide) (t := .int) (t' := .int) (by decide) (by decide))))
  obtain ⟨T20, h20, X20, e20, W20, st20⟩ := putF X17 hx hZ hown (host := "") (Or.inl (hw _ (List.mem_of_getElem? (i := 29) rfl))) Via.refl e17 f19 f18 (Or.inr ⟨(hw _ (List.mem_of_getElem? (i := 30) rfl)), rfl, hnm⟩) (hw _ (List.mem_of_getElem? (i := 4) rfl)) (ty := .int) (by decide) rfl rfl (g := (mkF m 41 #[.val (.ref a1), .val (.ref a2), .val (.long q1), .second, .val (.long q2), .second, .val (.int p1), .val (.int p2), .val (.int p3), .val (.int p4)] [(.int p4), (.ref a1)])) rfl rfl (hb hby d1_41)
  have Fw20 := f19.same W20
  have O20 := O17.wr W20 g1
  have K20 : Keep h0 h20 [a1] := K17.wr W20 (Or.inl (List.mem_of_getElem? (i := 0) rfl))
  have N20 := Fr.snoc X20 N17 g1
  have f21 := (f18.wr W20)
  obtain ⟨fs, hr, hrun, hended, hW, hsame⟩ := X20.leave (v := none) (fun _ => rfl)
  refine ⟨_, _, pre0 _ ?_, hrun, hended, _, _, rfl, ?_, ⟨_, rfl⟩, hW, hsame.mono (by decide) (by decide)⟩
  · show Steps p.tables e below (s₁.setTop (mkF m 0 #[.val (.ref a1), .val (.ref a2), .val (.long q1), .second, .val (.long q2), .second, .val (.int p1), .val (.int p2), .val (.int p3), .val (.int p4)] [])) _
    refine XS.aloadN X0.here hx rfl (hb hby d1_0) rfl rfl ?_
    show Steps p.tables e below (s₁.setTop (mkF m 1 #[.val (.ref a1), .val (.ref a2), .val (.long q1), .second, .val (.long q2), .second, .val (.int p1), .val (.int p2), .val (.int p3), .val (.int p4)] [(.ref a1)])) _
    refine st1.trans ?_
    show Steps p.tables e below (T1.setTop (mkF m 4 #[.val (.ref a1), .val (.ref a2), .val (.long q1), .second, .val (.long q2), .second, .val (.int p1), .val (.int p2), .val (.int p3), .val (.int p4)] [])) _
    refine XS.aloadN X1.here hx rfl (hb hby d1_4) rfl rfl ?_
    show Steps p.tables e below (T1.setTop (mkF m 5 #[.val (.ref a1), .val (.ref a2), .val (.long q1), .second, .val (.long q2), .second, .val (.int p1), .val (.int p2), .val (.int p3), .val (.int p4)] [(.ref a1)])) _
    refine XS.aloadN X1.here hx rfl (hb hby d1_5) rfl rfl ?_
    show Steps p.tables e below (T1.setTop (mkF m 6 #[.val (.ref a1), .val (.ref a2), .val (.long q1), .second, .val (.long q2), .second, .val (.int p1), .val (.int p2), .val (.int p3), .val (.int p4)] [(.ref a2), (.ref a1)])) _
    refine st2 _ ?_
    show Steps p.tables e below (T2.setTop (mkF m 9 #[.val (.ref a1), .val (.ref a2), .val (.long q1), .second, .val (.long q2), .second, .val (.int p1), .val (.int p2), .val (.int p3), .val (.int p4)] [])) _
    refine XS.aloadN X2.here hx rfl (hb hby d1_9) rfl rfl ?_
    show Steps p.tables e below (T2.setTop (mkF m 10 #[.val (.ref a1), .val (.ref a2), .val (.long q1), .second, .val (.long q2), .second, .val (.int p1), .val (.int p2), .val (.int p3), .val (.int p4)] [(.ref a1)])) _
    refine XS.lloadN X2.here hx rfl (hb hby d1_10) rfl ?_
    show Steps p.tables e below (T2.setTop (mkF m 11 #[.val (.ref a1), .val (.ref a2), .val (.long q1), .second, .val (.long q2), .second, .val (.int p1), .val (.int p2), .val (.int p3), .val (.int p4)] [(.long q1), (.ref a1)])) _
    refine st5 _ ?_
    show Steps p.tables e below (T5.setTop (mkF m 14 #[.val (.ref a1), .val (.ref a2), .val (.long q1), .second, .val (.long q2), .second, .val (.int p1), .val (.int p2), .val (.int p3), .val (.int p4)] [])) _
    refine XS.aloadN X5.here hx rfl (hb hby d1_14) rfl rfl ?_
    show Steps p.tables e below (T5.setTop (mkF m 15 #[.val (.ref a1), .val (.ref a2), .val (.long q1), .second, .val (.long q2), .second, .val (.int p1), .val (.int p2), .val (.int p3), .val (.int p4)] [(.ref a1)])) _
    refine XS.lload X5.here hx rfl (hb hby d1_15) rfl ?_
    show Steps p.tables e below (T5.setTop (mkF m 17 #[.val (.ref a1), .val (.ref a2), .val (.long q1), .second, .val (.long q2), .second, .val (.int p1), .val (.int p2), .val (.int p3), .val (.int p4)] [(.long q2), (.ref a1)])) _
    refine st8 _ ?_
    show Steps p.tables e below (T8.setTop (mkF m 20 #[.val (.ref a1), .val (.ref a2), .val (.long q1), .second, .val (.long q2), .second, .val (.int p1), .val (.int p2), .val (.int p3), .val (.int p4)] [])) _
    refine XS.aloadN X8.here hx rfl (hb hby d1_20) rfl rfl ?_
    show Steps p.tables e below (T8.setTop (mkF m 21 #[.val (.ref a1), .val (.ref a2), .val (.long q1), .second, .val (.long q2), .second, .val (.int p1), .val (.int p2), .val (.int p3), .val (.int p4)] [(.ref a1)])) _
    refine XS.iload X8.here hx rfl (hb hby d1_21) rfl ?_
    show Steps p.tables e below (T8.setTop (mkF m 23 #[.val (.ref a1), .val (.ref a2), .val (.long q1), .second, .val (.long q2), .second, .val (.int p1), .val (.int p2), .val (.int p3), .val (.int p4)] [(.int p1), (.ref a1)])) _
    refine st11 _ ?_
    show Steps p.tables e below (T11.setTop (mkF m 26 #[.val (.ref a1), .val (.ref a2), .val (.long q1), .second, .val (.long q2), .second, .val (.int p1), .val (.int p2), .val (.int p3), .val (.int p4)] [])) _
    refine XS.aloadN X11.here hx rfl (hb hby d1_26) rfl rfl ?_
    show Steps p.tables e below (T11.setTop (mkF m 27 #[.val (.ref a1), .val (.ref a2), .val (.long q1), .second, .val (.long q2), .second, .val (.int p1), .val (.int p2), .val (.int p3), .val (.int p4)] [(.ref a1)])) _
    refine XS.iload X11.here hx rfl (hb hby d1_27) rfl ?_
    show Steps p.tables e below (T11.setTop (mkF m 29 #[.val (.ref a1), .val (.ref a2), .val (.long q1), .second, .val (.long q2), .second, .val (.int p1), .val (.int p2), .val (.int p3), .val (.int p4)] [(.int p2), (.ref a1)])) _
    refine st14 _ ?_
    show Steps p.tables e below (T14.setTop (mkF m 32 #[.val (.ref a1), .val (.ref a2), .val (.long q1), .second, .val (.long q2), .second, .val (.int p1), .val (.int p2), .val (.int p3), .val (.int p4)] [])) _
    refine XS.aloadN X14.here hx rfl (hb hby d1_32) rfl rfl ?_
    show Steps p.tables e below (T14.setTop (mkF m 33 #[.val (.ref a1), .val (.ref a2), .val (.long q1), .second, .val (.long q2), .second, .val (.int p1), .val (.int p2), .val (.int p3), .val (.int p4)] [(.ref a1)])) _
    refine XS.iload X14.here hx rfl (hb hby d1_33) rfl ?_
    show Steps p.tables e below (T14.setTop (mkF m 35 #[.val (.ref a1), .val (.ref a2), .val (.long q1), .second, .val (.long q2), .second, .val (.int p1), .val (.int p2), .val (.int p3), .val (.int p4)] [(.int p3), (.ref a1)])) _
    refine st17 _ ?_
    show Steps p.tables e below (T17.setTop (mkF m 38 #[.val (.ref a1), .val (.ref a2), .val (.long q1), .second, .val (.long q2), .second, .val (.int p1), .val (.int p2), .val (.int p3), .val (.int p4)] [])) _
    refine XS.aloadN X17.here hx rfl (hb hby d1_38) rfl rfl ?_
    show Steps p.tables e below (T17.setTop (mkF m 39 #[.val (.ref a1), .val (.ref a2), .val (.long q1), .second, .val (.long q2), .second, .val (.int p1), .val (.int p2), .val (.int p3), .val (.int p4)] [(.ref a1)])) _
    refine XS.iload X17.here hx rfl (hb hby d1_39) rfl ?_
    show Steps p.tables e below (T17.setTop (mkF m 41 #[.val (.ref a1), .val (.ref a2), .val (.long q1), .second, .val (.long q2), .second, .val (.int p1), .val (.int p2), .val (.int p3), .val (.int p4)] [(.int p4), (.ref a1)])) _
    refine st20 _ ?_
    show Steps p.tables e below (T20.setTop (mkF m 44 #[.val (.ref a1), .val (.ref a2), .val (.long q1), .second, .val (.long q2), .second, .val (.int p1), .val (.int p2), .val (.int p3), .val (.int p4)] [])) _
    exact X20.returnOut hx Bd.returns (hb hby d1_44) hr
  · show Q_ntI Z a1 a2 q1 q2 p1 p2 p3 p4 h0 n0 _ T20.heap _
    rw [e20]
    exact ⟨rfl, N20, K20, f21, Fw20⟩
theorem ef_asksForRetry (m : MethodId) (a1 : Addr) : entryFrame m #[(.ref a1)] 1 = mkF m 0 #[.val (.ref a1)] [] := by first | (simp [entryFrame, mkF, argsToLocals, Value.category]; done) | rfl
def Q_asksForRetry (Z : State) (a1 : Addr) (k1 : Int32) (h0 : Heap) (n0 : Nat) (v : Option Value) (h : Heap) (L : List Loc) : Prop := v = some (.int (own_ask k1)) ∧ Fr n0 L ∧ h = h0
set_option maxRecDepth 65536 in
set_option maxHeartbeats 40000000 in
theorem asksForRetry (l : Launch) (Z : State) (a0 : Array Value) (hw : ∀ d ∈ tables_1, d.before a0 Z = true) (ws : List Jvm.Cond) (a1 : Addr) (k1 : Int32) (h0 : Heap) (n0 : Nat) (O0 : Old Z n0 h0) (F1 : Fld Z h0 a1 "com/example/riposte/riposte/txn/Notify" "code" "I" (.int k1)) :
    MetFree l (⟨"com/example/riposte/riposte/txn/Notify", "asksForRetry", "()Z"⟩ : MethodName) (head1 (Jvm.Cond.code (⟨"com/example/riposte/riposte/txn/Notify", "asksForRetry", "()Z"⟩ : MethodName) prog_65_method_6_code 1 (some .boolean) :: ws) ({ frames := 0, cells := 0, slots := 0, locals := 0 } : Room)) (fun a U => a = #[(.ref a1)] ∧ Z.Warmed39 U.vm ∧ U.heap = h0) (fun _ _ _ _ _ => True) (fun _ U o U' => ∃ v L, o = .returned v ∧ Q_asksForRetry Z a1 k1 h0 n0 v U'.heap L ∧ FrameEnd U o U' L ({ frames := 0, cells := 0, slots := 0, locals := 0 } : Room).cells ({ frames := 0, cells := 0, slots := 0, locals := 0 } : Room).slots) := by
  refine MetFree.of_bodySF (plainFor_of_name pn_com_example_riposte_riposte_txn_Notify) hisR ?_
  intro p e s m args below meth c s₁ Bd hml0 hP hK
  obtain ⟨rfl, hZ, hh⟩ := hP
  have hx := Bd.exec
  have hby := Bd.bytes
  have hml : c.maxLocals = 1 := hml0
  have hown : s.vm.findClass "com/example/riposte/riposte/txn/Notify" = some m.cls := findClass_of_methodNamed Bd.named
  have hnm := (name_of_methodNamed Bd.named Bd.method).1
  have X0 : Stand p l e ({ frames := 0, cells := 0, slots := 0, locals := 0 } : Room) s m #[(.ref a1)] below meth c s₁ [] 0 0 := Stand.of_body Bd
  have e0 : s₁.heap = h0 := by rw [← hh, Bd.state]; rfl
  have N0 := Fr.nil n0
  have pre0 : ∀ t, Steps p.tables e below (s₁.setTop (mkF m 0 #[.val (.ref a1)] [])) t → Steps p.tables e below (s₁.setTop (entryFrame m #[(.ref a1)] 1)) t := fun t k => castTop (ef_asksForRetry m a1) k
  obtain ⟨T1, X1, e1, st1⟩ := getF X0 hx hZ hown (host := "") (Or.inl (hw _ (List.mem_of_getElem? (i := 29) rfl))) Via.refl e0 F1 (g := (mkF m 1 #[.val (.ref a1)] [(.ref a1)])) rfl rfl (hb hby d4_1)
  have pre2 : ∀ t, Steps p.tables e below (T1.setTop (mkF m 5 #[.val (.ref a1)] [(.int (1 : Int32)), (.int k1)])) t → Steps p.tables e below (s₁.setTop (entryFrame m #[(.ref a1)] 1)) t := by
    intro t kt
    refine pre0 _ ?_
    show Steps p.tables e below (s₁.setTop (mkF m 0 #[.val (.ref a1)] [])) _
    refine XS.aloadN X0.here hx rfl (hb hby d4_0) rfl rfl ?_
    show Steps p.tables e below (s₁.setTop (mkF m 1 #[.val (.ref a1)] [(.ref a1)])) _
    refine st1 _ ?_
    show Steps p.tables e below (T1.setTop (mkF m 4 #[.val (.ref a1)] [(.int k1)])) _
    refine XS.iconst X1.here hx rfl (hb hby d4_4) ?_
    exact kt
  by_cases hc5_2 : k1 = (1 : Int32)
  · obtain ⟨fs, hr, hrun, hended, hW, hsame⟩ := X1.leave (v := some (.int (1 : Int32))) (fun h => by rw [Bd.returns] at h; cases h)
    refine ⟨_, _, pre2 _ ?_, hrun, hended, _, _, rfl, ?_, ⟨_, rfl⟩, hW, hsame.mono (by decide) (by decide)⟩
    · show Steps p.tables e below (T1.setTop (mkF m 5 #[.val (.ref a1)] [(.int (1 : Int32)), (.int k1)])) _
      refine XS.icmpYes X1.here hx rfl (pc0 := 5) (pc' := 16) rfl (hb hby d4_5) rfl (teq hc5_2).1 (by decide) (by decide) ?_
      show Steps p.tables e below (T1.setTop (mkF m 16 #[.val (.ref a1)] [])) _
      refine XS.iconst X1.here hx rfl (hb hby d4_16) ?_
      show Steps p.tables e below (T1.setTop (mkF m 17 #[.val (.ref a1)] [(.int (1 : Int32))])) _
      refine XS.goto X1.here hx rfl (pc0 := 17) (pc' := 21) rfl (hb hby d4_17) (by decide) (by decide) ?_
      show Steps p.tables e below (T1.setTop (mkF m 21 #[.val (.ref a1)] [(.int (1 : Int32))])) _
      exact retN X1 hx (t := .boolean) Bd.returns (by simp) (hb hby d4_21) hr
    · show Q_asksForRetry Z a1 k1 h0 n0 _ T1.heap _
      rw [e1]
      exact ⟨by simp [own_ask, hc5_2], N0, rfl⟩
  · obtain ⟨T3, X3, e3, st3⟩ := getF X1 hx hZ hown (host := "") (Or.inl (hw _ (List.mem_of_getElem? (i := 29) rfl))) Via.refl e1 F1 (g := (mkF m 9 #[.val (.ref a1)] [(.ref a1)])) rfl rfl (hb hby d4_9)
    have pre4 : ∀ t, Steps p.tables e below (T3.setTop (mkF m 13 #[.val (.ref a1)] [(.int (2 : Int32)), (.int k1)])) t → Steps p.tables e below (s₁.setTop (entryFrame m #[(.ref a1)] 1)) t := by
      intro t kt
      refine pre2 _ ?_
      show Steps p.tables e below (T1.setTop (mkF m 5 #[.val (.ref a1)] [(.int (1 : Int32)), (.int k1)])) _
      refine XS.icmpNo X1.here hx rfl (hb hby d4_5) rfl (feq hc5_2).1 ?_
      show Steps p.tables e below (T1.setTop (mkF m 8 #[.val (.ref a1)] [])) _
      refine XS.aloadN X1.here hx rfl (hb hby d4_8) rfl rfl ?_
      show Steps p.tables e below (T1.setTop (mkF m 9 #[.val (.ref a1)] [(.ref a1)])) _
      refine st3 _ ?_
      show Steps p.tables e below (T3.setTop (mkF m 12 #[.val (.ref a1)] [(.int k1)])) _
      refine XS.iconst X3.here hx rfl (hb hby d4_12) ?_
      exact kt
    by_cases hc13_4 : k1 = (2 : Int32)
    · obtain ⟨fs, hr, hrun, hended, hW, hsame⟩ := X3.leave (v := some (.int (1 : Int32))) (fun h => by rw [Bd.returns] at h; cases h)
      refine ⟨_, _, pre4 _ ?_, hrun, hended, _, _, rfl, ?_, ⟨_, rfl⟩, hW, hsame.mono (by decide) (by decide)⟩
      · show Steps p.tables e below (T3.setTop (mkF m 13 #[.val (.ref a1)] [(.int (2 : Int32)), (.int k1)])) _
        refine XS.icmpNo X3.here hx rfl (hb hby d4_13) rfl (teq hc13_4).2 ?_
        show Steps p.tables e below (T3.setTop (mkF m 16 #[.val (.ref a1)] [])) _
        refine XS.iconst X3.here hx rfl (hb hby d4_16) ?_
        show Steps p.tables e below (T3.setTop (mkF m 17 #[.val (.ref a1)] [(.int (1 : Int32))])) _
        refine XS.goto X3.here hx rfl (pc0 := 17) (pc' := 21) rfl (hb hby d4_17) (by decide) (by decide) ?_
        show Steps p.tables e below (T3.setTop (mkF m 21 #[.val (.ref a1)] [(.int (1 : Int32))])) _
        exact retN X3 hx (t := .boolean) Bd.returns (by simp) (hb hby d4_21) hr
      · show Q_asksForRetry Z a1 k1 h0 n0 _ T3.heap _
        rw [e3]
        exact ⟨by simp [own_ask, hc5_2, hc13_4], N0, rfl⟩
    · obtain ⟨fs, hr, hrun, hended, hW, hsame⟩ := X3.leave (v := some (.int (0 : Int32))) (fun h => by rw [Bd.returns] at h; cases h)
      refine ⟨_, _, pre4 _ ?_, hrun, hended, _, _, rfl, ?_, ⟨_, rfl⟩, hW, hsame.mono (by decide) (by decide)⟩
      · show Steps p.tables e below (T3.setTop (mkF m 13 #[.val (.ref a1)] [(.int (2 : Int32)), (.int k1)])) _
        refine XS.icmpYes X3.here hx rfl (pc0 := 13) (pc' := 20) rfl (hb hby d4_13) rfl (feq hc13_4).2 (by decide) (by decide) ?_
        show Steps p.tables e below (T3.setTop (mkF m 20 #[.val (.ref a1)] [])) _
        refine XS.iconst X3.here hx rfl (hb hby d4_20) ?_
        show Steps p.tables e below (T3.setTop (mkF m 21 #[.val (.ref a1)] [(.int (0 : Int32))])) _
        exact retN X3 hx (t := .boolean) Bd.returns (by simp) (hb hby d4_21) hr
      · show Q_asksForRetry Z a1 k1 h0 n0 _ T3.heap _
        rw [e3]
        exact ⟨by simp [own_ask, hc5_2, hc13_4], N0, rfl⟩
theorem ef_rm0 (m : MethodId) (p1 : Int32) (q1 : Int64) (q2 : Int64) (p2 : Int32) (p3 : Int32) (p4 : Int32) : entryFrame m #[(.int p1), (.long q1), (.long q2), (.int p2), (.int p3), (.int p4)] maxLocals = mkF m 0 #[.val (.int p1), .val (.long q1), .second, .val (.long q2), .second, .val (.int p2), .val (.int p3), .val (.int p4), .unset, .unset, .unset, .unset] [] := by first | (simp [entryFrame, mkF, argsToLocals, Value.category, maxLocals]; done) | rfl
def Q_rm0 (Z : State) (p1 : Int32) (q1 q2 : Int64) (p2 p3 p4 : Int32) (w_CLIENT w_SERVER : Addr) (h0 : Heap) (n0 : Nat) (v : Option Value) (h : Heap) (L : List Loc) : Prop := v = some (.int (1 : Int32)) ∧ Fr n0 L
set_option maxRecDepth 65536 in
set_option maxHeartbeats 40000000 in
theorem rm0 (l : Launch) (Z : State) (a0 : Array Value) (hw : ∀ d ∈ tables_1, d.before a0 Z = true) (ws : List Jvm.Cond) (p1 : Int32) (q1 q2 : Int64) (p2 p3 p4 : Int32) (w_CLIENT w_SERVER : Addr) (h0 : Heap) (n0 : Nat) (O0 : Old Z n0 h0) (hE : OwnEnv Z w_CLIENT w_SERVER) :
    MetFree l x (head1 (Jvm.Cond.code x code maxLocals ret :: ws) room_1) (fun a U => a = #[(.int p1), (.long q1), (.long q2), (.int p2), (.int p3), (.int p4)] ∧ Z.Warmed39 U.vm ∧ U.heap = h0) (fun _ _ _ _ _ => True) (fun _ U o U' => ∃ v L, o = .returned v ∧ Q_rm0 Z p1 q1 q2 p2 p3 p4 w_CLIENT w_SERVER h0 n0 v U'.heap L ∧ FrameEnd U o U' L room_1.cells room_1.slots) := by
  refine MetFree.of_bodySF (plainFor_of_name pn_com_example_riposte_riposte_txn_NotifyAsksForRetryPinLaw) hisR ?_
  intro p e s m args below meth c s₁ Bd hml0 hP hK
  obtain ⟨rfl, hZ, hh⟩ := hP
  have hx := Bd.exec
  have hby := Bd.bytes
  have hml : c.maxLocals = 12 := hml0
  have hown : s.vm.findClass "com/example/riposte/riposte/txn/NotifyAsksForRetryPinLaw" = some m.cls := findClass_of_methodNamed Bd.named
  have hnm := (name_of_methodNamed Bd.named Bd.method).1
  have X0 : Stand p l e room_1 s m #[(.int p1), (.long q1), (.long q2), (.int p2), (.int p3), (.int p4)] below meth c s₁ [] 0 0 := Stand.of_body Bd
  have e0 : s₁.heap = h0 := by rw [← hh, Bd.state]; rfl
  have N0 := Fr.nil n0
  have pre0 : ∀ t, Steps p.tables e below (s₁.setTop (mkF m 0 #[.val (.int p1), .val (.long q1), .second, .val (.long q2), .second, .val (.int p2), .val (.int p3), .val (.int p4), .unset, .unset, .unset, .unset] [])) t → Steps p.tables e below (s₁.setTop (entryFrame m #[(.int p1), (.long q1), (.long q2), (.int p2), (.int p3), (.int p4)] maxLocals)) t := fun t k => castTop (ef_rm0 m p1 q1 q2 p2 p3 p4) k
  have hE_ := hE; obtain ⟨S_w_CLIENT, E_w_CLIENT, S_w_SERVER, E_w_SERVER⟩ := hE_
  have pre1 : ∀ t, Steps p.tables e below (s₁.setTop (mkF m 3 #[.val (.int p1), .val (.long q1), .second, .val (.long q2), .second, .val (.int p2), .val (.int p3), .val (.int p4), .unset, .unset, .unset, .unset] [(.int (p1 &&& (1 : Int32)))])) t → Steps p.tables e below (s₁.setTop (entryFrame m #[(.int p1), (.long q1), (.long q2), (.int p2), (.int p3), (.int p4)] maxLocals)) t := by
    intro t kt
    refine pre0 _ ?_
    show Steps p.tables e below (s₁.setTop (mkF m 0 #[.val (.int p1), .val (.long q1), .second, .val (.long q2), .second, .val (.int p2), .val (.int p3), .val (.int p4), .unset, .unset, .unset, .unset] [])) _
    refine XS.iloadN X0.here hx rfl (hb hby at_0) rfl ?_
    show Steps p.tables e below (s₁.setTop (mkF m 1 #[.val (.int p1), .val (.long q1), .second, .val (.long q2), .second, .val (.int p2), .val (.int p3), .val (.int p4), .unset, .unset, .unset, .unset] [(.int p1)])) _
    refine XS.iconst X0.here hx rfl (hb hby at_1) ?_
    show Steps p.tables e below (s₁.setTop (mkF m 2 #[.val (.int p1), .val (.long q1), .second, .val (.long q2), .second, .val (.int p2), .val (.int p3), .val (.int p4), .unset, .unset, .unset, .unset] [(.int (1 : Int32)), (.int p1)])) _
    refine XS.iand X0.here hx rfl (hb hby at_2) rfl ?_
    exact kt
  by_cases hc3_1 : (p1 &&& (1 : Int32)) = (0 : Int32)
  · have pre2 : ∀ t, Steps p.tables e below (s₁.setTop (mkF m 25 #[.val (.int p1), .val (.long q1), .second, .val (.long q2), .second, .val (.int p2), .val (.int p3), .val (.int p4), .val (.int p3), .unset, .unset, .unset] [(.int (p1 &&& (32 : Int32)))])) t → Steps p.tables e below (s₁.setTop (entryFrame m #[(.int p1), (.long q1), (.long q2), (.int p2), (.int p3), (.int p4)] maxLocals)) t := by
      intro t kt
      refine pre1 _ ?_
      show Steps p.tables e below (s₁.setTop (mkF m 3 #[.val (.int p1), .val (.long q1), .second, .val (.long q2), .second, .val (.int p2), .val (.int p3), .val (.int p4), .unset, .unset, .unset, .unset] [(.int (p1 &&& (1 : Int32)))])) _
      refine XS.ifYes X0.here hx rfl (pc0 := 3) (pc' := 17) rfl (hb hby at_3) rfl ((if0 _ _).trans (teq hc3_1).1) (by decide) (by decide) ?_
      show Steps p.tables e below (s₁.setTop (mkF m 17 #[.val (.int p1), .val (.long q1), .second, .val (.long q2), .second, .val (.int p2), .val (.int p3), .val (.int p4), .unset, .unset, .unset, .unset] [])) _
      refine XS.iload X0.here hx rfl (hb hby at_17) rfl ?_
      show Steps p.tables e below (s₁.setTop (mkF m 19 #[.val (.int p1), .val (.long q1), .second, .val (.long q2), .second, .val (.int p2), .val (.int p3), .val (.int p4), .unset, .unset, .unset, .unset] [(.int p3)])) _
      refine XS.istore X0.here hx rfl (hb hby at_19) rfl (l' := #[.val (.int p1), .val (.long q1), .second, .val (.long q2), .second, .val (.int p2), .val (.int p3), .val (.int p4), .val (.int p3), .unset, .unset, .unset]) rfl ?_
      show Steps p.tables e below (s₁.setTop (mkF m 21 #[.val (.int p1), .val (.long q1), .second, .val (.long q2), .second, .val (.int p2), .val (.int p3), .val (.int p4), .val (.int p3), .unset, .unset, .unset] [])) _
      refine XS.iloadN X0.here hx rfl (hb hby at_21) rfl ?_
      show Steps p.tables e below (s₁.setTop (mkF m 22 #[.val (.int p1), .val (.long q1), .second, .val (.long q2), .second, .val (.int p2), .val (.int p3), .val (.int p4), .val (.int p3), .unset, .unset, .unset] [(.int p1)])) _
      refine XS.bipush X0.here hx rfl (hb hby at_22) ?_
      show Steps p.tables e below (s₁.setTop (mkF m 24 #[.val (.int p1), .val (.long q1), .second, .val (.long q2), .second, .val (.int p2), .val (.int p3), .val (.int p4), .val (.int p3), .unset, .unset, .unset] [(.int (32 : Int32)), (.int p1)])) _
      refine XS.iand X0.here hx rfl (hb hby at_24) rfl ?_
      exact kt
    by_cases hc25_2 : (p1 &&& (32 : Int32)) = (0 : Int32)
    · obtain ⟨T3, X3, e3, st3⟩ := getS2 X0 hx hZ hown (host := "") (Or.inl (hw _ (List.mem_of_getElem? (i := 0) rfl))) Via.refl e0 (S_w_CLIENT.ext O0.2) (g := (mkF m 34 #[.val (.int p1), .val (.long q1), .second, .val (.long q2), .second, .val (.int p2), .val (.int p3), .val (.int p4), .val (.int p3), .unset, .unset, .unset] [])) rfl (hb hby at_34)
      obtain ⟨T4, h4, X4, e4, E4, A4, D4, U4, st4⟩ := newO X3 hx hZ hown (hw _ (List.mem_of_getElem? (i := 3) rfl)) (hw _ (List.mem_of_getElem? (i := 4) rfl)) (hw _ (List.mem_of_getElem? (i := 5) rfl)) e3 (g := (mkF m 39 #[.val (.int p1), .val (.long q1), .second, .val (.long q2), .second, .val (.int p2), .val (.int p3), .val (.int p4), .val (.int p3), .val (.ref w_CLIENT), .unset, .unset] [])) rfl (hb hby at_39) (by decide) (by decide)
      obtain ⟨b4, g4⟩ : ∃ z, z = h0.size := ⟨_, rfl⟩
      rw [← g4] at A4 D4 st4
      have g_b4 : n0 ≤ b4 := Nat.le_trans (own_le O0) (Nat.le_of_eq g4.symm)
      have O4 := O0.ext E4
      have F_operation_b4 : Fld Z h4 b4 "com/example/riposte/riposte/txn/Notify" "operation" "Lcom/example/riposte/riposte/txn/Notify$Operation;" .null := D4 (Or.inr (hw _ (List.mem_of_getElem? (i := 18) rfl))) (ty := (.object "com/example/riposte/riposte/txn/Notify$Operation")) (by decide)
      have F_client_b4 : Fld Z h4 b4 "com/example/riposte/riposte/txn/Notify" "client" "J" (.long (0 : Int64)) := D4 (Or.inr (hw _ (List.mem_of_getElem? (i := 20) rfl))) (ty := .long) (by decide)
      have F_server_b4 : Fld Z h4 b4 "com/example/riposte/riposte/txn/Notify" "server" "J" (.long (0 : Int64)) := D4 (Or.inr (hw _ (List.mem_of_getElem? (i := 22) rfl))) (ty := .long) (by decide)
      have F_transaction_b4 : Fld Z h4 b4 "com/example/riposte/riposte/txn/Notify" "transaction" "I" (.int (0 : Int32)) := D4 (Or.inr (hw _ (List.mem_of_getElem? (i := 24) rfl))) (ty := .int) (by decide)
      have F_control_b4 : Fld Z h4 b4 "com/example/riposte/riposte/txn/Notify" "control" "I" (.int (0 : Int32)) := D4 (Or.inr (hw _ (List.mem_of_getElem? (i := 26) rfl))) (ty := .int) (by decide)
      have F_delivery_b4 : Fld Z h4 b4 "com/example/riposte/riposte/txn/Notify" "delivery" "I" (.int (0 : Int32)) := D4 (Or.inr (hw _ (List.mem_of_getElem? (i := 28) rfl))) (ty := .int) (by decide)
      have F_code_b4 : Fld Z h4 b4 "com/example/riposte/riposte/txn/Notify" "code" "I" (.int (0 : Int32)) := D4 (Or.inr (hw _ (List.mem_of_getElem? (i := 30) rfl))) (ty := .int) (by decide)
      obtain ⟨_, _, ⟨T5, L5, k5, n5⟩, -, X5, ⟨Lc5, hQ5, l5, y5, z5⟩, st5⟩ := X4.specialBack hx (y := (⟨"com/example/riposte/riposte/txn/Notify", "<init>", "(Lcom/example/riposte/riposte/txn/Notify$Operation;JJIIII)V"⟩ : MethodName)) rfl hown (mvT hZ (hw _ (List.mem_of_getElem? (i := 6) rfl))) (mvT hZ (hw _ (List.mem_of_getElem? (i := 7) rfl))) (mvT hZ (hw _ (List.mem_of_getElem? (i := 8) rfl))) (by decide) (backOf (W := 1) (ntI l Z a0 hw [] b4 w_CLIENT q1 q2 p2 p4 p1 p3 h4 n0 O4 A4 g_b4 F_operation_b4 F_client_b4 F_server_b4 F_transaction_b4 F_control_b4 F_delivery_b4 F_code_b4) hZ (hw _ (List.mem_of_getElem? (i := 8) rfl)) (hw _ (List.mem_of_getElem? (i := 5) rfl)) (by decide) (by decide)) (g := (mkF m 54 #[.val (.int p1), .val (.long q1), .second, .val (.long q2), .second, .val (.int p2), .val (.int p3), .val (.int p4), .val (.int p3), .val (.ref w_CLIENT), .unset, .unset] [(.int p3), (.int p1), (.int p4), (.int p2), (.long q2), (.long q1), (.ref w_CLIENT), (.ref b4), (.ref b4)])) rfl (by rw [hml]; rfl) (Steps.refl _) (a := b4) (argsL := [(.ref w_CLIENT), (.long q1), (.long q2), (.int p2), (.int p4), (.int p1), (.int p3)]) (rest := [(.ref b4)]) (lenOf pd__Lcom_example_riposte_riposte_txn_Notify_Operation_JJIIII_V rfl) rfl (by show 2 * 0 + _ ≤ _; exact Nat.le_of_eq rfl) (hb hby at_54) (fun _ _ => ⟨rfl, e4, (by decide : 1 + 0 ≤ _), (by decide : 7 + 0 ≤ _)⟩)
      dsimp only [Pt.U, Pt.locs, Pt.cells, Pt.slots] at X5 l5 y5 z5 st5 hQ5
      subst l5 y5 z5
      obtain ⟨rfl, Nq5, Kq5, Ea5, Fc5⟩ := hQ5
      have N5 := Fr.app N0 Nq5
      have O5 := O4.keep Kq5 (allS g_b4 all0)
      have pre6 : ∀ t, Steps p.tables e below (T5.setTop (mkF m 62 #[.val (.int p1), .val (.long q1), .second, .val (.long q2), .second, .val (.int p2), .val (.int p3), .val (.int p4), .val (.int p3), .val (.ref w_CLIENT), .val (.ref b4), .unset] [(.int (1 : Int32)), (.int p3)])) t → Steps p.tables e below (s₁.setTop (entryFrame m #[(.int p1), (.long q1), (.long q2), (.int p2), (.int p3), (.int p4)] maxLocals)) t := by
        intro t kt
        refine pre2 _ ?_
        show Steps p.tables e below (s₁.setTop (mkF m 25 #[.val (.int p1), .val (.long q1), .second, .val (.long q2), .second, .val (.int p2), .val (.int p3), .val (.int p4), .val (.int p3), .unset, .unset, .unset] [(.int (p1 &&& (32 : Int32)))])) _
        refine XS.ifYes X0.here hx rfl (pc0 := 25) (pc' := 34) rfl (hb hby at_25) rfl ((if0 _ _).trans (teq hc25_2).1) (by decide) (by decide) ?_
        show Steps p.tables e below (s₁.setTop (mkF m 34 #[.val (.int p1), .val (.long q1), .second, .val (.long q2), .second, .val (.int p2), .val (.int p3), .val (.int p4), .val (.int p3), .unset, .unset, .unset] [])) _
        refine st3 _ ?_
        show Steps p.tables e below (T3.setTop (mkF m 37 #[.val (.int p1), .val (.long q1), .second, .val (.long q2), .second, .val (.int p2), .val (.int p3), .val (.int p4), .val (.int p3), .unset, .unset, .unset] [(.ref w_CLIENT)])) _
        refine XS.astore X3.here hx rfl (hb hby at_37) rfl rfl (l' := #[.val (.int p1), .val (.long q1), .second, .val (.long q2), .second, .val (.int p2), .val (.int p3), .val (.int p4), .val (.int p3), .val (.ref w_CLIENT), .unset, .unset]) rfl ?_
        show Steps p.tables e below (T3.setTop (mkF m 39 #[.val (.int p1), .val (.long q1), .second, .val (.long q2), .second, .val (.int p2), .val (.int p3), .val (.int p4), .val (.int p3), .val (.ref w_CLIENT), .unset, .unset] [])) _
        refine st4 _ ?_
        show Steps p.tables e below (T4.setTop (mkF m 42 #[.val (.int p1), .val (.long q1), .second, .val (.long q2), .second, .val (.int p2), .val (.int p3), .val (.int p4), .val (.int p3), .val (.ref w_CLIENT), .unset, .unset] [(.ref b4)])) _
        refine XS.dup X4.here hx rfl (hb hby at_42) rfl rfl ?_
        show Steps p.tables e below (T4.setTop (mkF m 43 #[.val (.int p1), .val (.long q1), .second, .val (.long q2), .second, .val (.int p2), .val (.int p3), .val (.int p4), .val (.int p3), .val (.ref w_CLIENT), .unset, .unset] [(.ref b4), (.ref b4)])) _
        refine XS.aload X4.here hx rfl (hb hby at_43) rfl rfl ?_
        show Steps p.tables e below (T4.setTop (mkF m 45 #[.val (.int p1), .val (.long q1), .second, .val (.long q2), .second, .val (.int p2), .val (.int p3), .val (.int p4), .val (.int p3), .val (.ref w_CLIENT), .unset, .unset] [(.ref w_CLIENT), (.ref b4), (.ref b4)])) _
        refine XS.lloadN X4.here hx rfl (hb hby at_45) rfl ?_
        show Steps p.tables e below (T4.setTop (mkF m 46 #[.val (.int p1), .val (.long q1), .second, .val (.long q2), .second, .val (.int p2), .val (.int p3), .val (.int p4), .val (.int p3), .val (.ref w_CLIENT), .unset, .unset] [(.long q1), (.ref w_CLIENT), (.ref b4), (.ref b4)])) _
        refine XS.lloadN X4.here hx rfl (hb hby at_46) rfl ?_
        show Steps p.tables e below (T4.setTop (mkF m 47 #[.val (.int p1), .val (.long q1), .second, .val (.long q2), .second, .val (.int p2), .val (.int p3), .val (.int p4), .val (.int p3), .val (.ref w_CLIENT), .unset, .unset] [(.long q2), (.long q1), (.ref w_CLIENT), (.ref b4), (.ref b4)])) _
        refine XS.iload X4.here hx rfl (hb hby at_47) rfl ?_
        show Steps p.tables e below (T4.setTop (mkF m 49 #[.val (.int p1), .val (.long q1), .second, .val (.long q2), .second, .val (.int p2), .val (.int p3), .val (.int p4), .val (.int p3), .val (.ref w_CLIENT), .unset, .unset] [(.int p2), (.long q2), (.long q1), (.ref w_CLIENT), (.ref b4), (.ref b4)])) _
        refine XS.iload X4.here hx rfl (hb hby at_49) rfl ?_
        show Steps p.tables e below (T4.setTop (mkF m 51 #[.val (.int p1), .val (.long q1), .second, .val (.long q2), .second, .val (.int p2), .val (.int p3), .val (.int p4), .val (.int p3), .val (.ref w_CLIENT), .unset, .unset] [(.int p4), (.int p2), (.long q2), (.long q1), (.ref w_CLIENT), (.ref b4), (.ref b4)])) _
        refine XS.iloadN X4.here hx rfl (hb hby at_51) rfl ?_
        show Steps p.tables e below (T4.setTop (mkF m 52 #[.val (.int p1), .val (.long q1), .second, .val (.long q2), .second, .val (.int p2), .val (.int p3), .val (.int p4), .val (.int p3), .val (.ref w_CLIENT), .unset, .unset] [(.int p1), (.int p4), (.int p2), (.long q2), (.long q1), (.ref w_CLIENT), (.ref b4), (.ref b4)])) _
        refine XS.iload X4.here hx rfl (hb hby at_52) rfl ?_
        show Steps p.tables e below (T4.setTop (mkF m 54 #[.val (.int p1), .val (.long q1), .second, .val (.long q2), .second, .val (.int p2), .val (.int p3), .val (.int p4), .val (.int p3), .val (.ref w_CLIENT), .unset, .unset] [(.int p3), (.int p1), (.int p4), (.int p2), (.long q2), (.long q1), (.ref w_CLIENT), (.ref b4), (.ref b4)])) _
        refine st5.trans ?_
        show Steps p.tables e below (T5.setTop (mkF m 57 #[.val (.int p1), .val (.long q1), .second, .val (.long q2), .second, .val (.int p2), .val (.int p3), .val (.int p4), .val (.int p3), .val (.ref w_CLIENT), .unset, .unset] [(.ref b4)])) _
        refine XS.astore X5.here hx rfl (hb hby at_57) rfl rfl (l' := #[.val (.int p1), .val (.long q1), .second, .val (.long q2), .second, .val (.int p2), .val (.int p3), .val (.int p4), .val (.int p3), .val (.ref w_CLIENT), .val (.ref b4), .unset]) rfl ?_
        show Steps p.tables e below (T5.setTop (mkF m 59 #[.val (.int p1), .val (.long q1), .second, .val (.long q2), .second, .val (.int p2), .val (.int p3), .val (.int p4), .val (.int p3), .val (.ref w_CLIENT), .val (.ref b4), .unset] [])) _
        refine XS.iload X5.here hx rfl (hb hby at_59) rfl ?_
        show Steps p.tables e below (T5.setTop (mkF m 61 #[.val (.int p1), .val (.long q1), .second, .val (.long q2), .second, .val (.int p2), .val (.int p3), .val (.int p4), .val (.int p3), .val (.ref w_CLIENT), .val (.ref b4), .unset] [(.int p3)])) _
        refine XS.iconst X5.here hx rfl (hb hby at_61) ?_
        exact kt
      by_cases hc62_6 : p3 < (1 : Int32)
      · obtain ⟨cq7, kq7, q7a, q7b, q7c⟩ := isOf hZ rfl Ea5
        obtain ⟨_, _, ⟨T7, L7, k7, n7⟩, -, X7, ⟨Lc7, hQ7, l7, y7, z7⟩, st7⟩ := X5.virtualBack hx (y := (⟨"com/example/riposte/riposte/txn/Notify", "asksForRetry", "()Z"⟩ : MethodName)) (z := (⟨"com/example/riposte/riposte/txn/Notify", "asksForRetry", "()Z"⟩ : MethodName)) hown (mvT hZ (hw _ (List.mem_of_getElem? (i := 31) rfl))) (mvT hZ (hw _ (List.mem_of_getElem? (i := 32) rfl))) (notFace_of_selects (args := #[]) (mvT hZ (hw _ (List.mem_of_getElem? (i := 34) rfl)))) (mvT hZ (hw _ (List.mem_of_getElem? (i := 34) rfl))) (mvT hZ (hw _ (List.mem_of_getElem? (i := 33) rfl))) (by decide) (backOf (W := 0) (asksForRetry l Z a0 hw [] b4 p3 T5.heap n0 O5 Fc5) hZ (hw _ (List.mem_of_getElem? (i := 35) rfl)) (hw _ (List.mem_of_getElem? (i := 5) rfl)) (by decide) (by decide)) q7a q7c (g := (mkF m 80 #[.val (.int p1), .val (.long q1), .second, .val (.long q2), .second, .val (.int p2), .val (.int p3), .val (.int p4), .val (.int p3), .val (.ref w_CLIENT), .val (.ref b4), .val (.int (0 : Int32))] [(.ref b4)])) rfl (by rw [hml]; rfl) (Steps.refl _) (argsL := []) (rest := []) (lenOf pd___Z rfl) rfl (by show 2 * 0 + _ ≤ _; exact Nat.le_of_eq rfl) (hb hby at_80) (fun _ _ => ⟨rfl, rfl, (by decide : 1 + 0 ≤ _), (by decide : 7 + 0 ≤ _)⟩)
        dsimp only [Pt.U, Pt.locs, Pt.cells, Pt.slots] at X7 l7 y7 z7 st7 hQ7
        subst l7 y7 z7
        obtain ⟨rfl, Nq7, eq7⟩ := hQ7
        have N7 := Fr.app N5 Nq7
        have hd8 : (own_ask p3) = (0 : Int32) := own_ask_lt hc62_6
        obtain ⟨fs, hr, hrun, hended, hW, hsame⟩ := X7.leave (v := some (.int (1 : Int32))) (fun h => by rw [Bd.returns] at h; cases h)
        refine ⟨_, _, pre6 _ ?_, hrun, hended, _, _, rfl, ?_, ⟨_, rfl⟩, hW, hsame.mono (by decide) (by decide)⟩
        · show Steps p.tables e below (T5.setTop (mkF m 62 #[.val (.int p1), .val (.long q1), .second, .val (.long q2), .second, .val (.int p2), .val (.int p3), .val (.int p4), .val (.int p3), .val (.ref w_CLIENT), .val (.ref b4), .unset] [(.int (1 : Int32)), (.int p3)])) _
          refine XS.icmpYes X5.here hx rfl (pc0 := 62) (pc' := 75) rfl (hb hby at_62) rfl (tlt hc62_6).1 (by decide) (by decide) ?_
          show Steps p.tables e below (T5.setTop (mkF m 75 #[.val (.int p1), .val (.long q1), .second, .val (.long q2), .second, .val (.int p2), .val (.int p3), .val (.int p4), .val (.int p3), .val (.ref w_CLIENT), .val (.ref b4), .unset] [])) _
          refine XS.iconst X5.here hx rfl (hb hby at_75) ?_
          show Steps p.tables e below (T5.setTop (mkF m 76 #[.val (.int p1), .val (.long q1), .second, .val (.long q2), .second, .val (.int p2), .val (.int p3), .val (.int p4), .val (.int p3), .val (.ref w_CLIENT), .val (.ref b4), .unset] [(.int (0 : Int32))])) _
          refine XS.istore X5.here hx rfl (hb hby at_76) rfl (l' := #[.val (.int p1), .val (.long q1), .second, .val (.long q2), .second, .val (.int p2), .val (.int p3), .val (.int p4), .val (.int p3), .val (.ref w_CLIENT), .val (.ref b4), .val (.int (0 : Int32))]) rfl ?_
          show Steps p.tables e below (T5.setTop (mkF m 78 #[.val (.int p1), .val (.long q1), .second, .val (.long q2), .second, .val (.int p2), .val (.int p3), .val (.int p4), .val (.int p3), .val (.ref w_CLIENT), .val (.ref b4), .val (.int (0 : Int32))] [])) _
          refine XS.aload X5.here hx rfl (hb hby at_78) rfl rfl ?_
          show Steps p.tables e below (T5.setTop (mkF m 80 #[.val (.int p1), .val (.long q1), .second, .val (.long q2), .second, .val (.int p2), .val (.int p3), .val (.int p4), .val (.int p3), .val (.ref w_CLIENT), .val (.ref b4), .val (.int (0 : Int32))] [(.ref b4)])) _
          refine st7.trans ?_
          show Steps p.tables e below (T7.setTop (mkF m 83 #[.val (.int p1), .val (.long q1), .second, .val (.long q2), .second, .val (.int p2), .val (.int p3), .val (.int p4), .val (.int p3), .val (.ref w_CLIENT), .val (.ref b4), .val (.int (0 : Int32))] [(.int (own_ask p3))])) _
          refine XS.iload X7.here hx rfl (hb hby at_83) rfl ?_
          show Steps p.tables e below (T7.setTop (mkF m 85 #[.val (.int p1), .val (.long q1), .second, .val (.long q2), .second, .val (.int p2), .val (.int p3), .val (.int p4), .val (.int p3), .val (.ref w_CLIENT), .val (.ref b4), .val (.int (0 : Int32))] [(.int (0 : Int32)), (.int (own_ask p3))])) _
          refine XS.icmpNo X7.here hx rfl (hb hby at_85) rfl (teq hd8).2 ?_
          show Steps p.tables e below (T7.setTop (mkF m 88 #[.val (.int p1), .val (.long q1), .second, .val (.long q2), .second, .val (.int p2), .val (.int p3), .val (.int p4), .val (.int p3), .val (.ref w_CLIENT), .val (.ref b4), .val (.int (0 : Int32))] [])) _
          refine XS.iconst X7.here hx rfl (hb hby at_88) ?_
          show Steps p.tables e below (T7.setTop (mkF m 89 #[.val (.int p1), .val (.long q1), .second, .val (.long q2), .second, .val (.int p2), .val (.int p3), .val (.int p4), .val (.int p3), .val (.ref w_CLIENT), .val (.ref b4), .val (.int (0 : Int32))] [(.int (1 : Int32))])) _
          refine XS.goto X7.here hx rfl (pc0 := 89) (pc' := 93) rfl (hb hby at_89) (by decide) (by decide) ?_
          show Steps p.tables e below (T7.setTop (mkF m 93 #[.val (.int p1), .val (.long q1), .second, .val (.long q2), .second, .val (.int p2), .val (.int p3), .val (.int p4), .val (.int p3), .val (.ref w_CLIENT), .val (.ref b4), .val (.int (0 : Int32))] [(.int (1 : Int32))])) _
          exact retN X7 hx (t := .boolean) Bd.returns (by simp) (hb hby at_93) hr
        · show Q_rm0 Z p1 q1 q2 p2 p3 p4 w_CLIENT w_SERVER h0 n0 _ T7.heap _
          rw [eq7]
          exact ⟨rfl, N7⟩
      · have pre9 : ∀ t, Steps p.tables e below (T5.setTop (mkF m 68 #[.val (.int p1), .val (.long q1), .second, .val (.long q2), .second, .val (.int p2), .val (.int p3), .val (.int p4), .val (.int p3), .val (.ref w_CLIENT), .val (.ref b4), .unset] [(.int (2 : Int32)), (.int p3)])) t → Steps p.tables e below (s₁.setTop (entryFrame m #[(.int p1), (.long q1), (.long q2), (.int p2), (.int p3), (.int p4)] maxLocals)) t := by
          intro t kt
          refine pre6 _ ?_
          show Steps p.tables e below (T5.setTop (mkF m 62 #[.val (.int p1), .val (.long q1), .second, .val (.long q2), .second, .val (.int p2), .val (.int p3), .val (.int p4), .val (.int p3), .val (.ref w_CLIENT), .val (.ref b4), .unset] [(.int (1 : Int32)), (.int p3)])) _
          refine XS.icmpNo X5.here hx rfl (hb hby at_62) rfl (flt hc62_6).1 ?_
          show Steps p.tables e below (T5.setTop (mkF m 65 #[.val (.int p1), .val (.long q1), .second, .val (.long q2), .second, .val (.int p2), .val (.int p3), .val (.int p4), .val (.int p3), .val (.ref w_CLIENT), .val (.ref b4), .unset] [])) _
          refine XS.iload X5.here hx rfl (hb hby at_65) rfl ?_
          show Steps p.tables e below (T5.setTop (mkF m 67 #[.val (.int p1), .val (.long q1), .second, .val (.long q2), .second, .val (.int p2), .val (.int p3), .val (.int p4), .val (.int p3), .val (.ref w_CLIENT), .val (.ref b4), .unset] [(.int p3)])) _
          refine XS.iconst X5.here hx rfl (hb hby at_67) ?_
          exact kt
        by_cases hc68_9 : (2 : Int32) < p3
        · obtain ⟨cq10, kq10, q10a, q10b, q10c⟩ := isOf hZ rfl Ea5
          obtain ⟨_, _, ⟨T10, L10, k10, n10⟩, -, X10, ⟨Lc10, hQ10, l10, y10, z10⟩, st10⟩ := X5.virtualBack hx (y := (⟨"com/example/riposte/riposte/txn/Notify", "asksForRetry", "()Z"⟩ : MethodName)) (z := (⟨"com/example/riposte/riposte/txn/Notify", "asksForRetry", "()Z"⟩ : MethodName)) hown (mvT hZ (hw _ (List.mem_of_getElem? (i := 31) rfl))) (mvT hZ (hw _ (List.mem_of_getElem? (i := 32) rfl))) (notFace_of_selects (args := #[]) (mvT hZ (hw _ (List.mem_of_getElem? (i := 34) rfl)))) (mvT hZ (hw _ (List.mem_of_getElem? (i := 34) rfl))) (mvT hZ (hw _ (List.mem_of_getElem? (i := 33) rfl))) (by decide) (backOf (W := 0) (asksForRetry l Z a0 hw [] b4 p3 T5.heap n0 O5 Fc5) hZ (hw _ (List.mem_of_getElem? (i := 35) rfl)) (hw _ (List.mem_of_getElem? (i := 5) rfl)) (by decide) (by decide)) q10a q10c (g := (mkF m 80 #[.val (.int p1), .val (.long q1), .second, .val (.long q2), .second, .val (.int p2), .val (.int p3), .val (.int p4), .val (.int p3), .val (.ref w_CLIENT), .val (.ref b4), .val (.int (0 : Int32))] [(.ref b4)])) rfl (by rw [hml]; rfl) (Steps.refl _) (argsL := []) (rest := []) (lenOf pd___Z rfl) rfl (by show 2 * 0 + _ ≤ _; exact Nat.le_of_eq rfl) (hb hby at_80) (fun _ _ => ⟨rfl, rfl, (by decide : 1 + 0 ≤ _), (by decide : 7 + 0 ≤ _)⟩)
          dsimp only [Pt.U, Pt.locs, Pt.cells, Pt.slots] at X10 l10 y10 z10 st10 hQ10
          subst l10 y10 z10
          obtain ⟨rfl, Nq10, eq10⟩ := hQ10
          have N10 := Fr.app N5 Nq10
          have hd11 : (own_ask p3) = (0 : Int32) := own_ask_gt hc68_9
          obtain ⟨fs, hr, hrun, hended, hW, hsame⟩ := X10.leave (v := some (.int (1 : Int32))) (fun h => by rw [Bd.returns] at h; cases h)
          refine ⟨_, _, pre9 _ ?_, hrun, hended, _, _, rfl, ?_, ⟨_, rfl⟩, hW, hsame.mono (by decide) (by decide)⟩
          · show Steps p.tables e below (T5.setTop (mkF m 68 #[.val (.int p1), .val (.long q1), .second, .val (.long q2), .second, .val (.int p2), .val (.int p3), .val (.int p4), .val (.int p3), .val (.ref w_CLIENT), .val (.ref b4), .unset] [(.int (2 : Int32)), (.int p3)])) _
            refine XS.icmpYes X5.here hx rfl (pc0 := 68) (pc' := 75) rfl (hb hby at_68) rfl (tlt hc68_9).2.2.1 (by decide) (by decide) ?_
            show Steps p.tables e below (T5.setTop (mkF m 75 #[.val (.int p1), .val (.long q1), .second, .val (.long q2), .second, .val (.int p2), .val (.int p3), .val (.int p4), .val (.int p3), .val (.ref w_CLIENT), .val (.ref b4), .unset] [])) _
            refine XS.iconst X5.here hx rfl (hb hby at_75) ?_
            show Steps p.tables e below (T5.setTop (mkF m 76 #[.val (.int p1), .val (.long q1), .second, .val (.long q2), .second, .val (.int p2), .val (.int p3), .val (.int p4), .val (.int p3), .val (.ref w_CLIENT), .val (.ref b4), .unset] [(.int (0 : Int32))])) _
            refine XS.istore X5.here hx rfl (hb hby at_76) rfl (l' := #[.val (.int p1), .val (.long q1), .second, .val (.long q2), .second, .val (.int p2), .val (.int p3), .val (.int p4), .val (.int p3), .val (.ref w_CLIENT), .val (.ref b4), .val (.int (0 : Int32))]) rfl ?_
            show Steps p.tables e below (T5.setTop (mkF m 78 #[.val (.int p1), .val (.long q1), .second, .val (.long q2), .second, .val (.int p2), .val (.int p3), .val (.int p4), .val (.int p3), .val (.ref w_CLIENT), .val (.ref b4), .val (.int (0 : Int32))] [])) _
            refine XS.aload X5.here hx rfl (hb hby at_78) rfl rfl ?_
            show Steps p.tables e below (T5.setTop (mkF m 80 #[.val (.int p1), .val (.long q1), .second, .val (.long q2), .second, .val (.int p2), .val (.int p3), .val (.int p4), .val (.int p3), .val (.ref w_CLIENT), .val (.ref b4), .val (.int (0 : Int32))] [(.ref b4)])) _
            refine st10.trans ?_
            show Steps p.tables e below (T10.setTop (mkF m 83 #[.val (.int p1), .val (.long q1), .second, .val (.long q2), .second, .val (.int p2), .val (.int p3), .val (.int p4), .val (.int p3), .val (.ref w_CLIENT), .val (.ref b4), .val (.int (0 : Int32))] [(.int (own_ask p3))])) _
            refine XS.iload X10.here hx rfl (hb hby at_83) rfl ?_
            show Steps p.tables e below (T10.setTop (mkF m 85 #[.val (.int p1), .val (.long q1), .second, .val (.long q2), .second, .val (.int p2), .val (.int p3), .val (.int p4), .val (.int p3), .val (.ref w_CLIENT), .val (.ref b4), .val (.int (0 : Int32))] [(.int (0 : Int32)), (.int (own_ask p3))])) _
            refine XS.icmpNo X10.here hx rfl (hb hby at_85) rfl (teq hd11).2 ?_
            show Steps p.tables e below (T10.setTop (mkF m 88 #[.val (.int p1), .val (.long q1), .second, .val (.long q2), .second, .val (.int p2), .val (.int p3), .val (.int p4), .val (.int p3), .val (.ref w_CLIENT), .val (.ref b4), .val (.int (0 : Int32))] [])) _
            refine XS.iconst X10.here hx rfl (hb hby at_88) ?_
            show Steps p.tables e below (T10.setTop (mkF m 89 #[.val (.int p1), .val (.long q1), .second, .val (.long q2), .second, .val (.int p2), .val (.int p3), .val (.int p4), .val (.int p3), .val (.ref w_CLIENT), .val (.ref b4), .val (.int (0 : Int32))] [(.int (1 : Int32))])) _
            refine XS.goto X10.here hx rfl (pc0 := 89) (pc' := 93) rfl (hb hby at_89) (by decide) (by decide) ?_
            show Steps p.tables e below (T10.setTop (mkF m 93 #[.val (.int p1), .val (.long q1), .second, .val (.long q2), .second, .val (.int p2), .val (.int p3), .val (.int p4), .val (.int p3), .val (.ref w_CLIENT), .val (.ref b4), .val (.int (0 : Int32))] [(.int (1 : Int32))])) _
            exact retN X10 hx (t := .boolean) Bd.returns (by simp) (hb hby at_93) hr
          · show Q_rm0 Z p1 q1 q2 p2 p3 p4 w_CLIENT w_SERVER h0 n0 _ T10.heap _
            rw [eq10]
            exact ⟨rfl, N10⟩
        · obtain ⟨cq12, kq12, q12a, q12b, q12c⟩ := isOf hZ rfl Ea5
          obtain ⟨_, _, ⟨T12, L12, k12, n12⟩, -, X12, ⟨Lc12, hQ12, l12, y12, z12⟩, st12⟩ := X5.virtualBack hx (y := (⟨"com/example/riposte/riposte/txn/Notify", "asksForRetry", "()Z"⟩ : MethodName)) (z := (⟨"com/example/riposte/riposte/txn/Notify", "asksForRetry", "()Z"⟩ : MethodName)) hown (mvT hZ (hw _ (List.mem_of_getElem? (i := 31) rfl))) (mvT hZ (hw _ (List.mem_of_getElem? (i := 32) rfl))) (notFace_of_selects (args := #[]) (mvT hZ (hw _ (List.mem_of_getElem? (i := 34) rfl)))) (mvT hZ (hw _ (List.mem_of_getElem? (i := 34) rfl))) (mvT hZ (hw _ (List.mem_of_getElem? (i := 33) rfl))) (by decide) (backOf (W := 0) (asksForRetry l Z a0 hw [] b4 p3 T5.heap n0 O5 Fc5) hZ (hw _ (List.mem_of_getElem? (i := 35) rfl)) (hw _ (List.mem_of_getElem? (i := 5) rfl)) (by decide) (by decide)) q12a q12c (g := (mkF m 80 #[.val (.int p1), .val (.long q1), .second, .val (.long q2), .second, .val (.int p2), .val (.int p3), .val (.int p4), .val (.int p3), .val (.ref w_CLIENT), .val (.ref b4), .val (.int (1 : Int32))] [(.ref b4)])) rfl (by rw [hml]; rfl) (Steps.refl _) (argsL := []) (rest := []) (lenOf pd___Z rfl) rfl (by show 2 * 0 + _ ≤ _; exact Nat.le_of_eq rfl) (hb hby at_80) (fun _ _ => ⟨rfl, rfl, (by decide : 1 + 0 ≤ _), (by decide : 7 + 0 ≤ _)⟩)
          dsimp only [Pt.U, Pt.locs, Pt.cells, Pt.slots] at X12 l12 y12 z12 st12 hQ12
          subst l12 y12 z12
          obtain ⟨rfl, Nq12, eq12⟩ := hQ12
          have N12 := Fr.app N5 Nq12
          have hd13 : (own_ask p3) = (1 : Int32) := own_ask_in hc62_6 hc68_9
          obtain ⟨fs, hr, hrun, hended, hW, hsame⟩ := X12.leave (v := some (.int (1 : Int32))) (fun h => by rw [Bd.returns] at h; cases h)
          refine ⟨_, _, pre9 _ ?_, hrun, hended, _, _, rfl, ?_, ⟨_, rfl⟩, hW, hsame.mono (by decide) (by decide)⟩
          · show Steps p.tables e below (T5.setTop (mkF m 68 #[.val (.int p1), .val (.long q1), .second, .val (.long q2), .second, .val (.int p2), .val (.int p3), .val (.int p4), .val (.int p3), .val (.ref w_CLIENT), .val (.ref b4), .unset] [(.int (2 : Int32)), (.int p3)])) _
            refine XS.icmpNo X5.here hx rfl (hb hby at_68) rfl (flt hc68_9).2.2.1 ?_
            show Steps p.tables e below (T5.setTop (mkF m 71 #[.val (.int p1), .val (.long q1), .second, .val (.long q2), .second, .val (.int p2), .val (.int p3), .val (.int p4), .val (.int p3), .val (.ref w_CLIENT), .val (.ref b4), .unset] [])) _
            refine XS.iconst X5.here hx rfl (hb hby at_71) ?_
            show Steps p.tables e below (T5.setTop (mkF m 72 #[.val (.int p1), .val (.long q1), .second, .val (.long q2), .second, .val (.int p2), .val (.int p3), .val (.int p4), .val (.int p3), .val (.ref w_CLIENT), .val (.ref b4), .unset] [(.int (1 : Int32))])) _
            refine XS.goto X5.here hx rfl (pc0 := 72) (pc' := 76) rfl (hb hby at_72) (by decide) (by decide) ?_
            show Steps p.tables e below (T5.setTop (mkF m 76 #[.val (.int p1), .val (.long q1), .second, .val (.long q2), .second, .val (.int p2), .val (.int p3), .val (.int p4), .val (.int p3), .val (.ref w_CLIENT), .val (.ref b4), .unset] [(.int (1 : Int32))])) _
            refine XS.istore X5.here hx rfl (hb hby at_76) rfl (l' := #[.val (.int p1), .val (.long q1), .second, .val (.long q2), .second, .val (.int p2), .val (.int p3), .val (.int p4), .val (.int p3), .val (.ref w_CLIENT), .val (.ref b4), .val (.int (1 : Int32))]) rfl ?_
            show Steps p.tables e below (T5.setTop (mkF m 78 #[.val (.int p1), .val (.long q1), .second, .val (.long q2), .second, .val (.int p2), .val (.int p3), .val (.int p4), .val (.int p3), .val (.ref w_CLIENT), .val (.ref b4), .val (.int (1 : Int32))] [])) _
            refine XS.aload X5.here hx rfl (hb hby at_78) rfl rfl ?_
            show Steps p.tables e below (T5.setTop (mkF m 80 #[.val (.int p1), .val (.long q1), .second, .val (.long q2), .second, .val (.int p2), .val (.int p3), .val (.int p4), .val (.int p3), .val (.ref w_CLIENT), .val (.ref b4), .val (.int (1 : Int32))] [(.ref b4)])) _
            refine st12.trans ?_
            show Steps p.tables e below (T12.setTop (mkF m 83 #[.val (.int p1), .val (.long q1), .second, .val (.long q2), .second, .val (.int p2), .val (.int p3), .val (.int p4), .val (.int p3), .val (.ref w_CLIENT), .val (.ref b4), .val (.int (1 : Int32))] [(.int (own_ask p3))])) _
            refine XS.iload X12.here hx rfl (hb hby at_83) rfl ?_
            show Steps p.tables e below (T12.setTop (mkF m 85 #[.val (.int p1), .val (.long q1), .second, .val (.long q2), .second, .val (.int p2), .val (.int p3), .val (.int p4), .val (.int p3), .val (.ref w_CLIENT), .val (.ref b4), .val (.int (1 : Int32))] [(.int (1 : Int32)), (.int (own_ask p3))])) _
            refine XS.icmpNo X12.here hx rfl (hb hby at_85) rfl (teq hd13).2 ?_
            show Steps p.tables e below (T12.setTop (mkF m 88 #[.val (.int p1), .val (.long q1), .second, .val (.long q2), .second, .val (.int p2), .val (.int p3), .val (.int p4), .val (.int p3), .val (.ref w_CLIENT), .val (.ref b4), .val (.int (1 : Int32))] [])) _
            refine XS.iconst X12.here hx rfl (hb hby at_88) ?_
            show Steps p.tables e below (T12.setTop (mkF m 89 #[.val (.int p1), .val (.long q1), .second, .val (.long q2), .second, .val (.int p2), .val (.int p3), .val (.int p4), .val (.int p3), .val (.ref w_CLIENT), .val (.ref b4), .val (.int (1 : Int32))] [(.int (1 : Int32))])) _
            refine XS.goto X12.here hx rfl (pc0 := 89) (pc' := 93) rfl (hb hby at_89) (by decide) (by decide) ?_
            show Steps p.tables e below (T12.setTop (mkF m 93 #[.val (.int p1), .val (.long q1), .second, .val (.long q2), .second, .val (.int p2), .val (.int p3), .val (.int p4), .val (.int p3), .val (.ref w_CLIENT), .val (.ref b4), .val (.int (1 : Int32))] [(.int (1 : Int32))])) _
            exact retN X12 hx (t := .boolean) Bd.returns (by simp) (hb hby at_93) hr
          · show Q_rm0 Z p1 q1 q2 p2 p3 p4 w_CLIENT w_SERVER h0 n0 _ T12.heap _
            rw [eq12]
            exact ⟨rfl, N12⟩
    · obtain ⟨T14, X14, e14, st14⟩ := getS2 X0 hx hZ hown (host := "") (Or.inl (hw _ (List.mem_of_getElem? (i := 36) rfl))) Via.refl e0 (S_w_SERVER.ext O0.2) (g := (mkF m 28 #[.val (.int p1), .val (.long q1), .second, .val (.long q2), .second, .val (.int p2), .val (.int p3), .val (.int p4), .val (.int p3), .unset, .unset, .unset] [])) rfl (hb hby at_28)
      obtain ⟨T15, h15, X15, e15, E15, A15, D15, U15, st15⟩ := newO X14 hx hZ hown (hw _ (List.mem_of_getElem? (i := 3) rfl)) (hw _ (List.mem_of_getElem? (i := 4) rfl)) (hw _ (List.mem_of_getElem? (i := 5) rfl)) e14 (g := (mkF m 39 #[.val (.int p1), .val (.long q1), .second, .val (.long q2), .second, .val (.int p2), .val (.int p3), .val (.int p4), .val (.int p3), .val (.ref w_SERVER), .unset, .unset] [])) rfl (hb hby at_39) (by decide) (by decide)
      obtain ⟨b15, g15⟩ : ∃ z, z = h0.size := ⟨_, rfl⟩
      rw [← g15] at A15 D15 st15
      have g_b15 : n0 ≤ b15 := Nat.le_trans (own_le O0) (Nat.le_of_eq g15.symm)
      have O15 := O0.ext E15
      have F_operation_b15 : Fld Z h15 b15 "com/example/riposte/riposte/txn/Notify" "operation" "Lcom/example/riposte/riposte/txn/Notify$Operation;" .null := D15 (Or.inr (hw _ (List.mem_of_getElem? (i := 18) rfl))) (ty := (.object "com/example/riposte/riposte/txn/Notify$Operation")) (by decide)
      have F_client_b15 : Fld Z h15 b15 "com/example/riposte/riposte/txn/Notify" "client" "J" (.long (0 : Int64)) := D15 (Or.inr (hw _ (List.mem_of_getElem? (i := 20) rfl))) (ty := .long) (by decide)
      have F_server_b15 : Fld Z h15 b15 "com/example/riposte/riposte/txn/Notify" "server" "J" (.long (0 : Int64)) := D15 (Or.inr (hw _ (List.mem_of_getElem? (i := 22) rfl))) (ty := .long) (by decide)
      have F_transaction_b15 : Fld Z h15 b15 "com/example/riposte/riposte/txn/Notify" "transaction" "I" (.int (0 : Int32)) := D15 (Or.inr (hw _ (List.mem_of_getElem? (i := 24) rfl))) (ty := .int) (by decide)
      have F_control_b15 : Fld Z h15 b15 "com/example/riposte/riposte/txn/Notify" "control" "I" (.int (0 : Int32)) := D15 (Or.inr (hw _ (List.mem_of_getElem? (i := 26) rfl))) (ty := .int) (by decide)
      have F_delivery_b15 : Fld Z h15 b15 "com/example/riposte/riposte/txn/Notify" "delivery" "I" (.int (0 : Int32)) := D15 (Or.inr (hw _ (List.mem_of_getElem? (i := 28) rfl))) (ty := .int) (by decide)
      have F_code_b15 : Fld Z h15 b15 "com/example/riposte/riposte/txn/Notify" "code" "I" (.int (0 : Int32)) := D15 (Or.inr (hw _ (List.mem_of_getElem? (i := 30) rfl))) (ty := .int) (by decide)
      obtain ⟨_, _, ⟨T16, L16, k16, n16⟩, -, X16, ⟨Lc16, hQ16, l16, y16, z16⟩, st16⟩ := X15.specialBack hx (y := (⟨"com/example/riposte/riposte/txn/Notify", "<init>", "(Lcom/example/riposte/riposte/txn/Notify$Operation;JJIIII)V"⟩ : MethodName)) rfl hown (mvT hZ (hw _ (List.mem_of_getElem? (i := 6) rfl))) (mvT hZ (hw _ (List.mem_of_getElem? (i := 7) rfl))) (mvT hZ (hw _ (List.mem_of_getElem? (i := 8) rfl))) (by decide) (backOf (W := 1) (ntI l Z a0 hw [] b15 w_SERVER q1 q2 p2 p4 p1 p3 h15 n0 O15 A15 g_b15 F_operation_b15 F_client_b15 F_server_b15 F_transaction_b15 F_control_b15 F_delivery_b15 F_code_b15) hZ (hw _ (List.mem_of_getElem? (i := 8) rfl)) (hw _ (List.mem_of_getElem? (i := 5) rfl)) (by decide) (by decide)) (g := (mkF m 54 #[.val (.int p1), .val (.long q1), .second, .val (.long q2), .second, .val (.int p2), .val (.int p3), .val (.int p4), .val (.int p3), .val (.ref w_SERVER), .unset, .unset] [(.int p3), (.int p1), (.int p4), (.int p2), (.long q2), (.long q1), (.ref w_SERVER), (.ref b15), (.ref b15)])) rfl (by rw [hml]; rfl) (Steps.refl _) (a := b15) (argsL := [(.ref w_SERVER), (.long q1), (.long q2), (.int p2), (.int p4), (.int p1), (.int p3)]) (rest := [(.ref b15)]) (lenOf pd__Lcom_example_riposte_riposte_txn_Notify_Operation_JJIIII_V rfl) rfl (by show 2 * 0 + _ ≤ _; exact Nat.le_of_eq rfl) (hb hby at_54) (fun _ _ => ⟨rfl, e15, (by decide : 1 + 0 ≤ _), (by decide : 7 + 0 ≤ _)⟩)
      dsimp only [Pt.U, Pt.locs, Pt.cells, Pt.slots] at X16 l16 y16 z16 st16 hQ16
      subst l16 y16 z16
      obtain ⟨rfl, Nq16, Kq16, Ea16, Fc16⟩ := hQ16
      have N16 := Fr.app N0 Nq16
      have O16 := O15.keep Kq16 (allS g_b15 all0)
      have pre17 : ∀ t, Steps p.tables e below (T16.setTop (mkF m 62 #[.val (.int p1), .val (.long q1), .second, .val (.long q2), .second, .val (.int p2), .val (.int p3), .val (.int p4), .val (.int p3), .val (.ref w_SERVER), .val (.ref b15), .unset] [(.int (1 : Int32)), (.int p3)])) t → Steps p.tables e below (s₁.setTop (entryFrame m #[(.int p1), (.long q1), (.long q2), (.int p2), (.int p3), (.int p4)] maxLocals)) t := by
        intro t kt
        refine pre2 _ ?_
        show Steps p.tables e below (s₁.setTop (mkF m 25 #[.val (.int p1), .val (.long q1), .second, .val (.long q2), .second, .val (.int p2), .val (.int p3), .val (.int p4), .val (.int p3), .unset, .unset, .unset] [(.int (p1 &&& (32 : Int32)))])) _
        refine XS.ifNo X0.here hx rfl (hb hby at_25) rfl ((if0 _ _).trans (feq hc25_2).1) ?_
        show Steps p.tables e below (s₁.setTop (mkF m 28 #[.val (.int p1), .val (.long q1), .second, .val (.long q2), .second, .val (.int p2), .val (.int p3), .val (.int p4), .val (.int p3), .unset, .unset, .unset] [])) _
        refine st14 _ ?_
        show Steps p.tables e below (T14.setTop (mkF m 31 #[.val (.int p1), .val (.long q1), .second, .val (.long q2), .second, .val (.int p2), .val (.int p3), .val (.int p4), .val (.int p3), .unset, .unset, .unset] [(.ref w_SERVER)])) _
        refine XS.goto X14.here hx rfl (pc0 := 31) (pc' := 37) rfl (hb hby at_31) (by decide) (by decide) ?_
        show Steps p.tables e below (T14.setTop (mkF m 37 #[.val (.int p1), .val (.long q1), .second, .val (.long q2), .second, .val (.int p2), .val (.int p3), .val (.int p4), .val (.int p3), .unset, .unset, .unset] [(.ref w_SERVER)])) _
        refine XS.astore X14.here hx rfl (hb hby at_37) rfl rfl (l' := #[.val (.int p1), .val (.long q1), .second, .val (.long q2), .second, .val (.int p2), .val (.int p3), .val (.int p4), .val (.int p3), .val (.ref w_SERVER), .unset, .unset]) rfl ?_
        show Steps p.tables e below (T14.setTop (mkF m 39 #[.val (.int p1), .val (.long q1), .second, .val (.long q2), .second, .val (.int p2), .val (.int p3), .val (.int p4), .val (.int p3), .val (.ref w_SERVER), .unset, .unset] [])) _
        refine st15 _ ?_
        show Steps p.tables e below (T15.setTop (mkF m 42 #[.val (.int p1), .val (.long q1), .second, .val (.long q2), .second, .val (.int p2), .val (.int p3), .val (.int p4), .val (.int p3), .val (.ref w_SERVER), .unset, .unset] [(.ref b15)])) _
        refine XS.dup X15.here hx rfl (hb hby at_42) rfl rfl ?_
        show Steps p.tables e below (T15.setTop (mkF m 43 #[.val (.int p1), .val (.long q1), .second, .val (.long q2), .second, .val (.int p2), .val (.int p3), .val (.int p4), .val (.int p3), .val (.ref w_SERVER), .unset, .unset] [(.ref b15), (.ref b15)])) _
        refine XS.aload X15.here hx rfl (hb hby at_43) rfl rfl ?_
        show Steps p.tables e below (T15.setTop (mkF m 45 #[.val (.int p1), .val (.long q1), .second, .val (.long q2), .second, .val (.int p2), .val (.int p3), .val (.int p4), .val (.int p3), .val (.ref w_SERVER), .unset, .unset] [(.ref w_SERVER), (.ref b15), (.ref b15)])) _
        refine XS.lloadN X15.here hx rfl (hb hby at_45) rfl ?_
        show Steps p.tables e below (T15.setTop (mkF m 46 #[.val (.int p1), .val (.long q1), .second, .val (.long q2), .second, .val (.int p2), .val (.int p3), .val (.int p4), .val (.int p3), .val (.ref w_SERVER), .unset, .unset] [(.long q1), (.ref w_SERVER), (.ref b15), (.ref b15)])) _
        refine XS.lloadN X15.here hx rfl (hb hby at_46) rfl ?_
        show Steps p.tables e below (T15.setTop (mkF m 47 #[.val (.int p1), .val (.long q1), .second, .val (.long q2), .second, .val (.int p2), .val (.int p3), .val (.int p4), .val (.int p3), .val (.ref w_SERVER), .unset, .unset] [(.long q2), (.long q1), (.ref w_SERVER), (.ref b15), (.ref b15)])) _
        refine XS.iload X15.here hx rfl (hb hby at_47) rfl ?_
        show Steps p.tables e below (T15.setTop (mkF m 49 #[.val (.int p1), .val (.long q1), .second, .val (.long q2), .second, .val (.int p2), .val (.int p3), .val (.int p4), .val (.int p3), .val (.ref w_SERVER), .unset, .unset] [(.int p2), (.long q2), (.long q1), (.ref w_SERVER), (.ref b15), (.ref b15)])) _
        refine XS.iload X15.here hx rfl (hb hby at_49) rfl ?_
        show Steps p.tables e below (T15.setTop (mkF m 51 #[.val (.int p1), .val (.long q1), .second, .val (.long q2), .second, .val (.int p2), .val (.int p3), .val (.int p4), .val (.int p3), .val (.ref w_SERVER), .unset, .unset] [(.int p4), (.int p2), (.long q2), (.long q1), (.ref w_SERVER), (.ref b15), (.ref b15)])) _
        refine XS.iloadN X15.here hx rfl (hb hby at_51) rfl ?_
        show Steps p.tables e below (T15.setTop (mkF m 52 #[.val (.int p1), .val (.long q1), .second, .val (.long q2), .second, .val (.int p2), .val (.int p3), .val (.int p4), .val (.int p3), .val (.ref w_SERVER), .unset, .unset] [(.int p1), (.int p4), (.int p2), (.long q2), (.long q1), (.ref w_SERVER), (.ref b15), (.ref b15)])) _
        refine XS.iload X15.here hx rfl (hb hby at_52) rfl ?_
        show Steps p.tables e below (T15.setTop (mkF m 54 #[.val (.int p1), .val (.long q1), .second, .val (.long q2), .second, .val (.int p2), .val (.int p3), .val (.int p4), .val (.int p3), .val (.ref w_SERVER), .unset, .unset] [(.int p3), (.int p1), (.int p4), (.int p2), (.long q2), (.long q1), (.ref w_SERVER), (.ref b15), (.ref b15)])) _
        refine st16.trans ?_
        show Steps p.tables e below (T16.setTop (mkF m 57 #[.val (.int p1), .val (.long q1), .second, .val (.long q2), .second, .val (.int p2), .val (.int p3), .val (.int p4), .val (.int p3), .val (.ref w_SERVER), .unset, .unset] [(.ref b15)])) _
        refine XS.astore X16.here hx rfl (hb hby at_57) rfl rfl (l' := #[.val (.int p1), .val (.long q1), .second, .val (.long q2), .second, .val (.int p2), .val (.int p3), .val (.int p4), .val (.int p3), .val (.ref w_SERVER), .val (.ref b15), .unset]) rfl ?_
        show Steps p.tables e below (T16.setTop (mkF m 59 #[.val (.int p1), .val (.long q1), .second, .val (.long q2), .second, .val (.int p2), .val (.int p3), .val (.int p4), .val (.int p3), .val (.ref w_SERVER), .val (.ref b15), .unset] [])) _
        refine XS.iload X16.here hx rfl (hb hby at_59) rfl ?_
        show Steps p.tables e below (T16.setTop (mkF m 61 #[.val (.int p1), .val (.long q1), .second, .val (.long q2), .second, .val (.int p2), .val (.int p3), .val (.int p4), .val (.int p3), .val (.ref w_SERVER), .val (.ref b15), .unset] [(.int p3)])) _
        refine XS.iconst X16.here hx rfl (hb hby at_61) ?_
        exact kt
      by_cases hc62_17 : p3 < (1 : Int32)
      · obtain ⟨cq18, kq18, q18a, q18b, q18c⟩ := isOf hZ rfl Ea16
        obtain ⟨_, _, ⟨T18, L18, k18, n18⟩, -, X18, ⟨Lc18, hQ18, l18, y18, z18⟩, st18⟩ := X16.virtualBack hx (y := (⟨"com/example/riposte/riposte/txn/Notify", "asksForRetry", "()Z"⟩ : MethodName)) (z := (⟨"com/example/riposte/riposte/txn/Notify", "asksForRetry", "()Z"⟩ : MethodName)) hown (mvT hZ (hw _ (List.mem_of_getElem? (i := 31) rfl))) (mvT hZ (hw _ (List.mem_of_getElem? (i := 32) rfl))) (notFace_of_selects (args := #[]) (mvT hZ (hw _ (List.mem_of_getElem? (i := 34) rfl)))) (mvT hZ (hw _ (List.mem_of_getElem? (i := 34) rfl))) (mvT hZ (hw _ (List.mem_of_getElem? (i := 33) rfl))) (by decide) (backOf (W := 0) (asksForRetry l Z a0 hw [] b15 p3 T16.heap n0 O16 Fc16) hZ (hw _ (List.mem_of_getElem? (i := 35) rfl)) (hw _ (List.mem_of_getElem? (i := 5) rfl)) (by decide) (by decide)) q18a q18c (g := (mkF m 80 #[.val (.int p1), .val (.long q1), .second, .val (.long q2), .second, .val (.int p2), .val (.int p3), .val (.int p4), .val (.int p3), .val (.ref w_SERVER), .val (.ref b15), .val (.int (0 : Int32))] [(.ref b15)])) rfl (by rw [hml]; rfl) (Steps.refl _) (argsL := []) (rest := []) (lenOf pd___Z rfl) rfl (by show 2 * 0 + _ ≤ _; exact Nat.le_of_eq rfl) (hb hby at_80) (fun _ _ => ⟨rfl, rfl, (by decide : 1 + 0 ≤ _), (by decide : 7 + 0 ≤ _)⟩)
        dsimp only [Pt.U, Pt.locs, Pt.cells, Pt.slots] at X18 l18 y18 z18 st18 hQ18
        subst l18 y18 z18
        obtain ⟨rfl, Nq18, eq18⟩ := hQ18
        have N18 := Fr.app N16 Nq18
        have hd19 : (own_ask p3) = (0 : Int32) := own_ask_lt hc62_17
        obtain ⟨fs, hr, hrun, hended, hW, hsame⟩ := X18.leave (v := some (.int (1 : Int32))) (fun h => by rw [Bd.returns] at h; cases h)
        refine ⟨_, _, pre17 _ ?_, hrun, hended, _, _, rfl, ?_, ⟨_, rfl⟩, hW, hsame.mono (by decide) (by decide)⟩
        · show Steps p.tables e below (T16.setTop (mkF m 62 #[.val (.int p1), .val (.long q1), .second, .val (.long q2), .second, .val (.int p2), .val (.int p3), .val (.int p4), .val (.int p3), .val (.ref w_SERVER), .val (.ref b15), .unset] [(.int (1 : Int32)), (.int p3)])) _
          refine XS.icmpYes X16.here hx rfl (pc0 := 62) (pc' := 75) rfl (hb hby at_62) rfl (tlt hc62_17).1 (by decide) (by decide) ?_
          show Steps p.tables e below (T16.setTop (mkF m 75 #[.val (.int p1), .val (.long q1), .second, .val (.long q2), .second, .val (.int p2), .val (.int p3), .val (.int p4), .val (.int p3), .val (.ref w_SERVER), .val (.ref b15), .unset] [])) _
          refine XS.iconst X16.here hx rfl (hb hby at_75) ?_
          show Steps p.tables e below (T16.setTop (mkF m 76 #[.val (.int p1), .val (.long q1), .second, .val (.long q2), .second, .val (.int p2), .val (.int p3), .val (.int p4), .val (.int p3), .val (.ref w_SERVER), .val (.ref b15), .unset] [(.int (0 : Int32))])) _
          refine XS.istore X16.here hx rfl (hb hby at_76) rfl (l' := #[.val (.int p1), .val (.long q1), .second, .val (.long q2), .second, .val (.int p2), .val (.int p3), .val (.int p4), .val (.int p3), .val (.ref w_SERVER), .val (.ref b15), .val (.int (0 : Int32))]) rfl ?_
          show Steps p.tables e below (T16.setTop (mkF m 78 #[.val (.int p1), .val (.long q1), .second, .val (.long q2), .second, .val (.int p2), .val (.int p3), .val (.int p4), .val (.int p3), .val (.ref w_SERVER), .val (.ref b15), .val (.int (0 : Int32))] [])) _
          refine XS.aload X16.here hx rfl (hb hby at_78) rfl rfl ?_
          show Steps p.tables e below (T16.setTop (mkF m 80 #[.val (.int p1), .val (.long q1), .second, .val (.long q2), .second, .val (.int p2), .val (.int p3), .val (.int p4), .val (.int p3), .val (.ref w_SERVER), .val (.ref b15), .val (.int (0 : Int32))] [(.ref b15)])) _
          refine st18.trans ?_
          show Steps p.tables e below (T18.setTop (mkF m 83 #[.val (.int p1), .val (.long q1), .second, .val (.long q2), .second, .val (.int p2), .val (.int p3), .val (.int p4), .val (.int p3), .val (.ref w_SERVER), .val (.ref b15), .val (.int (0 : Int32))] [(.int (own_ask p3))])) _
          refine XS.iload X18.here hx rfl (hb hby at_83) rfl ?_
          show Steps p.tables e below (T18.setTop (mkF m 85 #[.val (.int p1), .val (.long q1), .second, .val (.long q2), .second, .val (.int p2), .val (.int p3), .val (.int p4), .val (.int p3), .val (.ref w_SERVER), .val (.ref b15), .val (.int (0 : Int32))] [(.int (0 : Int32)), (.int (own_ask p3))])) _
          refine XS.icmpNo X18.here hx rfl (hb hby at_85) rfl (teq hd19).2 ?_
          show Steps p.tables e below (T18.setTop (mkF m 88 #[.val (.int p1), .val (.long q1), .second, .val (.long q2), .second, .val (.int p2), .val (.int p3), .val (.int p4), .val (.int p3), .val (.ref w_SERVER), .val (.ref b15), .val (.int (0 : Int32))] [])) _
          refine XS.iconst X18.here hx rfl (hb hby at_88) ?_
          show Steps p.tables e below (T18.setTop (mkF m 89 #[.val (.int p1), .val (.long q1), .second, .val (.long q2), .second, .val (.int p2), .val (.int p3), .val (.int p4), .val (.int p3), .val (.ref w_SERVER), .val (.ref b15), .val (.int (0 : Int32))] [(.int (1 : Int32))])) _
          refine XS.goto X18.here hx rfl (pc0 := 89) (pc' := 93) rfl (hb hby at_89) (by decide) (by decide) ?_
          show Steps p.tables e below (T18.setTop (mkF m 93 #[.val (.int p1), .val (.long q1), .second, .val (.long q2), .second, .val (.int p2), .val (.int p3), .val (.int p4), .val (.int p3), .val (.ref w_SERVER), .val (.ref b15), .val (.int (0 : Int32))] [(.int (1 : Int32))])) _
          exact retN X18 hx (t := .boolean) Bd.returns (by simp) (hb hby at_93) hr
        · show Q_rm0 Z p1 q1 q2 p2 p3 p4 w_CLIENT w_SERVER h0 n0 _ T18.heap _
          rw [eq18]
          exact ⟨rfl, N18⟩
      · have pre20 : ∀ t, Steps p.tables e below (T16.setTop (mkF m 68 #[.val (.int p1), .val (.long q1), .second, .val (.long q2), .second, .val (.int p2), .val (.int p3), .val (.int p4), .val (.int p3), .val (.ref w_SERVER), .val (.ref b15), .unset] [(.int (2 : Int32)), (.int p3)])) t → Steps p.tables e below (s₁.setTop (entryFrame m #[(.int p1), (.long q1), (.long q2), (.int p2), (.int p3), (.int p4)] maxLocals)) t := by
          intro t kt
          refine pre17 _ ?_
          show Steps p.tables e below (T16.setTop (mkF m 62 #[.val (.int p1), .val (.long q1), .second, .val (.long q2), .second, .val (.int p2), .val (.int p3), .val (.int p4), .val (.int p3), .val (.ref w_SERVER), .val (.ref b15), .unset] [(.int (1 : Int32)), (.int p3)])) _
          refine XS.icmpNo X16.here hx rfl (hb hby at_62) rfl (flt hc62_17).1 ?_
          show Steps p.tables e below (T16.setTop (mkF m 65 #[.val (.int p1), .val (.long q1), .second, .val (.long q2), .second, .val (.int p2), .val (.int p3), .val (.int p4), .val (.int p3), .val (.ref w_SERVER), .val (.ref b15), .unset] [])) _
          refine XS.iload X16.here hx rfl (hb hby at_65) rfl ?_
          show Steps p.tables e below (T16.setTop (mkF m 67 #[.val (.int p1), .val (.long q1), .second, .val (.long q2), .second, .val (.int p2), .val (.int p3), .val (.int p4), .val (.int p3), .val (.ref w_SERVER), .val (.ref b15), .unset] [(.int p3)])) _
          refine XS.iconst X16.here hx rfl (hb hby at_67) ?_
          exact kt
        by_cases hc68_20 : (2 : Int32) < p3
        · obtain ⟨cq21, kq21, q21a, q21b, q21c⟩ := isOf hZ rfl Ea16
          obtain ⟨_, _, ⟨T21, L21, k21, n21⟩, -, X21, ⟨Lc21, hQ21, l21, y21, z21⟩, st21⟩ := X16.virtualBack hx (y := (⟨"com/example/riposte/riposte/txn/Notify", "asksForRetry", "()Z"⟩ : MethodName)) (z := (⟨"com/example/riposte/riposte/txn/Notify", "asksForRetry", "()Z"⟩ : MethodName)) hown (mvT hZ (hw _ (List.mem_of_getElem? (i := 31) rfl))) (mvT hZ (hw _ (List.mem_of_getElem? (i := 32) rfl))) (notFace_of_selects (args := #[]) (mvT hZ (hw _ (List.mem_of_getElem? (i := 34) rfl)))) (mvT hZ (hw _ (List.mem_of_getElem? (i := 34) rfl))) (mvT hZ (hw _ (List.mem_of_getElem? (i := 33) rfl))) (by decide) (backOf (W := 0) (asksForRetry l Z a0 hw [] b15 p3 T16.heap n0 O16 Fc16) hZ (hw _ (List.mem_of_getElem? (i := 35) rfl)) (hw _ (List.mem_of_getElem? (i := 5) rfl)) (by decide) (by decide)) q21a q21c (g := (mkF m 80 #[.val (.int p1), .val (.long q1), .second, .val (.long q2), .second, .val (.int p2), .val (.int p3), .val (.int p4), .val (.int p3), .val (.ref w_SERVER), .val (.ref b15), .val (.int (0 : Int32))] [(.ref b15)])) rfl (by rw [hml]; rfl) (Steps.refl _) (argsL := []) (rest := []) (lenOf pd___Z rfl) rfl (by show 2 * 0 + _ ≤ _; exact Nat.le_of_eq rfl) (hb hby at_80) (fun _ _ => ⟨rfl, rfl, (by decide : 1 + 0 ≤ _), (by decide : 7 + 0 ≤ _)⟩)
          dsimp only [Pt.U, Pt.locs, Pt.cells, Pt.slots] at X21 l21 y21 z21 st21 hQ21
          subst l21 y21 z21
          obtain ⟨rfl, Nq21, eq21⟩ := hQ21
          have N21 := Fr.app N16 Nq21
          have hd22 : (own_ask p3) = (0 : Int32) := own_ask_gt hc68_20
          obtain ⟨fs, hr, hrun, hended, hW, hsame⟩ := X21.leave (v := some (.int (1 : Int32))) (fun h => by rw [Bd.returns] at h; cases h)
          refine ⟨_, _, pre20 _ ?_, hrun, hended, _, _, rfl, ?_, ⟨_, rfl⟩, hW, hsame.mono (by decide) (by decide)⟩
          · show Steps p.tables e below (T16.setTop (mkF m 68 #[.val (.int p1), .val (.long q1), .second, .val (.long q2), .second, .val (.int p2), .val (.int p3), .val (.int p4), .val (.int p3), .val (.ref w_SERVER), .val (.ref b15), .unset] [(.int (2 : Int32)), (.int p3)])) _
            refine XS.icmpYes X16.here hx rfl (pc0 := 68) (pc' := 75) rfl (hb hby at_68) rfl (tlt hc68_20).2.2.1 (by decide) (by decide) ?_
            show Steps p.tables e below (T16.setTop (mkF m 75 #[.val (.int p1), .val (.long q1), .second, .val (.long q2), .second, .val (.int p2), .val (.int p3), .val (.int p4), .val (.int p3), .val (.ref w_SERVER), .val (.ref b15), .unset] [])) _
            refine XS.iconst X16.here hx rfl (hb hby at_75) ?_
            show Steps p.tables e below (T16.setTop (mkF m 76 #[.val (.int p1), .val (.long q1), .second, .val (.long q2), .second, .val (.int p2), .val (.int p3), .val (.int p4), .val (.int p3), .val (.ref w_SERVER), .val (.ref b15), .unset] [(.int (0 : Int32))])) _
            refine XS.istore X16.here hx rfl (hb hby at_76) rfl (l' := #[.val (.int p1), .val (.long q1), .second, .val (.long q2), .second, .val (.int p2), .val (.int p3), .val (.int p4), .val (.int p3), .val (.ref w_SERVER), .val (.ref b15), .val (.int (0 : Int32))]) rfl ?_
            show Steps p.tables e below (T16.setTop (mkF m 78 #[.val (.int p1), .val (.long q1), .second, .val (.long q2), .second, .val (.int p2), .val (.int p3), .val (.int p4), .val (.int p3), .val (.ref w_SERVER), .val (.ref b15), .val (.int (0 : Int32))] [])) _
            refine XS.aload X16.here hx rfl (hb hby at_78) rfl rfl ?_
            show Steps p.tables e below (T16.setTop (mkF m 80 #[.val (.int p1), .val (.long q1), .second, .val (.long q2), .second, .val (.int p2), .val (.int p3), .val (.int p4), .val (.int p3), .val (.ref w_SERVER), .val (.ref b15), .val (.int (0 : Int32))] [(.ref b15)])) _
            refine st21.trans ?_
            show Steps p.tables e below (T21.setTop (mkF m 83 #[.val (.int p1), .val (.long q1), .second, .val (.long q2), .second, .val (.int p2), .val (.int p3), .val (.int p4), .val (.int p3), .val (.ref w_SERVER), .val (.ref b15), .val (.int (0 : Int32))] [(.int (own_ask p3))])) _
            refine XS.iload X21.here hx rfl (hb hby at_83) rfl ?_
            show Steps p.tables e below (T21.setTop (mkF m 85 #[.val (.int p1), .val (.long q1), .second, .val (.long q2), .second, .val (.int p2), .val (.int p3), .val (.int p4), .val (.int p3), .val (.ref w_SERVER), .val (.ref b15), .val (.int (0 : Int32))] [(.int (0 : Int32)), (.int (own_ask p3))])) _
            refine XS.icmpNo X21.here hx rfl (hb hby at_85) rfl (teq hd22).2 ?_
            show Steps p.tables e below (T21.setTop (mkF m 88 #[.val (.int p1), .val (.long q1), .second, .val (.long q2), .second, .val (.int p2), .val (.int p3), .val (.int p4), .val (.int p3), .val (.ref w_SERVER), .val (.ref b15), .val (.int (0 : Int32))] [])) _
            refine XS.iconst X21.here hx rfl (hb hby at_88) ?_
            show Steps p.tables e below (T21.setTop (mkF m 89 #[.val (.int p1), .val (.long q1), .second, .val (.long q2), .second, .val (.int p2), .val (.int p3), .val (.int p4), .val (.int p3), .val (.ref w_SERVER), .val (.ref b15), .val (.int (0 : Int32))] [(.int (1 : Int32))])) _
            refine XS.goto X21.here hx rfl (pc0 := 89) (pc' := 93) rfl (hb hby at_89) (by decide) (by decide) ?_
            show Steps p.tables e below (T21.setTop (mkF m 93 #[.val (.int p1), .val (.long q1), .second, .val (.long q2), .second, .val (.int p2), .val (.int p3), .val (.int p4), .val (.int p3), .val (.ref w_SERVER), .val (.ref b15), .val (.int (0 : Int32))] [(.int (1 : Int32))])) _
            exact retN X21 hx (t := .boolean) Bd.returns (by simp) (hb hby at_93) hr
          · show Q_rm0 Z p1 q1 q2 p2 p3 p4 w_CLIENT w_SERVER h0 n0 _ T21.heap _
            rw [eq21]
            exact ⟨rfl, N21⟩
        · obtain ⟨cq23, kq23, q23a, q23b, q23c⟩ := isOf hZ rfl Ea16
          obtain ⟨_, _, ⟨T23, L23, k23, n23⟩, -, X23, ⟨Lc23, hQ23, l23, y23, z23⟩, st23⟩ := X16.virtualBack hx (y := (⟨"com/example/riposte/riposte/txn/Notify", "asksForRetry", "()Z"⟩ : MethodName)) (z := (⟨"com/example/riposte/riposte/txn/Notify", "asksForRetry", "()Z"⟩ : MethodName)) hown (mvT hZ (hw _ (List.mem_of_getElem? (i := 31) rfl))) (mvT hZ (hw _ (List.mem_of_getElem? (i := 32) rfl))) (notFace_of_selects (args := #[]) (mvT hZ (hw _ (List.mem_of_getElem? (i := 34) rfl)))) (mvT hZ (hw _ (List.mem_of_getElem? (i := 34) rfl))) (mvT hZ (hw _ (List.mem_of_getElem? (i := 33) rfl))) (by decide) (backOf (W := 0) (asksForRetry l Z a0 hw [] b15 p3 T16.heap n0 O16 Fc16) hZ (hw _ (List.mem_of_getElem? (i := 35) rfl)) (hw _ (List.mem_of_getElem? (i := 5) rfl)) (by decide) (by decide)) q23a q23c (g := (mkF m 80 #[.val (.int p1), .val (.long q1), .second, .val (.long q2), .second, .val (.int p2), .val (.int p3), .val (.int p4), .val (.int p3), .val (.ref w_SERVER), .val (.ref b15), .val (.int (1 : Int32))] [(.ref b15)])) rfl (by rw [hml]; rfl) (Steps.refl _) (argsL := []) (rest := []) (lenOf pd___Z rfl) rfl (by show 2 * 0 + _ ≤ _; exact Nat.le_of_eq rfl) (hb hby at_80) (fun _ _ => ⟨rfl, rfl, (by decide : 1 + 0 ≤ _), (by decide : 7 + 0 ≤ _)⟩)
          dsimp only [Pt.U, Pt.locs, Pt.cells, Pt.slots] at X23 l23 y23 z23 st23 hQ23
          subst l23 y23 z23
          obtain ⟨rfl, Nq23, eq23⟩ := hQ23
          have N23 := Fr.app N16 Nq23
          have hd24 : (own_ask p3) = (1 : Int32) := own_ask_in hc62_17 hc68_20
          obtain ⟨fs, hr, hrun, hended, hW, hsame⟩ := X23.leave (v := some (.int (1 : Int32))) (fun h => by rw [Bd.returns] at h; cases h)
          refine ⟨_, _, pre20 _ ?_, hrun, hended, _, _, rfl, ?_, ⟨_, rfl⟩, hW, hsame.mono (by decide) (by decide)⟩
          · show Steps p.tables e below (T16.setTop (mkF m 68 #[.val (.int p1), .val (.long q1), .second, .val (.long q2), .second, .val (.int p2), .val (.int p3), .val (.int p4), .val (.int p3), .val (.ref w_SERVER), .val (.ref b15), .unset] [(.int (2 : Int32)), (.int p3)])) _
            refine XS.icmpNo X16.here hx rfl (hb hby at_68) rfl (flt hc68_20).2.2.1 ?_
            show Steps p.tables e below (T16.setTop (mkF m 71 #[.val (.int p1), .val (.long q1), .second, .val (.long q2), .second, .val (.int p2), .val (.int p3), .val (.int p4), .val (.int p3), .val (.ref w_SERVER), .val (.ref b15), .unset] [])) _
            refine XS.iconst X16.here hx rfl (hb hby at_71) ?_
            show Steps p.tables e below (T16.setTop (mkF m 72 #[.val (.int p1), .val (.long q1), .second, .val (.long q2), .second, .val (.int p2), .val (.int p3), .val (.int p4), .val (.int p3), .val (.ref w_SERVER), .val (.ref b15), .unset] [(.int (1 : Int32))])) _
            refine XS.goto X16.here hx rfl (pc0 := 72) (pc' := 76) rfl (hb hby at_72) (by decide) (by decide) ?_
            show Steps p.tables e below (T16.setTop (mkF m 76 #[.val (.int p1), .val (.long q1), .second, .val (.long q2), .second, .val (.int p2), .val (.int p3), .val (.int p4), .val (.int p3), .val (.ref w_SERVER), .val (.ref b15), .unset] [(.int (1 : Int32))])) _
            refine XS.istore X16.here hx rfl (hb hby at_76) rfl (l' := #[.val (.int p1), .val (.long q1), .second, .val (.long q2), .second, .val (.int p2), .val (.int p3), .val (.int p4), .val (.int p3), .val (.ref w_SERVER), .val (.ref b15), .val (.int (1 : Int32))]) rfl ?_
            show Steps p.tables e below (T16.setTop (mkF m 78 #[.val (.int p1), .val (.long q1), .second, .val (.long q2), .second, .val (.int p2), .val (.int p3), .val (.int p4), .val (.int p3), .val (.ref w_SERVER), .val (.ref b15), .val (.int (1 : Int32))] [])) _
            refine XS.aload X16.here hx rfl (hb hby at_78) rfl rfl ?_
            show Steps p.tables e below (T16.setTop (mkF m 80 #[.val (.int p1), .val (.long q1), .second, .val (.long q2), .second, .val (.int p2), .val (.int p3), .val (.int p4), .val (.int p3), .val (.ref w_SERVER), .val (.ref b15), .val (.int (1 : Int32))] [(.ref b15)])) _
            refine st23.trans ?_
            show Steps p.tables e below (T23.setTop (mkF m 83 #[.val (.int p1), .val (.long q1), .second, .val (.long q2), .second, .val (.int p2), .val (.int p3), .val (.int p4), .val (.int p3), .val (.ref w_SERVER), .val (.ref b15), .val (.int (1 : Int32))] [(.int (own_ask p3))])) _
            refine XS.iload X23.here hx rfl (hb hby at_83) rfl ?_
            show Steps p.tables e below (T23.setTop (mkF m 85 #[.val (.int p1), .val (.long q1), .second, .val (.long q2), .second, .val (.int p2), .val (.int p3), .val (.int p4), .val (.int p3), .val (.ref w_SERVER), .val (.ref b15), .val (.int (1 : Int32))] [(.int (1 : Int32)), (.int (own_ask p3))])) _
            refine XS.icmpNo X23.here hx rfl (hb hby at_85) rfl (teq hd24).2 ?_
            show Steps p.tables e below (T23.setTop (mkF m 88 #[.val (.int p1), .val (.long q1), .second, .val (.long q2), .second, .val (.int p2), .val (.int p3), .val (.int p4), .val (.int p3), .val (.ref w_SERVER), .val (.ref b15), .val (.int (1 : Int32))] [])) _
            refine XS.iconst X23.here hx rfl (hb hby at_88) ?_
            show Steps p.tables e below (T23.setTop (mkF m 89 #[.val (.int p1), .val (.long q1), .second, .val (.long q2), .second, .val (.int p2), .val (.int p3), .val (.int p4), .val (.int p3), .val (.ref w_SERVER), .val (.ref b15), .val (.int (1 : Int32))] [(.int (1 : Int32))])) _
            refine XS.goto X23.here hx rfl (pc0 := 89) (pc' := 93) rfl (hb hby at_89) (by decide) (by decide) ?_
            show Steps p.tables e below (T23.setTop (mkF m 93 #[.val (.int p1), .val (.long q1), .second, .val (.long q2), .second, .val (.int p2), .val (.int p3), .val (.int p4), .val (.int p3), .val (.ref w_SERVER), .val (.ref b15), .val (.int (1 : Int32))] [(.int (1 : Int32))])) _
            exact retN X23 hx (t := .boolean) Bd.returns (by simp) (hb hby at_93) hr
          · show Q_rm0 Z p1 q1 q2 p2 p3 p4 w_CLIENT w_SERVER h0 n0 _ T23.heap _
            rw [eq23]
            exact ⟨rfl, N23⟩
  · have pre25 : ∀ t, Steps p.tables e below (s₁.setTop (mkF m 25 #[.val (.int p1), .val (.long q1), .second, .val (.long q2), .second, .val (.int p2), .val (.int p3), .val (.int p4), .val (.int (((p1 >>> ((1 : Int32) &&& 31)) &&& (15 : Int32)) - (4 : Int32))), .unset, .unset, .unset] [(.int (p1 &&& (32 : Int32)))])) t → Steps p.tables e below (s₁.setTop (entryFrame m #[(.int p1), (.long q1), (.long q2), (.int p2), (.int p3), (.int p4)] maxLocals)) t := by
      intro t kt
      refine pre1 _ ?_
      show Steps p.tables e below (s₁.setTop (mkF m 3 #[.val (.int p1), .val (.long q1), .second, .val (.long q2), .second, .val (.int p2), .val (.int p3), .val (.int p4), .unset, .unset, .unset, .unset] [(.int (p1 &&& (1 : Int32)))])) _
      refine XS.ifNo X0.here hx rfl (hb hby at_3) rfl ((if0 _ _).trans (feq hc3_1).1) ?_
      show Steps p.tables e below (s₁.setTop (mkF m 6 #[.val (.int p1), .val (.long q1), .second, .val (.long q2), .second, .val (.int p2), .val (.int p3), .val (.int p4), .unset, .unset, .unset, .unset] [])) _
      refine XS.iloadN X0.here hx rfl (hb hby at_6) rfl ?_
      show Steps p.tables e below (s₁.setTop (mkF m 7 #[.val (.int p1), .val (.long q1), .second, .val (.long q2), .second, .val (.int p2), .val (.int p3), .val (.int p4), .unset, .unset, .unset, .unset] [(.int p1)])) _
      refine XS.iconst X0.here hx rfl (hb hby at_7) ?_
      show Steps p.tables e below (s₁.setTop (mkF m 8 #[.val (.int p1), .val (.long q1), .second, .val (.long q2), .second, .val (.int p2), .val (.int p3), .val (.int p4), .unset, .unset, .unset, .unset] [(.int (1 : Int32)), (.int p1)])) _
      refine XS.ishr X0.here hx rfl (hb hby at_8) rfl ?_
      show Steps p.tables e below (s₁.setTop (mkF m 9 #[.val (.int p1), .val (.long q1), .second, .val (.long q2), .second, .val (.int p2), .val (.int p3), .val (.int p4), .unset, .unset, .unset, .unset] [(.int (p1 >>> ((1 : Int32) &&& 31)))])) _
      refine XS.bipush X0.here hx rfl (hb hby at_9) ?_
      show Steps p.tables e below (s₁.setTop (mkF m 11 #[.val (.int p1), .val (.long q1), .second, .val (.long q2), .second, .val (.int p2), .val (.int p3), .val (.int p4), .unset, .unset, .unset, .unset] [(.int (15 : Int32)), (.int (p1 >>> ((1 : Int32) &&& 31)))])) _
      refine XS.iand X0.here hx rfl (hb hby at_11) rfl ?_
      show Steps p.tables e below (s₁.setTop (mkF m 12 #[.val (.int p1), .val (.long q1), .second, .val (.long q2), .second, .val (.int p2), .val (.int p3), .val (.int p4), .unset, .unset, .unset, .unset] [(.int ((p1 >>> ((1 : Int32) &&& 31)) &&& (15 : Int32)))])) _
      refine XS.iconst X0.here hx rfl (hb hby at_12) ?_
      show Steps p.tables e below (s₁.setTop (mkF m 13 #[.val (.int p1), .val (.long q1), .second, .val (.long q2), .second, .val (.int p2), .val (.int p3), .val (.int p4), .unset, .unset, .unset, .unset] [(.int (4 : Int32)), (.int ((p1 >>> ((1 : Int32) &&& 31)) &&& (15 : Int32)))])) _
      refine XS.isub X0.here hx rfl (hb hby at_13) rfl ?_
      show Steps p.tables e below (s₁.setTop (mkF m 14 #[.val (.int p1), .val (.long q1), .second, .val (.long q2), .second, .val (.int p2), .val (.int p3), .val (.int p4), .unset, .unset, .unset, .unset] [(.int (((p1 >>> ((1 : Int32) &&& 31)) &&& (15 : Int32)) - (4 : Int32)))])) _
      refine XS.goto X0.here hx rfl (pc0 := 14) (pc' := 19) rfl (hb hby at_14) (by decide) (by decide) ?_
      show Steps p.tables e below (s₁.setTop (mkF m 19 #[.val (.int p1), .val (.long q1), .second, .val (.long q2), .second, .val (.int p2), .val (.int p3), .val (.int p4), .unset, .unset, .unset, .unset] [(.int (((p1 >>> ((1 : Int32) &&& 31)) &&& (15 : Int32)) - (4 : Int32)))])) _
      refine XS.istore X0.here hx rfl (hb hby at_19) rfl (l' := #[.val (.int p1), .val (.long q1), .second, .val (.long q2), .second, .val (.int p2), .val (.int p3), .val (.int p4), .val (.int (((p1 >>> ((1 : Int32) &&& 31)) &&& (15 : Int32)) - (4 : Int32))), .unset, .unset, .unset]) rfl ?_
      show Steps p.tables e below (s₁.setTop (mkF m 21 #[.val (.int p1), .val (.long q1), .second, .val (.long q2), .second, .val (.int p2), .val (.int p3), .val (.int p4), .val (.int (((p1 >>> ((1 : Int32) &&& 31)) &&& (15 : Int32)) - (4 : Int32))), .unset, .unset, .unset] [])) _
      refine XS.iloadN X0.here hx rfl (hb hby at_21) rfl ?_
      show Steps p.tables e below (s₁.setTop (mkF m 22 #[.val (.int p1), .val (.long q1), .second, .val (.long q2), .second, .val (.int p2), .val (.int p3), .val (.int p4), .val (.int (((p1 >>> ((1 : Int32) &&& 31)) &&& (15 : Int32)) - (4 : Int32))), .unset, .unset, .unset] [(.int p1)])) _
      refine XS.bipush X0.here hx rfl (hb hby at_22) ?_
      show Steps p.tables e below (s₁.setTop (mkF m 24 #[.val (.int p1), .val (.long q1), .second, .val (.long q2), .second, .val (.int p2), .val (.int p3), .val (.int p4), .val (.int (((p1 >>> ((1 : Int32) &&& 31)) &&& (15 : Int32)) - (4 : Int32))), .unset, .unset, .unset] [(.int (32 : Int32)), (.int p1)])) _
      refine XS.iand X0.here hx rfl (hb hby at_24) rfl ?_
      exact kt
    by_cases hc25_25 : (p1 &&& (32 : Int32)) = (0 : Int32)
    · obtain ⟨T26, X26, e26, st26⟩ := getS2 X0 hx hZ hown (host := "") (Or.inl (hw _ (List.mem_of_getElem? (i := 0) rfl))) Via.refl e0 (S_w_CLIENT.ext O0.2) (g := (mkF m 34 #[.val (.int p1), .val (.long q1), .second, .val (.long q2), .second, .val (.int p2), .val (.int p3), .val (.int p4), .val (.int (((p1 >>> ((1 : Int32) &&& 31)) &&& (15 : Int32)) - (4 : Int32))), .unset, .unset, .unset] [])) rfl (hb hby at_34)
      obtain ⟨T27, h27, X27, e27, E27, A27, D27, U27, st27⟩ := newO X26 hx hZ hown (hw _ (List.mem_of_getElem? (i := 3) rfl)) (hw _ (List.mem_of_getElem? (i := 4) rfl)) (hw _ (List.mem_of_getElem? (i := 5) rfl)) e26 (g := (mkF m 39 #[.val (.int p1), .val (.long q1), .second, .val (.long q2), .second, .val (.int p2), .val (.int p3), .val (.int p4), .val (.int (((p1 >>> ((1 : Int32) &&& 31)) &&& (15 : Int32)) - (4 : Int32))), .val (.ref w_CLIENT), .unset, .unset] [])) rfl (hb hby at_39) (by decide) (by decide)
      obtain ⟨b27, g27⟩ : ∃ z, z = h0.size := ⟨_, rfl⟩
      rw [← g27] at A27 D27 st27
      have g_b27 : n0 ≤ b27 := Nat.le_trans (own_le O0) (Nat.le_of_eq g27.symm)
      have O27 := O0.ext E27
      have F_operation_b27 : Fld Z h27 b27 "com/example/riposte/riposte/txn/Notify" "operation" "Lcom/example/riposte/riposte/txn/Notify$Operation;" .null := D27 (Or.inr (hw _ (List.mem_of_getElem? (i := 18) rfl))) (ty := (.object "com/example/riposte/riposte/txn/Notify$Operation")) (by decide)
      have F_client_b27 : Fld Z h27 b27 "com/example/riposte/riposte/txn/Notify" "client" "J" (.long (0 : Int64)) := D27 (Or.inr (hw _ (List.mem_of_getElem? (i := 20) rfl))) (ty := .long) (by decide)
      have F_server_b27 : Fld Z h27 b27 "com/example/riposte/riposte/txn/Notify" "server" "J" (.long (0 : Int64)) := D27 (Or.inr (hw _ (List.mem_of_getElem? (i := 22) rfl))) (ty := .long) (by decide)
      have F_transaction_b27 : Fld Z h27 b27 "com/example/riposte/riposte/txn/Notify" "transaction" "I" (.int (0 : Int32)) := D27 (Or.inr (hw _ (List.mem_of_getElem? (i := 24) rfl))) (ty := .int) (by decide)
      have F_control_b27 : Fld Z h27 b27 "com/example/riposte/riposte/txn/Notify" "control" "I" (.int (0 : Int32)) := D27 (Or.inr (hw _ (List.mem_of_getElem? (i := 26) rfl))) (ty := .int) (by decide)
      have F_delivery_b27 : Fld Z h27 b27 "com/example/riposte/riposte/txn/Notify" "delivery" "I" (.int (0 : Int32)) := D27 (Or.inr (hw _ (List.mem_of_getElem? (i := 28) rfl))) (ty := .int) (by decide)
      have F_code_b27 : Fld Z h27 b27 "com/example/riposte/riposte/txn/Notify" "code" "I" (.int (0 : Int32)) := D27 (Or.inr (hw _ (List.mem_of_getElem? (i := 30) rfl))) (ty := .int) (by decide)
      obtain ⟨_, _, ⟨T28, L28, k28, n28⟩, -, X28, ⟨Lc28, hQ28, l28, y28, z28⟩, st28⟩ := X27.specialBack hx (y := (⟨"com/example/riposte/riposte/txn/Notify", "<init>", "(Lcom/example/riposte/riposte/txn/Notify$Operation;JJIIII)V"⟩ : MethodName)) rfl hown (mvT hZ (hw _ (List.mem_of_getElem? (i := 6) rfl))) (mvT hZ (hw _ (List.mem_of_getElem? (i := 7) rfl))) (mvT hZ (hw _ (List.mem_of_getElem? (i := 8) rfl))) (by decide) (backOf (W := 1) (ntI l Z a0 hw [] b27 w_CLIENT q1 q2 p2 p4 p1 (((p1 >>> ((1 : Int32) &&& 31)) &&& (15 : Int32)) - (4 : Int32)) h27 n0 O27 A27 g_b27 F_operation_b27 F_client_b27 F_server_b27 F_transaction_b27 F_control_b27 F_delivery_b27 F_code_b27) hZ (hw _ (List.mem_of_getElem? (i := 8) rfl)) (hw _ (List.mem_of_getElem? (i := 5) rfl)) (by decide) (by decide)) (g := (mkF m 54 #[.val (.int p1), .val (.long q1), .second, .val (.long q2), .second, .val (.int p2), .val (.int p3), .val (.int p4), .val (.int (((p1 >>> ((1 : Int32) &&& 31)) &&& (15 : Int32)) - (4 : Int32))), .val (.ref w_CLIENT), .unset, .unset] [(.int (((p1 >>> ((1 : Int32) &&& 31)) &&& (15 : Int32)) - (4 : Int32))), (.int p1), (.int p4), (.int p2), (.long q2), (.long q1), (.ref w_CLIENT), (.ref b27), (.ref b27)])) rfl (by rw [hml]; rfl) (Steps.refl _) (a := b27) (argsL := [(.ref w_CLIENT), (.long q1), (.long q2), (.int p2), (.int p4), (.int p1), (.int (((p1 >>> ((1 : Int32) &&& 31)) &&& (15 : Int32)) - (4 : Int32)))]) (rest := [(.ref b27)]) (lenOf pd__Lcom_example_riposte_riposte_txn_Notify_Operation_JJIIII_V rfl) rfl (by show 2 * 0 + _ ≤ _; exact Nat.le_of_eq rfl) (hb hby at_54) (fun _ _ => ⟨rfl, e27, (by decide : 1 + 0 ≤ _), (by decide : 7 + 0 ≤ _)⟩)
      dsimp only [Pt.U, Pt.locs, Pt.cells, Pt.slots] at X28 l28 y28 z28 st28 hQ28
      subst l28 y28 z28
      obtain ⟨rfl, Nq28, Kq28, Ea28, Fc28⟩ := hQ28
      have N28 := Fr.app N0 Nq28
      have O28 := O27.keep Kq28 (allS g_b27 all0)
      have pre29 : ∀ t, Steps p.tables e below (T28.setTop (mkF m 62 #[.val (.int p1), .val (.long q1), .second, .val (.long q2), .second, .val (.int p2), .val (.int p3), .val (.int p4), .val (.int (((p1 >>> ((1 : Int32) &&& 31)) &&& (15 : Int32)) - (4 : Int32))), .val (.ref w_CLIENT), .val (.ref b27), .unset] [(.int (1 : Int32)), (.int (((p1 >>> ((1 : Int32) &&& 31)) &&& (15 : Int32)) - (4 : Int32)))])) t → Steps p.tables e below (s₁.setTop (entryFrame m #[(.int p1), (.long q1), (.long q2), (.int p2), (.int p3), (.int p4)] maxLocals)) t := by
        intro t kt
        refine pre25 _ ?_
        show Steps p.tables e below (s₁.setTop (mkF m 25 #[.val (.int p1), .val (.long q1), .second, .val (.long q2), .second, .val (.int p2), .val (.int p3), .val (.int p4), .val (.int (((p1 >>> ((1 : Int32) &&& 31)) &&& (15 : Int32)) - (4 : Int32))), .unset, .unset, .unset] [(.int (p1 &&& (32 : Int32)))])) _
        refine XS.ifYes X0.here hx rfl (pc0 := 25) (pc' := 34) rfl (hb hby at_25) rfl ((if0 _ _).trans (teq hc25_25).1) (by decide) (by decide) ?_
        show Steps p.tables e below (s₁.setTop (mkF m 34 #[.val (.int p1), .val (.long q1), .second, .val (.long q2), .second, .val (.int p2), .val (.int p3), .val (.int p4), .val (.int (((p1 >>> ((1 : Int32) &&& 31)) &&& (15 : Int32)) - (4 : Int32))), .unset, .unset, .unset] [])) _
        refine st26 _ ?_
        show Steps p.tables e below (T26.setTop (mkF m 37 #[.val (.int p1), .val (.long q1), .second, .val (.long q2), .second, .val (.int p2), .val (.int p3), .val (.int p4), .val (.int (((p1 >>> ((1 : Int32) &&& 31)) &&& (15 : Int32)) - (4 : Int32))), .unset, .unset, .unset] [(.ref w_CLIENT)])) _
        refine XS.astore X26.here hx rfl (hb hby at_37) rfl rfl (l' := #[.val (.int p1), .val (.long q1), .second, .val (.long q2), .second, .val (.int p2), .val (.int p3), .val (.int p4), .val (.int (((p1 >>> ((1 : Int32) &&& 31)) &&& (15 : Int32)) - (4 : Int32))), .val (.ref w_CLIENT), .unset, .unset]) rfl ?_
        show Steps p.tables e below (T26.setTop (mkF m 39 #[.val (.int p1), .val (.long q1), .second, .val (.long q2), .second, .val (.int p2), .val (.int p3), .val (.int p4), .val (.int (((p1 >>> ((1 : Int32) &&& 31)) &&& (15 : Int32)) - (4 : Int32))), .val (.ref w_CLIENT), .unset, .unset] [])) _
        refine st27 _ ?_
        show Steps p.tables e below (T27.setTop (mkF m 42 #[.val (.int p1), .val (.long q1), .second, .val (.long q2), .second, .val (.int p2), .val (.int p3), .val (.int p4), .val (.int (((p1 >>> ((1 : Int32) &&& 31)) &&& (15 : Int32)) - (4 : Int32))), .val (.ref w_CLIENT), .unset, .unset] [(.ref b27)])) _
        refine XS.dup X27.here hx rfl (hb hby at_42) rfl rfl ?_
        show Steps p.tables e below (T27.setTop (mkF m 43 #[.val (.int p1), .val (.long q1), .second, .val (.long q2), .second, .val (.int p2), .val (.int p3), .val (.int p4), .val (.int (((p1 >>> ((1 : Int32) &&& 31)) &&& (15 : Int32)) - (4 : Int32))), .val (.ref w_CLIENT), .unset, .unset] [(.ref b27), (.ref b27)])) _
        refine XS.aload X27.here hx rfl (hb hby at_43) rfl rfl ?_
        show Steps p.tables e below (T27.setTop (mkF m 45 #[.val (.int p1), .val (.long q1), .second, .val (.long q2), .second, .val (.int p2), .val (.int p3), .val (.int p4), .val (.int (((p1 >>> ((1 : Int32) &&& 31)) &&& (15 : Int32)) - (4 : Int32))), .val (.ref w_CLIENT), .unset, .unset] [(.ref w_CLIENT), (.ref b27), (.ref b27)])) _
        refine XS.lloadN X27.here hx rfl (hb hby at_45) rfl ?_
        show Steps p.tables e below (T27.setTop (mkF m 46 #[.val (.int p1), .val (.long q1), .second, .val (.long q2), .second, .val (.int p2), .val (.int p3), .val (.int p4), .val (.int (((p1 >>> ((1 : Int32) &&& 31)) &&& (15 : Int32)) - (4 : Int32))), .val (.ref w_CLIENT), .unset, .unset] [(.long q1), (.ref w_CLIENT), (.ref b27), (.ref b27)])) _
        refine XS.lloadN X27.here hx rfl (hb hby at_46) rfl ?_
        show Steps p.tables e below (T27.setTop (mkF m 47 #[.val (.int p1), .val (.long q1), .second, .val (.long q2), .second, .val (.int p2), .val (.int p3), .val (.int p4), .val (.int (((p1 >>> ((1 : Int32) &&& 31)) &&& (15 : Int32)) - (4 : Int32))), .val (.ref w_CLIENT), .unset, .unset] [(.long q2), (.long q1), (.ref w_CLIENT), (.ref b27), (.ref b27)])) _
        refine XS.iload X27.here hx rfl (hb hby at_47) rfl ?_
        show Steps p.tables e below (T27.setTop (mkF m 49 #[.val (.int p1), .val (.long q1), .second, .val (.long q2), .second, .val (.int p2), .val (.int p3), .val (.int p4), .val (.int (((p1 >>> ((1 : Int32) &&& 31)) &&& (15 : Int32)) - (4 : Int32))), .val (.ref w_CLIENT), .unset, .unset] [(.int p2), (.long q2), (.long q1), (.ref w_CLIENT), (.ref b27), (.ref b27)])) _
        refine XS.iload X27.here hx rfl (hb hby at_49) rfl ?_
        show Steps p.tables e below (T27.setTop (mkF m 51 #[.val (.int p1), .val (.long q1), .second, .val (.long q2), .second, .val (.int p2), .val (.int p3), .val (.int p4), .val (.int (((p1 >>> ((1 : Int32) &&& 31)) &&& (15 : Int32)) - (4 : Int32))), .val (.ref w_CLIENT), .unset, .unset] [(.int p4), (.int p2), (.long q2), (.long q1), (.ref w_CLIENT), (.ref b27), (.ref b27)])) _
        refine XS.iloadN X27.here hx rfl (hb hby at_51) rfl ?_
        show Steps p.tables e below (T27.setTop (mkF m 52 #[.val (.int p1), .val (.long q1), .second, .val (.long q2), .second, .val (.int p2), .val (.int p3), .val (.int p4), .val (.int (((p1 >>> ((1 : Int32) &&& 31)) &&& (15 : Int32)) - (4 : Int32))), .val (.ref w_CLIENT), .unset, .unset] [(.int p1), (.int p4), (.int p2), (.long q2), (.long q1), (.ref w_CLIENT), (.ref b27), (.ref b27)])) _
        refine XS.iload X27.here hx rfl (hb hby at_52) rfl ?_
        show Steps p.tables e below (T27.setTop (mkF m 54 #[.val (.int p1), .val (.long q1), .second, .val (.long q2), .second, .val (.int p2), .val (.int p3), .val (.int p4), .val (.int (((p1 >>> ((1 : Int32) &&& 31)) &&& (15 : Int32)) - (4 : Int32))), .val (.ref w_CLIENT), .unset, .unset] [(.int (((p1 >>> ((1 : Int32) &&& 31)) &&& (15 : Int32)) - (4 : Int32))), (.int p1), (.int p4), (.int p2), (.long q2), (.long q1), (.ref w_CLIENT), (.ref b27), (.ref b27)])) _
        refine st28.trans ?_
        show Steps p.tables e below (T28.setTop (mkF m 57 #[.val (.int p1), .val (.long q1), .second, .val (.long q2), .second, .val (.int p2), .val (.int p3), .val (.int p4), .val (.int (((p1 >>> ((1 : Int32) &&& 31)) &&& (15 : Int32)) - (4 : Int32))), .val (.ref w_CLIENT), .unset, .unset] [(.ref b27)])) _
        refine XS.astore X28.here hx rfl (hb hby at_57) rfl rfl (l' := #[.val (.int p1), .val (.long q1), .second, .val (.long q2), .second, .val (.int p2), .val (.int p3), .val (.int p4), .val (.int (((p1 >>> ((1 : Int32) &&& 31)) &&& (15 : Int32)) - (4 : Int32))), .val (.ref w_CLIENT), .val (.ref b27), .unset]) rfl ?_
        show Steps p.tables e below (T28.setTop (mkF m 59 #[.val (.int p1), .val (.long q1), .second, .val (.long q2), .second, .val (.int p2), .val (.int p3), .val (.int p4), .val (.int (((p1 >>> ((1 : Int32) &&& 31)) &&& (15 : Int32)) - (4 : Int32))), .val (.ref w_CLIENT), .val (.ref b27), .unset] [])) _
        refine XS.iload X28.here hx rfl (hb hby at_59) rfl ?_
        show Steps p.tables e below (T28.setTop (mkF m 61 #[.val (.int p1), .val (.long q1), .second, .val (.long q2), .second, .val (.int p2), .val (.int p3), .val (.int p4), .val (.int (((p1 >>> ((1 : Int32) &&& 31)) &&& (15 : Int32)) - (4 : Int32))), .val (.ref w_CLIENT), .val (.ref b27), .unset] [(.int (((p1 >>> ((1 : Int32) &&& 31)) &&& (15 : Int32)) - (4 : Int32)))])) _
        refine XS.iconst X28.here hx rfl (hb hby at_61) ?_
        exact kt
      by_cases hc62_29 : (((p1 >>> ((1 : Int32) &&& 31)) &&& (15 : Int32)) - (4 : Int32)) < (1 : Int32)
      · obtain ⟨cq30, kq30, q30a, q30b, q30c⟩ := isOf hZ rfl Ea28
        obtain ⟨_, _, ⟨T30, L30, k30, n30⟩, -, X30, ⟨Lc30, hQ30, l30, y30, z30⟩, st30⟩ := X28.virtualBack hx (y := (⟨"com/example/riposte/riposte/txn/Notify", "asksForRetry", "()Z"⟩ : MethodName)) (z := (⟨"com/example/riposte/riposte/txn/Notify", "asksForRetry", "()Z"⟩ : MethodName)) hown (mvT hZ (hw _ (List.mem_of_getElem? (i := 31) rfl))) (mvT hZ (hw _ (List.mem_of_getElem? (i := 32) rfl))) (notFace_of_selects (args := #[]) (mvT hZ (hw _ (List.mem_of_getElem? (i := 34) rfl)))) (mvT hZ (hw _ (List.mem_of_getElem? (i := 34) rfl))) (mvT hZ (hw _ (List.mem_of_getElem? (i := 33) rfl))) (by decide) (backOf (W := 0) (asksForRetry l Z a0 hw [] b27 (((p1 >>> ((1 : Int32) &&& 31)) &&& (15 : Int32)) - (4 : Int32)) T28.heap n0 O28 Fc28) hZ (hw _ (List.mem_of_getElem? (i := 35) rfl)) (hw _ (List.mem_of_getElem? (i := 5) rfl)) (by decide) (by decide)) q30a q30c (g := (mkF m 80 #[.val (.int p1), .val (.long q1), .second, .val (.long q2), .second, .val (.int p2), .val (.int p3), .val (.int p4), .val (.int (((p1 >>> ((1 : Int32) &&& 31)) &&& (15 : Int32)) - (4 : Int32))), .val (.ref w_CLIENT), .val (.ref b27), .val (.int (0 : Int32))] [(.ref b27)])) rfl (by rw [hml]; rfl) (Steps.refl _) (argsL := []) (rest := []) (lenOf pd___Z rfl) rfl (by show 2 * 0 + _ ≤ _; exact Nat.le_of_eq rfl) (hb hby at_80) (fun _ _ => ⟨rfl, rfl, (by decide : 1 + 0 ≤ _), (by decide : 7 + 0 ≤ _)⟩)
        dsimp only [Pt.U, Pt.locs, Pt.cells, Pt.slots] at X30 l30 y30 z30 st30 hQ30
        subst l30 y30 z30
        obtain ⟨rfl, Nq30, eq30⟩ := hQ30
        have N30 := Fr.app N28 Nq30
        have hd31 : (own_ask (((p1 >>> ((1 : Int32) &&& 31)) &&& (15 : Int32)) - (4 : Int32))) = (0 : Int32) := own_ask_lt hc62_29
        obtain ⟨fs, hr, hrun, hended, hW, hsame⟩ := X30.leave (v := some (.int (1 : Int32))) (fun h => by rw [Bd.returns] at h; cases h)
        refine ⟨_, _, pre29 _ ?_, hrun, hended, _, _, rfl, ?_, ⟨_, rfl⟩, hW, hsame.mono (by decide) (by decide)⟩
        · show Steps p.tables e below (T28.setTop (mkF m 62 #[.val (.int p1), .val (.long q1), .second, .val (.long q2), .second, .val (.int p2), .val (.int p3), .val (.int p4), .val (.int (((p1 >>> ((1 : Int32) &&& 31)) &&& (15 : Int32)) - (4 : Int32))), .val (.ref w_CLIENT), .val (.ref b27), .unset] [(.int (1 : Int32)), (.int (((p1 >>> ((1 : Int32) &&& 31)) &&& (15 : Int32)) - (4 : Int32)))])) _
          refine XS.icmpYes X28.here hx rfl (pc0 := 62) (pc' := 75) rfl (hb hby at_62) rfl (tlt hc62_29).1 (by decide) (by decide) ?_
          show Steps p.tables e below (T28.setTop (mkF m 75 #[.val (.int p1), .val (.long q1), .second, .val (.long q2), .second, .val (.int p2), .val (.int p3), .val (.int p4), .val (.int (((p1 >>> ((1 : Int32) &&& 31)) &&& (15 : Int32)) - (4 : Int32))), .val (.ref w_CLIENT), .val (.ref b27), .unset] [])) _
          refine XS.iconst X28.here hx rfl (hb hby at_75) ?_
          show Steps p.tables e below (T28.setTop (mkF m 76 #[.val (.int p1), .val (.long q1), .second, .val (.long q2), .second, .val (.int p2), .val (.int p3), .val (.int p4), .val (.int (((p1 >>> ((1 : Int32) &&& 31)) &&& (15 : Int32)) - (4 : Int32))), .val (.ref w_CLIENT), .val (.ref b27), .unset] [(.int (0 : Int32))])) _
          refine XS.istore X28.here hx rfl (hb hby at_76) rfl (l' := #[.val (.int p1), .val (.long q1), .second, .val (.long q2), .second, .val (.int p2), .val (.int p3), .val (.int p4), .val (.int (((p1 >>> ((1 : Int32) &&& 31)) &&& (15 : Int32)) - (4 : Int32))), .val (.ref w_CLIENT), .val (.ref b27), .val (.int (0 : Int32))]) rfl ?_
          show Steps p.tables e below (T28.setTop (mkF m 78 #[.val (.int p1), .val (.long q1), .second, .val (.long q2), .second, .val (.int p2), .val (.int p3), .val (.int p4), .val (.int (((p1 >>> ((1 : Int32) &&& 31)) &&& (15 : Int32)) - (4 : Int32))), .val (.ref w_CLIENT), .val (.ref b27), .val (.int (0 : Int32))] [])) _
          refine XS.aload X28.here hx rfl (hb hby at_78) rfl rfl ?_
          show Steps p.tables e below (T28.setTop (mkF m 80 #[.val (.int p1), .val (.long q1), .second, .val (.long q2), .second, .val (.int p2), .val (.int p3), .val (.int p4), .val (.int (((p1 >>> ((1 : Int32) &&& 31)) &&& (15 : Int32)) - (4 : Int32))), .val (.ref w_CLIENT), .val (.ref b27), .val (.int (0 : Int32))] [(.ref b27)])) _
          refine st30.trans ?_
          show Steps p.tables e below (T30.setTop (mkF m 83 #[.val (.int p1), .val (.long q1), .second, .val (.long q2), .second, .val (.int p2), .val (.int p3), .val (.int p4), .val (.int (((p1 >>> ((1 : Int32) &&& 31)) &&& (15 : Int32)) - (4 : Int32))), .val (.ref w_CLIENT), .val (.ref b27), .val (.int (0 : Int32))] [(.int (own_ask (((p1 >>> ((1 : Int32) &&& 31)) &&& (15 : Int32)) - (4 : Int32))))])) _
          refine XS.iload X30.here hx rfl (hb hby at_83) rfl ?_
          show Steps p.tables e below (T30.setTop (mkF m 85 #[.val (.int p1), .val (.long q1), .second, .val (.long q2), .second, .val (.int p2), .val (.int p3), .val (.int p4), .val (.int (((p1 >>> ((1 : Int32) &&& 31)) &&& (15 : Int32)) - (4 : Int32))), .val (.ref w_CLIENT), .val (.ref b27), .val (.int (0 : Int32))] [(.int (0 : Int32)), (.int (own_ask (((p1 >>> ((1 : Int32) &&& 31)) &&& (15 : Int32)) - (4 : Int32))))])) _
          refine XS.icmpNo X30.here hx rfl (hb hby at_85) rfl (teq hd31).2 ?_
          show Steps p.tables e below (T30.setTop (mkF m 88 #[.val (.int p1), .val (.long q1), .second, .val (.long q2), .second, .val (.int p2), .val (.int p3), .val (.int p4), .val (.int (((p1 >>> ((1 : Int32) &&& 31)) &&& (15 : Int32)) - (4 : Int32))), .val (.ref w_CLIENT), .val (.ref b27), .val (.int (0 : Int32))] [])) _
          refine XS.iconst X30.here hx rfl (hb hby at_88) ?_
          show Steps p.tables e below (T30.setTop (mkF m 89 #[.val (.int p1), .val (.long q1), .second, .val (.long q2), .second, .val (.int p2), .val (.int p3), .val (.int p4), .val (.int (((p1 >>> ((1 : Int32) &&& 31)) &&& (15 : Int32)) - (4 : Int32))), .val (.ref w_CLIENT), .val (.ref b27), .val (.int (0 : Int32))] [(.int (1 : Int32))])) _
          refine XS.goto X30.here hx rfl (pc0 := 89) (pc' := 93) rfl (hb hby at_89) (by decide) (by decide) ?_
          show Steps p.tables e below (T30.setTop (mkF m 93 #[.val (.int p1), .val (.long q1), .second, .val (.long q2), .second, .val (.int p2), .val (.int p3), .val (.int p4), .val (.int (((p1 >>> ((1 : Int32) &&& 31)) &&& (15 : Int32)) - (4 : Int32))), .val (.ref w_CLIENT), .val (.ref b27), .val (.int (0 : Int32))] [(.int (1 : Int32))])) _
          exact retN X30 hx (t := .boolean) Bd.returns (by simp) (hb hby at_93) hr
        · show Q_rm0 Z p1 q1 q2 p2 p3 p4 w_CLIENT w_SERVER h0 n0 _ T30.heap _
          rw [eq30]
          exact ⟨rfl, N30⟩
      · have pre32 : ∀ t, Steps p.tables e below (T28.setTop (mkF m 68 #[.val (.int p1), .val (.long q1), .second, .val (.long q2), .second, .val (.int p2), .val (.int p3), .val (.int p4), .val (.int (((p1 >>> ((1 : Int32) &&& 31)) &&& (15 : Int32)) - (4 : Int32))), .val (.ref w_CLIENT), .val (.ref b27), .unset] [(.int (2 : Int32)), (.int (((p1 >>> ((1 : Int32) &&& 31)) &&& (15 : Int32)) - (4 : Int32)))])) t → Steps p.tables e below (s₁.setTop (entryFrame m #[(.int p1), (.long q1), (.long q2), (.int p2), (.int p3), (.int p4)] maxLocals)) t := by
          intro t kt
          refine pre29 _ ?_
          show Steps p.tables e below (T28.setTop (mkF m 62 #[.val (.int p1), .val (.long q1), .second, .val (.long q2), .second, .val (.int p2), .val (.int p3), .val (.int p4), .val (.int (((p1 >>> ((1 : Int32) &&& 31)) &&& (15 : Int32)) - (4 : Int32))), .val (.ref w_CLIENT), .val (.ref b27), .unset] [(.int (1 : Int32)), (.int (((p1 >>> ((1 : Int32) &&& 31)) &&& (15 : Int32)) - (4 : Int32)))])) _
          refine XS.icmpNo X28.here hx rfl (hb hby at_62) rfl (flt hc62_29).1 ?_
          show Steps p.tables e below (T28.setTop (mkF m 65 #[.val (.int p1), .val (.long q1), .second, .val (.long q2), .second, .val (.int p2), .val (.int p3), .val (.int p4), .val (.int (((p1 >>> ((1 : Int32) &&& 31)) &&& (15 : Int32)) - (4 : Int32))), .val (.ref w_CLIENT), .val (.ref b27), .unset] [])) _
          refine XS.iload X28.here hx rfl (hb hby at_65) rfl ?_
          show Steps p.tables e below (T28.setTop (mkF m 67 #[.val (.int p1), .val (.long q1), .second, .val (.long q2), .second, .val (.int p2), .val (.int p3), .val (.int p4), .val (.int (((p1 >>> ((1 : Int32) &&& 31)) &&& (15 : Int32)) - (4 : Int32))), .val (.ref w_CLIENT), .val (.ref b27), .unset] [(.int (((p1 >>> ((1 : Int32) &&& 31)) &&& (15 : Int32)) - (4 : Int32)))])) _
          refine XS.iconst X28.here hx rfl (hb hby at_67) ?_
          exact kt
        by_cases hc68_32 : (2 : Int32) < (((p1 >>> ((1 : Int32) &&& 31)) &&& (15 : Int32)) - (4 : Int32))
        · obtain ⟨cq33, kq33, q33a, q33b, q33c⟩ := isOf hZ rfl Ea28
          obtain ⟨_, _, ⟨T33, L33, k33, n33⟩, -, X33, ⟨Lc33, hQ33, l33, y33, z33⟩, st33⟩ := X28.virtualBack hx (y := (⟨"com/example/riposte/riposte/txn/Notify", "asksForRetry", "()Z"⟩ : MethodName)) (z := (⟨"com/example/riposte/riposte/txn/Notify", "asksForRetry", "()Z"⟩ : MethodName)) hown (mvT hZ (hw _ (List.mem_of_getElem? (i := 31) rfl))) (mvT hZ (hw _ (List.mem_of_getElem? (i := 32) rfl))) (notFace_of_selects (args := #[]) (mvT hZ (hw _ (List.mem_of_getElem? (i := 34) rfl)))) (mvT hZ (hw _ (List.mem_of_getElem? (i := 34) rfl))) (mvT hZ (hw _ (List.mem_of_getElem? (i := 33) rfl))) (by decide) (backOf (W := 0) (asksForRetry l Z a0 hw [] b27 (((p1 >>> ((1 : Int32) &&& 31)) &&& (15 : Int32)) - (4 : Int32)) T28.heap n0 O28 Fc28) hZ (hw _ (List.mem_of_getElem? (i := 35) rfl)) (hw _ (List.mem_of_getElem? (i := 5) rfl)) (by decide) (by decide)) q33a q33c (g := (mkF m 80 #[.val (.int p1), .val (.long q1), .second, .val (.long q2), .second, .val (.int p2), .val (.int p3), .val (.int p4), .val (.int (((p1 >>> ((1 : Int32) &&& 31)) &&& (15 : Int32)) - (4 : Int32))), .val (.ref w_CLIENT), .val (.ref b27), .val (.int (0 : Int32))] [(.ref b27)])) rfl (by rw [hml]; rfl) (Steps.refl _) (argsL := []) (rest := []) (lenOf pd___Z rfl) rfl (by show 2 * 0 + _ ≤ _; exact Nat.le_of_eq rfl) (hb hby at_80) (fun _ _ => ⟨rfl, rfl, (by decide : 1 + 0 ≤ _), (by decide : 7 + 0 ≤ _)⟩)
          dsimp only [Pt.U, Pt.locs, Pt.cells, Pt.slots] at X33 l33 y33 z33 st33 hQ33
          subst l33 y33 z33
          obtain ⟨rfl, Nq33, eq33⟩ := hQ33
          have N33 := Fr.app N28 Nq33
          have hd34 : (own_ask (((p1 >>> ((1 : Int32) &&& 31)) &&& (15 : Int32)) - (4 : Int32))) = (0 : Int32) := own_ask_gt hc68_32
          obtain ⟨fs, hr, hrun, hended, hW, hsame⟩ := X33.leave (v := some (.int (1 : Int32))) (fun h => by rw [Bd.returns] at h; cases h)
          refine ⟨_, _, pre32 _ ?_, hrun, hended, _, _, rfl, ?_, ⟨_, rfl⟩, hW, hsame.mono (by decide) (by decide)⟩
          · show Steps p.tables e below (T28.setTop (mkF m 68 #[.val (.int p1), .val (.long q1), .second, .val (.long q2), .second, .val (.int p2), .val (.int p3), .val (.int p4), .val (.int (((p1 >>> ((1 : Int32) &&& 31)) &&& (15 : Int32)) - (4 : Int32))), .val (.ref w_CLIENT), .val (.ref b27), .unset] [(.int (2 : Int32)), (.int (((p1 >>> ((1 : Int32) &&& 31)) &&& (15 : Int32)) - (4 : Int32)))])) _
            refine XS.icmpYes X28.here hx rfl (pc0 := 68) (pc' := 75) rfl (hb hby at_68) rfl (tlt hc68_32).2.2.1 (by decide) (by decide) ?_
            show Steps p.tables e below (T28.setTop (mkF m 75 #[.val (.int p1), .val (.long q1), .second, .val (.long q2), .second, .val (.int p2), .val (.int p3), .val (.int p4), .val (.int (((p1 >>> ((1 : Int32) &&& 31)) &&& (15 : Int32)) - (4 : Int32))), .val (.ref w_CLIENT), .val (.ref b27), .unset] [])) _
            refine XS.iconst X28.here hx rfl (hb hby at_75) ?_
            show Steps p.tables e below (T28.setTop (mkF m 76 #[.val (.int p1), .val (.long q1), .second, .val (.long q2), .second, .val (.int p2), .val (.int p3), .val (.int p4), .val (.int (((p1 >>> ((1 : Int32) &&& 31)) &&& (15 : Int32)) - (4 : Int32))), .val (.ref w_CLIENT), .val (.ref b27), .unset] [(.int (0 : Int32))])) _
            refine XS.istore X28.here hx rfl (hb hby at_76) rfl (l' := #[.val (.int p1), .val (.long q1), .second, .val (.long q2), .second, .val (.int p2), .val (.int p3), .val (.int p4), .val (.int (((p1 >>> ((1 : Int32) &&& 31)) &&& (15 : Int32)) - (4 : Int32))), .val (.ref w_CLIENT), .val (.ref b27), .val (.int (0 : Int32))]) rfl ?_
            show Steps p.tables e below (T28.setTop (mkF m 78 #[.val (.int p1), .val (.long q1), .second, .val (.long q2), .second, .val (.int p2), .val (.int p3), .val (.int p4), .val (.int (((p1 >>> ((1 : Int32) &&& 31)) &&& (15 : Int32)) - (4 : Int32))), .val (.ref w_CLIENT), .val (.ref b27), .val (.int (0 : Int32))] [])) _
            refine XS.aload X28.here hx rfl (hb hby at_78) rfl rfl ?_
            show Steps p.tables e below (T28.setTop (mkF m 80 #[.val (.int p1), .val (.long q1), .second, .val (.long q2), .second, .val (.int p2), .val (.int p3), .val (.int p4), .val (.int (((p1 >>> ((1 : Int32) &&& 31)) &&& (15 : Int32)) - (4 : Int32))), .val (.ref w_CLIENT), .val (.ref b27), .val (.int (0 : Int32))] [(.ref b27)])) _
            refine st33.trans ?_
            show Steps p.tables e below (T33.setTop (mkF m 83 #[.val (.int p1), .val (.long q1), .second, .val (.long q2), .second, .val (.int p2), .val (.int p3), .val (.int p4), .val (.int (((p1 >>> ((1 : Int32) &&& 31)) &&& (15 : Int32)) - (4 : Int32))), .val (.ref w_CLIENT), .val (.ref b27), .val (.int (0 : Int32))] [(.int (own_ask (((p1 >>> ((1 : Int32) &&& 31)) &&& (15 : Int32)) - (4 : Int32))))])) _
            refine XS.iload X33.here hx rfl (hb hby at_83) rfl ?_
            show Steps p.tables e below (T33.setTop (mkF m 85 #[.val (.int p1), .val (.long q1), .second, .val (.long q2), .second, .val (.int p2), .val (.int p3), .val (.int p4), .val (.int (((p1 >>> ((1 : Int32) &&& 31)) &&& (15 : Int32)) - (4 : Int32))), .val (.ref w_CLIENT), .val (.ref b27), .val (.int (0 : Int32))] [(.int (0 : Int32)), (.int (own_ask (((p1 >>> ((1 : Int32) &&& 31)) &&& (15 : Int32)) - (4 : Int32))))])) _
            refine XS.icmpNo X33.here hx rfl (hb hby at_85) rfl (teq hd34).2 ?_
            show Steps p.tables e below (T33.setTop (mkF m 88 #[.val (.int p1), .val (.long q1), .second, .val (.long q2), .second, .val (.int p2), .val (.int p3), .val (.int p4), .val (.int (((p1 >>> ((1 : Int32) &&& 31)) &&& (15 : Int32)) - (4 : Int32))), .val (.ref w_CLIENT), .val (.ref b27), .val (.int (0 : Int32))] [])) _
            refine XS.iconst X33.here hx rfl (hb hby at_88) ?_
            show Steps p.tables e below (T33.setTop (mkF m 89 #[.val (.int p1), .val (.long q1), .second, .val (.long q2), .second, .val (.int p2), .val (.int p3), .val (.int p4), .val (.int (((p1 >>> ((1 : Int32) &&& 31)) &&& (15 : Int32)) - (4 : Int32))), .val (.ref w_CLIENT), .val (.ref b27), .val (.int (0 : Int32))] [(.int (1 : Int32))])) _
            refine XS.goto X33.here hx rfl (pc0 := 89) (pc' := 93) rfl (hb hby at_89) (by decide) (by decide) ?_
            show Steps p.tables e below (T33.setTop (mkF m 93 #[.val (.int p1), .val (.long q1), .second, .val (.long q2), .second, .val (.int p2), .val (.int p3), .val (.int p4), .val (.int (((p1 >>> ((1 : Int32) &&& 31)) &&& (15 : Int32)) - (4 : Int32))), .val (.ref w_CLIENT), .val (.ref b27), .val (.int (0 : Int32))] [(.int (1 : Int32))])) _
            exact retN X33 hx (t := .boolean) Bd.returns (by simp) (hb hby at_93) hr
          · show Q_rm0 Z p1 q1 q2 p2 p3 p4 w_CLIENT w_SERVER h0 n0 _ T33.heap _
            rw [eq33]
            exact ⟨rfl, N33⟩
        · obtain ⟨cq35, kq35, q35a, q35b, q35c⟩ := isOf hZ rfl Ea28
          obtain ⟨_, _, ⟨T35, L35, k35, n35⟩, -, X35, ⟨Lc35, hQ35, l35, y35, z35⟩, st35⟩ := X28.virtualBack hx (y := (⟨"com/example/riposte/riposte/txn/Notify", "asksForRetry", "()Z"⟩ : MethodName)) (z := (⟨"com/example/riposte/riposte/txn/Notify", "asksForRetry", "()Z"⟩ : MethodName)) hown (mvT hZ (hw _ (List.mem_of_getElem? (i := 31) rfl))) (mvT hZ (hw _ (List.mem_of_getElem? (i := 32) rfl))) (notFace_of_selects (args := #[]) (mvT hZ (hw _ (List.mem_of_getElem? (i := 34) rfl)))) (mvT hZ (hw _ (List.mem_of_getElem? (i := 34) rfl))) (mvT hZ (hw _ (List.mem_of_getElem? (i := 33) rfl))) (by decide) (backOf (W := 0) (asksForRetry l Z a0 hw [] b27 (((p1 >>> ((1 : Int32) &&& 31)) &&& (15 : Int32)) - (4 : Int32)) T28.heap n0 O28 Fc28) hZ (hw _ (List.mem_of_getElem? (i := 35) rfl)) (hw _ (List.mem_of_getElem? (i := 5) rfl)) (by decide) (by decide)) q35a q35c (g := (mkF m 80 #[.val (.int p1), .val (.long q1), .second, .val (.long q2), .second, .val (.int p2), .val (.int p3), .val (.int p4), .val (.int (((p1 >>> ((1 : Int32) &&& 31)) &&& (15 : Int32)) - (4 : Int32))), .val (.ref w_CLIENT), .val (.ref b27), .val (.int (1 : Int32))] [(.ref b27)])) rfl (by rw [hml]; rfl) (Steps.refl _) (argsL := []) (rest := []) (lenOf pd___Z rfl) rfl (by show 2 * 0 + _ ≤ _; exact Nat.le_of_eq rfl) (hb hby at_80) (fun _ _ => ⟨rfl, rfl, (by decide : 1 + 0 ≤ _), (by decide : 7 + 0 ≤ _)⟩)
          dsimp only [Pt.U, Pt.locs, Pt.cells, Pt.slots] at X35 l35 y35 z35 st35 hQ35
          subst l35 y35 z35
          obtain ⟨rfl, Nq35, eq35⟩ := hQ35
          have N35 := Fr.app N28 Nq35
          have hd36 : (own_ask (((p1 >>> ((1 : Int32) &&& 31)) &&& (15 : Int32)) - (4 : Int32))) = (1 : Int32) := own_ask_in hc62_29 hc68_32
          obtain ⟨fs, hr, hrun, hended, hW, hsame⟩ := X35.leave (v := some (.int (1 : Int32))) (fun h => by rw [Bd.returns] at h; cases h)
          refine ⟨_, _, pre32 _ ?_, hrun, hended, _, _, rfl, ?_, ⟨_, rfl⟩, hW, hsame.mono (by decide) (by decide)⟩
          · show Steps p.tables e below (T28.setTop (mkF m 68 #[.val (.int p1), .val (.long q1), .second, .val (.long q2), .second, .val (.int p2), .val (.int p3), .val (.int p4), .val (.int (((p1 >>> ((1 : Int32) &&& 31)) &&& (15 : Int32)) - (4 : Int32))), .val (.ref w_CLIENT), .val (.ref b27), .unset] [(.int (2 : Int32)), (.int (((p1 >>> ((1 : Int32) &&& 31)) &&& (15 : Int32)) - (4 : Int32)))])) _
            refine XS.icmpNo X28.here hx rfl (hb hby at_68) rfl (flt hc68_32).2.2.1 ?_
            show Steps p.tables e below (T28.setTop (mkF m 71 #[.val (.int p1), .val (.long q1), .second, .val (.long q2), .second, .val (.int p2), .val (.int p3), .val (.int p4), .val (.int (((p1 >>> ((1 : Int32) &&& 31)) &&& (15 : Int32)) - (4 : Int32))), .val (.ref w_CLIENT), .val (.ref b27), .unset] [])) _
            refine XS.iconst X28.here hx rfl (hb hby at_71) ?_
            show Steps p.tables e below (T28.setTop (mkF m 72 #[.val (.int p1), .val (.long q1), .second, .val (.long q2), .second, .val (.int p2), .val (.int p3), .val (.int p4), .val (.int (((p1 >>> ((1 : Int32) &&& 31)) &&& (15 : Int32)) - (4 : Int32))), .val (.ref w_CLIENT), .val (.ref b27), .unset] [(.int (1 : Int32))])) _
            refine XS.goto X28.here hx rfl (pc0 := 72) (pc' := 76) rfl (hb hby at_72) (by decide) (by decide) ?_
            show Steps p.tables e below (T28.setTop (mkF m 76 #[.val (.int p1), .val (.long q1), .second, .val (.long q2), .second, .val (.int p2), .val (.int p3), .val (.int p4), .val (.int (((p1 >>> ((1 : Int32) &&& 31)) &&& (15 : Int32)) - (4 : Int32))), .val (.ref w_CLIENT), .val (.ref b27), .unset] [(.int (1 : Int32))])) _
            refine XS.istore X28.here hx rfl (hb hby at_76) rfl (l' := #[.val (.int p1), .val (.long q1), .second, .val (.long q2), .second, .val (.int p2), .val (.int p3), .val (.int p4), .val (.int (((p1 >>> ((1 : Int32) &&& 31)) &&& (15 : Int32)) - (4 : Int32))), .val (.ref w_CLIENT), .val (.ref b27), .val (.int (1 : Int32))]) rfl ?_
            show Steps p.tables e below (T28.setTop (mkF m 78 #[.val (.int p1), .val (.long q1), .second, .val (.long q2), .second, .val (.int p2), .val (.int p3), .val (.int p4), .val (.int (((p1 >>> ((1 : Int32) &&& 31)) &&& (15 : Int32)) - (4 : Int32))), .val (.ref w_CLIENT), .val (.ref b27), .val (.int (1 : Int32))] [])) _
            refine XS.aload X28.here hx rfl (hb hby at_78) rfl rfl ?_
            show Steps p.tables e below (T28.setTop (mkF m 80 #[.val (.int p1), .val (.long q1), .second, .val (.long q2), .second, .val (.int p2), .val (.int p3), .val (.int p4), .val (.int (((p1 >>> ((1 : Int32) &&& 31)) &&& (15 : Int32)) - (4 : Int32))), .val (.ref w_CLIENT), .val (.ref b27), .val (.int (1 : Int32))] [(.ref b27)])) _
            refine st35.trans ?_
            show Steps p.tables e below (T35.setTop (mkF m 83 #[.val (.int p1), .val (.long q1), .second, .val (.long q2), .second, .val (.int p2), .val (.int p3), .val (.int p4), .val (.int (((p1 >>> ((1 : Int32) &&& 31)) &&& (15 : Int32)) - (4 : Int32))), .val (.ref w_CLIENT), .val (.ref b27), .val (.int (1 : Int32))] [(.int (own_ask (((p1 >>> ((1 : Int32) &&& 31)) &&& (15 : Int32)) - (4 : Int32))))])) _
            refine XS.iload X35.here hx rfl (hb hby at_83) rfl ?_
            show Steps p.tables e below (T35.setTop (mkF m 85 #[.val (.int p1), .val (.long q1), .second, .val (.long q2), .second, .val (.int p2), .val (.int p3), .val (.int p4), .val (.int (((p1 >>> ((1 : Int32) &&& 31)) &&& (15 : Int32)) - (4 : Int32))), .val (.ref w_CLIENT), .val (.ref b27), .val (.int (1 : Int32))] [(.int (1 : Int32)), (.int (own_ask (((p1 >>> ((1 : Int32) &&& 31)) &&& (15 : Int32)) - (4 : Int32))))])) _
            refine XS.icmpNo X35.here hx rfl (hb hby at_85) rfl (teq hd36).2 ?_
            show Steps p.tables e below (T35.setTop (mkF m 88 #[.val (.int p1), .val (.long q1), .second, .val (.long q2), .second, .val (.int p2), .val (.int p3), .val (.int p4), .val (.int (((p1 >>> ((1 : Int32) &&& 31)) &&& (15 : Int32)) - (4 : Int32))), .val (.ref w_CLIENT), .val (.ref b27), .val (.int (1 : Int32))] [])) _
            refine XS.iconst X35.here hx rfl (hb hby at_88) ?_
            show Steps p.tables e below (T35.setTop (mkF m 89 #[.val (.int p1), .val (.long q1), .second, .val (.long q2), .second, .val (.int p2), .val (.int p3), .val (.int p4), .val (.int (((p1 >>> ((1 : Int32) &&& 31)) &&& (15 : Int32)) - (4 : Int32))), .val (.ref w_CLIENT), .val (.ref b27), .val (.int (1 : Int32))] [(.int (1 : Int32))])) _
            refine XS.goto X35.here hx rfl (pc0 := 89) (pc' := 93) rfl (hb hby at_89) (by decide) (by decide) ?_
            show Steps p.tables e below (T35.setTop (mkF m 93 #[.val (.int p1), .val (.long q1), .second, .val (.long q2), .second, .val (.int p2), .val (.int p3), .val (.int p4), .val (.int (((p1 >>> ((1 : Int32) &&& 31)) &&& (15 : Int32)) - (4 : Int32))), .val (.ref w_CLIENT), .val (.ref b27), .val (.int (1 : Int32))] [(.int (1 : Int32))])) _
            exact retN X35 hx (t := .boolean) Bd.returns (by simp) (hb hby at_93) hr
          · show Q_rm0 Z p1 q1 q2 p2 p3 p4 w_CLIENT w_SERVER h0 n0 _ T35.heap _
            rw [eq35]
            exact ⟨rfl, N35⟩
    · obtain ⟨T37, X37, e37, st37⟩ := getS2 X0 hx hZ hown (host := "") (Or.inl (hw _ (List.mem_of_getElem? (i := 36) rfl))) Via.refl e0 (S_w_SERVER.ext O0.2) (g := (mkF m 28 #[.val (.int p1), .val (.long q1), .second, .val (.long q2), .second, .val (.int p2), .val (.int p3), .val (.int p4), .val (.int (((p1 >>> ((1 : Int32) &&& 31)) &&& (15 : Int32)) - (4 : Int32))), .unset, .unset, .unset] [])) rfl (hb hby at_28)
      obtain ⟨T38, h38, X38, e38, E38, A38, D38, U38, st38⟩ := newO X37 hx hZ hown (hw _ (List.mem_of_getElem? (i := 3) rfl)) (hw _ (List.mem_of_getElem? (i := 4) rfl)) (hw _ (List.mem_of_getElem? (i := 5) rfl)) e37 (g := (mkF m 39 #[.val (.int p1), .val (.long q1), .second, .val (.long q2), .second, .val (.int p2), .val (.int p3), .val (.int p4), .val (.int (((p1 >>> ((1 : Int32) &&& 31)) &&& (15 : Int32)) - (4 : Int32))), .val (.ref w_SERVER), .unset, .unset] [])) rfl (hb hby at_39) (by decide) (by decide)
      obtain ⟨b38, g38⟩ : ∃ z, z = h0.size := ⟨_, rfl⟩
      rw [← g38] at A38 D38 st38
      have g_b38 : n0 ≤ b38 := Nat.le_trans (own_le O0) (Nat.le_of_eq g38.symm)
      have O38 := O0.ext E38
      have F_operation_b38 : Fld Z h38 b38 "com/example/riposte/riposte/txn/Notify" "operation" "Lcom/example/riposte/riposte/txn/Notify$Operation;" .null := D38 (Or.inr (hw _ (List.mem_of_getElem? (i := 18) rfl))) (ty := (.object "com/example/riposte/riposte/txn/Notify$Operation")) (by decide)
      have F_client_b38 : Fld Z h38 b38 "com/example/riposte/riposte/txn/Notify" "client" "J" (.long (0 : Int64)) := D38 (Or.inr (hw _ (List.mem_of_getElem? (i := 20) rfl))) (ty := .long) (by decide)
      have F_server_b38 : Fld Z h38 b38 "com/example/riposte/riposte/txn/Notify" "server" "J" (.long (0 : Int64)) := D38 (Or.inr (hw _ (List.mem_of_getElem? (i := 22) rfl))) (ty := .long) (by decide)
      have F_transaction_b38 : Fld Z h38 b38 "com/example/riposte/riposte/txn/Notify" "transaction" "I" (.int (0 : Int32)) := D38 (Or.inr (hw _ (List.mem_of_getElem? (i := 24) rfl))) (ty := .int) (by decide)
      have F_control_b38 : Fld Z h38 b38 "com/example/riposte/riposte/txn/Notify" "control" "I" (.int (0 : Int32)) := D38 (Or.inr (hw _ (List.mem_of_getElem? (i := 26) rfl))) (ty := .int) (by decide)
      have F_delivery_b38 : Fld Z h38 b38 "com/example/riposte/riposte/txn/Notify" "delivery" "I" (.int (0 : Int32)) := D38 (Or.inr (hw _ (List.mem_of_getElem? (i := 28) rfl))) (ty := .int) (by decide)
      have F_code_b38 : Fld Z h38 b38 "com/example/riposte/riposte/txn/Notify" "code" "I" (.int (0 : Int32)) := D38 (Or.inr (hw _ (List.mem_of_getElem? (i := 30) rfl))) (ty := .int) (by decide)
      obtain ⟨_, _, ⟨T39, L39, k39, n39⟩, -, X39, ⟨Lc39, hQ39, l39, y39, z39⟩, st39⟩ := X38.specialBack hx (y := (⟨"com/example/riposte/riposte/txn/Notify", "<init>", "(Lcom/example/riposte/riposte/txn/Notify$Operation;JJIIII)V"⟩ : MethodName)) rfl hown (mvT hZ (hw _ (List.mem_of_getElem? (i := 6) rfl))) (mvT hZ (hw _ (List.mem_of_getElem? (i := 7) rfl))) (mvT hZ (hw _ (List.mem_of_getElem? (i := 8) rfl))) (by decide) (backOf (W := 1) (ntI l Z a0 hw [] b38 w_SERVER q1 q2 p2 p4 p1 (((p1 >>> ((1 : Int32) &&& 31)) &&& (15 : Int32)) - (4 : Int32)) h38 n0 O38 A38 g_b38 F_operation_b38 F_client_b38 F_server_b38 F_transaction_b38 F_control_b38 F_delivery_b38 F_code_b38) hZ (hw _ (List.mem_of_getElem? (i := 8) rfl)) (hw _ (List.mem_of_getElem? (i := 5) rfl)) (by decide) (by decide)) (g := (mkF m 54 #[.val (.int p1), .val (.long q1), .second, .val (.long q2), .second, .val (.int p2), .val (.int p3), .val (.int p4), .val (.int (((p1 >>> ((1 : Int32) &&& 31)) &&& (15 : Int32)) - (4 : Int32))), .val (.ref w_SERVER), .unset, .unset] [(.int (((p1 >>> ((1 : Int32) &&& 31)) &&& (15 : Int32)) - (4 : Int32))), (.int p1), (.int p4), (.int p2), (.long q2), (.long q1), (.ref w_SERVER), (.ref b38), (.ref b38)])) rfl (by rw [hml]; rfl) (Steps.refl _) (a := b38) (argsL := [(.ref w_SERVER), (.long q1), (.long q2), (.int p2), (.int p4), (.int p1), (.int (((p1 >>> ((1 : Int32) &&& 31)) &&& (15 : Int32)) - (4 : Int32)))]) (rest := [(.ref b38)]) (lenOf pd__Lcom_example_riposte_riposte_txn_Notify_Operation_JJIIII_V rfl) rfl (by show 2 * 0 + _ ≤ _; exact Nat.le_of_eq rfl) (hb hby at_54) (fun _ _ => ⟨rfl, e38, (by decide : 1 + 0 ≤ _), (by decide : 7 + 0 ≤ _)⟩)
      dsimp only [Pt.U, Pt.locs, Pt.cells, Pt.slots] at X39 l39 y39 z39 st39 hQ39
      subst l39 y39 z39
      obtain ⟨rfl, Nq39, Kq39, Ea39, Fc39⟩ := hQ39
      have N39 := Fr.app N0 Nq39
      have O39 := O38.keep Kq39 (allS g_b38 all0)
      have pre40 : ∀ t, Steps p.tables e below (T39.setTop (mkF m 62 #[.val (.int p1), .val (.long q1), .second, .val (.long q2), .second, .val (.int p2), .val (.int p3), .val (.int p4), .val (.int (((p1 >>> ((1 : Int32) &&& 31)) &&& (15 : Int32)) - (4 : Int32))), .val (.ref w_SERVER), .val (.ref b38), .unset] [(.int (1 : Int32)), (.int (((p1 >>> ((1 : Int32) &&& 31)) &&& (15 : Int32)) - (4 : Int32)))])) t → Steps p.tables e below (s₁.setTop (entryFrame m #[(.int p1), (.long q1), (.long q2), (.int p2), (.int p3), (.int p4)] maxLocals)) t := by
        intro t kt
        refine pre25 _ ?_
        show Steps p.tables e below (s₁.setTop (mkF m 25 #[.val (.int p1), .val (.long q1), .second, .val (.long q2), .second, .val (.int p2), .val (.int p3), .val (.int p4), .val (.int (((p1 >>> ((1 : Int32) &&& 31)) &&& (15 : Int32)) - (4 : Int32))), .unset, .unset, .unset] [(.int (p1 &&& (32 : Int32)))])) _
        refine XS.ifNo X0.here hx rfl (hb hby at_25) rfl ((if0 _ _).trans (feq hc25_25).1) ?_
        show Steps p.tables e below (s₁.setTop (mkF m 28 #[.val (.int p1), .val (.long q1), .second, .val (.long q2), .second, .val (.int p2), .val (.int p3), .val (.int p4), .val (.int (((p1 >>> ((1 : Int32) &&& 31)) &&& (15 : Int32)) - (4 : Int32))), .unset, .unset, .unset] [])) _
        refine st37 _ ?_
        show Steps p.tables e below (T37.setTop (mkF m 31 #[.val (.int p1), .val (.long q1), .second, .val (.long q2), .second, .val (.int p2), .val (.int p3), .val (.int p4), .val (.int (((p1 >>> ((1 : Int32) &&& 31)) &&& (15 : Int32)) - (4 : Int32))), .unset, .unset, .unset] [(.ref w_SERVER)])) _
        refine XS.goto X37.here hx rfl (pc0 := 31) (pc' := 37) rfl (hb hby at_31) (by decide) (by decide) ?_
        show Steps p.tables e below (T37.setTop (mkF m 37 #[.val (.int p1), .val (.long q1), .second, .val (.long q2), .second, .val (.int p2), .val (.int p3), .val (.int p4), .val (.int (((p1 >>> ((1 : Int32) &&& 31)) &&& (15 : Int32)) - (4 : Int32))), .unset, .unset, .unset] [(.ref w_SERVER)])) _
        refine XS.astore X37.here hx rfl (hb hby at_37) rfl rfl (l' := #[.val (.int p1), .val (.long q1), .second, .val (.long q2), .second, .val (.int p2), .val (.int p3), .val (.int p4), .val (.int (((p1 >>> ((1 : Int32) &&& 31)) &&& (15 : Int32)) - (4 : Int32))), .val (.ref w_SERVER), .unset, .unset]) rfl ?_
        show Steps p.tables e below (T37.setTop (mkF m 39 #[.val (.int p1), .val (.long q1), .second, .val (.long q2), .second, .val (.int p2), .val (.int p3), .val (.int p4), .val (.int (((p1 >>> ((1 : Int32) &&& 31)) &&& (15 : Int32)) - (4 : Int32))), .val (.ref w_SERVER), .unset, .unset] [])) _
        refine st38 _ ?_
        show Steps p.tables e below (T38.setTop (mkF m 42 #[.val (.int p1), .val (.long q1), .second, .val (.long q2), .second, .val (.int p2), .val (.int p3), .val (.int p4), .val (.int (((p1 >>> ((1 : Int32) &&& 31)) &&& (15 : Int32)) - (4 : Int32))), .val (.ref w_SERVER), .unset, .unset] [(.ref b38)])) _
        refine XS.dup X38.here hx rfl (hb hby at_42) rfl rfl ?_
        show Steps p.tables e below (T38.setTop (mkF m 43 #[.val (.int p1), .val (.long q1), .second, .val (.long q2), .second, .val (.int p2), .val (.int p3), .val (.int p4), .val (.int (((p1 >>> ((1 : Int32) &&& 31)) &&& (15 : Int32)) - (4 : Int32))), .val (.ref w_SERVER), .unset, .unset] [(.ref b38), (.ref b38)])) _
        refine XS.aload X38.here hx rfl (hb hby at_43) rfl rfl ?_
        show Steps p.tables e below (T38.setTop (mkF m 45 #[.val (.int p1), .val (.long q1), .second, .val (.long q2), .second, .val (.int p2), .val (.int p3), .val (.int p4), .val (.int (((p1 >>> ((1 : Int32) &&& 31)) &&& (15 : Int32)) - (4 : Int32))), .val (.ref w_SERVER), .unset, .unset] [(.ref w_SERVER), (.ref b38), (.ref b38)])) _
        refine XS.lloadN X38.here hx rfl (hb hby at_45) rfl ?_
        show Steps p.tables e below (T38.setTop (mkF m 46 #[.val (.int p1), .val (.long q1), .second, .val (.long q2), .second, .val (.int p2), .val (.int p3), .val (.int p4), .val (.int (((p1 >>> ((1 : Int32) &&& 31)) &&& (15 : Int32)) - (4 : Int32))), .val (.ref w_SERVER), .unset, .unset] [(.long q1), (.ref w_SERVER), (.ref b38), (.ref b38)])) _
        refine XS.lloadN X38.here hx rfl (hb hby at_46) rfl ?_
        show Steps p.tables e below (T38.setTop (mkF m 47 #[.val (.int p1), .val (.long q1), .second, .val (.long q2), .second, .val (.int p2), .val (.int p3), .val (.int p4), .val (.int (((p1 >>> ((1 : Int32) &&& 31)) &&& (15 : Int32)) - (4 : Int32))), .val (.ref w_SERVER), .unset, .unset] [(.long q2), (.long q1), (.ref w_SERVER), (.ref b38), (.ref b38)])) _
        refine XS.iload X38.here hx rfl (hb hby at_47) rfl ?_
        show Steps p.tables e below (T38.setTop (mkF m 49 #[.val (.int p1), .val (.long q1), .second, .val (.long q2), .second, .val (.int p2), .val (.int p3), .val (.int p4), .val (.int (((p1 >>> ((1 : Int32) &&& 31)) &&& (15 : Int32)) - (4 : Int32))), .val (.ref w_SERVER), .unset, .unset] [(.int p2), (.long q2), (.long q1), (.ref w_SERVER), (.ref b38), (.ref b38)])) _
        refine XS.iload X38.here hx rfl (hb hby at_49) rfl ?_
        show Steps p.tables e below (T38.setTop (mkF m 51 #[.val (.int p1), .val (.long q1), .second, .val (.long q2), .second, .val (.int p2), .val (.int p3), .val (.int p4), .val (.int (((p1 >>> ((1 : Int32) &&& 31)) &&& (15 : Int32)) - (4 : Int32))), .val (.ref w_SERVER), .unset, .unset] [(.int p4), (.int p2), (.long q2), (.long q1), (.ref w_SERVER), (.ref b38), (.ref b38)])) _
        refine XS.iloadN X38.here hx rfl (hb hby at_51) rfl ?_
        show Steps p.tables e below (T38.setTop (mkF m 52 #[.val (.int p1), .val (.long q1), .second, .val (.long q2), .second, .val (.int p2), .val (.int p3), .val (.int p4), .val (.int (((p1 >>> ((1 : Int32) &&& 31)) &&& (15 : Int32)) - (4 : Int32))), .val (.ref w_SERVER), .unset, .unset] [(.int p1), (.int p4), (.int p2), (.long q2), (.long q1), (.ref w_SERVER), (.ref b38), (.ref b38)])) _
        refine XS.iload X38.here hx rfl (hb hby at_52) rfl ?_
        show Steps p.tables e below (T38.setTop (mkF m 54 #[.val (.int p1), .val (.long q1), .second, .val (.long q2), .second, .val (.int p2), .val (.int p3), .val (.int p4), .val (.int (((p1 >>> ((1 : Int32) &&& 31)) &&& (15 : Int32)) - (4 : Int32))), .val (.ref w_SERVER), .unset, .unset] [(.int (((p1 >>> ((1 : Int32) &&& 31)) &&& (15 : Int32)) - (4 : Int32))), (.int p1), (.int p4), (.int p2), (.long q2), (.long q1), (.ref w_SERVER), (.ref b38), (.ref b38)])) _
        refine st39.trans ?_
        show Steps p.tables e below (T39.setTop (mkF m 57 #[.val (.int p1), .val (.long q1), .second, .val (.long q2), .second, .val (.int p2), .val (.int p3), .val (.int p4), .val (.int (((p1 >>> ((1 : Int32) &&& 31)) &&& (15 : Int32)) - (4 : Int32))), .val (.ref w_SERVER), .unset, .unset] [(.ref b38)])) _
        refine XS.astore X39.here hx rfl (hb hby at_57) rfl rfl (l' := #[.val (.int p1), .val (.long q1), .second, .val (.long q2), .second, .val (.int p2), .val (.int p3), .val (.int p4), .val (.int (((p1 >>> ((1 : Int32) &&& 31)) &&& (15 : Int32)) - (4 : Int32))), .val (.ref w_SERVER), .val (.ref b38), .unset]) rfl ?_
        show Steps p.tables e below (T39.setTop (mkF m 59 #[.val (.int p1), .val (.long q1), .second, .val (.long q2), .second, .val (.int p2), .val (.int p3), .val (.int p4), .val (.int (((p1 >>> ((1 : Int32) &&& 31)) &&& (15 : Int32)) - (4 : Int32))), .val (.ref w_SERVER), .val (.ref b38), .unset] [])) _
        refine XS.iload X39.here hx rfl (hb hby at_59) rfl ?_
        show Steps p.tables e below (T39.setTop (mkF m 61 #[.val (.int p1), .val (.long q1), .second, .val (.long q2), .second, .val (.int p2), .val (.int p3), .val (.int p4), .val (.int (((p1 >>> ((1 : Int32) &&& 31)) &&& (15 : Int32)) - (4 : Int32))), .val (.ref w_SERVER), .val (.ref b38), .unset] [(.int (((p1 >>> ((1 : Int32) &&& 31)) &&& (15 : Int32)) - (4 : Int32)))])) _
        refine XS.iconst X39.here hx rfl (hb hby at_61) ?_
        exact kt
      by_cases hc62_40 : (((p1 >>> ((1 : Int32) &&& 31)) &&& (15 : Int32)) - (4 : Int32)) < (1 : Int32)
      · obtain ⟨cq41, kq41, q41a, q41b, q41c⟩ := isOf hZ rfl Ea39
        obtain ⟨_, _, ⟨T41, L41, k41, n41⟩, -, X41, ⟨Lc41, hQ41, l41, y41, z41⟩, st41⟩ := X39.virtualBack hx (y := (⟨"com/example/riposte/riposte/txn/Notify", "asksForRetry", "()Z"⟩ : MethodName)) (z := (⟨"com/example/riposte/riposte/txn/Notify", "asksForRetry", "()Z"⟩ : MethodName)) hown (mvT hZ (hw _ (List.mem_of_getElem? (i := 31) rfl))) (mvT hZ (hw _ (List.mem_of_getElem? (i := 32) rfl))) (notFace_of_selects (args := #[]) (mvT hZ (hw _ (List.mem_of_getElem? (i := 34) rfl)))) (mvT hZ (hw _ (List.mem_of_getElem? (i := 34) rfl))) (mvT hZ (hw _ (List.mem_of_getElem? (i := 33) rfl))) (by decide) (backOf (W := 0) (asksForRetry l Z a0 hw [] b38 (((p1 >>> ((1 : Int32) &&& 31)) &&& (15 : Int32)) - (4 : Int32)) T39.heap n0 O39 Fc39) hZ (hw _ (List.mem_of_getElem? (i := 35) rfl)) (hw _ (List.mem_of_getElem? (i := 5) rfl)) (by decide) (by decide)) q41a q41c (g := (mkF m 80 #[.val (.int p1), .val (.long q1), .second, .val (.long q2), .second, .val (.int p2), .val (.int p3), .val (.int p4), .val (.int (((p1 >>> ((1 : Int32) &&& 31)) &&& (15 : Int32)) - (4 : Int32))), .val (.ref w_SERVER), .val (.ref b38), .val (.int (0 : Int32))] [(.ref b38)])) rfl (by rw [hml]; rfl) (Steps.refl _) (argsL := []) (rest := []) (lenOf pd___Z rfl) rfl (by show 2 * 0 + _ ≤ _; exact Nat.le_of_eq rfl) (hb hby at_80) (fun _ _ => ⟨rfl, rfl, (by decide : 1 + 0 ≤ _), (by decide : 7 + 0 ≤ _)⟩)
        dsimp only [Pt.U, Pt.locs, Pt.cells, Pt.slots] at X41 l41 y41 z41 st41 hQ41
        subst l41 y41 z41
        obtain ⟨rfl, Nq41, eq41⟩ := hQ41
        have N41 := Fr.app N39 Nq41
        have hd42 : (own_ask (((p1 >>> ((1 : Int32) &&& 31)) &&& (15 : Int32)) - (4 : Int32))) = (0 : Int32) := own_ask_lt hc62_40
        obtain ⟨fs, hr, hrun, hended, hW, hsame⟩ := X41.leave (v := some (.int (1 : Int32))) (fun h => by rw [Bd.returns] at h; cases h)
        refine ⟨_, _, pre40 _ ?_, hrun, hended, _, _, rfl, ?_, ⟨_, rfl⟩, hW, hsame.mono (by decide) (by decide)⟩
        · show Steps p.tables e below (T39.setTop (mkF m 62 #[.val (.int p1), .val (.long q1), .second, .val (.long q2), .second, .val (.int p2), .val (.int p3), .val (.int p4), .val (.int (((p1 >>> ((1 : Int32) &&& 31)) &&& (15 : Int32)) - (4 : Int32))), .val (.ref w_SERVER), .val (.ref b38), .unset] [(.int (1 : Int32)), (.int (((p1 >>> ((1 : Int32) &&& 31)) &&& (15 : Int32)) - (4 : Int32)))])) _
          refine XS.icmpYes X39.here hx rfl (pc0 := 62) (pc' := 75) rfl (hb hby at_62) rfl (tlt hc62_40).1 (by decide) (by decide) ?_
          show Steps p.tables e below (T39.setTop (mkF m 75 #[.val (.int p1), .val (.long q1), .second, .val (.long q2), .second, .val (.int p2), .val (.int p3), .val (.int p4), .val (.int (((p1 >>> ((1 : Int32) &&& 31)) &&& (15 : Int32)) - (4 : Int32))), .val (.ref w_SERVER), .val (.ref b38), .unset] [])) _
          refine XS.iconst X39.here hx rfl (hb hby at_75) ?_
          show Steps p.tables e below (T39.setTop (mkF m 76 #[.val (.int p1), .val (.long q1), .second, .val (.long q2), .second, .val (.int p2), .val (.int p3), .val (.int p4), .val (.int (((p1 >>> ((1 : Int32) &&& 31)) &&& (15 : Int32)) - (4 : Int32))), .val (.ref w_SERVER), .val (.ref b38), .unset] [(.int (0 : Int32))])) _
          refine XS.istore X39.here hx rfl (hb hby at_76) rfl (l' := #[.val (.int p1), .val (.long q1), .second, .val (.long q2), .second, .val (.int p2), .val (.int p3), .val (.int p4), .val (.int (((p1 >>> ((1 : Int32) &&& 31)) &&& (15 : Int32)) - (4 : Int32))), .val (.ref w_SERVER), .val (.ref b38), .val (.int (0 : Int32))]) rfl ?_
          show Steps p.tables e below (T39.setTop (mkF m 78 #[.val (.int p1), .val (.long q1), .second, .val (.long q2), .second, .val (.int p2), .val (.int p3), .val (.int p4), .val (.int (((p1 >>> ((1 : Int32) &&& 31)) &&& (15 : Int32)) - (4 : Int32))), .val (.ref w_SERVER), .val (.ref b38), .val (.int (0 : Int32))] [])) _
          refine XS.aload X39.here hx rfl (hb hby at_78) rfl rfl ?_
          show Steps p.tables e below (T39.setTop (mkF m 80 #[.val (.int p1), .val (.long q1), .second, .val (.long q2), .second, .val (.int p2), .val (.int p3), .val (.int p4), .val (.int (((p1 >>> ((1 : Int32) &&& 31)) &&& (15 : Int32)) - (4 : Int32))), .val (.ref w_SERVER), .val (.ref b38), .val (.int (0 : Int32))] [(.ref b38)])) _
          refine st41.trans ?_
          show Steps p.tables e below (T41.setTop (mkF m 83 #[.val (.int p1), .val (.long q1), .second, .val (.long q2), .second, .val (.int p2), .val (.int p3), .val (.int p4), .val (.int (((p1 >>> ((1 : Int32) &&& 31)) &&& (15 : Int32)) - (4 : Int32))), .val (.ref w_SERVER), .val (.ref b38), .val (.int (0 : Int32))] [(.int (own_ask (((p1 >>> ((1 : Int32) &&& 31)) &&& (15 : Int32)) - (4 : Int32))))])) _
          refine XS.iload X41.here hx rfl (hb hby at_83) rfl ?_
          show Steps p.tables e below (T41.setTop (mkF m 85 #[.val (.int p1), .val (.long q1), .second, .val (.long q2), .second, .val (.int p2), .val (.int p3), .val (.int p4), .val (.int (((p1 >>> ((1 : Int32) &&& 31)) &&& (15 : Int32)) - (4 : Int32))), .val (.ref w_SERVER), .val (.ref b38), .val (.int (0 : Int32))] [(.int (0 : Int32)), (.int (own_ask (((p1 >>> ((1 : Int32) &&& 31)) &&& (15 : Int32)) - (4 : Int32))))])) _
          refine XS.icmpNo X41.here hx rfl (hb hby at_85) rfl (teq hd42).2 ?_
          show Steps p.tables e below (T41.setTop (mkF m 88 #[.val (.int p1), .val (.long q1), .second, .val (.long q2), .second, .val (.int p2), .val (.int p3), .val (.int p4), .val (.int (((p1 >>> ((1 : Int32) &&& 31)) &&& (15 : Int32)) - (4 : Int32))), .val (.ref w_SERVER), .val (.ref b38), .val (.int (0 : Int32))] [])) _
          refine XS.iconst X41.here hx rfl (hb hby at_88) ?_
          show Steps p.tables e below (T41.setTop (mkF m 89 #[.val (.int p1), .val (.long q1), .second, .val (.long q2), .second, .val (.int p2), .val (.int p3), .val (.int p4), .val (.int (((p1 >>> ((1 : Int32) &&& 31)) &&& (15 : Int32)) - (4 : Int32))), .val (.ref w_SERVER), .val (.ref b38), .val (.int (0 : Int32))] [(.int (1 : Int32))])) _
          refine XS.goto X41.here hx rfl (pc0 := 89) (pc' := 93) rfl (hb hby at_89) (by decide) (by decide) ?_
          show Steps p.tables e below (T41.setTop (mkF m 93 #[.val (.int p1), .val (.long q1), .second, .val (.long q2), .second, .val (.int p2), .val (.int p3), .val (.int p4), .val (.int (((p1 >>> ((1 : Int32) &&& 31)) &&& (15 : Int32)) - (4 : Int32))), .val (.ref w_SERVER), .val (.ref b38), .val (.int (0 : Int32))] [(.int (1 : Int32))])) _
          exact retN X41 hx (t := .boolean) Bd.returns (by simp) (hb hby at_93) hr
        · show Q_rm0 Z p1 q1 q2 p2 p3 p4 w_CLIENT w_SERVER h0 n0 _ T41.heap _
          rw [eq41]
          exact ⟨rfl, N41⟩
      · have pre43 : ∀ t, Steps p.tables e below (T39.setTop (mkF m 68 #[.val (.int p1), .val (.long q1), .second, .val (.long q2), .second, .val (.int p2), .val (.int p3), .val (.int p4), .val (.int (((p1 >>> ((1 : Int32) &&& 31)) &&& (15 : Int32)) - (4 : Int32))), .val (.ref w_SERVER), .val (.ref b38), .unset] [(.int (2 : Int32)), (.int (((p1 >>> ((1 : Int32) &&& 31)) &&& (15 : Int32)) - (4 : Int32)))])) t → Steps p.tables e below (s₁.setTop (entryFrame m #[(.int p1), (.long q1), (.long q2), (.int p2), (.int p3), (.int p4)] maxLocals)) t := by
          intro t kt
          refine pre40 _ ?_
          show Steps p.tables e below (T39.setTop (mkF m 62 #[.val (.int p1), .val (.long q1), .second, .val (.long q2), .second, .val (.int p2), .val (.int p3), .val (.int p4), .val (.int (((p1 >>> ((1 : Int32) &&& 31)) &&& (15 : Int32)) - (4 : Int32))), .val (.ref w_SERVER), .val (.ref b38), .unset] [(.int (1 : Int32)), (.int (((p1 >>> ((1 : Int32) &&& 31)) &&& (15 : Int32)) - (4 : Int32)))])) _
          refine XS.icmpNo X39.here hx rfl (hb hby at_62) rfl (flt hc62_40).1 ?_
          show Steps p.tables e below (T39.setTop (mkF m 65 #[.val (.int p1), .val (.long q1), .second, .val (.long q2), .second, .val (.int p2), .val (.int p3), .val (.int p4), .val (.int (((p1 >>> ((1 : Int32) &&& 31)) &&& (15 : Int32)) - (4 : Int32))), .val (.ref w_SERVER), .val (.ref b38), .unset] [])) _
          refine XS.iload X39.here hx rfl (hb hby at_65) rfl ?_
          show Steps p.tables e below (T39.setTop (mkF m 67 #[.val (.int p1), .val (.long q1), .second, .val (.long q2), .second, .val (.int p2), .val (.int p3), .val (.int p4), .val (.int (((p1 >>> ((1 : Int32) &&& 31)) &&& (15 : Int32)) - (4 : Int32))), .val (.ref w_SERVER), .val (.ref b38), .unset] [(.int (((p1 >>> ((1 : Int32) &&& 31)) &&& (15 : Int32)) - (4 : Int32)))])) _
          refine XS.iconst X39.here hx rfl (hb hby at_67) ?_
          exact kt
        by_cases hc68_43 : (2 : Int32) < (((p1 >>> ((1 : Int32) &&& 31)) &&& (15 : Int32)) - (4 : Int32))
        · obtain ⟨cq44, kq44, q44a, q44b, q44c⟩ := isOf hZ rfl Ea39
          obtain ⟨_, _, ⟨T44, L44, k44, n44⟩, -, X44, ⟨Lc44, hQ44, l44, y44, z44⟩, st44⟩ := X39.virtualBack hx (y := (⟨"com/example/riposte/riposte/txn/Notify", "asksForRetry", "()Z"⟩ : MethodName)) (z := (⟨"com/example/riposte/riposte/txn/Notify", "asksForRetry", "()Z"⟩ : MethodName)) hown (mvT hZ (hw _ (List.mem_of_getElem? (i := 31) rfl))) (mvT hZ (hw _ (List.mem_of_getElem? (i := 32) rfl))) (notFace_of_selects (args := #[]) (mvT hZ (hw _ (List.mem_of_getElem? (i := 34) rfl)))) (mvT hZ (hw _ (List.mem_of_getElem? (i := 34) rfl))) (mvT hZ (hw _ (List.mem_of_getElem? (i := 33) rfl))) (by decide) (backOf (W := 0) (asksForRetry l Z a0 hw [] b38 (((p1 >>> ((1 : Int32) &&& 31)) &&& (15 : Int32)) - (4 : Int32)) T39.heap n0 O39 Fc39) hZ (hw _ (List.mem_of_getElem? (i := 35) rfl)) (hw _ (List.mem_of_getElem? (i := 5) rfl)) (by decide) (by decide)) q44a q44c (g := (mkF m 80 #[.val (.int p1), .val (.long q1), .second, .val (.long q2), .second, .val (.int p2), .val (.int p3), .val (.int p4), .val (.int (((p1 >>> ((1 : Int32) &&& 31)) &&& (15 : Int32)) - (4 : Int32))), .val (.ref w_SERVER), .val (.ref b38), .val (.int (0 : Int32))] [(.ref b38)])) rfl (by rw [hml]; rfl) (Steps.refl _) (argsL := []) (rest := []) (lenOf pd___Z rfl) rfl (by show 2 * 0 + _ ≤ _; exact Nat.le_of_eq rfl) (hb hby at_80) (fun _ _ => ⟨rfl, rfl, (by decide : 1 + 0 ≤ _), (by decide : 7 + 0 ≤ _)⟩)
          dsimp only [Pt.U, Pt.locs, Pt.cells, Pt.slots] at X44 l44 y44 z44 st44 hQ44
          subst l44 y44 z44
          obtain ⟨rfl, Nq44, eq44⟩ := hQ44
          have N44 := Fr.app N39 Nq44
          have hd45 : (own_ask (((p1 >>> ((1 : Int32) &&& 31)) &&& (15 : Int32)) - (4 : Int32))) = (0 : Int32) := own_ask_gt hc68_43
          obtain ⟨fs, hr, hrun, hended, hW, hsame⟩ := X44.leave (v := some (.int (1 : Int32))) (fun h => by rw [Bd.returns] at h; cases h)
          refine ⟨_, _, pre43 _ ?_, hrun, hended, _, _, rfl, ?_, ⟨_, rfl⟩, hW, hsame.mono (by decide) (by decide)⟩
          · show Steps p.tables e below (T39.setTop (mkF m 68 #[.val (.int p1), .val (.long q1), .second, .val (.long q2), .second, .val (.int p2), .val (.int p3), .val (.int p4), .val (.int (((p1 >>> ((1 : Int32) &&& 31)) &&& (15 : Int32)) - (4 : Int32))), .val (.ref w_SERVER), .val (.ref b38), .unset] [(.int (2 : Int32)), (.int (((p1 >>> ((1 : Int32) &&& 31)) &&& (15 : Int32)) - (4 : Int32)))])) _
            refine XS.icmpYes X39.here hx rfl (pc0 := 68) (pc' := 75) rfl (hb hby at_68) rfl (tlt hc68_43).2.2.1 (by decide) (by decide) ?_
            show Steps p.tables e below (T39.setTop (mkF m 75 #[.val (.int p1), .val (.long q1), .second, .val (.long q2), .second, .val (.int p2), .val (.int p3), .val (.int p4), .val (.int (((p1 >>> ((1 : Int32) &&& 31)) &&& (15 : Int32)) - (4 : Int32))), .val (.ref w_SERVER), .val (.ref b38), .unset] [])) _
            refine XS.iconst X39.here hx rfl (hb hby at_75) ?_
            show Steps p.tables e below (T39.setTop (mkF m 76 #[.val (.int p1), .val (.long q1), .second, .val (.long q2), .second, .val (.int p2), .val (.int p3), .val (.int p4), .val (.int (((p1 >>> ((1 : Int32) &&& 31)) &&& (15 : Int32)) - (4 : Int32))), .val (.ref w_SERVER), .val (.ref b38), .unset] [(.int (0 : Int32))])) _
            refine XS.istore X39.here hx rfl (hb hby at_76) rfl (l' := #[.val (.int p1), .val (.long q1), .second, .val (.long q2), .second, .val (.int p2), .val (.int p3), .val (.int p4), .val (.int (((p1 >>> ((1 : Int32) &&& 31)) &&& (15 : Int32)) - (4 : Int32))), .val (.ref w_SERVER), .val (.ref b38), .val (.int (0 : Int32))]) rfl ?_
            show Steps p.tables e below (T39.setTop (mkF m 78 #[.val (.int p1), .val (.long q1), .second, .val (.long q2), .second, .val (.int p2), .val (.int p3), .val (.int p4), .val (.int (((p1 >>> ((1 : Int32) &&& 31)) &&& (15 : Int32)) - (4 : Int32))), .val (.ref w_SERVER), .val (.ref b38), .val (.int (0 : Int32))] [])) _
            refine XS.aload X39.here hx rfl (hb hby at_78) rfl rfl ?_
            show Steps p.tables e below (T39.setTop (mkF m 80 #[.val (.int p1), .val (.long q1), .second, .val (.long q2), .second, .val (.int p2), .val (.int p3), .val (.int p4), .val (.int (((p1 >>> ((1 : Int32) &&& 31)) &&& (15 : Int32)) - (4 : Int32))), .val (.ref w_SERVER), .val (.ref b38), .val (.int (0 : Int32))] [(.ref b38)])) _
            refine st44.trans ?_
            show Steps p.tables e below (T44.setTop (mkF m 83 #[.val (.int p1), .val (.long q1), .second, .val (.long q2), .second, .val (.int p2), .val (.int p3), .val (.int p4), .val (.int (((p1 >>> ((1 : Int32) &&& 31)) &&& (15 : Int32)) - (4 : Int32))), .val (.ref w_SERVER), .val (.ref b38), .val (.int (0 : Int32))] [(.int (own_ask (((p1 >>> ((1 : Int32) &&& 31)) &&& (15 : Int32)) - (4 : Int32))))])) _
            refine XS.iload X44.here hx rfl (hb hby at_83) rfl ?_
            show Steps p.tables e below (T44.setTop (mkF m 85 #[.val (.int p1), .val (.long q1), .second, .val (.long q2), .second, .val (.int p2), .val (.int p3), .val (.int p4), .val (.int (((p1 >>> ((1 : Int32) &&& 31)) &&& (15 : Int32)) - (4 : Int32))), .val (.ref w_SERVER), .val (.ref b38), .val (.int (0 : Int32))] [(.int (0 : Int32)), (.int (own_ask (((p1 >>> ((1 : Int32) &&& 31)) &&& (15 : Int32)) - (4 : Int32))))])) _
            refine XS.icmpNo X44.here hx rfl (hb hby at_85) rfl (teq hd45).2 ?_
            show Steps p.tables e below (T44.setTop (mkF m 88 #[.val (.int p1), .val (.long q1), .second, .val (.long q2), .second, .val (.int p2), .val (.int p3), .val (.int p4), .val (.int (((p1 >>> ((1 : Int32) &&& 31)) &&& (15 : Int32)) - (4 : Int32))), .val (.ref w_SERVER), .val (.ref b38), .val (.int (0 : Int32))] [])) _
            refine XS.iconst X44.here hx rfl (hb hby at_88) ?_
            show Steps p.tables e below (T44.setTop (mkF m 89 #[.val (.int p1), .val (.long q1), .second, .val (.long q2), .second, .val (.int p2), .val (.int p3), .val (.int p4), .val (.int (((p1 >>> ((1 : Int32) &&& 31)) &&& (15 : Int32)) - (4 : Int32))), .val (.ref w_SERVER), .val (.ref b38), .val (.int (0 : Int32))] [(.int (1 : Int32))])) _
            refine XS.goto X44.here hx rfl (pc0 := 89) (pc' := 93) rfl (hb hby at_89) (by decide) (by decide) ?_
            show Steps p.tables e below (T44.setTop (mkF m 93 #[.val (.int p1), .val (.long q1), .second, .val (.long q2), .second, .val (.int p2), .val (.int p3), .val (.int p4), .val (.int (((p1 >>> ((1 : Int32) &&& 31)) &&& (15 : Int32)) - (4 : Int32))), .val (.ref w_SERVER), .val (.ref b38), .val (.int (0 : Int32))] [(.int (1 : Int32))])) _
            exact retN X44 hx (t := .boolean) Bd.returns (by simp) (hb hby at_93) hr
          · show Q_rm0 Z p1 q1 q2 p2 p3 p4 w_CLIENT w_SERVER h0 n0 _ T44.heap _
            rw [eq44]
            exact ⟨rfl, N44⟩
        · obtain ⟨cq46, kq46, q46a, q46b, q46c⟩ := isOf hZ rfl Ea39
          obtain ⟨_, _, ⟨T46, L46, k46, n46⟩, -, X46, ⟨Lc46, hQ46, l46, y46, z46⟩, st46⟩ := X39.virtualBack hx (y := (⟨"com/example/riposte/riposte/txn/Notify", "asksForRetry", "()Z"⟩ : MethodName)) (z := (⟨"com/example/riposte/riposte/txn/Notify", "asksForRetry", "()Z"⟩ : MethodName)) hown (mvT hZ (hw _ (List.mem_of_getElem? (i := 31) rfl))) (mvT hZ (hw _ (List.mem_of_getElem? (i := 32) rfl))) (notFace_of_selects (args := #[]) (mvT hZ (hw _ (List.mem_of_getElem? (i := 34) rfl)))) (mvT hZ (hw _ (List.mem_of_getElem? (i := 34) rfl))) (mvT hZ (hw _ (List.mem_of_getElem? (i := 33) rfl))) (by decide) (backOf (W := 0) (asksForRetry l Z a0 hw [] b38 (((p1 >>> ((1 : Int32) &&& 31)) &&& (15 : Int32)) - (4 : Int32)) T39.heap n0 O39 Fc39) hZ (hw _ (List.mem_of_getElem? (i := 35) rfl)) (hw _ (List.mem_of_getElem? (i := 5) rfl)) (by decide) (by decide)) q46a q46c (g := (mkF m 80 #[.val (.int p1), .val (.long q1), .second, .val (.long q2), .second, .val (.int p2), .val (.int p3), .val (.int p4), .val (.int (((p1 >>> ((1 : Int32) &&& 31)) &&& (15 : Int32)) - (4 : Int32))), .val (.ref w_SERVER), .val (.ref b38), .val (.int (1 : Int32))] [(.ref b38)])) rfl (by rw [hml]; rfl) (Steps.refl _) (argsL := []) (rest := []) (lenOf pd___Z rfl) rfl (by show 2 * 0 + _ ≤ _; exact Nat.le_of_eq rfl) (hb hby at_80) (fun _ _ => ⟨rfl, rfl, (by decide : 1 + 0 ≤ _), (by decide : 7 + 0 ≤ _)⟩)
          dsimp only [Pt.U, Pt.locs, Pt.cells, Pt.slots] at X46 l46 y46 z46 st46 hQ46
          subst l46 y46 z46
          obtain ⟨rfl, Nq46, eq46⟩ := hQ46
          have N46 := Fr.app N39 Nq46
          have hd47 : (own_ask (((p1 >>> ((1 : Int32) &&& 31)) &&& (15 : Int32)) - (4 : Int32))) = (1 : Int32) := own_ask_in hc62_40 hc68_43
          obtain ⟨fs, hr, hrun, hended, hW, hsame⟩ := X46.leave (v := some (.int (1 : Int32))) (fun h => by rw [Bd.returns] at h; cases h)
          refine ⟨_, _, pre43 _ ?_, hrun, hended, _, _, rfl, ?_, ⟨_, rfl⟩, hW, hsame.mono (by decide) (by decide)⟩
          · show Steps p.tables e below (T39.setTop (mkF m 68 #[.val (.int p1), .val (.long q1), .second, .val (.long q2), .second, .val (.int p2), .val (.int p3), .val (.int p4), .val (.int (((p1 >>> ((1 : Int32) &&& 31)) &&& (15 : Int32)) - (4 : Int32))), .val (.ref w_SERVER), .val (.ref b38), .unset] [(.int (2 : Int32)), (.int (((p1 >>> ((1 : Int32) &&& 31)) &&& (15 : Int32)) - (4 : Int32)))])) _
            refine XS.icmpNo X39.here hx rfl (hb hby at_68) rfl (flt hc68_43).2.2.1 ?_
            show Steps p.tables e below (T39.setTop (mkF m 71 #[.val (.int p1), .val (.long q1), .second, .val (.long q2), .second, .val (.int p2), .val (.int p3), .val (.int p4), .val (.int (((p1 >>> ((1 : Int32) &&& 31)) &&& (15 : Int32)) - (4 : Int32))), .val (.ref w_SERVER), .val (.ref b38), .unset] [])) _
            refine XS.iconst X39.here hx rfl (hb hby at_71) ?_
            show Steps p.tables e below (T39.setTop (mkF m 72 #[.val (.int p1), .val (.long q1), .second, .val (.long q2), .second, .val (.int p2), .val (.int p3), .val (.int p4), .val (.int (((p1 >>> ((1 : Int32) &&& 31)) &&& (15 : Int32)) - (4 : Int32))), .val (.ref w_SERVER), .val (.ref b38), .unset] [(.int (1 : Int32))])) _
            refine XS.goto X39.here hx rfl (pc0 := 72) (pc' := 76) rfl (hb hby at_72) (by decide) (by decide) ?_
            show Steps p.tables e below (T39.setTop (mkF m 76 #[.val (.int p1), .val (.long q1), .second, .val (.long q2), .second, .val (.int p2), .val (.int p3), .val (.int p4), .val (.int (((p1 >>> ((1 : Int32) &&& 31)) &&& (15 : Int32)) - (4 : Int32))), .val (.ref w_SERVER), .val (.ref b38), .unset] [(.int (1 : Int32))])) _
            refine XS.istore X39.here hx rfl (hb hby at_76) rfl (l' := #[.val (.int p1), .val (.long q1), .second, .val (.long q2), .second, .val (.int p2), .val (.int p3), .val (.int p4), .val (.int (((p1 >>> ((1 : Int32) &&& 31)) &&& (15 : Int32)) - (4 : Int32))), .val (.ref w_SERVER), .val (.ref b38), .val (.int (1 : Int32))]) rfl ?_
            show Steps p.tables e below (T39.setTop (mkF m 78 #[.val (.int p1), .val (.long q1), .second, .val (.long q2), .second, .val (.int p2), .val (.int p3), .val (.int p4), .val (.int (((p1 >>> ((1 : Int32) &&& 31)) &&& (15 : Int32)) - (4 : Int32))), .val (.ref w_SERVER), .val (.ref b38), .val (.int (1 : Int32))] [])) _
            refine XS.aload X39.here hx rfl (hb hby at_78) rfl rfl ?_
            show Steps p.tables e below (T39.setTop (mkF m 80 #[.val (.int p1), .val (.long q1), .second, .val (.long q2), .second, .val (.int p2), .val (.int p3), .val (.int p4), .val (.int (((p1 >>> ((1 : Int32) &&& 31)) &&& (15 : Int32)) - (4 : Int32))), .val (.ref w_SERVER), .val (.ref b38), .val (.int (1 : Int32))] [(.ref b38)])) _
            refine st46.trans ?_
            show Steps p.tables e below (T46.setTop (mkF m 83 #[.val (.int p1), .val (.long q1), .second, .val (.long q2), .second, .val (.int p2), .val (.int p3), .val (.int p4), .val (.int (((p1 >>> ((1 : Int32) &&& 31)) &&& (15 : Int32)) - (4 : Int32))), .val (.ref w_SERVER), .val (.ref b38), .val (.int (1 : Int32))] [(.int (own_ask (((p1 >>> ((1 : Int32) &&& 31)) &&& (15 : Int32)) - (4 : Int32))))])) _
            refine XS.iload X46.here hx rfl (hb hby at_83) rfl ?_
            show Steps p.tables e below (T46.setTop (mkF m 85 #[.val (.int p1), .val (.long q1), .second, .val (.long q2), .second, .val (.int p2), .val (.int p3), .val (.int p4), .val (.int (((p1 >>> ((1 : Int32) &&& 31)) &&& (15 : Int32)) - (4 : Int32))), .val (.ref w_SERVER), .val (.ref b38), .val (.int (1 : Int32))] [(.int (1 : Int32)), (.int (own_ask (((p1 >>> ((1 : Int32) &&& 31)) &&& (15 : Int32)) - (4 : Int32))))])) _
            refine XS.icmpNo X46.here hx rfl (hb hby at_85) rfl (teq hd47).2 ?_
            show Steps p.tables e below (T46.setTop (mkF m 88 #[.val (.int p1), .val (.long q1), .second, .val (.long q2), .second, .val (.int p2), .val (.int p3), .val (.int p4), .val (.int (((p1 >>> ((1 : Int32) &&& 31)) &&& (15 : Int32)) - (4 : Int32))), .val (.ref w_SERVER), .val (.ref b38), .val (.int (1 : Int32))] [])) _
            refine XS.iconst X46.here hx rfl (hb hby at_88) ?_
            show Steps p.tables e below (T46.setTop (mkF m 89 #[.val (.int p1), .val (.long q1), .second, .val (.long q2), .second, .val (.int p2), .val (.int p3), .val (.int p4), .val (.int (((p1 >>> ((1 : Int32) &&& 31)) &&& (15 : Int32)) - (4 : Int32))), .val (.ref w_SERVER), .val (.ref b38), .val (.int (1 : Int32))] [(.int (1 : Int32))])) _
            refine XS.goto X46.here hx rfl (pc0 := 89) (pc' := 93) rfl (hb hby at_89) (by decide) (by decide) ?_
            show Steps p.tables e below (T46.setTop (mkF m 93 #[.val (.int p1), .val (.long q1), .second, .val (.long q2), .second, .val (.int p2), .val (.int p3), .val (.int p4), .val (.int (((p1 >>> ((1 : Int32) &&& 31)) &&& (15 : Int32)) - (4 : Int32))), .val (.ref w_SERVER), .val (.ref b38), .val (.int (1 : Int32))] [(.int (1 : Int32))])) _
            exact retN X46 hx (t := .boolean) Bd.returns (by simp) (hb hby at_93) hr
          · show Q_rm0 Z p1 q1 q2 p2 p3 p4 w_CLIENT w_SERVER h0 n0 _ T46.heap _
            rw [eq46]
            exact ⟨rfl, N46⟩
set_option maxRecDepth 65536 in
set_option maxHeartbeats 40000000 in
theorem comes_1 {Post : Tables → Env → Array Value → State → Outcome → State → Prop} (hpost : ∀ tb e args s v u, (limb_1_1.after args s (.returned v) u = true ∧ limb_1_2.after args s (.returned v) u = true ∧ True) → FrameEnd s (.returned v) u (Jvm.fieldLocs frame_1_writes args s ++ Jvm.arrayLocs frame_1_arrays args s ++ Jvm.staticLocs frame_1_statics s) 16 128 → Post tb e args s (.returned v) u) :
    ArmFor flags0 classFile x code maxLocals ret World_1 tables_1 room_1 Calls_1 rest_1 Pre_1 Post := by
  intro l hfl _ _ p e ha hc hk s m args below hf hA hF happ hP
  obtain ⟨hcalls, hrest, hpre⟩ := hP
  obtain ⟨-, -, -, hnamed, -, -, -, hat⟩ := (Spec.applies_iff hf).mp happ
  obtain ⟨hg, hn⟩ := and_e (Cond.before_iff.mp (show (Jvm.Cond.and given_1 narrow_1).before args s = true from hpre))
  obtain ⟨hg0, hgr0⟩ := and_e hg
  obtain ⟨ha0, hgr1⟩ := and_e hgr0
  obtain ⟨ha1, hgr2⟩ := and_e hgr1
  obtain ⟨ha2, hgr3⟩ := and_e hgr2
  obtain ⟨ha3, hgr4⟩ := and_e hgr3
  obtain ⟨ha4, hgr5⟩ := and_e hgr4
  obtain ⟨w0, w1, w2, w3, w4, w5, rfl⟩ : ∃ w0 w1 w2 w3 w4 w5 : Value, args = #[w0, w1, w2, w3, w4, w5] := by
    have hs : args.size = 6 := by simpa [Cond.value, given_1] using hg0
    obtain ⟨L⟩ := args
    match L, hs with
    | [w0, w1, w2, w3, w4, w5], _ => exact ⟨w0, w1, w2, w3, w4, w5, rfl⟩
  have hw := fun d (hd : d ∈ tables_1) => atoms_spec (ws := Jvm.Cond.code x code maxLocals ret :: tables_1) hat d (List.mem_cons_of_mem _ hd)
  have hfit : Fit s := fun {y c} hc i hi => by
    obtain ⟨ha, rfl⟩ := Array.getElem?_eq_some_iff.mp hc
    have q := List.all_eq_true.mp ((Array.all_eq_true_iff_forall_mem.mp hF) _ (Array.getElem_mem ha)) i (List.mem_range.mpr hi)
    simpa [Array.getElem?_eq_getElem hi] using q
  obtain ⟨i0, ei0⟩ := is_v ha0
  obtain rfl : w0 = (.int i0) := Option.some.inj ei0
  obtain ⟨i1, ei1⟩ := isL_v ha1
  obtain rfl : w1 = (.long i1) := Option.some.inj ei1
  obtain ⟨i2, ei2⟩ := isL_v ha2
  obtain rfl : w2 = (.long i2) := Option.some.inj ei2
  obtain ⟨i3, ei3⟩ := is_v ha3
  obtain rfl : w3 = (.int i3) := Option.some.inj ei3
  obtain ⟨i4, ei4⟩ := is_v ha4
  obtain rfl : w4 = (.int i4) := Option.some.inj ei4
  obtain ⟨i5, ei5⟩ := is_v hgr5
  obtain rfl : w5 = (.int i5) := Option.some.inj ei5
  obtain ⟨hq1a, hq1b⟩ := and_e hn
  obtain ⟨w_CLIENT, ev_w_CLIENT⟩ := exa_v hq1a
  obtain ⟨w_SERVER, ev_w_SERVER⟩ := exa_v hq1b
  obtain ⟨n, o, h1, h2, h3, _, L, rfl, ⟨rfl, N⟩, hq⟩ := rm0 l s _ hw tables_1 i0 i1 i2 i3 i4 i5 w_CLIENT w_SERVER s.heap s.heap.size (Old.start s) ⟨(Sta.start ev_w_CLIENT (Or.inr ⟨(hw _ (List.mem_of_getElem? (i := 1) rfl)), (hw _ (List.mem_of_getElem? (i := 2) rfl))⟩)), (own_exa hq1a ev_w_CLIENT), (Sta.start ev_w_SERVER (Or.inr ⟨(hw _ (List.mem_of_getElem? (i := 1) rfl)), (hw _ (List.mem_of_getElem? (i := 37) rfl))⟩)), (own_exa hq1b ev_w_SERVER)⟩ p e ha hc hk s m _ below hf ((Spec.applies_iff_loose hf).mp happ).1 ⟨rfl, State.Warmed39.refl s, rfl⟩ trivial
  refine ⟨n, _, h1, h2, h3, hpost _ _ _ _ _ _ ⟨Cond.after_iff.mpr rfl, Cond.after_iff.mpr (eq_i res_at (Term.int_eval (1)) rfl), trivial⟩ ⟨hq.1, hq.2.1, (hq.2.2.sift fun y hy => Or.inr (N y hy)).mono (by decide) (by decide)⟩⟩
theorem main_1_1 : Claimed_1_1 := comes_1 fun _ _ _ _ _ _ h hF => ⟨h.1, hF⟩
theorem main_1_2 : Claimed_1_2 := comes_1 fun _ _ _ _ _ _ h hF => ⟨h.2.1, hF⟩
end Jvm.Pilot.@@N@@
namespace Jvm.Pilot.@@N@@
open Jvm Jvm.ClassFile Sem Op Lib Jvm.Free Jvm.Stand Jvm.Pilot.@@N@@.Jvm.D
/-! MADE BY PROGRAM (witnessworld.py) out of the Statement's table words and the real class files: 14 classes; the members and pool entries that the words name. The judged class is class 1, her method 1. -/
namespace start1
open Jvm.ClassFile
def u (s : String) : CpInfo := .utf8 (stringToUtf16 s)
/-- a pool by its gaps: so many unusable entries, then the entry; so many at the end -/
def gap : Nat → List CpInfo → List CpInfo
  | 0, r => r
  | n + 1, r => .unusable :: gap n r
def poolList (es : List (Nat × CpInfo)) (last : Nat) : List CpInfo := es.foldr (fun e r => gap e.1 (e.2 :: r)) (gap last [])
def pool (es : List (Nat × CpInfo)) (last : Nat) : Array CpInfo := ⟨poolList es last⟩
def fileOf (pool : Array CpInfo) (this : Nat) (attrs : Array Attribute := #[]) (ms : Array MethodInfo := #[]) (fl : Nat := 33) (sup : Nat := 0) (ifs : Array Nat := #[]) (fds : Array FieldInfo := #[]) : ClassFile where
  minorVersion := 0
  majorVersion := 65
  constantPool := pool
  accessFlags := fl
  thisClass := this
  superClass := sup
  interfaces := ifs
  fields := fds
  methods := ms
  attributes := attrs
def plain (name : String) (sup : Option ClassId) : Class where
  name := name
  kind := .ordinary
  loader := none
  accessFlags := 33
  super := sup
  interfaces := #[]
  cf := none
  fields := #[]
  methods := #[]
  instanceTypes := #[]
  staticTypes := #[]
  resolved := #[]
  callSites := []
  init := .initialized
  statics := none
  mirror := none

def pool0 : Array CpInfo := pool [(5, u "<init>"), (0, u "()V"), (1, .class_ 10), (1, u "java/lang/Object")] 113

def k0c0 : Code := { maxStack := 0, maxLocals := 1, code := object_method_1_code, exceptionTable := #[], attributes := #[] }
def k0m0 : Method := { name := "<init>", desc := "()V", sig := { parameters := [], returnType := none }, accessFlags := 1, code := some k0c0 }
/-- java/lang/Object -/
def k0 : Class := { plain "java/lang/Object" none with
  accessFlags := 33
  interfaces := #[]
  cf := some (fileOf pool0 8 #[] #[{ accessFlags := 1, nameIndex := 5, descriptorIndex := 6, attributes := #[] }] 33 0 #[] #[])
  fields := #[]
  methods := #[k0m0]
  instanceTypes := #[]
  staticTypes := #[]
  resolved := Array.replicate 124 none
  statics := none }

def pool1 : Array CpInfo := pool [(2, .class_ 4), (1, u "java/lang/Object"), (0, u "<init>"), (0, u "()V"), (0, .fieldref 8 9), (0, .class_ 10), (0, .nameAndType 11 12), (0, u "com/example/riposte/riposte/txn/Notify$Operation"), (0, u "SERVER"), (0, u "Lcom/example/riposte/riposte/txn/Notify$Operation;"), (0, .fieldref 8 14), (0, .nameAndType 15 12), (0, u "CLIENT"), (0, .class_ 17), (0, u "com/example/riposte/riposte/txn/Notify"), (0, .methodref 16 19), (0, .nameAndType 5 20), (0, u "(Lcom/example/riposte/riposte/txn/Notify$Operation;JJIIII)V"), (0, .methodref 16 22), (0, .nameAndType 23 24), (0, u "asksForRetry"), (0, u "()Z"), (0, .class_ 26), (0, u "com/example/riposte/riposte/txn/NotifyAsksForRetryPinLaw"), (2, u "law"), (0, u "(IJJIII)Z")] 5

def k1m0 : Method := { name := "<init>", desc := "()V", sig := { parameters := [], returnType := none }, accessFlags := 2, code := none }
def k1c1 : Code := { maxStack := 11, maxLocals := 12, code := code, exceptionTable := #[], attributes := #[] }
def k1m1 : Method := { name := "law", desc := "(IJJIII)Z", sig := { parameters := [.int, .long, .long, .int, .int, .int], returnType := some .boolean }, accessFlags := 9, code := some k1c1 }
/-- com/example/riposte/riposte/txn/NotifyAsksForRetryPinLaw -/
def k1 : Class := { plain "com/example/riposte/riposte/txn/NotifyAsksForRetryPinLaw" (some 0) with
  accessFlags := 49
  interfaces := #[]
  cf := some (fileOf pool1 25 #[] #[{ accessFlags := 2, nameIndex := 5, descriptorIndex := 6, attributes := #[] }, { accessFlags := 9, nameIndex := 29, descriptorIndex := 30, attributes := #[] }] 49 2 #[] #[])
  fields := #[]
  methods := #[k1m0, k1m1]
  instanceTypes := #[]
  staticTypes := #[]
  resolved := Array.replicate 36 none
  statics := none }

def pool2 : Array CpInfo := pool [(1, .class_ 2), (0, u "java/lang/constant/Constable"), (0, .class_ 4), (0, u "java/lang/Object")] 6

/-- java/lang/constant/Constable -/
def k2 : Class := { plain "java/lang/constant/Constable" (some 0) with
  accessFlags := 1537
  interfaces := #[]
  cf := some (fileOf pool2 1 #[] #[] 1537 3 #[] #[])
  fields := #[]
  methods := #[]
  instanceTypes := #[]
  staticTypes := #[]
  resolved := Array.replicate 11 none
  statics := none }

def pool3 : Array CpInfo := pool [(1, .class_ 2), (0, u "java/lang/Comparable"), (0, .class_ 4), (0, u "java/lang/Object")] 7

/-- java/lang/Comparable -/
def k3 : Class := { plain "java/lang/Comparable" (some 0) with
  accessFlags := 1537
  interfaces := #[]
  cf := some (fileOf pool3 1 #[] #[] 1537 3 #[] #[])
  fields := #[]
  methods := #[]
  instanceTypes := #[]
  staticTypes := #[]
  resolved := Array.replicate 12 none
  statics := none }

def pool4 : Array CpInfo := pool [(1, .class_ 2), (0, u "java/io/Serializable"), (0, .class_ 4), (0, u "java/lang/Object")] 2

/-- java/io/Serializable -/
def k4 : Class := { plain "java/io/Serializable" (some 0) with
  accessFlags := 1537
  interfaces := #[]
  cf := some (fileOf pool4 1 #[] #[] 1537 3 #[] #[])
  fields := #[]
  methods := #[]
  instanceTypes := #[]
  staticTypes := #[]
  resolved := Array.replicate 7 none
  statics := none }

def pool5 : Array CpInfo := pool [(2, .class_ 4), (1, u "java/lang/Enum"), (0, u "name"), (0, u "Ljava/lang/String;"), (2, u "ordinal"), (0, u "I"), (1, .class_ 14), (1, u "java/lang/Object"), (4, u "hash"), (86, .class_ 108), (1, u "java/lang/Enum$EnumDesc"), (2, .class_ 112), (0, u "java/lang/constant/Constable"), (0, .class_ 114), (0, u "java/lang/Comparable"), (0, .class_ 116), (0, u "java/io/Serializable")] 87

/-- java/lang/Enum -/
def k5 : Class := { plain "java/lang/Enum" (some 0) with
  accessFlags := 1057
  interfaces := #[2, 3, 4]
  cf := some (fileOf pool5 2 #[.nestMembers #[106]] #[] 1057 12 #[111, 113, 115] #[{ accessFlags := 18, nameIndex := 5, descriptorIndex := 6, attributes := #[] }, { accessFlags := 18, nameIndex := 9, descriptorIndex := 10, attributes := #[] }, { accessFlags := 2, nameIndex := 19, descriptorIndex := 10, attributes := #[] }])
  fields := #[{ name := "name", type := (.object "java/lang/String"), accessFlags := 18, slot := 0, constantValue := 0 }, { name := "ordinal", type := .int, accessFlags := 18, slot := 1, constantValue := 0 }, { name := "hash", type := .int, accessFlags := 2, slot := 2, constantValue := 0 }]
  methods := #[]
  instanceTypes := #[(.object "java/lang/String"), .int, .int]
  staticTypes := #[]
  resolved := Array.replicate 204 none
  statics := none }

def pool6 : Array CpInfo := pool [(1, .class_ 2), (0, u "com/example/riposte/riposte/txn/Notify$Operation"), (2, u "CLIENT"), (0, u "Lcom/example/riposte/riposte/txn/Notify$Operation;"), (2, u "SERVER"), (2, u "$VALUES"), (0, u "[Lcom/example/riposte/riposte/txn/Notify$Operation;"), (6, .class_ 22), (1, u "java/lang/Enum"), (8, u "code"), (0, u "I"), (24, .class_ 58), (0, u "com/example/riposte/riposte/txn/Notify")] 2

/-- com/example/riposte/riposte/txn/Notify$Operation -/
def k6 : Class := { plain "com/example/riposte/riposte/txn/Notify$Operation" (some 5) with
  accessFlags := 16433
  interfaces := #[]
  cf := some (fileOf pool6 1 #[.nestHost 57] #[] 16433 20 #[] #[{ accessFlags := 16409, nameIndex := 5, descriptorIndex := 6, attributes := #[] }, { accessFlags := 16409, nameIndex := 9, descriptorIndex := 6, attributes := #[] }, { accessFlags := 18, nameIndex := 31, descriptorIndex := 32, attributes := #[] }, { accessFlags := 4122, nameIndex := 12, descriptorIndex := 13, attributes := #[] }])
  fields := #[{ name := "CLIENT", type := (.object "com/example/riposte/riposte/txn/Notify$Operation"), accessFlags := 16409, slot := 0, constantValue := 0 }, { name := "SERVER", type := (.object "com/example/riposte/riposte/txn/Notify$Operation"), accessFlags := 16409, slot := 1, constantValue := 0 }, { name := "code", type := .int, accessFlags := 18, slot := 3, constantValue := 0 }, { name := "$VALUES", type := (.array (.object "com/example/riposte/riposte/txn/Notify$Operation")), accessFlags := 4122, slot := 2, constantValue := 0 }]
  methods := #[]
  instanceTypes := #[(.object "java/lang/String"), .int, .int, .int]
  staticTypes := #[(.object "com/example/riposte/riposte/txn/Notify$Operation"), (.object "com/example/riposte/riposte/txn/Notify$Operation"), (.array (.object "com/example/riposte/riposte/txn/Notify$Operation"))]
  resolved := Array.replicate 61 none
  statics := some 0 }

def pool7 : Array CpInfo := pool [(1, .methodref 2 3), (0, .class_ 4), (0, .nameAndType 5 6), (0, u "java/lang/Object"), (0, u "<init>"), (0, u "()V"), (0, .class_ 8), (0, u "java/lang/Record")] 13

def k7c0 : Code := { maxStack := 1, maxLocals := 1, code := jdk_30_method_1_code, exceptionTable := #[], attributes := #[] }
def k7m0 : Method := { name := "<init>", desc := "()V", sig := { parameters := [], returnType := none }, accessFlags := 4, code := some k7c0 }
/-- java/lang/Record -/
def k7 : Class := { plain "java/lang/Record" (some 0) with
  accessFlags := 1057
  interfaces := #[]
  cf := some (fileOf pool7 7 #[] #[{ accessFlags := 4, nameIndex := 5, descriptorIndex := 6, attributes := #[] }] 1057 2 #[] #[])
  fields := #[]
  methods := #[k7m0]
  instanceTypes := #[]
  staticTypes := #[]
  resolved := Array.replicate 22 none
  statics := none }

def pool8 : Array CpInfo := pool [(1, .methodref 2 3), (0, .class_ 4), (0, .nameAndType 5 6), (0, u "java/lang/Record"), (0, u "<init>"), (0, u "()V"), (0, .fieldref 8 9), (0, .class_ 10), (0, .nameAndType 11 12), (0, u "com/example/riposte/riposte/txn/Notify"), (0, u "operation"), (0, u "Lcom/example/riposte/riposte/txn/Notify$Operation;"), (0, .fieldref 8 14), (0, .nameAndType 15 16), (0, u "client"), (0, u "J"), (0, .fieldref 8 18), (0, .nameAndType 19 16), (0, u "server"), (0, .fieldref 8 21), (0, .nameAndType 22 23), (0, u "transaction"), (0, u "I"), (0, .fieldref 8 25), (0, .nameAndType 26 23), (0, u "control"), (0, .fieldref 8 28), (0, .nameAndType 29 23), (0, u "delivery"), (0, .fieldref 8 31), (0, .nameAndType 32 23), (0, u "code"), (32, .class_ 67), (1, u "com/example/riposte/riposte/txn/Notify$Operation"), (5, u "(Lcom/example/riposte/riposte/txn/Notify$Operation;JJIIII)V"), (76, u "()Z"), (12, u "MANAGER_GROUP"), (13, u "asksForRetry")] 35

def k8c0 : Code := { maxStack := 3, maxLocals := 10, code := prog_65_method_1_code, exceptionTable := #[], attributes := #[] }
def k8m0 : Method := { name := "<init>", desc := "(Lcom/example/riposte/riposte/txn/Notify$Operation;JJIIII)V", sig := { parameters := [(.object "com/example/riposte/riposte/txn/Notify$Operation"), .long, .long, .int, .int, .int, .int], returnType := none }, accessFlags := 1, code := some k8c0 }
def k8c1 : Code := { maxStack := 2, maxLocals := 1, code := prog_65_method_6_code, exceptionTable := #[], attributes := #[] }
def k8m1 : Method := { name := "asksForRetry", desc := "()Z", sig := { parameters := [], returnType := some .boolean }, accessFlags := 1, code := some k8c1 }
/-- com/example/riposte/riposte/txn/Notify -/
def k8 : Class := { plain "com/example/riposte/riposte/txn/Notify" (some 7) with
  accessFlags := 49
  interfaces := #[]
  cf := some (fileOf pool8 8 #[.nestMembers #[65]] #[{ accessFlags := 1, nameIndex := 5, descriptorIndex := 73, attributes := #[] }, { accessFlags := 1, nameIndex := 177, descriptorIndex := 150, attributes := #[] }] 49 2 #[] #[{ accessFlags := 18, nameIndex := 11, descriptorIndex := 12, attributes := #[] }, { accessFlags := 18, nameIndex := 15, descriptorIndex := 16, attributes := #[] }, { accessFlags := 18, nameIndex := 19, descriptorIndex := 16, attributes := #[] }, { accessFlags := 18, nameIndex := 22, descriptorIndex := 23, attributes := #[] }, { accessFlags := 18, nameIndex := 26, descriptorIndex := 23, attributes := #[] }, { accessFlags := 18, nameIndex := 29, descriptorIndex := 23, attributes := #[] }, { accessFlags := 18, nameIndex := 32, descriptorIndex := 23, attributes := #[] }, { accessFlags := 25, nameIndex := 163, descriptorIndex := 16, attributes := #[] }])
  fields := #[{ name := "operation", type := (.object "com/example/riposte/riposte/txn/Notify$Operation"), accessFlags := 18, slot := 0, constantValue := 0 }, { name := "client", type := .long, accessFlags := 18, slot := 1, constantValue := 0 }, { name := "server", type := .long, accessFlags := 18, slot := 2, constantValue := 0 }, { name := "transaction", type := .int, accessFlags := 18, slot := 3, constantValue := 0 }, { name := "control", type := .int, accessFlags := 18, slot := 4, constantValue := 0 }, { name := "delivery", type := .int, accessFlags := 18, slot := 5, constantValue := 0 }, { name := "code", type := .int, accessFlags := 18, slot := 6, constantValue := 0 }, { name := "MANAGER_GROUP", type := .long, accessFlags := 25, slot := 0, constantValue := 0 }]
  methods := #[k8m0, k8m1]
  instanceTypes := #[(.object "com/example/riposte/riposte/txn/Notify$Operation"), .long, .long, .int, .int, .int, .int]
  staticTypes := #[.long]
  resolved := Array.replicate 213 none
  statics := none }

def pool9 : Array CpInfo := pool [(1, u "java/lang/Cloneable"), (0, .class_ 1), (0, u "java/lang/Object"), (0, .class_ 3)] 3

/-- java/lang/Cloneable -/
def k9 : Class := { plain "java/lang/Cloneable" (some 0) with
  accessFlags := 1537
  interfaces := #[]
  cf := some (fileOf pool9 2 #[] #[] 1537 4 #[] #[])
  fields := #[]
  methods := #[]
  instanceTypes := #[]
  staticTypes := #[]
  resolved := Array.replicate 8 none
  statics := none }

/-- the primitive byte -/
def k10 : Class := { plain "byte" none with kind := .primitive 'B', accessFlags := 0x411 }
/-- [B -/
def k11 : Class := { plain "[B" (some 0) with kind := .array 10 .byte, interfaces := #[9, 4], accessFlags := 1041 }

/-- the primitive int -/
def k12 : Class := { plain "int" none with kind := .primitive 'I', accessFlags := 0x411 }
/-- [I -/
def k13 : Class := { plain "[I" (some 0) with kind := .array 12 .int, interfaces := #[9, 4], accessFlags := 1041 }

def heap : Heap := #[{ cls := 6, slots := #[.ref 1, .ref 2, .null], vm := .statics 6 },
  { cls := 6, slots := #[.null, .int 0, .int 0, .int 0], vm := .none },
  { cls := 6, slots := #[.null, .int 0, .int 0, .int 0], vm := .none }]
def classes : Array Class := #[k0, k1, k2, k3, k4, k5, k6, k7, k8, k9, k10, k11, k12, k13]
def interned : List (Array UInt16 × Addr) := []
def slotsUsed : Nat := 11
def theMethod : MethodId := ⟨1, 1⟩
def args0 : Array Value := #[.int 5, .long 3, .long 4, .int 6, .int 2, .int 9]
def aboutOver (below : List Frame) : State where
  vm := { classes := classes, interned := interned.toArray }
  heap := heap
  slotsUsed := slotsUsed
  threads := #[{ frames := .invoking theMethod args0 :: below }]
def below0 : List Frame := [.native { method := ⟨0, 0⟩, args := #[] }]
def about1 : State := aboutOver below0
def p0 : Program := .bare "" "" ""
def e0 : Env := launch0.env 0 0 0
theorem w_frames : about1.frames = Frame.invoking theMethod args0 :: below0 := rfl
set_option maxRecDepth 65536 in
theorem w_args : argsFit about1.vm theMethod args0 = true := by decide +kernel
set_option maxRecDepth 65536 in
theorem w_heap : heapFits about1 = true := by decide +kernel
set_option maxRecDepth 65536 in
theorem w_runnable : about1.curStatus? = some .runnable := by decide +kernel
set_option maxRecDepth 65536 in
theorem w_alone : about1.alone = true := by decide +kernel
set_option maxRecDepth 65536 in
theorem w_named : about1.methodNamed? x = some theMethod := by decide +kernel
set_option maxRecDepth 65536 in
theorem w_hears : about1.hears theMethod below0 = true := by decide +kernel
set_option maxRecDepth 65536 in
theorem w_ripe : about1.ripe theMethod args0 below0 = true := by decide +kernel
theorem w_running : about1.status = .running := rfl
set_option maxRecDepth 65536 in
theorem w_room : about1.hasRoom e0.platform room_1 = true :=
  launch0.hasRoom_least _ room_1 (by decide +kernel) (by decide +kernel) (by decide +kernel) (by decide +kernel) (by decide +kernel) (by decide +kernel)
theorem allAtoms_all (ts : List Jvm.Cond) (a : Array Jvm.Value) (st : Jvm.State) : (allAtoms ts).before a st = ts.all (fun c => c.before a st) := by
  induction ts with
  | nil => rfl
  | cons c t ih =>
    show (Jvm.Cond.and c (allAtoms t)).before a st = _
    rw [Jvm.Cond.before_and, ih, List.all_cons]
def words1 : List Jvm.Cond := Jvm.Cond.code x code maxLocals ret :: tables_1
/-- a 'code' word, met by the world's own term for the bytes: nothing is compared byte by byte -/
theorem code_word {y : MethodName} {bytes : ByteArray} {mx : Nat} {rt : Option FieldType} {a : Array Value} {s : State} {m : MethodId} {meth : Method} {c : Code} (h1 : s.methodNamed? y = some m) (h2 : s.vm.method? m = some meth) (h3 : meth.code = some c) (h4 : c.code = bytes)
    (h5 : (c.maxLocals == mx && c.exceptionTable.isEmpty && decide (c.maxStack ≤ mostOperands) && decide (meth.sig.returnType = rt) && !meth.locks && decide (parseMethodDescriptor y.desc = some meth.sig)) = true) : (Jvm.Cond.code y bytes mx rt).before a s = true := by
  simp only [Bool.and_eq_true, beq_iff_eq, Bool.not_eq_true', decide_eq_true_eq] at h5
  obtain ⟨⟨⟨⟨⟨g1, g2⟩, g3⟩, g4⟩, g5⟩, g6⟩ := h5
  simp [Cond.before, Cond.holds, Cond.value, h1, h2, h3, h4, g1, g2, g3, g4, g5, g6]
def isCode : Jvm.Cond → Bool
  | .code _ _ _ _ => true
  | _ => false
theorem all_split {L : List Jvm.Cond} {P : Jvm.Cond → Bool} (h1 : L.all (fun c => isCode c || P c) = true) (h2 : ∀ c ∈ L.filter isCode, P c = true) : L.all P = true := by
  refine List.all_eq_true.mpr fun c hc => ?_
  have h := List.all_eq_true.mp h1 c hc
  rcases Bool.eq_false_or_eq_true (isCode c) with hi | hi
  · exact h2 c (List.mem_filter.mpr ⟨hc, hi⟩)
  · simpa [hi] using h
set_option maxRecDepth 65536 in
theorem w_c0 : (Jvm.Cond.code x code maxLocals ret).before args0 about1 = true := code_word (m := ⟨1, 1⟩) (meth := k1m1) (c := k1c1) (by decide +kernel) rfl rfl rfl (by decide +kernel)
set_option maxRecDepth 65536 in
theorem w_c1 : (Jvm.Cond.code ({ cls := "com/example/riposte/riposte/txn/Notify", name := "<init>", desc := "(Lcom/example/riposte/riposte/txn/Notify$Operation;JJIIII)V" } : Jvm.MethodName) prog_65_method_1_code (10 : Nat) (Option.none : Option Jvm.ClassFile.FieldType)).before args0 about1 = true := code_word (m := ⟨8, 0⟩) (meth := k8m0) (c := k8c0) (by decide +kernel) rfl rfl rfl (by decide +kernel)
set_option maxRecDepth 65536 in
theorem w_c2 : (Jvm.Cond.code ({ cls := "java/lang/Record", name := "<init>", desc := "()V" } : Jvm.MethodName) jdk_30_method_1_code (1 : Nat) (Option.none : Option Jvm.ClassFile.FieldType)).before args0 about1 = true := code_word (m := ⟨7, 0⟩) (meth := k7m0) (c := k7c0) (by decide +kernel) rfl rfl rfl (by decide +kernel)
set_option maxRecDepth 65536 in
theorem w_c3 : (Jvm.Cond.code ({ cls := "java/lang/Object", name := "<init>", desc := "()V" } : Jvm.MethodName) object_method_1_code (1 : Nat) (Option.none : Option Jvm.ClassFile.FieldType)).before args0 about1 = true := code_word (m := ⟨0, 0⟩) (meth := k0m0) (c := k0c0) (by decide +kernel) rfl rfl rfl (by decide +kernel)
set_option maxRecDepth 65536 in
theorem w_c4 : (Jvm.Cond.code ({ cls := "com/example/riposte/riposte/txn/Notify", name := "asksForRetry", desc := "()Z" } : Jvm.MethodName) prog_65_method_6_code (1 : Nat) (Option.some Jvm.ClassFile.FieldType.boolean)).before args0 about1 = true := code_word (m := ⟨8, 1⟩) (meth := k8m1) (c := k8c1) (by decide +kernel) rfl rfl rfl (by decide +kernel)
def codes1 : List Jvm.Cond := [Jvm.Cond.code x code maxLocals ret, Jvm.Cond.code ({ cls := "com/example/riposte/riposte/txn/Notify", name := "<init>", desc := "(Lcom/example/riposte/riposte/txn/Notify$Operation;JJIIII)V" } : Jvm.MethodName) prog_65_method_1_code (10 : Nat) (Option.none : Option Jvm.ClassFile.FieldType), Jvm.Cond.code ({ cls := "java/lang/Record", name := "<init>", desc := "()V" } : Jvm.MethodName) jdk_30_method_1_code (1 : Nat) (Option.none : Option Jvm.ClassFile.FieldType), Jvm.Cond.code ({ cls := "java/lang/Object", name := "<init>", desc := "()V" } : Jvm.MethodName) object_method_1_code (1 : Nat) (Option.none : Option Jvm.ClassFile.FieldType), Jvm.Cond.code ({ cls := "com/example/riposte/riposte/txn/Notify", name := "asksForRetry", desc := "()Z" } : Jvm.MethodName) prog_65_method_6_code (1 : Nat) (Option.some Jvm.ClassFile.FieldType.boolean)]
set_option maxRecDepth 65536 in
theorem codes_eq : words1.filter isCode = codes1 := rfl
theorem w_codes : ∀ c ∈ words1.filter isCode, c.before args0 about1 = true := by
  rw [codes_eq]
  intro c hc
  simp only [codes1, List.mem_cons, List.not_mem_nil, or_false] at hc
  rcases hc with rfl | rfl | rfl | rfl | rfl
  · exact w_c0
  · exact w_c1
  · exact w_c2
  · exact w_c3
  · exact w_c4
set_option maxRecDepth 65536 in
theorem w_t1 : (words1.take 24).all (fun c => isCode c || c.before args0 about1) = true := by decide +kernel
set_option maxRecDepth 65536 in
theorem w_t2 : (words1.drop 24).all (fun c => isCode c || c.before args0 about1) = true := by decide +kernel
theorem w_tables : (allAtoms (Jvm.Cond.code x code maxLocals ret :: tables_1)).before args0 about1 = true := by
  rw [allAtoms_all]
  show words1.all (fun c => c.before args0 about1) = true
  refine all_split ?_ w_codes
  rw [← List.take_append_drop 24 words1, List.all_append, w_t1, w_t2]
  rfl
set_option maxRecDepth 65536 in
theorem w_case : (Jvm.Cond.and given_1 narrow_1).before args0 about1 = true := by decide +kernel
theorem w_applies : (headSpec (Jvm.Cond.code x code maxLocals ret :: tables_1) room_1).applies x e0.platform about1 = true :=
  (Spec.applies_iff w_frames).mpr ⟨w_running, w_runnable, w_alone, w_named, w_hears, w_ripe, w_room, w_tables⟩
theorem atStart : AtStart classFile x code maxLocals ret World_1 tables_1 room_1 Calls_1 rest_1 Pre_1 launch0 p0 e0 about1 theMethod args0 below0 :=
  ⟨lists_1, trivial, launch0.admits_env _ _ _, launch0.least_env, fairChoices_fair.cas, fairChoices_fair.clock, w_frames, w_args, w_heap, w_applies, trivial, trivial, w_case⟩
end start1
theorem witness_1 : WitnessClaimed_1 := ⟨start1.p0, start1.e0, start1.about1, start1.theMethod, start1.args0, start1.below0, start1.atStart⟩
end Jvm.Pilot.@@N@@
