import JvmDerived
import JvmDerived.Pilot.@@N@@Statement
import JvmDerived.Pilot.@@N@@Code
set_option linter.unusedVariables false
set_option linter.unusedSimpArgs false
namespace Jvm.RoadKit
open Sem ClassFile Op Lib Jvm.Stand Jvm.Free Jvm.LawKit
section New
variable {p : Program} {l : Launch} {e : Env} {R : Room} {s : State} {m : MethodId} {args : Array Value} {below : List Frame} {meth : Method} {c : Code} {T : State} {locs : List Loc} {cells slots : Nat}
theorem retI (X : Stand p l e R s m args below meth c T locs cells slots) (hx : p.tables.exec = Jvm.exec) {pc : Nat} {Ls : Array Slot} {z : Int32} {rest : List Value} (hret : meth.sig.returnType = some .int) (hd : decode c.code pc = .ok (.ireturn, 1)) {fs : List Frame}
    (hl : ∀ (f : JFrame) (acts : List Action), f.method = m → f.locked = none → f.entered = [] → (doReturn e (T.setTop f) acts (some (.int z))).1 = T.setFrames fs) : Steps p.tables e below (T.setTop (mkF m pc Ls (.int z :: rest))) (T.setFrames fs) := by
  have hm' : T.vm.method? m = some meth := X.method'
  have hn : narrow .int (.int z) = .int z := rfl
  show Steps p.tables e below (T.setTop { method := m, pc := pc, locals := Ls, stack := _ :: rest, locked := none }) _
  jvm_step X.here [X.here.top, hx, hd, hm', hret, hn]
  first | (intro acts; rw [hl _ acts rfl rfl rfl]) | rw [hl _ _ rfl rfl rfl]
  exact Steps.refl _
end New
end Jvm.RoadKit
namespace Jvm.Pilot.@@N@@
open Jvm Jvm.ClassFile Sem Op Lib Jvm.Free Jvm.Stand Jvm.LawKit Jvm.RoadKit Bundle Jvm.Pilot.@@N@@.Jvm.D
theorem own_le {Z : State} {n0 : Nat} {h : Heap} (O : Old Z n0 h) : n0 ≤ h.size := O.1 ▸ O.2.1
theorem pn_com_example_semaforo_semaforo_network_Lane : plainName "com/example/semaforo/semaforo/network/Lane" = true := by first | (simp [plainName, overriddenIn]; done) | decide +kernel
theorem pn_com_example_semaforo_semaforo_network_LaneEqualsPinLaw : plainName "com/example/semaforo/semaforo/network/LaneEqualsPinLaw" = true := by first | (simp [plainName, overriddenIn]; done) | decide +kernel
theorem pn_java_lang_Integer : plainName "java/lang/Integer" = true := by first | (simp [plainName, overriddenIn]; done) | decide +kernel
theorem pn_java_lang_Number : plainName "java/lang/Number" = true := by first | (simp [plainName, overriddenIn]; done) | decide +kernel
theorem pd___V : parseMethodDescriptor "()V" = some ⟨[], none⟩ := by decide +kernel
theorem pd__I_Ljava_lang_Integer_ : parseMethodDescriptor "(I)Ljava/lang/Integer;" = some ⟨[.int], some (.object "java/lang/Integer")⟩ := by decide +kernel
theorem pd__I_V : parseMethodDescriptor "(I)V" = some ⟨[.int], none⟩ := by decide +kernel
theorem pd__Ljava_lang_Object__Z : parseMethodDescriptor "(Ljava/lang/Object;)Z" = some ⟨[(.object "java/lang/Object")], some .boolean⟩ := by decide +kernel
theorem pd__ZZZ_V : parseMethodDescriptor "(ZZZ)V" = some ⟨[.boolean, .boolean, .boolean], none⟩ := by decide +kernel
theorem d1_0 : decode prog_52_method_1_code 0 = .ok (.aload_n 0, 1) := by decide +kernel
theorem d1_1 : decode prog_52_method_1_code 1 = .ok (.invokespecial 1, 3) := by decide +kernel
theorem d1_4 : decode prog_52_method_1_code 4 = .ok (.aload_n 0, 1) := by decide +kernel
theorem d1_5 : decode prog_52_method_1_code 5 = .ok (.iload_n 1, 1) := by decide +kernel
theorem d1_6 : decode prog_52_method_1_code 6 = .ok (.putfield 7, 3) := by decide +kernel
theorem d1_9 : decode prog_52_method_1_code 9 = .ok (.aload_n 0, 1) := by decide +kernel
theorem d1_10 : decode prog_52_method_1_code 10 = .ok (.iload_n 2, 1) := by decide +kernel
theorem d1_11 : decode prog_52_method_1_code 11 = .ok (.putfield 13, 3) := by decide +kernel
theorem d1_14 : decode prog_52_method_1_code 14 = .ok (.aload_n 0, 1) := by decide +kernel
theorem d1_15 : decode prog_52_method_1_code 15 = .ok (.iload_n 3, 1) := by decide +kernel
theorem d1_16 : decode prog_52_method_1_code 16 = .ok (.putfield 16, 3) := by decide +kernel
theorem d1_19 : decode prog_52_method_1_code 19 = .ok (.return_, 1) := by decide +kernel
theorem d3_0 : decode prog_52_method_5_code 0 = .ok (.aload_n 0, 1) := by decide +kernel
theorem d3_1 : decode prog_52_method_5_code 1 = .ok (.aload_n 1, 1) := by decide +kernel
theorem d3_2 : decode prog_52_method_5_code 2 = .ok (.if_acmp .ne 5, 3) := by decide +kernel
theorem d3_5 : decode prog_52_method_5_code 5 = .ok (.iconst 1, 1) := by decide +kernel
theorem d3_6 : decode prog_52_method_5_code 6 = .ok (.ireturn, 1) := by decide +kernel
theorem d3_7 : decode prog_52_method_5_code 7 = .ok (.aload_n 1, 1) := by decide +kernel
theorem d3_8 : decode prog_52_method_5_code 8 = .ok (.instanceof 8, 3) := by decide +kernel
theorem d3_11 : decode prog_52_method_5_code 11 = .ok (.ifCond .ne 5, 3) := by decide +kernel
theorem d3_14 : decode prog_52_method_5_code 14 = .ok (.iconst 0, 1) := by decide +kernel
theorem d3_15 : decode prog_52_method_5_code 15 = .ok (.ireturn, 1) := by decide +kernel
theorem d3_16 : decode prog_52_method_5_code 16 = .ok (.aload_n 1, 1) := by decide +kernel
theorem d3_17 : decode prog_52_method_5_code 17 = .ok (.checkcast 8, 3) := by decide +kernel
theorem d3_20 : decode prog_52_method_5_code 20 = .ok (.astore_n 2, 1) := by decide +kernel
theorem d3_21 : decode prog_52_method_5_code 21 = .ok (.aload_n 0, 1) := by decide +kernel
theorem d3_22 : decode prog_52_method_5_code 22 = .ok (.getfield 7, 3) := by decide +kernel
theorem d3_25 : decode prog_52_method_5_code 25 = .ok (.aload_n 2, 1) := by decide +kernel
theorem d3_26 : decode prog_52_method_5_code 26 = .ok (.getfield 7, 3) := by decide +kernel
theorem d3_29 : decode prog_52_method_5_code 29 = .ok (.if_icmp .ne 29, 3) := by decide +kernel
theorem d3_32 : decode prog_52_method_5_code 32 = .ok (.aload_n 0, 1) := by decide +kernel
theorem d3_33 : decode prog_52_method_5_code 33 = .ok (.getfield 13, 3) := by decide +kernel
theorem d3_36 : decode prog_52_method_5_code 36 = .ok (.aload_n 2, 1) := by decide +kernel
theorem d3_37 : decode prog_52_method_5_code 37 = .ok (.getfield 13, 3) := by decide +kernel
theorem d3_40 : decode prog_52_method_5_code 40 = .ok (.if_icmp .ne 18, 3) := by decide +kernel
theorem d3_43 : decode prog_52_method_5_code 43 = .ok (.aload_n 0, 1) := by decide +kernel
theorem d3_44 : decode prog_52_method_5_code 44 = .ok (.getfield 16, 3) := by decide +kernel
theorem d3_47 : decode prog_52_method_5_code 47 = .ok (.aload_n 2, 1) := by decide +kernel
theorem d3_48 : decode prog_52_method_5_code 48 = .ok (.getfield 16, 3) := by decide +kernel
theorem d3_51 : decode prog_52_method_5_code 51 = .ok (.if_icmp .ne 7, 3) := by decide +kernel
theorem d3_54 : decode prog_52_method_5_code 54 = .ok (.iconst 1, 1) := by decide +kernel
theorem d3_55 : decode prog_52_method_5_code 55 = .ok (.goto 4, 3) := by decide +kernel
theorem d3_58 : decode prog_52_method_5_code 58 = .ok (.iconst 0, 1) := by decide +kernel
theorem d3_59 : decode prog_52_method_5_code 59 = .ok (.ireturn, 1) := by decide +kernel
theorem d4_0 : decode jdk_33_method_22_code 0 = .ok (.iload_n 0, 1) := by decide +kernel
theorem d4_1 : decode jdk_33_method_22_code 1 = .ok (.bipush (-128), 2) := by decide +kernel
theorem d4_3 : decode jdk_33_method_22_code 3 = .ok (.if_icmp .lt 20, 3) := by decide +kernel
theorem d4_6 : decode jdk_33_method_22_code 6 = .ok (.iload_n 0, 1) := by decide +kernel
theorem d4_7 : decode jdk_33_method_22_code 7 = .ok (.getstatic 191, 3) := by decide +kernel
theorem d4_10 : decode jdk_33_method_22_code 10 = .ok (.if_icmp .gt 13, 3) := by decide +kernel
theorem d4_13 : decode jdk_33_method_22_code 13 = .ok (.getstatic 195, 3) := by decide +kernel
theorem d4_16 : decode jdk_33_method_22_code 16 = .ok (.iload_n 0, 1) := by decide +kernel
theorem d4_17 : decode jdk_33_method_22_code 17 = .ok (.sipush 128, 3) := by decide +kernel
theorem d4_20 : decode jdk_33_method_22_code 20 = .ok (.iadd, 1) := by decide +kernel
theorem d4_21 : decode jdk_33_method_22_code 21 = .ok (.aaload, 1) := by decide +kernel
theorem d4_22 : decode jdk_33_method_22_code 22 = .ok (.areturn, 1) := by decide +kernel
theorem d4_23 : decode jdk_33_method_22_code 23 = .ok (.new 1, 3) := by decide +kernel
theorem d4_26 : decode jdk_33_method_22_code 26 = .ok (.dup, 1) := by decide +kernel
theorem d4_27 : decode jdk_33_method_22_code 27 = .ok (.iload_n 0, 1) := by decide +kernel
theorem d4_28 : decode jdk_33_method_22_code 28 = .ok (.invokespecial 199, 3) := by decide +kernel
theorem d4_31 : decode jdk_33_method_22_code 31 = .ok (.areturn, 1) := by decide +kernel
theorem d5_0 : decode jdk_33_method_23_code 0 = .ok (.aload_n 0, 1) := by decide +kernel
theorem d5_1 : decode jdk_33_method_23_code 1 = .ok (.invokespecial 202, 3) := by decide +kernel
theorem d5_4 : decode jdk_33_method_23_code 4 = .ok (.aload_n 0, 1) := by decide +kernel
theorem d5_5 : decode jdk_33_method_23_code 5 = .ok (.iload_n 1, 1) := by decide +kernel
theorem d5_6 : decode jdk_33_method_23_code 6 = .ok (.putfield 205, 3) := by decide +kernel
theorem d5_9 : decode jdk_33_method_23_code 9 = .ok (.return_, 1) := by decide +kernel
theorem d6_0 : decode jdk_18_method_1_code 0 = .ok (.aload_n 0, 1) := by decide +kernel
theorem d6_1 : decode jdk_18_method_1_code 1 = .ok (.invokespecial 1, 3) := by decide +kernel
theorem d6_4 : decode jdk_18_method_1_code 4 = .ok (.return_, 1) := by decide +kernel
def own_bit (x m : Int32) : Int32 := if x &&& m = 0 then 0 else 1
theorem own_bit_t {x m : Int32} (h : x &&& m = (0 : Int32)) : own_bit x m = (0 : Int32) := if_pos h
theorem own_bit_f {x m : Int32} (h : ¬ (x &&& m = (0 : Int32))) : own_bit x m = (1 : Int32) := if_neg h
theorem own_01 (x m : Int32) : own_bit x m = (0 : Int32) ∨ own_bit x m = (1 : Int32) := by unfold own_bit; split <;> simp
theorem own_nb {x : Int32} (h : x = (0 : Int32) ∨ x = (1 : Int32)) : narrow .boolean (.int x) = .int x := by rcases h with rfl | rfl <;> rfl
theorem own_fb {x : Int32} (h : x = (0 : Int32) ∨ x = (1 : Int32)) : fits .boolean (.int x) = true := by rcases h with rfl | rfl <;> rfl
def own_eq (l1 s1 r1 l2 s2 r2 : Int32) : Int32 := if l1 = l2 then (if s1 = s2 then (if r1 = r2 then 1 else 0) else 0) else 0
theorem own_8 (x : Int32) : x &&& 7 = 0 ∨ x &&& 7 = 1 ∨ x &&& 7 = 2 ∨ x &&& 7 = 3 ∨ x &&& 7 = 4 ∨ x &&& 7 = 5 ∨ x &&& 7 = 6 ∨ x &&& 7 = 7 := by
  have e := c_mask x 7 3 (by decide) (by decide)
  have h : (x &&& 7).toInt = 0 ∨ (x &&& 7).toInt = 1 ∨ (x &&& 7).toInt = 2 ∨ (x &&& 7).toInt = 3 ∨ (x &&& 7).toInt = 4 ∨ (x &&& 7).toInt = 5 ∨ (x &&& 7).toInt = 6 ∨ (x &&& 7).toInt = 7 := by omega
  simp only [← Int32.toInt_inj]; exact h
theorem own_b7 (x : Int32) : own_bit x 1 = own_bit (x &&& 7) 1 ∧ own_bit x 2 = own_bit (x &&& 7) 2 ∧ own_bit x 4 = own_bit (x &&& 7) 4 := by
  refine ⟨?_, ?_, ?_⟩ <;> (unfold own_bit; rw [Int32.and_assoc]; rfl)
theorem own_lane_t {x y : Int32} (h : (x &&& (7 : Int32)) = (y &&& (7 : Int32))) : own_eq (own_bit x 1) (own_bit x 2) (own_bit x 4) (own_bit y 1) (own_bit y 2) (own_bit y 4) = (1 : Int32) := by
  obtain ⟨a1, a2, a3⟩ := own_b7 x
  obtain ⟨b1, b2, b3⟩ := own_b7 y
  rw [a1, a2, a3, b1, b2, b3, h]; simp [own_eq]
theorem own_lane_f {x y : Int32} (h : ¬ (x &&& (7 : Int32)) = (y &&& (7 : Int32))) : own_eq (own_bit x 1) (own_bit x 2) (own_bit x 4) (own_bit y 1) (own_bit y 2) (own_bit y 4) = (0 : Int32) := by
  obtain ⟨a1, a2, a3⟩ := own_b7 x
  obtain ⟨b1, b2, b3⟩ := own_b7 y
  rw [a1, a2, a3, b1, b2, b3]
  rcases own_8 x with e | e | e | e | e | e | e | e <;> rcases own_8 y with g | g | g | g | g | g | g | g <;> rw [e, g] at h ⊢ <;> first | exact absurd rfl h | decide
theorem own_len {args : Array Value} {s : State} {t : Term} {a : Addr} {cl : Cell} {ty : FieldType} {n : Int32} (ev : t.eval args s none [] s = some (.ref a)) (A : Arr s s.heap a cl ty) (h : (Jvm.Cond.eq (.length t) (.int n)).value args s none s [] = some true) : cl.slots.size < 2 ^ 31 ∧ cl.slots.size.toInt32 = n := by
  have e := eqv_i (Term.int_eval n) h
  have hA := A.fin (Vm.Alike.refl _)
  simp only [Term.eval, ev, hA, Option.bind_eq_bind, Option.bind_some, Option.pure_def] at e
  split at e
  · rename_i hlt; exact ⟨hlt, by simpa using e⟩
  · cases e
theorem own_root {Z : State} {a0 : Array Value} {O K : String} {n : Nat} (w : (Jvm.Cond.noSuperclass O).before a0 Z = true) (wk : (Jvm.Cond.instantiable K n).before a0 Z = true) (hn : O ≠ K) : NS Z O K := by
  obtain ⟨c, k, h1, h2, h3, -, -⟩ := Cond.noSuperclass_spec w
  obtain ⟨t, -, g1, -⟩ := Cond.instantiable_spec wk
  refine ⟨c, t, h1, g1, fun fuel => ?_⟩
  cases fuel with
  | zero => rfl
  | succ f => simp [Vm.isSubclassAux, ids_ne h1 g1 hn, h2, h3]
theorem own_no {Z : State} {a0 : Array Value} {C K : String} {n n' : Nat} (w : (Jvm.Cond.instantiable C n').before a0 Z = true) (wk : (Jvm.Cond.instantiable K n).before a0 Z = true) (q : NS Z C K) (hn : C ≠ K) : ∃ c t, Z.vm.findClass C = some c ∧ Z.vm.findClass K = some t ∧ Z.vm.assignable c t = false := by
  obtain ⟨c, t, h0, g0, n3⟩ := q
  obtain ⟨c', k, h1, h2, h3, -, -⟩ := Cond.instantiable_spec w
  obtain ⟨t', k', g1, g2, g3, g4, -⟩ := Cond.instantiable_spec wk
  cases h0.symm.trans h1
  cases g0.symm.trans g1
  refine ⟨c, t, h0, g0, ?_⟩
  have g5 : k'.isInterface = false := (Bool.or_eq_false_iff.mp g4).1
  show Z.vm.assignableAux (255 + 1) c t = false
  simp [Vm.assignableAux, ids_ne h0 g0 hn, h2, g2, h3, g3, g5, Vm.isSubclass, n3]
def EnvI (Z : State) (wc : Addr) (clc : Cell) : Prop := Sta Z Z.heap "java/lang/Integer$IntegerCache" "high" "I" (.int (127 : Int32)) ∧ Sta Z Z.heap "java/lang/Integer$IntegerCache" "cache" "[Ljava/lang/Integer;" (.ref wc) ∧ Bxs Z wc clc "java/lang/Integer" "I" (256 : Int32) (fun j => .int (j - 128))
theorem own_cb {p : Int32} (h : ¬ p < (-128 : Int32)) (h' : ¬ (127 : Int32) < p) : ¬ (p + (128 : Int32)) < 0 ∧ (p + (128 : Int32)) < (256 : Int32) := by
  simp only [Int32.lt_iff_toInt_lt] at *
  have e1 : (-128 : Int32).toInt = -128 := rfl
  have e2 : (127 : Int32).toInt = 127 := rfl
  have e3 : (128 : Int32).toInt = 128 := rfl
  have e4 : (256 : Int32).toInt = 256 := rfl
  have e5 : (0 : Int32).toInt = 0 := rfl
  have a := c_iadd p 128
  have b := rng32 (p + 128)
  omega
theorem own_cache {args : Array Value} {s : State} (hw : ∀ d ∈ tables_1, d.before args s = true) (hs : ∀ d ∈ jdkStatics_1, d.before args s = true) : ∃ wc clc, EnvI s wc clc := by
  have e3 := eqv_i (Term.int_eval (127 : Int32)) (Cond.before_iff.mp (hs _ (List.mem_of_getElem? (i := 3) rfl)))
  obtain ⟨wc, ev⟩ := exa_v (Cond.before_iff.mp (hs _ (List.mem_of_getElem? (i := 5) rfl)))
  obtain ⟨clc, A⟩ := Arr.start ev (Cond.before_iff.mp (hs _ (List.mem_of_getElem? (i := 4) rfl)))
  have hall := Cond.before_iff.mp (hs _ (List.mem_of_getElem? (i := 7) rfl))
  have hsz := own_len ev A (Cond.before_iff.mp (hs _ (List.mem_of_getElem? (i := 6) rfl)))
  refine ⟨wc, clc, Sta.start e3 (Or.inr ⟨hw _ (List.mem_of_getElem? (i := 25) rfl), hs _ (List.mem_of_getElem? (i := 0) rfl)⟩), Sta.start ev (Or.inr ⟨hw _ (List.mem_of_getElem? (i := 25) rfl), hs _ (List.mem_of_getElem? (i := 2) rfl)⟩), ?_⟩
  refine Bxs.start (fun _ => ev) A hsz.1 hsz.2 (by decide) hall (fun X j nn hX => ?_)
  refine eqv_i ?_ hX
  have hi : (Term.index 0).eval args s none [j.toNatClampNeg] s = some (.int j) := idx_at nn
  show (Term.sub (Term.index 0) (Term.int 128)).eval args s none [j.toNatClampNeg] s = _
  rw [Term.eval, hi]; rfl
theorem ef_numI (m : MethodId) (a1 : Addr) : entryFrame m #[(.ref a1)] 1 = mkF m 0 #[.val (.ref a1)] [] := by first | (simp [entryFrame, mkF, argsToLocals, Value.category]; done) | rfl
def Q_numI (Z : State) (a1 : Addr) (h0 : Heap) (n0 : Nat) (v : Option Value) (h : Heap) (L : List Loc) : Prop := v = none ∧ Fr n0 L ∧ h = h0
set_option maxRecDepth 65536 in
set_option maxHeartbeats 40000000 in
theorem numI (l : Launch) (Z : State) (a0 : Array Value) (hw : ∀ d ∈ tables_1, d.before a0 Z = true) (ws : List Jvm.Cond) (a1 : Addr) (h0 : Heap) (n0 : Nat) (O0 : Old Z n0 h0) :
    MetFree l (⟨"java/lang/Number", "<init>", "()V"⟩ : MethodName) (head1 (Jvm.Cond.code (⟨"java/lang/Number", "<init>", "()V"⟩ : MethodName) jdk_18_method_1_code 1 none :: ws) ({ frames := 1, cells := 0, slots := 0, locals := 12 } : Room)) (fun a U => a = #[(.ref a1)] ∧ Z.Warmed39 U.vm ∧ U.heap = h0) (fun _ _ _ _ _ => True) (fun _ U o U' => ∃ v L, o = .returned v ∧ Q_numI Z a1 h0 n0 v U'.heap L ∧ FrameEnd U o U' L ({ frames := 1, cells := 0, slots := 0, locals := 12 } : Room).cells ({ frames := 1, cells := 0, slots := 0, locals := 12 } : Room).slots) := by
  refine MetFree.of_bodySF (plainFor_of_name pn_java_lang_Number) hisR ?_
  intro p e s m args below meth c s₁ Bd hml0 hP hK
  obtain ⟨rfl, hZ, hh⟩ := hP
  have hx := Bd.exec
  have hby := Bd.bytes
  have hml : c.maxLocals = 1 := hml0
  have hown : s.vm.findClass "java/lang/Number" = some m.cls := findClass_of_methodNamed Bd.named
  have hnm := (name_of_methodNamed Bd.named Bd.method).1
  have X0 : Stand p l e ({ frames := 1, cells := 0, slots := 0, locals := 12 } : Room) s m #[(.ref a1)] below meth c s₁ [] 0 0 := Stand.of_body Bd
  have e0 : s₁.heap = h0 := by rw [← hh, Bd.state]; rfl
  have N0 := Fr.nil n0
  have pre0 : ∀ t, Steps p.tables e below (s₁.setTop (mkF m 0 #[.val (.ref a1)] [])) t → Steps p.tables e below (s₁.setTop (entryFrame m #[(.ref a1)] 1)) t := fun t k => castTop (ef_numI m a1) k
  obtain ⟨T1, X1, e1, st1⟩ := initO X0 hx hZ hown (hw _ (List.mem_of_getElem? (i := 43) rfl)) (hw _ (List.mem_of_getElem? (i := 7) rfl)) (hw _ (List.mem_of_getElem? (i := 8) rfl)) e0 (g := (mkF m 1 #[.val (.ref a1)] [(.ref a1)])) rfl (by rw [hml]; rfl) rfl (hb hby d6_1) (by decide) (W := 0) (by show 2 * 0 + _ ≤ _; exact Nat.le_of_eq rfl) (by decide)
  obtain ⟨fs, hr, hrun, hended, hW, hsame⟩ := X1.leave (v := none) (fun _ => rfl)
  refine ⟨_, _, pre0 _ ?_, hrun, hended, _, _, rfl, ?_, ⟨_, rfl⟩, hW, hsame.mono (by decide) (by decide)⟩
  · show Steps p.tables e below (s₁.setTop (mkF m 0 #[.val (.ref a1)] [])) _
    refine XS.aloadN X0.here hx rfl (hb hby d6_0) rfl rfl ?_
    show Steps p.tables e below (s₁.setTop (mkF m 1 #[.val (.ref a1)] [(.ref a1)])) _
    refine st1 _ ?_
    show Steps p.tables e below (T1.setTop (mkF m 4 #[.val (.ref a1)] [])) _
    exact X1.returnOut hx Bd.returns (hb hby d6_4) hr
  · show Q_numI Z a1 h0 n0 _ T1.heap _
    rw [e1]
    exact ⟨rfl, N0, rfl⟩
theorem ef_intI (m : MethodId) (a1 : Addr) (p1 : Int32) : entryFrame m #[(.ref a1), (.int p1)] 2 = mkF m 0 #[.val (.ref a1), .val (.int p1)] [] := by first | (simp [entryFrame, mkF, argsToLocals, Value.category]; done) | rfl
def Q_intI (Z : State) (a1 : Addr) (p1 : Int32) (h0 : Heap) (n0 : Nat) (v : Option Value) (h : Heap) (L : List Loc) : Prop := v = none ∧ Fr n0 L ∧ Keep h0 h [a1] ∧ Exa Z h a1 "java/lang/Integer"
set_option maxRecDepth 65536 in
set_option maxHeartbeats 40000000 in
theorem intI (l : Launch) (Z : State) (a0 : Array Value) (hw : ∀ d ∈ tables_1, d.before a0 Z = true) (ws : List Jvm.Cond) (a1 : Addr) (p1 : Int32) (h0 : Heap) (n0 : Nat) (O0 : Old Z n0 h0) (E1 : Exa Z h0 a1 "java/lang/Integer") (g1 : n0 ≤ a1) (F1 : Fld Z h0 a1 "java/lang/Integer" "value" "I" (.int (0 : Int32))) :
    MetFree l (⟨"java/lang/Integer", "<init>", "(I)V"⟩ : MethodName) (head1 (Jvm.Cond.code (⟨"java/lang/Integer", "<init>", "(I)V"⟩ : MethodName) jdk_33_method_23_code 2 none :: ws) ({ frames := 2, cells := 0, slots := 0, locals := 24 } : Room)) (fun a U => a = #[(.ref a1), (.int p1)] ∧ Z.Warmed39 U.vm ∧ U.heap = h0) (fun _ _ _ _ _ => True) (fun _ U o U' => ∃ v L, o = .returned v ∧ Q_intI Z a1 p1 h0 n0 v U'.heap L ∧ FrameEnd U o U' L ({ frames := 2, cells := 0, slots := 0, locals := 24 } : Room).cells ({ frames := 2, cells := 0, slots := 0, locals := 24 } : Room).slots) := by
  refine MetFree.of_bodySF (plainFor_of_name pn_java_lang_Integer) hisR ?_
  intro p e s m args below meth c s₁ Bd hml0 hP hK
  obtain ⟨rfl, hZ, hh⟩ := hP
  have hx := Bd.exec
  have hby := Bd.bytes
  have hml : c.maxLocals = 2 := hml0
  have hown : s.vm.findClass "java/lang/Integer" = some m.cls := findClass_of_methodNamed Bd.named
  have hnm := (name_of_methodNamed Bd.named Bd.method).1
  have X0 : Stand p l e ({ frames := 2, cells := 0, slots := 0, locals := 24 } : Room) s m #[(.ref a1), (.int p1)] below meth c s₁ [] 0 0 := Stand.of_body Bd
  have e0 : s₁.heap = h0 := by rw [← hh, Bd.state]; rfl
  have N0 := Fr.nil n0
  have pre0 : ∀ t, Steps p.tables e below (s₁.setTop (mkF m 0 #[.val (.ref a1), .val (.int p1)] [])) t → Steps p.tables e below (s₁.setTop (entryFrame m #[(.ref a1), (.int p1)] 2)) t := fun t k => castTop (ef_intI m a1 p1) k
  obtain ⟨_, _, ⟨T1, L1, k1, n1⟩, -, X1, ⟨Lc1, hQ1, l1, y1, z1⟩, st1⟩ := X0.specialBack hx (y := (⟨"java/lang/Number", "<init>", "()V"⟩ : MethodName)) rfl hown (mvT hZ (hw _ (List.mem_of_getElem? (i := 37) rfl))) (mvT hZ (hw _ (List.mem_of_getElem? (i := 38) rfl))) (mvT hZ (hw _ (List.mem_of_getElem? (i := 42) rfl))) (by decide) (backOf (W := 0) (numI l Z a0 hw [] a1 h0 n0 O0) hZ (hw _ (List.mem_of_getElem? (i := 42) rfl)) (hw _ (List.mem_of_getElem? (i := 41) rfl)) (by decide) (by decide)) (g := (mkF m 1 #[.val (.ref a1), .val (.int p1)] [(.ref a1)])) rfl (by rw [hml]; rfl) (Steps.refl _) (a := a1) (argsL := []) (rest := []) (lenOf pd___V rfl) rfl (by show 2 * 0 + _ ≤ _; exact Nat.le_of_eq rfl) (hb hby d5_1) (fun _ _ => ⟨rfl, e0, (by decide : 0 + 0 ≤ _), (by decide : 0 + 0 ≤ _)⟩)
  dsimp only [Pt.U, Pt.locs, Pt.cells, Pt.slots] at X1 l1 y1 z1 st1 hQ1
  subst l1 y1 z1
  obtain ⟨rfl, Nq1, eq1⟩ := hQ1
  have N1 := Fr.app N0 Nq1
  obtain ⟨T2, h2, X2, e2, W2, st2⟩ := putF X1 hx hZ hown (host := "") (Or.inl (hw _ (List.mem_of_getElem? (i := 44) rfl))) Via.refl eq1 F1 E1 (Or.inr ⟨(hw _ (List.mem_of_getElem? (i := 45) rfl)), rfl, hnm⟩) (hw _ (List.mem_of_getElem? (i := 32) rfl)) (ty := .int) (by decide) rfl rfl (g := (mkF m 6 #[.val (.ref a1), .val (.int p1)] [(.int p1), (.ref a1)])) rfl rfl (hb hby d5_6)
  have Fw2 := F1.same W2
  have O2 := O0.wr W2 g1
  have K2 : Keep h0 h2 [a1] := (Keep.refl h0 [a1]).wr W2 (Or.inl (List.mem_of_getElem? (i := 0) rfl))
  have N2 := Fr.snoc X2 N1 g1
  have f3 := (E1.wr W2)
  obtain ⟨fs, hr, hrun, hended, hW, hsame⟩ := X2.leave (v := none) (fun _ => rfl)
  refine ⟨_, _, pre0 _ ?_, hrun, hended, _, _, rfl, ?_, ⟨_, rfl⟩, hW, hsame.mono (by decide) (by decide)⟩
  · show Steps p.tables e below (s₁.setTop (mkF m 0 #[.val (.ref a1), .val (.int p1)] [])) _
    refine XS.aloadN X0.here hx rfl (hb hby d5_0) rfl rfl ?_
    show Steps p.tables e below (s₁.setTop (mkF m 1 #[.val (.ref a1), .val (.int p1)] [(.ref a1)])) _
    refine st1.trans ?_
    show Steps p.tables e below (T1.setTop (mkF m 4 #[.val (.ref a1), .val (.int p1)] [])) _
    refine XS.aloadN X1.here hx rfl (hb hby d5_4) rfl rfl ?_
    show Steps p.tables e below (T1.setTop (mkF m 5 #[.val (.ref a1), .val (.int p1)] [(.ref a1)])) _
    refine XS.iloadN X1.here hx rfl (hb hby d5_5) rfl ?_
    show Steps p.tables e below (T1.setTop (mkF m 6 #[.val (.ref a1), .val (.int p1)] [(.int p1), (.ref a1)])) _
    refine st2 _ ?_
    show Steps p.tables e below (T2.setTop (mkF m 9 #[.val (.ref a1), .val (.int p1)] [])) _
    exact X2.returnOut hx Bd.returns (hb hby d5_9) hr
  · show Q_intI Z a1 p1 h0 n0 _ T2.heap _
    rw [e2]
    exact ⟨rfl, N2, K2, f3⟩
theorem ef_vOf (m : MethodId) (p1 : Int32) : entryFrame m #[(.int p1)] 1 = mkF m 0 #[.val (.int p1)] [] := by first | (simp [entryFrame, mkF, argsToLocals, Value.category]; done) | rfl
def Q_vOf (Z : State) (p1 : Int32) (wc : Addr) (clc : Cell) (h0 : Heap) (n0 : Nat) (v : Option Value) (h : Heap) (L : List Loc) : Prop := ∃ b, v = some (.ref b) ∧ Fr n0 L ∧ Keep h0 h [] ∧ Exa Z h b "java/lang/Integer"
set_option maxRecDepth 65536 in
set_option maxHeartbeats 40000000 in
theorem vOf (l : Launch) (Z : State) (a0 : Array Value) (hw : ∀ d ∈ tables_1, d.before a0 Z = true) (ws : List Jvm.Cond) (p1 : Int32) (wc : Addr) (clc : Cell) (h0 : Heap) (n0 : Nat) (O0 : Old Z n0 h0) (hI : EnvI Z wc clc) :
    MetFree l (⟨"java/lang/Integer", "valueOf", "(I)Ljava/lang/Integer;"⟩ : MethodName) (head1 (Jvm.Cond.code (⟨"java/lang/Integer", "valueOf", "(I)Ljava/lang/Integer;"⟩ : MethodName) jdk_33_method_22_code 1 (some (.object "java/lang/Integer")) :: ws) ({ frames := 3, cells := 1, slots := 1, locals := 38 } : Room)) (fun a U => a = #[(.int p1)] ∧ Z.Warmed39 U.vm ∧ U.heap = h0) (fun _ _ _ _ _ => True) (fun _ U o U' => ∃ v L, o = .returned v ∧ Q_vOf Z p1 wc clc h0 n0 v U'.heap L ∧ FrameEnd U o U' L ({ frames := 3, cells := 1, slots := 1, locals := 38 } : Room).cells ({ frames := 3, cells := 1, slots := 1, locals := 38 } : Room).slots) := by
  refine MetFree.of_bodySF (plainFor_of_name pn_java_lang_Integer) hisR ?_
  intro p e s m args below meth c s₁ Bd hml0 hP hK
  obtain ⟨rfl, hZ, hh⟩ := hP
  have hx := Bd.exec
  have hby := Bd.bytes
  have hml : c.maxLocals = 1 := hml0
  have hown : s.vm.findClass "java/lang/Integer" = some m.cls := findClass_of_methodNamed Bd.named
  have hnm := (name_of_methodNamed Bd.named Bd.method).1
  have X0 : Stand p l e ({ frames := 3, cells := 1, slots := 1, locals := 38 } : Room) s m #[(.int p1)] below meth c s₁ [] 0 0 := Stand.of_body Bd
  have e0 : s₁.heap = h0 := by rw [← hh, Bd.state]; rfl
  have N0 := Fr.nil n0
  have pre0 : ∀ t, Steps p.tables e below (s₁.setTop (mkF m 0 #[.val (.int p1)] [])) t → Steps p.tables e below (s₁.setTop (entryFrame m #[(.int p1)] 1)) t := fun t k => castTop (ef_vOf m p1) k
  have hI_ := hI; obtain ⟨S_high, S_cache, Bx⟩ := hI_
  have pre1 : ∀ t, Steps p.tables e below (s₁.setTop (mkF m 3 #[.val (.int p1)] [(.int (-128 : Int32)), (.int p1)])) t → Steps p.tables e below (s₁.setTop (entryFrame m #[(.int p1)] 1)) t := by
    intro t kt
    refine pre0 _ ?_
    show Steps p.tables e below (s₁.setTop (mkF m 0 #[.val (.int p1)] [])) _
    refine XS.iloadN X0.here hx rfl (hb hby d4_0) rfl ?_
    show Steps p.tables e below (s₁.setTop (mkF m 1 #[.val (.int p1)] [(.int p1)])) _
    refine XS.bipush X0.here hx rfl (hb hby d4_1) ?_
    exact kt
  by_cases hc3_1 : p1 < (-128 : Int32)
  · obtain ⟨T2, h2, X2, e2, E2, A2, D2, U2, st2⟩ := newO X0 hx hZ hown (hw _ (List.mem_of_getElem? (i := 31) rfl)) (hw _ (List.mem_of_getElem? (i := 32) rfl)) (hw _ (List.mem_of_getElem? (i := 22) rfl)) e0 (g := (mkF m 23 #[.val (.int p1)] [])) rfl (hb hby d4_23) (by decide) (by decide)
    obtain ⟨b2, g2⟩ : ∃ z, z = h0.size := ⟨_, rfl⟩
    rw [← g2] at A2 D2 st2
    have g_b2 : n0 ≤ b2 := Nat.le_trans (own_le O0) (Nat.le_of_eq g2.symm)
    have sz_b2 : h0.size ≤ b2 := Nat.le_trans (Keep.refl h0 []).1 (Nat.le_of_eq g2.symm)
    have O2 := O0.ext E2
    have K2 : Keep h0 h2 [] := (Keep.refl h0 []).ext E2
    have F_value_b2 : Fld Z h2 b2 "java/lang/Integer" "value" "I" (.int (0 : Int32)) := D2 (Or.inr (hw _ (List.mem_of_getElem? (i := 45) rfl))) (ty := .int) (by decide)
    obtain ⟨_, _, ⟨T3, L3, k3, n3⟩, -, X3, ⟨Lc3, hQ3, l3, y3, z3⟩, st3⟩ := X2.specialBack hx (y := (⟨"java/lang/Integer", "<init>", "(I)V"⟩ : MethodName)) rfl hown (mvT hZ (hw _ (List.mem_of_getElem? (i := 33) rfl))) (mvT hZ (hw _ (List.mem_of_getElem? (i := 34) rfl))) (mvT hZ (hw _ (List.mem_of_getElem? (i := 36) rfl))) (by decide) (backOf (W := 1) (intI l Z a0 hw [] b2 p1 h2 n0 O2 A2 g_b2 F_value_b2) hZ (hw _ (List.mem_of_getElem? (i := 36) rfl)) (hw _ (List.mem_of_getElem? (i := 22) rfl)) (by decide) (by decide)) (g := (mkF m 28 #[.val (.int p1)] [(.int p1), (.ref b2), (.ref b2)])) rfl (by rw [hml]; rfl) (Steps.refl _) (a := b2) (argsL := [(.int p1)]) (rest := [(.ref b2)]) (lenOf pd__I_V rfl) rfl (by show 2 * 0 + _ ≤ _; exact Nat.le_of_eq rfl) (hb hby d4_28) (fun _ _ => ⟨rfl, e2, (by decide : 1 + 0 ≤ _), (by decide : 1 + 0 ≤ _)⟩)
    dsimp only [Pt.U, Pt.locs, Pt.cells, Pt.slots] at X3 l3 y3 z3 st3 hQ3
    subst l3 y3 z3
    obtain ⟨rfl, Nq3, Kq3, Ea3⟩ := hQ3
    have N3 := Fr.app N0 Nq3
    have O3 := O2.keep Kq3 (allS g_b2 all0)
    have K3 : Keep h0 T3.heap [] := K2.trans Kq3 (allS (Or.inr sz_b2) all0)
    obtain ⟨fs, hr, hrun, hended, hW, hsame⟩ := X3.leave (v := some (.ref b2)) (fun h => by rw [Bd.returns] at h; cases h)
    refine ⟨_, _, pre1 _ ?_, hrun, hended, _, _, rfl, ?_, ⟨_, rfl⟩, hW, hsame.mono (by decide) (by decide)⟩
    · show Steps p.tables e below (s₁.setTop (mkF m 3 #[.val (.int p1)] [(.int (-128 : Int32)), (.int p1)])) _
      refine XS.icmpYes X0.here hx rfl (pc0 := 3) (pc' := 23) rfl (hb hby d4_3) rfl (tlt hc3_1).1 (by decide) (by decide) ?_
      show Steps p.tables e below (s₁.setTop (mkF m 23 #[.val (.int p1)] [])) _
      refine st2 _ ?_
      show Steps p.tables e below (T2.setTop (mkF m 26 #[.val (.int p1)] [(.ref b2)])) _
      refine XS.dup X2.here hx rfl (hb hby d4_26) rfl rfl ?_
      show Steps p.tables e below (T2.setTop (mkF m 27 #[.val (.int p1)] [(.ref b2), (.ref b2)])) _
      refine XS.iloadN X2.here hx rfl (hb hby d4_27) rfl ?_
      show Steps p.tables e below (T2.setTop (mkF m 28 #[.val (.int p1)] [(.int p1), (.ref b2), (.ref b2)])) _
      refine st3.trans ?_
      show Steps p.tables e below (T3.setTop (mkF m 31 #[.val (.int p1)] [(.ref b2)])) _
      jvm_step X3.here [X3.here.top, hx, (hb hby d4_31), X3.method', Bd.returns, Value.isRef, FieldType.isReference]
      first | (intro acts; rw [hr _ acts rfl rfl rfl]) | rw [hr _ _ rfl rfl rfl]
      exact Steps.refl _
    · show Q_vOf Z p1 wc clc h0 n0 _ T3.heap _
      exact ⟨b2, rfl, N3, K3, Ea3⟩
  · obtain ⟨T4, X4, e4, st4⟩ := getS2 X0 hx hZ hown (host := "") (Or.inl (hw _ (List.mem_of_getElem? (i := 24) rfl))) Via.refl e0 (S_high.ext O0.2) (g := (mkF m 7 #[.val (.int p1)] [(.int p1)])) rfl (hb hby d4_7)
    have pre5 : ∀ t, Steps p.tables e below (T4.setTop (mkF m 10 #[.val (.int p1)] [(.int (127 : Int32)), (.int p1)])) t → Steps p.tables e below (s₁.setTop (entryFrame m #[(.int p1)] 1)) t := by
      intro t kt
      refine pre1 _ ?_
      show Steps p.tables e below (s₁.setTop (mkF m 3 #[.val (.int p1)] [(.int (-128 : Int32)), (.int p1)])) _
      refine XS.icmpNo X0.here hx rfl (hb hby d4_3) rfl (flt hc3_1).1 ?_
      show Steps p.tables e below (s₁.setTop (mkF m 6 #[.val (.int p1)] [])) _
      refine XS.iloadN X0.here hx rfl (hb hby d4_6) rfl ?_
      show Steps p.tables e below (s₁.setTop (mkF m 7 #[.val (.int p1)] [(.int p1)])) _
      refine st4 _ ?_
      exact kt
    by_cases hc10_5 : (127 : Int32) < p1
    · obtain ⟨T6, h6, X6, e6, E6, A6, D6, U6, st6⟩ := newO X4 hx hZ hown (hw _ (List.mem_of_getElem? (i := 31) rfl)) (hw _ (List.mem_of_getElem? (i := 32) rfl)) (hw _ (List.mem_of_getElem? (i := 22) rfl)) e4 (g := (mkF m 23 #[.val (.int p1)] [])) rfl (hb hby d4_23) (by decide) (by decide)
      obtain ⟨b6, g6⟩ : ∃ z, z = h0.size := ⟨_, rfl⟩
      rw [← g6] at A6 D6 st6
      have g_b6 : n0 ≤ b6 := Nat.le_trans (own_le O0) (Nat.le_of_eq g6.symm)
      have sz_b6 : h0.size ≤ b6 := Nat.le_trans (Keep.refl h0 []).1 (Nat.le_of_eq g6.symm)
      have O6 := O0.ext E6
      have K6 : Keep h0 h6 [] := (Keep.refl h0 []).ext E6
      have F_value_b6 : Fld Z h6 b6 "java/lang/Integer" "value" "I" (.int (0 : Int32)) := D6 (Or.inr (hw _ (List.mem_of_getElem? (i := 45) rfl))) (ty := .int) (by decide)
      obtain ⟨_, _, ⟨T7, L7, k7, n7⟩, -, X7, ⟨Lc7, hQ7, l7, y7, z7⟩, st7⟩ := X6.specialBack hx (y := (⟨"java/lang/Integer", "<init>", "(I)V"⟩ : MethodName)) rfl hown (mvT hZ (hw _ (List.mem_of_getElem? (i := 33) rfl))) (mvT hZ (hw _ (List.mem_of_getElem? (i := 34) rfl))) (mvT hZ (hw _ (List.mem_of_getElem? (i := 36) rfl))) (by decide) (backOf (W := 1) (intI l Z a0 hw [] b6 p1 h6 n0 O6 A6 g_b6 F_value_b6) hZ (hw _ (List.mem_of_getElem? (i := 36) rfl)) (hw _ (List.mem_of_getElem? (i := 22) rfl)) (by decide) (by decide)) (g := (mkF m 28 #[.val (.int p1)] [(.int p1), (.ref b6), (.ref b6)])) rfl (by rw [hml]; rfl) (Steps.refl _) (a := b6) (argsL := [(.int p1)]) (rest := [(.ref b6)]) (lenOf pd__I_V rfl) rfl (by show 2 * 0 + _ ≤ _; exact Nat.le_of_eq rfl) (hb hby d4_28) (fun _ _ => ⟨rfl, e6, (by decide : 1 + 0 ≤ _), (by decide : 1 + 0 ≤ _)⟩)
      dsimp only [Pt.U, Pt.locs, Pt.cells, Pt.slots] at X7 l7 y7 z7 st7 hQ7
      subst l7 y7 z7
      obtain ⟨rfl, Nq7, Kq7, Ea7⟩ := hQ7
      have N7 := Fr.app N0 Nq7
      have O7 := O6.keep Kq7 (allS g_b6 all0)
      have K7 : Keep h0 T7.heap [] := K6.trans Kq7 (allS (Or.inr sz_b6) all0)
      obtain ⟨fs, hr, hrun, hended, hW, hsame⟩ := X7.leave (v := some (.ref b6)) (fun h => by rw [Bd.returns] at h; cases h)
      refine ⟨_, _, pre5 _ ?_, hrun, hended, _, _, rfl, ?_, ⟨_, rfl⟩, hW, hsame.mono (by decide) (by decide)⟩
      · show Steps p.tables e below (T4.setTop (mkF m 10 #[.val (.int p1)] [(.int (127 : Int32)), (.int p1)])) _
        refine XS.icmpYes X4.here hx rfl (pc0 := 10) (pc' := 23) rfl (hb hby d4_10) rfl (tlt hc10_5).2.2.1 (by decide) (by decide) ?_
        show Steps p.tables e below (T4.setTop (mkF m 23 #[.val (.int p1)] [])) _
        refine st6 _ ?_
        show Steps p.tables e below (T6.setTop (mkF m 26 #[.val (.int p1)] [(.ref b6)])) _
        refine XS.dup X6.here hx rfl (hb hby d4_26) rfl rfl ?_
        show Steps p.tables e below (T6.setTop (mkF m 27 #[.val (.int p1)] [(.ref b6), (.ref b6)])) _
        refine XS.iloadN X6.here hx rfl (hb hby d4_27) rfl ?_
        show Steps p.tables e below (T6.setTop (mkF m 28 #[.val (.int p1)] [(.int p1), (.ref b6), (.ref b6)])) _
        refine st7.trans ?_
        show Steps p.tables e below (T7.setTop (mkF m 31 #[.val (.int p1)] [(.ref b6)])) _
        jvm_step X7.here [X7.here.top, hx, (hb hby d4_31), X7.method', Bd.returns, Value.isRef, FieldType.isReference]
        first | (intro acts; rw [hr _ acts rfl rfl rfl]) | rw [hr _ _ rfl rfl rfl]
        exact Steps.refl _
      · show Q_vOf Z p1 wc clc h0 n0 _ T7.heap _
        exact ⟨b6, rfl, N7, K7, Ea7⟩
    · obtain ⟨T8, X8, e8, st8⟩ := getS2 X4 hx hZ hown (host := "") (Or.inl (hw _ (List.mem_of_getElem? (i := 26) rfl))) Via.refl e4 (S_cache.ext O0.2) (g := (mkF m 13 #[.val (.int p1)] [])) rfl (hb hby d4_13)
      have hin9 : ¬ ((p1 + (128 : Int32)) < 0 ∨ clc.slots.size ≤ ((p1 + (128 : Int32))).toNatClampNeg) := inb_of Bx.2.1 (own_cb hc3_1 hc10_5)
      obtain ⟨bx, hat9, Ebx, -⟩ := Bx.2.2.2 _ hin9
      have Ar9 := Bx.1.ext O0.2
      obtain ⟨fs, hr, hrun, hended, hW, hsame⟩ := X8.leave (v := some (.ref bx)) (fun h => by rw [Bd.returns] at h; cases h)
      refine ⟨_, _, pre5 _ ?_, hrun, hended, _, _, rfl, ?_, ⟨_, rfl⟩, hW, hsame.mono (by decide) (by decide)⟩
      · show Steps p.tables e below (T4.setTop (mkF m 10 #[.val (.int p1)] [(.int (127 : Int32)), (.int p1)])) _
        refine XS.icmpNo X4.here hx rfl (hb hby d4_10) rfl (flt hc10_5).2.2.1 ?_
        show Steps p.tables e below (T4.setTop (mkF m 13 #[.val (.int p1)] [])) _
        refine st8 _ ?_
        show Steps p.tables e below (T8.setTop (mkF m 16 #[.val (.int p1)] [(.ref wc)])) _
        refine XS.iloadN X8.here hx rfl (hb hby d4_16) rfl ?_
        show Steps p.tables e below (T8.setTop (mkF m 17 #[.val (.int p1)] [(.int p1), (.ref wc)])) _
        refine XS.sipush X8.here hx rfl (hb hby d4_17) ?_
        show Steps p.tables e below (T8.setTop (mkF m 20 #[.val (.int p1)] [(.int (128 : Int32)), (.int p1), (.ref wc)])) _
        refine XS.iadd X8.here hx rfl (hb hby d4_20) rfl ?_
        show Steps p.tables e below (T8.setTop (mkF m 21 #[.val (.int p1)] [(.int (p1 + (128 : Int32))), (.ref wc)])) _
        refine X8.aaload hx (j := (p1 + (128 : Int32))) (v := .ref bx) (by rw [e8]; exact Ar9.1) (State.isArrayOf_alike hZ.alike Ar9.2.1) rfl Ar9.2.2 hin9 hat9 (g := (mkF m 21 #[.val (.int p1)] [(.int (p1 + (128 : Int32))), (.ref wc)])) rfl rfl (hb hby d4_21) _ ?_
        show Steps p.tables e below (T8.setTop (mkF m 22 #[.val (.int p1)] [(.ref bx)])) _
        jvm_step X8.here [X8.here.top, hx, (hb hby d4_22), X8.method', Bd.returns, Value.isRef, FieldType.isReference]
        first | (intro acts; rw [hr _ acts rfl rfl rfl]) | rw [hr _ _ rfl rfl rfl]
        exact Steps.refl _
      · show Q_vOf Z p1 wc clc h0 n0 _ T8.heap _
        rw [e8]
        exact ⟨bx, rfl, N0, (Keep.refl h0 []), (Ebx.ext O0.2)⟩
theorem ef_ctor (m : MethodId) (a1 : Addr) (p1 : Int32) (p2 : Int32) (p3 : Int32) : entryFrame m #[(.ref a1), (.int p1), (.int p2), (.int p3)] 4 = mkF m 0 #[.val (.ref a1), .val (.int p1), .val (.int p2), .val (.int p3)] [] := by first | (simp [entryFrame, mkF, argsToLocals, Value.category]; done) | rfl
def Q_ctor (Z : State) (a1 : Addr) (p1 p2 p3 : Int32) (h0 : Heap) (n0 : Nat) (v : Option Value) (h : Heap) (L : List Loc) : Prop := v = none ∧ Fr n0 L ∧ Keep h0 h [a1] ∧ Exa Z h a1 "com/example/semaforo/semaforo/network/Lane" ∧ Fld Z h a1 "com/example/semaforo/semaforo/network/Lane" "left" "Z" (.int p1) ∧ Fld Z h a1 "com/example/semaforo/semaforo/network/Lane" "straight" "Z" (.int p2) ∧ Fld Z h a1 "com/example/semaforo/semaforo/network/Lane" "right" "Z" (.int p3)
set_option maxRecDepth 65536 in
set_option maxHeartbeats 40000000 in
theorem ctor (l : Launch) (Z : State) (a0 : Array Value) (hw : ∀ d ∈ tables_1, d.before a0 Z = true) (ws : List Jvm.Cond) (a1 : Addr) (p1 p2 p3 : Int32) (h0 : Heap) (n0 : Nat) (O0 : Old Z n0 h0) (E1 : Exa Z h0 a1 "com/example/semaforo/semaforo/network/Lane") (g1 : n0 ≤ a1) (F_left : Fld Z h0 a1 "com/example/semaforo/semaforo/network/Lane" "left" "Z" (.int (0 : Int32))) (F_straight : Fld Z h0 a1 "com/example/semaforo/semaforo/network/Lane" "straight" "Z" (.int (0 : Int32))) (F_right : Fld Z h0 a1 "com/example/semaforo/semaforo/network/Lane" "right" "Z" (.int (0 : Int32))) (hb_p1 : p1 = (0 : Int32) ∨ p1 = (1 : Int32)) (hb_p2 : p2 = (0 : Int32) ∨ p2 = (1 : Int32)) (hb_p3 : p3 = (0 : Int32) ∨ p3 = (1 : Int32)) :
    MetFree l (⟨"com/example/semaforo/semaforo/network/Lane", "<init>", "(ZZZ)V"⟩ : MethodName) (head1 (Jvm.Cond.code (⟨"com/example/semaforo/semaforo/network/Lane", "<init>", "(ZZZ)V"⟩ : MethodName) prog_52_method_1_code 4 none :: ws) ({ frames := 1, cells := 0, slots := 0, locals := 12 } : Room)) (fun a U => a = #[(.ref a1), (.int p1), (.int p2), (.int p3)] ∧ Z.Warmed39 U.vm ∧ U.heap = h0) (fun _ _ _ _ _ => True) (fun _ U o U' => ∃ v L, o = .returned v ∧ Q_ctor Z a1 p1 p2 p3 h0 n0 v U'.heap L ∧ FrameEnd U o U' L ({ frames := 1, cells := 0, slots := 0, locals := 12 } : Room).cells ({ frames := 1, cells := 0, slots := 0, locals := 12 } : Room).slots) := by
  refine MetFree.of_bodySF (plainFor_of_name pn_com_example_semaforo_semaforo_network_Lane) hisR ?_
  intro p e s m args below meth c s₁ Bd hml0 hP hK
  obtain ⟨rfl, hZ, hh⟩ := hP
  have hx := Bd.exec
  have hby := Bd.bytes
  have hml : c.maxLocals = 4 := hml0
  have hown : s.vm.findClass "com/example/semaforo/semaforo/network/Lane" = some m.cls := findClass_of_methodNamed Bd.named
  have hnm := (name_of_methodNamed Bd.named Bd.method).1
  have X0 : Stand p l e ({ frames := 1, cells := 0, slots := 0, locals := 12 } : Room) s m #[(.ref a1), (.int p1), (.int p2), (.int p3)] below meth c s₁ [] 0 0 := Stand.of_body Bd
  have e0 : s₁.heap = h0 := by rw [← hh, Bd.state]; rfl
  have N0 := Fr.nil n0
  have pre0 : ∀ t, Steps p.tables e below (s₁.setTop (mkF m 0 #[.val (.ref a1), .val (.int p1), .val (.int p2), .val (.int p3)] [])) t → Steps p.tables e below (s₁.setTop (entryFrame m #[(.ref a1), (.int p1), (.int p2), (.int p3)] 4)) t := fun t k => castTop (ef_ctor m a1 p1 p2 p3) k
  obtain ⟨T1, X1, e1, st1⟩ := initO X0 hx hZ hown (hw _ (List.mem_of_getElem? (i := 6) rfl)) (hw _ (List.mem_of_getElem? (i := 7) rfl)) (hw _ (List.mem_of_getElem? (i := 8) rfl)) e0 (g := (mkF m 1 #[.val (.ref a1), .val (.int p1), .val (.int p2), .val (.int p3)] [(.ref a1)])) rfl (by rw [hml]; rfl) rfl (hb hby d1_1) (by decide) (W := 0) (by show 2 * 0 + _ ≤ _; exact Nat.le_of_eq rfl) (by decide)
  obtain ⟨T2, h2, X2, e2, W2, st2⟩ := putFN X1 hx hZ hown (hw _ (List.mem_of_getElem? (i := 9) rfl)) Via.refl e1 F_left E1 (Or.inr ⟨(hw _ (List.mem_of_getElem? (i := 10) rfl)), rfl, hnm⟩) (hw _ (List.mem_of_getElem? (i := 1) rfl)) (ty := .boolean) (v' := (.int p1)) (by decide) (own_nb hb_p1) (own_fb hb_p1) (g := (mkF m 6 #[.val (.ref a1), .val (.int p1), .val (.int p2), .val (.int p3)] [(.int p1), (.ref a1)])) rfl rfl (hb hby d1_6)
  have Fw2 := F_left.same W2
  have O2 := O0.wr W2 g1
  have K2 : Keep h0 h2 [a1] := (Keep.refl h0 [a1]).wr W2 (Or.inl (List.mem_of_getElem? (i := 0) rfl))
  have N2 := Fr.snoc X2 N0 g1
  have f3 := (E1.wr W2)
  have f4 := (F_straight.other W2 (Or.inr (slot_ne (Or.inr (hw _ (List.mem_of_getElem? (i := 12) rfl))) (Or.inr (hw _ (List.mem_of_getElem? (i := 10) rfl))) (by decide) (t := .boolean) (t' := .boolean) (by decide) (by decide))))
  obtain ⟨T5, h5, X5, e5, W5, st5⟩ := putFN X2 hx hZ hown (hw _ (List.mem_of_getElem? (i := 11) rfl)) Via.refl e2 f4 f3 (Or.inr ⟨(hw _ (List.mem_of_getElem? (i := 12) rfl)), rfl, hnm⟩) (hw _ (List.mem_of_getElem? (i := 1) rfl)) (ty := .boolean) (v' := (.int p2)) (by decide) (own_nb hb_p2) (own_fb hb_p2) (g := (mkF m 11 #[.val (.ref a1), .val (.int p1), .val (.int p2), .val (.int p3)] [(.int p2), (.ref a1)])) rfl rfl (hb hby d1_11)
  have Fw5 := f4.same W5
  have O5 := O2.wr W5 g1
  have K5 : Keep h0 h5 [a1] := K2.wr W5 (Or.inl (List.mem_of_getElem? (i := 0) rfl))
  have N5 := Fr.snoc X5 N2 g1
  have f6 := (f3.wr W5)
  have f7 := ((F_right.other W2 (Or.inr (slot_ne (Or.inr (hw _ (List.mem_of_getElem? (i := 14) rfl))) (Or.inr (hw _ (List.mem_of_getElem? (i := 10) rfl))) (by decide) (t := .boolean) (t' := .boolean) (by decide) (by decide)))).other W5 (Or.inr (slot_ne (Or.inr (hw _ (List.mem_of_getElem? (i := 14) rfl))) (Or.inr (hw _ (List.mem_of_getElem? (i := 12) rfl))) (by decide) (t := .boolean) (t' := .boolean) (by decide) (by decide))))
  obtain ⟨T8, h8, X8, e8, W8, st8⟩ := putFN X5 hx hZ hown (hw _ (List.mem_of_getElem? (i := 13) rfl)) Via.refl e5 f7 f6 (Or.inr ⟨(hw _ (List.mem_of_getElem? (i := 14) rfl)), rfl, hnm⟩) (hw _ (List.mem_of_getElem? (i := 1) rfl)) (ty := .boolean) (v' := (.int p3)) (by decide) (own_nb hb_p3) (own_fb hb_p3) (g := (mkF m 16 #[.val (.ref a1), .val (.int p1), .val (.int p2), .val (.int p3)] [(.int p3), (.ref a1)])) rfl rfl (hb hby d1_16)
  have Fw8 := f7.same W8
  have O8 := O5.wr W8 g1
  have K8 : Keep h0 h8 [a1] := K5.wr W8 (Or.inl (List.mem_of_getElem? (i := 0) rfl))
  have N8 := Fr.snoc X8 N5 g1
  have f9 := (f6.wr W8)
  have f10 := ((Fw2.other W5 (Or.inr (slot_ne (Or.inr (hw _ (List.mem_of_getElem? (i := 10) rfl))) (Or.inr (hw _ (List.mem_of_getElem? (i := 12) rfl))) (by decide) (t := .boolean) (t' := .boolean) (by decide) (by decide)))).other W8 (Or.inr (slot_ne (Or.inr (hw _ (List.mem_of_getElem? (i := 10) rfl))) (Or.inr (hw _ (List.mem_of_getElem? (i := 14) rfl))) (by decide) (t := .boolean) (t' := .boolean) (by decide) (by decide))))
  have f11 := (Fw5.other W8 (Or.inr (slot_ne (Or.inr (hw _ (List.mem_of_getElem? (i := 12) rfl))) (Or.inr (hw _ (List.mem_of_getElem? (i := 14) rfl))) (by decide) (t := .boolean) (t' := .boolean) (by decide) (by decide))))
  obtain ⟨fs, hr, hrun, hended, hW, hsame⟩ := X8.leave (v := none) (fun _ => rfl)
  refine ⟨_, _, pre0 _ ?_, hrun, hended, _, _, rfl, ?_, ⟨_, rfl⟩, hW, hsame.mono (by decide) (by decide)⟩
  · show Steps p.tables e below (s₁.setTop (mkF m 0 #[.val (.ref a1), .val (.int p1), .val (.int p2), .val (.int p3)] [])) _
    refine XS.aloadN X0.here hx rfl (hb hby d1_0) rfl rfl ?_
    show Steps p.tables e below (s₁.setTop (mkF m 1 #[.val (.ref a1), .val (.int p1), .val (.int p2), .val (.int p3)] [(.ref a1)])) _
    refine st1 _ ?_
    show Steps p.tables e below (T1.setTop (mkF m 4 #[.val (.ref a1), .val (.int p1), .val (.int p2), .val (.int p3)] [])) _
    refine XS.aloadN X1.here hx rfl (hb hby d1_4) rfl rfl ?_
    show Steps p.tables e below (T1.setTop (mkF m 5 #[.val (.ref a1), .val (.int p1), .val (.int p2), .val (.int p3)] [(.ref a1)])) _
    refine XS.iloadN X1.here hx rfl (hb hby d1_5) rfl ?_
    show Steps p.tables e below (T1.setTop (mkF m 6 #[.val (.ref a1), .val (.int p1), .val (.int p2), .val (.int p3)] [(.int p1), (.ref a1)])) _
    refine st2 _ ?_
    show Steps p.tables e below (T2.setTop (mkF m 9 #[.val (.ref a1), .val (.int p1), .val (.int p2), .val (.int p3)] [])) _
    refine XS.aloadN X2.here hx rfl (hb hby d1_9) rfl rfl ?_
    show Steps p.tables e below (T2.setTop (mkF m 10 #[.val (.ref a1), .val (.int p1), .val (.int p2), .val (.int p3)] [(.ref a1)])) _
    refine XS.iloadN X2.here hx rfl (hb hby d1_10) rfl ?_
    show Steps p.tables e below (T2.setTop (mkF m 11 #[.val (.ref a1), .val (.int p1), .val (.int p2), .val (.int p3)] [(.int p2), (.ref a1)])) _
    refine st5 _ ?_
    show Steps p.tables e below (T5.setTop (mkF m 14 #[.val (.ref a1), .val (.int p1), .val (.int p2), .val (.int p3)] [])) _
    refine XS.aloadN X5.here hx rfl (hb hby d1_14) rfl rfl ?_
    show Steps p.tables e below (T5.setTop (mkF m 15 #[.val (.ref a1), .val (.int p1), .val (.int p2), .val (.int p3)] [(.ref a1)])) _
    refine XS.iloadN X5.here hx rfl (hb hby d1_15) rfl ?_
    show Steps p.tables e below (T5.setTop (mkF m 16 #[.val (.ref a1), .val (.int p1), .val (.int p2), .val (.int p3)] [(.int p3), (.ref a1)])) _
    refine st8 _ ?_
    show Steps p.tables e below (T8.setTop (mkF m 19 #[.val (.ref a1), .val (.int p1), .val (.int p2), .val (.int p3)] [])) _
    exact X8.returnOut hx Bd.returns (hb hby d1_19) hr
  · show Q_ctor Z a1 p1 p2 p3 h0 n0 _ T8.heap _
    rw [e8]
    exact ⟨rfl, N8, K8, f9, f10, f11, Fw8⟩
theorem ef_eqS (m : MethodId) (a1 : Addr) : entryFrame m #[(.ref a1), (.ref a1)] 3 = mkF m 0 #[.val (.ref a1), .val (.ref a1), .unset] [] := by first | (simp [entryFrame, mkF, argsToLocals, Value.category]; done) | rfl
def Q_eqS (Z : State) (a1 : Addr) (h0 : Heap) (n0 : Nat) (v : Option Value) (h : Heap) (L : List Loc) : Prop := v = some (.int (1 : Int32)) ∧ Fr n0 L ∧ h = h0
set_option maxRecDepth 65536 in
set_option maxHeartbeats 40000000 in
theorem eqS (l : Launch) (Z : State) (a0 : Array Value) (hw : ∀ d ∈ tables_1, d.before a0 Z = true) (ws : List Jvm.Cond) (a1 : Addr) (h0 : Heap) (n0 : Nat) (O0 : Old Z n0 h0) :
    MetFree l (⟨"com/example/semaforo/semaforo/network/Lane", "equals", "(Ljava/lang/Object;)Z"⟩ : MethodName) (head1 (Jvm.Cond.code (⟨"com/example/semaforo/semaforo/network/Lane", "equals", "(Ljava/lang/Object;)Z"⟩ : MethodName) prog_52_method_5_code 3 (some .boolean) :: ws) ({ frames := 0, cells := 0, slots := 0, locals := 0 } : Room)) (fun a U => a = #[(.ref a1), (.ref a1)] ∧ Z.Warmed39 U.vm ∧ U.heap = h0) (fun _ _ _ _ _ => True) (fun _ U o U' => ∃ v L, o = .returned v ∧ Q_eqS Z a1 h0 n0 v U'.heap L ∧ FrameEnd U o U' L ({ frames := 0, cells := 0, slots := 0, locals := 0 } : Room).cells ({ frames := 0, cells := 0, slots := 0, locals := 0 } : Room).slots) := by
  refine MetFree.of_bodySF (plainFor_of_name pn_com_example_semaforo_semaforo_network_Lane) hisR ?_
  intro p e s m args below meth c s₁ Bd hml0 hP hK
  obtain ⟨rfl, hZ, hh⟩ := hP
  have hx := Bd.exec
  have hby := Bd.bytes
  have hml : c.maxLocals = 3 := hml0
  have hown : s.vm.findClass "com/example/semaforo/semaforo/network/Lane" = some m.cls := findClass_of_methodNamed Bd.named
  have hnm := (name_of_methodNamed Bd.named Bd.method).1
  have X0 : Stand p l e ({ frames := 0, cells := 0, slots := 0, locals := 0 } : Room) s m #[(.ref a1), (.ref a1)] below meth c s₁ [] 0 0 := Stand.of_body Bd
  have e0 : s₁.heap = h0 := by rw [← hh, Bd.state]; rfl
  have N0 := Fr.nil n0
  have pre0 : ∀ t, Steps p.tables e below (s₁.setTop (mkF m 0 #[.val (.ref a1), .val (.ref a1), .unset] [])) t → Steps p.tables e below (s₁.setTop (entryFrame m #[(.ref a1), (.ref a1)] 3)) t := fun t k => castTop (ef_eqS m a1) k
  obtain ⟨fs, hr, hrun, hended, hW, hsame⟩ := X0.leave (v := some (.int (1 : Int32))) (fun h => by rw [Bd.returns] at h; cases h)
  refine ⟨_, _, pre0 _ ?_, hrun, hended, _, _, rfl, ?_, ⟨_, rfl⟩, hW, hsame.mono (by decide) (by decide)⟩
  · show Steps p.tables e below (s₁.setTop (mkF m 0 #[.val (.ref a1), .val (.ref a1), .unset] [])) _
    refine XS.aloadN X0.here hx rfl (hb hby d3_0) rfl rfl ?_
    show Steps p.tables e below (s₁.setTop (mkF m 1 #[.val (.ref a1), .val (.ref a1), .unset] [(.ref a1)])) _
    refine XS.aloadN X0.here hx rfl (hb hby d3_1) rfl rfl ?_
    show Steps p.tables e below (s₁.setTop (mkF m 2 #[.val (.ref a1), .val (.ref a1), .unset] [(.ref a1), (.ref a1)])) _
    refine Jvm.RoadKit.acmp (g := (mkF m 2 #[.val (.ref a1), .val (.ref a1), .unset] [(.ref a1), (.ref a1)])) X0 hx rfl rfl rfl (pc0 := 2) (pc' := 5) (same := true) rfl (hb hby d3_2) rfl (decide_eq_true (congrArg Value.ref (rfl : a1 = a1))) (by decide) (by decide) ?_
    show Steps p.tables e below (s₁.setTop (mkF m 5 #[.val (.ref a1), .val (.ref a1), .unset] [])) _
    refine XS.iconst X0.here hx rfl (hb hby d3_5) ?_
    show Steps p.tables e below (s₁.setTop (mkF m 6 #[.val (.ref a1), .val (.ref a1), .unset] [(.int (1 : Int32))])) _
    exact retN X0 hx (t := .boolean) Bd.returns (by simp) (hb hby d3_6) hr
  · show Q_eqS Z a1 h0 n0 _ s₁.heap _
    rw [e0]
    exact ⟨rfl, N0, rfl⟩
theorem ef_eqN (m : MethodId) (a1 : Addr) : entryFrame m #[(.ref a1), .null] 3 = mkF m 0 #[.val (.ref a1), .val .null, .unset] [] := by first | (simp [entryFrame, mkF, argsToLocals, Value.category]; done) | rfl
def Q_eqN (Z : State) (a1 : Addr) (h0 : Heap) (n0 : Nat) (v : Option Value) (h : Heap) (L : List Loc) : Prop := v = some (.int (0 : Int32)) ∧ Fr n0 L ∧ h = h0
set_option maxRecDepth 65536 in
set_option maxHeartbeats 40000000 in
theorem eqN (l : Launch) (Z : State) (a0 : Array Value) (hw : ∀ d ∈ tables_1, d.before a0 Z = true) (ws : List Jvm.Cond) (a1 : Addr) (h0 : Heap) (n0 : Nat) (O0 : Old Z n0 h0) :
    MetFree l (⟨"com/example/semaforo/semaforo/network/Lane", "equals", "(Ljava/lang/Object;)Z"⟩ : MethodName) (head1 (Jvm.Cond.code (⟨"com/example/semaforo/semaforo/network/Lane", "equals", "(Ljava/lang/Object;)Z"⟩ : MethodName) prog_52_method_5_code 3 (some .boolean) :: ws) ({ frames := 0, cells := 0, slots := 0, locals := 0 } : Room)) (fun a U => a = #[(.ref a1), .null] ∧ Z.Warmed39 U.vm ∧ U.heap = h0) (fun _ _ _ _ _ => True) (fun _ U o U' => ∃ v L, o = .returned v ∧ Q_eqN Z a1 h0 n0 v U'.heap L ∧ FrameEnd U o U' L ({ frames := 0, cells := 0, slots := 0, locals := 0 } : Room).cells ({ frames := 0, cells := 0, slots := 0, locals := 0 } : Room).slots) := by
  refine MetFree.of_bodySF (plainFor_of_name pn_com_example_semaforo_semaforo_network_Lane) hisR ?_
  intro p e s m args below meth c s₁ Bd hml0 hP hK
  obtain ⟨rfl, hZ, hh⟩ := hP
  have hx := Bd.exec
  have hby := Bd.bytes
  have hml : c.maxLocals = 3 := hml0
  have hown : s.vm.findClass "com/example/semaforo/semaforo/network/Lane" = some m.cls := findClass_of_methodNamed Bd.named
  have hnm := (name_of_methodNamed Bd.named Bd.method).1
  have X0 : Stand p l e ({ frames := 0, cells := 0, slots := 0, locals := 0 } : Room) s m #[(.ref a1), .null] below meth c s₁ [] 0 0 := Stand.of_body Bd
  have e0 : s₁.heap = h0 := by rw [← hh, Bd.state]; rfl
  have N0 := Fr.nil n0
  have pre0 : ∀ t, Steps p.tables e below (s₁.setTop (mkF m 0 #[.val (.ref a1), .val .null, .unset] [])) t → Steps p.tables e below (s₁.setTop (entryFrame m #[(.ref a1), .null] 3)) t := fun t k => castTop (ef_eqN m a1) k
  obtain ⟨fs, hr, hrun, hended, hW, hsame⟩ := X0.leave (v := some (.int (0 : Int32))) (fun h => by rw [Bd.returns] at h; cases h)
  refine ⟨_, _, pre0 _ ?_, hrun, hended, _, _, rfl, ?_, ⟨_, rfl⟩, hW, hsame.mono (by decide) (by decide)⟩
  · show Steps p.tables e below (s₁.setTop (mkF m 0 #[.val (.ref a1), .val .null, .unset] [])) _
    refine XS.aloadN X0.here hx rfl (hb hby d3_0) rfl rfl ?_
    show Steps p.tables e below (s₁.setTop (mkF m 1 #[.val (.ref a1), .val .null, .unset] [(.ref a1)])) _
    refine XS.aloadN X0.here hx rfl (hb hby d3_1) rfl rfl ?_
    show Steps p.tables e below (s₁.setTop (mkF m 2 #[.val (.ref a1), .val .null, .unset] [.null, (.ref a1)])) _
    refine Jvm.RoadKit.acmp (g := (mkF m 2 #[.val (.ref a1), .val .null, .unset] [.null, (.ref a1)])) X0 hx rfl rfl rfl (pc0 := 2) (pc' := 7) (same := false) rfl (hb hby d3_2) rfl (decide_eq_false nofun) (by decide) (by decide) ?_
    show Steps p.tables e below (s₁.setTop (mkF m 7 #[.val (.ref a1), .val .null, .unset] [])) _
    refine XS.aloadN X0.here hx rfl (hb hby d3_7) rfl rfl ?_
    show Steps p.tables e below (s₁.setTop (mkF m 8 #[.val (.ref a1), .val .null, .unset] [.null])) _
    refine X0.instanceofNull hx (g := (mkF m 8 #[.val (.ref a1), .val .null, .unset] [.null])) rfl rfl (hb hby d3_8) _ ?_
    show Steps p.tables e below (s₁.setTop (mkF m 11 #[.val (.ref a1), .val .null, .unset] [(.int (0 : Int32))])) _
    refine XS.ifNo X0.here hx rfl (hb hby d3_11) rfl ((if0 _ _).trans (teq (by decide : (0 : Int32) = (0 : Int32))).2) ?_
    show Steps p.tables e below (s₁.setTop (mkF m 14 #[.val (.ref a1), .val .null, .unset] [])) _
    refine XS.iconst X0.here hx rfl (hb hby d3_14) ?_
    show Steps p.tables e below (s₁.setTop (mkF m 15 #[.val (.ref a1), .val .null, .unset] [(.int (0 : Int32))])) _
    exact retN X0 hx (t := .boolean) Bd.returns (by simp) (hb hby d3_15) hr
  · show Q_eqN Z a1 h0 n0 _ s₁.heap _
    rw [e0]
    exact ⟨rfl, N0, rfl⟩
theorem ef_eqI (m : MethodId) (a1 : Addr) (a2 : Addr) : entryFrame m #[(.ref a1), (.ref a2)] 3 = mkF m 0 #[.val (.ref a1), .val (.ref a2), .unset] [] := by first | (simp [entryFrame, mkF, argsToLocals, Value.category]; done) | rfl
def Q_eqI (Z : State) (a1 a2 : Addr) (h0 : Heap) (n0 : Nat) (v : Option Value) (h : Heap) (L : List Loc) : Prop := v = some (.int (0 : Int32)) ∧ Fr n0 L ∧ h = h0
set_option maxRecDepth 65536 in
set_option maxHeartbeats 40000000 in
theorem eqI (l : Launch) (Z : State) (a0 : Array Value) (hw : ∀ d ∈ tables_1, d.before a0 Z = true) (ws : List Jvm.Cond) (a1 a2 : Addr) (h0 : Heap) (n0 : Nat) (O0 : Old Z n0 h0) (E1 : Exa Z h0 a1 "com/example/semaforo/semaforo/network/Lane") (E2 : Exa Z h0 a2 "java/lang/Integer") :
    MetFree l (⟨"com/example/semaforo/semaforo/network/Lane", "equals", "(Ljava/lang/Object;)Z"⟩ : MethodName) (head1 (Jvm.Cond.code (⟨"com/example/semaforo/semaforo/network/Lane", "equals", "(Ljava/lang/Object;)Z"⟩ : MethodName) prog_52_method_5_code 3 (some .boolean) :: ws) ({ frames := 0, cells := 0, slots := 0, locals := 0 } : Room)) (fun a U => a = #[(.ref a1), (.ref a2)] ∧ Z.Warmed39 U.vm ∧ U.heap = h0) (fun _ _ _ _ _ => True) (fun _ U o U' => ∃ v L, o = .returned v ∧ Q_eqI Z a1 a2 h0 n0 v U'.heap L ∧ FrameEnd U o U' L ({ frames := 0, cells := 0, slots := 0, locals := 0 } : Room).cells ({ frames := 0, cells := 0, slots := 0, locals := 0 } : Room).slots) := by
  refine MetFree.of_bodySF (plainFor_of_name pn_com_example_semaforo_semaforo_network_Lane) hisR ?_
  intro p e s m args below meth c s₁ Bd hml0 hP hK
  obtain ⟨rfl, hZ, hh⟩ := hP
  have hx := Bd.exec
  have hby := Bd.bytes
  have hml : c.maxLocals = 3 := hml0
  have hown : s.vm.findClass "com/example/semaforo/semaforo/network/Lane" = some m.cls := findClass_of_methodNamed Bd.named
  have hnm := (name_of_methodNamed Bd.named Bd.method).1
  have X0 : Stand p l e ({ frames := 0, cells := 0, slots := 0, locals := 0 } : Room) s m #[(.ref a1), (.ref a2)] below meth c s₁ [] 0 0 := Stand.of_body Bd
  have e0 : s₁.heap = h0 := by rw [← hh, Bd.state]; rfl
  have N0 := Fr.nil n0
  have pre0 : ∀ t, Steps p.tables e below (s₁.setTop (mkF m 0 #[.val (.ref a1), .val (.ref a2), .unset] [])) t → Steps p.tables e below (s₁.setTop (entryFrame m #[(.ref a1), (.ref a2)] 3)) t := fun t k => castTop (ef_eqI m a1 a2) k
  obtain ⟨T1, X1, e1, st1⟩ := instNo X0 hx hZ hown (hw _ (List.mem_of_getElem? (i := 27) rfl)) e0 E2 (own_no (hw _ (List.mem_of_getElem? (i := 32) rfl)) (hw _ (List.mem_of_getElem? (i := 1) rfl)) (NS.step (hw _ (List.mem_of_getElem? (i := 28) rfl)) (NS.step (hw _ (List.mem_of_getElem? (i := 29) rfl)) (own_root (hw _ (List.mem_of_getElem? (i := 30) rfl)) (hw _ (List.mem_of_getElem? (i := 1) rfl)) (by decide)) (by decide)) (by decide)) (by decide)) (g := (mkF m 8 #[.val (.ref a1), .val (.ref a2), .unset] [(.ref a2)])) rfl rfl (hb hby d3_8)
  obtain ⟨fs, hr, hrun, hended, hW, hsame⟩ := X1.leave (v := some (.int (0 : Int32))) (fun h => by rw [Bd.returns] at h; cases h)
  refine ⟨_, _, pre0 _ ?_, hrun, hended, _, _, rfl, ?_, ⟨_, rfl⟩, hW, hsame.mono (by decide) (by decide)⟩
  · show Steps p.tables e below (s₁.setTop (mkF m 0 #[.val (.ref a1), .val (.ref a2), .unset] [])) _
    refine XS.aloadN X0.here hx rfl (hb hby d3_0) rfl rfl ?_
    show Steps p.tables e below (s₁.setTop (mkF m 1 #[.val (.ref a1), .val (.ref a2), .unset] [(.ref a1)])) _
    refine XS.aloadN X0.here hx rfl (hb hby d3_1) rfl rfl ?_
    show Steps p.tables e below (s₁.setTop (mkF m 2 #[.val (.ref a1), .val (.ref a2), .unset] [(.ref a2), (.ref a1)])) _
    refine Jvm.RoadKit.acmp (g := (mkF m 2 #[.val (.ref a1), .val (.ref a2), .unset] [(.ref a2), (.ref a1)])) X0 hx rfl rfl rfl (pc0 := 2) (pc' := 7) (same := false) rfl (hb hby d3_2) rfl (decide_eq_false fun q => (Exa.ne E1 E2 (by decide)) (Value.ref.inj q)) (by decide) (by decide) ?_
    show Steps p.tables e below (s₁.setTop (mkF m 7 #[.val (.ref a1), .val (.ref a2), .unset] [])) _
    refine XS.aloadN X0.here hx rfl (hb hby d3_7) rfl rfl ?_
    show Steps p.tables e below (s₁.setTop (mkF m 8 #[.val (.ref a1), .val (.ref a2), .unset] [(.ref a2)])) _
    refine st1 _ ?_
    show Steps p.tables e below (T1.setTop (mkF m 11 #[.val (.ref a1), .val (.ref a2), .unset] [(.int (0 : Int32))])) _
    refine XS.ifNo X1.here hx rfl (hb hby d3_11) rfl ((if0 _ _).trans (teq (by decide : (0 : Int32) = (0 : Int32))).2) ?_
    show Steps p.tables e below (T1.setTop (mkF m 14 #[.val (.ref a1), .val (.ref a2), .unset] [])) _
    refine XS.iconst X1.here hx rfl (hb hby d3_14) ?_
    show Steps p.tables e below (T1.setTop (mkF m 15 #[.val (.ref a1), .val (.ref a2), .unset] [(.int (0 : Int32))])) _
    exact retN X1 hx (t := .boolean) Bd.returns (by simp) (hb hby d3_15) hr
  · show Q_eqI Z a1 a2 h0 n0 _ T1.heap _
    rw [e1]
    exact ⟨rfl, N0, rfl⟩
theorem ef_eqC (m : MethodId) (a1 : Addr) (a2 : Addr) : entryFrame m #[(.ref a1), (.ref a2)] 3 = mkF m 0 #[.val (.ref a1), .val (.ref a2), .unset] [] := by first | (simp [entryFrame, mkF, argsToLocals, Value.category]; done) | rfl
def Q_eqC (Z : State) (a1 a2 : Addr) (l1 s1 r1 l2 s2 r2 : Int32) (h0 : Heap) (n0 : Nat) (v : Option Value) (h : Heap) (L : List Loc) : Prop := v = some (.int (own_eq l1 s1 r1 l2 s2 r2)) ∧ Fr n0 L ∧ h = h0
set_option maxRecDepth 65536 in
set_option maxHeartbeats 40000000 in
theorem eqC (l : Launch) (Z : State) (a0 : Array Value) (hw : ∀ d ∈ tables_1, d.before a0 Z = true) (ws : List Jvm.Cond) (a1 a2 : Addr) (l1 s1 r1 l2 s2 r2 : Int32) (h0 : Heap) (n0 : Nat) (O0 : Old Z n0 h0) (E1 : Exa Z h0 a1 "com/example/semaforo/semaforo/network/Lane") (E2 : Exa Z h0 a2 "com/example/semaforo/semaforo/network/Lane") (hne : a1 ≠ a2) (F_left_a1 : Fld Z h0 a1 "com/example/semaforo/semaforo/network/Lane" "left" "Z" (.int l1)) (F_straight_a1 : Fld Z h0 a1 "com/example/semaforo/semaforo/network/Lane" "straight" "Z" (.int s1)) (F_right_a1 : Fld Z h0 a1 "com/example/semaforo/semaforo/network/Lane" "right" "Z" (.int r1)) (F_left_a2 : Fld Z h0 a2 "com/example/semaforo/semaforo/network/Lane" "left" "Z" (.int l2)) (F_straight_a2 : Fld Z h0 a2 "com/example/semaforo/semaforo/network/Lane" "straight" "Z" (.int s2)) (F_right_a2 : Fld Z h0 a2 "com/example/semaforo/semaforo/network/Lane" "right" "Z" (.int r2)) :
    MetFree l (⟨"com/example/semaforo/semaforo/network/Lane", "equals", "(Ljava/lang/Object;)Z"⟩ : MethodName) (head1 (Jvm.Cond.code (⟨"com/example/semaforo/semaforo/network/Lane", "equals", "(Ljava/lang/Object;)Z"⟩ : MethodName) prog_52_method_5_code 3 (some .boolean) :: ws) ({ frames := 0, cells := 0, slots := 0, locals := 0 } : Room)) (fun a U => a = #[(.ref a1), (.ref a2)] ∧ Z.Warmed39 U.vm ∧ U.heap = h0) (fun _ _ _ _ _ => True) (fun _ U o U' => ∃ v L, o = .returned v ∧ Q_eqC Z a1 a2 l1 s1 r1 l2 s2 r2 h0 n0 v U'.heap L ∧ FrameEnd U o U' L ({ frames := 0, cells := 0, slots := 0, locals := 0 } : Room).cells ({ frames := 0, cells := 0, slots := 0, locals := 0 } : Room).slots) := by
  refine MetFree.of_bodySF (plainFor_of_name pn_com_example_semaforo_semaforo_network_Lane) hisR ?_
  intro p e s m args below meth c s₁ Bd hml0 hP hK
  obtain ⟨rfl, hZ, hh⟩ := hP
  have hx := Bd.exec
  have hby := Bd.bytes
  have hml : c.maxLocals = 3 := hml0
  have hown : s.vm.findClass "com/example/semaforo/semaforo/network/Lane" = some m.cls := findClass_of_methodNamed Bd.named
  have hnm := (name_of_methodNamed Bd.named Bd.method).1
  have X0 : Stand p l e ({ frames := 0, cells := 0, slots := 0, locals := 0 } : Room) s m #[(.ref a1), (.ref a2)] below meth c s₁ [] 0 0 := Stand.of_body Bd
  have e0 : s₁.heap = h0 := by rw [← hh, Bd.state]; rfl
  have N0 := Fr.nil n0
  have pre0 : ∀ t, Steps p.tables e below (s₁.setTop (mkF m 0 #[.val (.ref a1), .val (.ref a2), .unset] [])) t → Steps p.tables e below (s₁.setTop (entryFrame m #[(.ref a1), (.ref a2)] 3)) t := fun t k => castTop (ef_eqC m a1 a2) k
  obtain ⟨T1, X1, e1, st1⟩ := instY X0 hx hZ hown (hw _ (List.mem_of_getElem? (i := 27) rfl)) e0 (Ins.self E2) (g := (mkF m 8 #[.val (.ref a1), .val (.ref a2), .unset] [(.ref a2)])) rfl rfl (hb hby d3_8)
  obtain ⟨T2, X2, e2, st2⟩ := castY X1 hx hZ hown (hw _ (List.mem_of_getElem? (i := 27) rfl)) e1 (Ins.self E2) (g := (mkF m 17 #[.val (.ref a1), .val (.ref a2), .unset] [(.ref a2)])) rfl rfl (hb hby d3_17)
  obtain ⟨T3, X3, e3, st3⟩ := getF X2 hx hZ hown (host := "") (Or.inl (hw _ (List.mem_of_getElem? (i := 9) rfl))) Via.refl e2 F_left_a1 (g := (mkF m 22 #[.val (.ref a1), .val (.ref a2), .val (.ref a2)] [(.ref a1)])) rfl rfl (hb hby d3_22)
  obtain ⟨T4, X4, e4, st4⟩ := getF X3 hx hZ hown (host := "") (Or.inl (hw _ (List.mem_of_getElem? (i := 9) rfl))) Via.refl e3 F_left_a2 (g := (mkF m 26 #[.val (.ref a1), .val (.ref a2), .val (.ref a2)] [(.ref a2), (.int l1)])) rfl rfl (hb hby d3_26)
  have pre5 : ∀ t, Steps p.tables e below (T4.setTop (mkF m 29 #[.val (.ref a1), .val (.ref a2), .val (.ref a2)] [(.int l2), (.int l1)])) t → Steps p.tables e below (s₁.setTop (entryFrame m #[(.ref a1), (.ref a2)] 3)) t := by
    intro t kt
    refine pre0 _ ?_
    show Steps p.tables e below (s₁.setTop (mkF m 0 #[.val (.ref a1), .val (.ref a2), .unset] [])) _
    refine XS.aloadN X0.here hx rfl (hb hby d3_0) rfl rfl ?_
    show Steps p.tables e below (s₁.setTop (mkF m 1 #[.val (.ref a1), .val (.ref a2), .unset] [(.ref a1)])) _
    refine XS.aloadN X0.here hx rfl (hb hby d3_1) rfl rfl ?_
    show Steps p.tables e below (s₁.setTop (mkF m 2 #[.val (.ref a1), .val (.ref a2), .unset] [(.ref a2), (.ref a1)])) _
    refine Jvm.RoadKit.acmp (g := (mkF m 2 #[.val (.ref a1), .val (.ref a2), .unset] [(.ref a2), (.ref a1)])) X0 hx rfl rfl rfl (pc0 := 2) (pc' := 7) (same := false) rfl (hb hby d3_2) rfl (decide_eq_false fun q => hne (Value.ref.inj q)) (by decide) (by decide) ?_
    show Steps p.tables e below (s₁.setTop (mkF m 7 #[.val (.ref a1), .val (.ref a2), .unset] [])) _
    refine XS.aloadN X0.here hx rfl (hb hby d3_7) rfl rfl ?_
    show Steps p.tables e below (s₁.setTop (mkF m 8 #[.val (.ref a1), .val (.ref a2), .unset] [(.ref a2)])) _
    refine st1 _ ?_
    show Steps p.tables e below (T1.setTop (mkF m 11 #[.val (.ref a1), .val (.ref a2), .unset] [(.int (1 : Int32))])) _
    refine XS.ifYes X1.here hx rfl (pc0 := 11) (pc' := 16) rfl (hb hby d3_11) rfl ((if0 _ _).trans (feq (by decide : ¬ ((1 : Int32) = (0 : Int32)))).2) (by decide) (by decide) ?_
    show Steps p.tables e below (T1.setTop (mkF m 16 #[.val (.ref a1), .val (.ref a2), .unset] [])) _
    refine XS.aloadN X1.here hx rfl (hb hby d3_16) rfl rfl ?_
    show Steps p.tables e below (T1.setTop (mkF m 17 #[.val (.ref a1), .val (.ref a2), .unset] [(.ref a2)])) _
    refine st2 _ ?_
    show Steps p.tables e below (T2.setTop (mkF m 20 #[.val (.ref a1), .val (.ref a2), .unset] [(.ref a2)])) _
    refine XS.astoreN X2.here hx rfl (hb hby d3_20) rfl rfl (l' := #[.val (.ref a1), .val (.ref a2), .val (.ref a2)]) rfl ?_
    show Steps p.tables e below (T2.setTop (mkF m 21 #[.val (.ref a1), .val (.ref a2), .val (.ref a2)] [])) _
    refine XS.aloadN X2.here hx rfl (hb hby d3_21) rfl rfl ?_
    show Steps p.tables e below (T2.setTop (mkF m 22 #[.val (.ref a1), .val (.ref a2), .val (.ref a2)] [(.ref a1)])) _
    refine st3 _ ?_
    show Steps p.tables e below (T3.setTop (mkF m 25 #[.val (.ref a1), .val (.ref a2), .val (.ref a2)] [(.int l1)])) _
    refine XS.aloadN X3.here hx rfl (hb hby d3_25) rfl rfl ?_
    show Steps p.tables e below (T3.setTop (mkF m 26 #[.val (.ref a1), .val (.ref a2), .val (.ref a2)] [(.ref a2), (.int l1)])) _
    refine st4 _ ?_
    exact kt
  by_cases hc29_5 : l1 = l2
  · obtain ⟨T6, X6, e6, st6⟩ := getF X4 hx hZ hown (host := "") (Or.inl (hw _ (List.mem_of_getElem? (i := 11) rfl))) Via.refl e4 F_straight_a1 (g := (mkF m 33 #[.val (.ref a1), .val (.ref a2), .val (.ref a2)] [(.ref a1)])) rfl rfl (hb hby d3_33)
    obtain ⟨T7, X7, e7, st7⟩ := getF X6 hx hZ hown (host := "") (Or.inl (hw _ (List.mem_of_getElem? (i := 11) rfl))) Via.refl e6 F_straight_a2 (g := (mkF m 37 #[.val (.ref a1), .val (.ref a2), .val (.ref a2)] [(.ref a2), (.int s1)])) rfl rfl (hb hby d3_37)
    have pre8 : ∀ t, Steps p.tables e below (T7.setTop (mkF m 40 #[.val (.ref a1), .val (.ref a2), .val (.ref a2)] [(.int s2), (.int s1)])) t → Steps p.tables e below (s₁.setTop (entryFrame m #[(.ref a1), (.ref a2)] 3)) t := by
      intro t kt
      refine pre5 _ ?_
      show Steps p.tables e below (T4.setTop (mkF m 29 #[.val (.ref a1), .val (.ref a2), .val (.ref a2)] [(.int l2), (.int l1)])) _
      refine XS.icmpNo X4.here hx rfl (hb hby d3_29) rfl (teq hc29_5).2 ?_
      show Steps p.tables e below (T4.setTop (mkF m 32 #[.val (.ref a1), .val (.ref a2), .val (.ref a2)] [])) _
      refine XS.aloadN X4.here hx rfl (hb hby d3_32) rfl rfl ?_
      show Steps p.tables e below (T4.setTop (mkF m 33 #[.val (.ref a1), .val (.ref a2), .val (.ref a2)] [(.ref a1)])) _
      refine st6 _ ?_
      show Steps p.tables e below (T6.setTop (mkF m 36 #[.val (.ref a1), .val (.ref a2), .val (.ref a2)] [(.int s1)])) _
      refine XS.aloadN X6.here hx rfl (hb hby d3_36) rfl rfl ?_
      show Steps p.tables e below (T6.setTop (mkF m 37 #[.val (.ref a1), .val (.ref a2), .val (.ref a2)] [(.ref a2), (.int s1)])) _
      refine st7 _ ?_
      exact kt
    by_cases hc40_8 : s1 = s2
    · obtain ⟨T9, X9, e9, st9⟩ := getF X7 hx hZ hown (host := "") (Or.inl (hw _ (List.mem_of_getElem? (i := 13) rfl))) Via.refl e7 F_right_a1 (g := (mkF m 44 #[.val (.ref a1), .val (.ref a2), .val (.ref a2)] [(.ref a1)])) rfl rfl (hb hby d3_44)
      obtain ⟨T10, X10, e10, st10⟩ := getF X9 hx hZ hown (host := "") (Or.inl (hw _ (List.mem_of_getElem? (i := 13) rfl))) Via.refl e9 F_right_a2 (g := (mkF m 48 #[.val (.ref a1), .val (.ref a2), .val (.ref a2)] [(.ref a2), (.int r1)])) rfl rfl (hb hby d3_48)
      have pre11 : ∀ t, Steps p.tables e below (T10.setTop (mkF m 51 #[.val (.ref a1), .val (.ref a2), .val (.ref a2)] [(.int r2), (.int r1)])) t → Steps p.tables e below (s₁.setTop (entryFrame m #[(.ref a1), (.ref a2)] 3)) t := by
        intro t kt
        refine pre8 _ ?_
        show Steps p.tables e below (T7.setTop (mkF m 40 #[.val (.ref a1), .val (.ref a2), .val (.ref a2)] [(.int s2), (.int s1)])) _
        refine XS.icmpNo X7.here hx rfl (hb hby d3_40) rfl (teq hc40_8).2 ?_
        show Steps p.tables e below (T7.setTop (mkF m 43 #[.val (.ref a1), .val (.ref a2), .val (.ref a2)] [])) _
        refine XS.aloadN X7.here hx rfl (hb hby d3_43) rfl rfl ?_
        show Steps p.tables e below (T7.setTop (mkF m 44 #[.val (.ref a1), .val (.ref a2), .val (.ref a2)] [(.ref a1)])) _
        refine st9 _ ?_
        show Steps p.tables e below (T9.setTop (mkF m 47 #[.val (.ref a1), .val (.ref a2), .val (.ref a2)] [(.int r1)])) _
        refine XS.aloadN X9.here hx rfl (hb hby d3_47) rfl rfl ?_
        show Steps p.tables e below (T9.setTop (mkF m 48 #[.val (.ref a1), .val (.ref a2), .val (.ref a2)] [(.ref a2), (.int r1)])) _
        refine st10 _ ?_
        exact kt
      by_cases hc51_11 : r1 = r2
      · obtain ⟨fs, hr, hrun, hended, hW, hsame⟩ := X10.leave (v := some (.int (1 : Int32))) (fun h => by rw [Bd.returns] at h; cases h)
        refine ⟨_, _, pre11 _ ?_, hrun, hended, _, _, rfl, ?_, ⟨_, rfl⟩, hW, hsame.mono (by decide) (by decide)⟩
        · show Steps p.tables e below (T10.setTop (mkF m 51 #[.val (.ref a1), .val (.ref a2), .val (.ref a2)] [(.int r2), (.int r1)])) _
          refine XS.icmpNo X10.here hx rfl (hb hby d3_51) rfl (teq hc51_11).2 ?_
          show Steps p.tables e below (T10.setTop (mkF m 54 #[.val (.ref a1), .val (.ref a2), .val (.ref a2)] [])) _
          refine XS.iconst X10.here hx rfl (hb hby d3_54) ?_
          show Steps p.tables e below (T10.setTop (mkF m 55 #[.val (.ref a1), .val (.ref a2), .val (.ref a2)] [(.int (1 : Int32))])) _
          refine XS.goto X10.here hx rfl (pc0 := 55) (pc' := 59) rfl (hb hby d3_55) (by decide) (by decide) ?_
          show Steps p.tables e below (T10.setTop (mkF m 59 #[.val (.ref a1), .val (.ref a2), .val (.ref a2)] [(.int (1 : Int32))])) _
          exact retN X10 hx (t := .boolean) Bd.returns (by simp) (hb hby d3_59) hr
        · show Q_eqC Z a1 a2 l1 s1 r1 l2 s2 r2 h0 n0 _ T10.heap _
          rw [e10]
          exact ⟨by simp [own_eq, hc29_5, hc40_8, hc51_11], N0, rfl⟩
      · obtain ⟨fs, hr, hrun, hended, hW, hsame⟩ := X10.leave (v := some (.int (0 : Int32))) (fun h => by rw [Bd.returns] at h; cases h)
        refine ⟨_, _, pre11 _ ?_, hrun, hended, _, _, rfl, ?_, ⟨_, rfl⟩, hW, hsame.mono (by decide) (by decide)⟩
        · show Steps p.tables e below (T10.setTop (mkF m 51 #[.val (.ref a1), .val (.ref a2), .val (.ref a2)] [(.int r2), (.int r1)])) _
          refine XS.icmpYes X10.here hx rfl (pc0 := 51) (pc' := 58) rfl (hb hby d3_51) rfl (feq hc51_11).2 (by decide) (by decide) ?_
          show Steps p.tables e below (T10.setTop (mkF m 58 #[.val (.ref a1), .val (.ref a2), .val (.ref a2)] [])) _
          refine XS.iconst X10.here hx rfl (hb hby d3_58) ?_
          show Steps p.tables e below (T10.setTop (mkF m 59 #[.val (.ref a1), .val (.ref a2), .val (.ref a2)] [(.int (0 : Int32))])) _
          exact retN X10 hx (t := .boolean) Bd.returns (by simp) (hb hby d3_59) hr
        · show Q_eqC Z a1 a2 l1 s1 r1 l2 s2 r2 h0 n0 _ T10.heap _
          rw [e10]
          exact ⟨by simp [own_eq, hc29_5, hc40_8, hc51_11], N0, rfl⟩
    · obtain ⟨fs, hr, hrun, hended, hW, hsame⟩ := X7.leave (v := some (.int (0 : Int32))) (fun h => by rw [Bd.returns] at h; cases h)
      refine ⟨_, _, pre8 _ ?_, hrun, hended, _, _, rfl, ?_, ⟨_, rfl⟩, hW, hsame.mono (by decide) (by decide)⟩
      · show Steps p.tables e below (T7.setTop (mkF m 40 #[.val (.ref a1), .val (.ref a2), .val (.ref a2)] [(.int s2), (.int s1)])) _
        refine XS.icmpYes X7.here hx rfl (pc0 := 40) (pc' := 58) rfl (hb hby d3_40) rfl (feq hc40_8).2 (by decide) (by decide) ?_
        show Steps p.tables e below (T7.setTop (mkF m 58 #[.val (.ref a1), .val (.ref a2), .val (.ref a2)] [])) _
        refine XS.iconst X7.here hx rfl (hb hby d3_58) ?_
        show Steps p.tables e below (T7.setTop (mkF m 59 #[.val (.ref a1), .val (.ref a2), .val (.ref a2)] [(.int (0 : Int32))])) _
        exact retN X7 hx (t := .boolean) Bd.returns (by simp) (hb hby d3_59) hr
      · show Q_eqC Z a1 a2 l1 s1 r1 l2 s2 r2 h0 n0 _ T7.heap _
        rw [e7]
        exact ⟨by simp [own_eq, hc29_5, hc40_8], N0, rfl⟩
  · obtain ⟨fs, hr, hrun, hended, hW, hsame⟩ := X4.leave (v := some (.int (0 : Int32))) (fun h => by rw [Bd.returns] at h; cases h)
    refine ⟨_, _, pre5 _ ?_, hrun, hended, _, _, rfl, ?_, ⟨_, rfl⟩, hW, hsame.mono (by decide) (by decide)⟩
    · show Steps p.tables e below (T4.setTop (mkF m 29 #[.val (.ref a1), .val (.ref a2), .val (.ref a2)] [(.int l2), (.int l1)])) _
      refine XS.icmpYes X4.here hx rfl (pc0 := 29) (pc' := 58) rfl (hb hby d3_29) rfl (feq hc29_5).2 (by decide) (by decide) ?_
      show Steps p.tables e below (T4.setTop (mkF m 58 #[.val (.ref a1), .val (.ref a2), .val (.ref a2)] [])) _
      refine XS.iconst X4.here hx rfl (hb hby d3_58) ?_
      show Steps p.tables e below (T4.setTop (mkF m 59 #[.val (.ref a1), .val (.ref a2), .val (.ref a2)] [(.int (0 : Int32))])) _
      exact retN X4 hx (t := .boolean) Bd.returns (by simp) (hb hby d3_59) hr
    · show Q_eqC Z a1 a2 l1 s1 r1 l2 s2 r2 h0 n0 _ T4.heap _
      rw [e4]
      exact ⟨by simp [own_eq, hc29_5], N0, rfl⟩
theorem ef_rm0 (m : MethodId) (p1 : Int32) (p2 : Int32) (p3 : Int32) : entryFrame m #[(.int p1), (.int p2), (.int p3)] maxLocals = mkF m 0 #[.val (.int p1), .val (.int p2), .val (.int p3), .unset, .unset, .unset, .unset, .unset, .unset, .unset, .unset, .unset, .unset, .unset, .unset] [] := by first | (simp [entryFrame, mkF, argsToLocals, Value.category, maxLocals]; done) | rfl
def Q_rm0 (Z : State) (p1 p2 p3 : Int32) (wc : Addr) (clc : Cell) (h0 : Heap) (n0 : Nat) (v : Option Value) (h : Heap) (L : List Loc) : Prop := v = some (.int (1 : Int32)) ∧ Fr n0 L
set_option maxRecDepth 65536 in
set_option maxHeartbeats 40000000 in
theorem rm0 (l : Launch) (Z : State) (a0 : Array Value) (hw : ∀ d ∈ tables_1, d.before a0 Z = true) (ws : List Jvm.Cond) (p1 p2 p3 : Int32) (wc : Addr) (clc : Cell) (h0 : Heap) (n0 : Nat) (O0 : Old Z n0 h0) (hI : EnvI Z wc clc) :
    MetFree l x (head1 (Jvm.Cond.code x code maxLocals ret :: ws) room_1) (fun a U => a = #[(.int p1), (.int p2), (.int p3)] ∧ Z.Warmed39 U.vm ∧ U.heap = h0) (fun _ _ _ _ _ => True) (fun _ U o U' => ∃ v L, o = .returned v ∧ Q_rm0 Z p1 p2 p3 wc clc h0 n0 v U'.heap L ∧ FrameEnd U o U' L room_1.cells room_1.slots) := by
  refine MetFree.of_bodySF (plainFor_of_name pn_com_example_semaforo_semaforo_network_LaneEqualsPinLaw) hisR ?_
  intro p e s m args below meth c s₁ Bd hml0 hP hK
  obtain ⟨rfl, hZ, hh⟩ := hP
  have hx := Bd.exec
  have hby := Bd.bytes
  have hml : c.maxLocals = 15 := hml0
  have hown : s.vm.findClass "com/example/semaforo/semaforo/network/LaneEqualsPinLaw" = some m.cls := findClass_of_methodNamed Bd.named
  have hnm := (name_of_methodNamed Bd.named Bd.method).1
  have X0 : Stand p l e room_1 s m #[(.int p1), (.int p2), (.int p3)] below meth c s₁ [] 0 0 := Stand.of_body Bd
  have e0 : s₁.heap = h0 := by rw [← hh, Bd.state]; rfl
  have N0 := Fr.nil n0
  have pre0 : ∀ t, Steps p.tables e below (s₁.setTop (mkF m 0 #[.val (.int p1), .val (.int p2), .val (.int p3), .unset, .unset, .unset, .unset, .unset, .unset, .unset, .unset, .unset, .unset, .unset, .unset] [])) t → Steps p.tables e below (s₁.setTop (entryFrame m #[(.int p1), (.int p2), (.int p3)] maxLocals)) t := fun t k => castTop (ef_rm0 m p1 p2 p3) k
  have dm1 : ∀ t, Steps p.tables e below (s₁.setTop (mkF m 11 #[.val (.int p1), .val (.int p2), .val (.int p3), .unset, .unset, .unset, .unset, .unset, .unset, .unset, .unset, .unset, .unset, .unset, .unset] [(.int (own_bit p1 (1 : Int32)))])) t → Steps p.tables e below (s₁.setTop (mkF m 3 #[.val (.int p1), .val (.int p2), .val (.int p3), .unset, .unset, .unset, .unset, .unset, .unset, .unset, .unset, .unset, .unset, .unset, .unset] [(.int (p1 &&& (1 : Int32)))])) t := by
    intro t kt
    by_cases hc : (p1 &&& (1 : Int32)) = (0 : Int32)
    · rw [own_bit_t hc] at kt
      show Steps p.tables e below (s₁.setTop (mkF m 3 #[.val (.int p1), .val (.int p2), .val (.int p3), .unset, .unset, .unset, .unset, .unset, .unset, .unset, .unset, .unset, .unset, .unset, .unset] [(.int (p1 &&& (1 : Int32)))])) _
      refine XS.ifYes X0.here hx rfl (pc0 := 3) (pc' := 10) rfl (hb hby at_3) rfl ((if0 _ _).trans (teq hc).1) (by decide) (by decide) ?_
      show Steps p.tables e below (s₁.setTop (mkF m 10 #[.val (.int p1), .val (.int p2), .val (.int p3), .unset, .unset, .unset, .unset, .unset, .unset, .unset, .unset, .unset, .unset, .unset, .unset] [])) _
      refine XS.iconst X0.here hx rfl (hb hby at_10) ?_
      exact kt
    · rw [own_bit_f hc] at kt
      show Steps p.tables e below (s₁.setTop (mkF m 3 #[.val (.int p1), .val (.int p2), .val (.int p3), .unset, .unset, .unset, .unset, .unset, .unset, .unset, .unset, .unset, .unset, .unset, .unset] [(.int (p1 &&& (1 : Int32)))])) _
      refine XS.ifNo X0.here hx rfl (hb hby at_3) rfl ((if0 _ _).trans (feq hc).1) ?_
      show Steps p.tables e below (s₁.setTop (mkF m 6 #[.val (.int p1), .val (.int p2), .val (.int p3), .unset, .unset, .unset, .unset, .unset, .unset, .unset, .unset, .unset, .unset, .unset, .unset] [])) _
      refine XS.iconst X0.here hx rfl (hb hby at_6) ?_
      show Steps p.tables e below (s₁.setTop (mkF m 7 #[.val (.int p1), .val (.int p2), .val (.int p3), .unset, .unset, .unset, .unset, .unset, .unset, .unset, .unset, .unset, .unset, .unset, .unset] [(.int (1 : Int32))])) _
      refine XS.goto X0.here hx rfl (pc0 := 7) (pc' := 11) rfl (hb hby at_7) (by decide) (by decide) ?_
      exact kt
  have dm2 : ∀ t, Steps p.tables e below (s₁.setTop (mkF m 23 #[.val (.int p1), .val (.int p2), .val (.int p3), .val (.int (own_bit p1 (1 : Int32))), .unset, .unset, .unset, .unset, .unset, .unset, .unset, .unset, .unset, .unset, .unset] [(.int (own_bit p1 (2 : Int32)))])) t → Steps p.tables e below (s₁.setTop (mkF m 15 #[.val (.int p1), .val (.int p2), .val (.int p3), .val (.int (own_bit p1 (1 : Int32))), .unset, .unset, .unset, .unset, .unset, .unset, .unset, .unset, .unset, .unset, .unset] [(.int (p1 &&& (2 : Int32)))])) t := by
    intro t kt
    by_cases hc : (p1 &&& (2 : Int32)) = (0 : Int32)
    · rw [own_bit_t hc] at kt
      show Steps p.tables e below (s₁.setTop (mkF m 15 #[.val (.int p1), .val (.int p2), .val (.int p3), .val (.int (own_bit p1 (1 : Int32))), .unset, .unset, .unset, .unset, .unset, .unset, .unset, .unset, .unset, .unset, .unset] [(.int (p1 &&& (2 : Int32)))])) _
      refine XS.ifYes X0.here hx rfl (pc0 := 15) (pc' := 22) rfl (hb hby at_15) rfl ((if0 _ _).trans (teq hc).1) (by decide) (by decide) ?_
      show Steps p.tables e below (s₁.setTop (mkF m 22 #[.val (.int p1), .val (.int p2), .val (.int p3), .val (.int (own_bit p1 (1 : Int32))), .unset, .unset, .unset, .unset, .unset, .unset, .unset, .unset, .unset, .unset, .unset] [])) _
      refine XS.iconst X0.here hx rfl (hb hby at_22) ?_
      exact kt
    · rw [own_bit_f hc] at kt
      show Steps p.tables e below (s₁.setTop (mkF m 15 #[.val (.int p1), .val (.int p2), .val (.int p3), .val (.int (own_bit p1 (1 : Int32))), .unset, .unset, .unset, .unset, .unset, .unset, .unset, .unset, .unset, .unset, .unset] [(.int (p1 &&& (2 : Int32)))])) _
      refine XS.ifNo X0.here hx rfl (hb hby at_15) rfl ((if0 _ _).trans (feq hc).1) ?_
      show Steps p.tables e below (s₁.setTop (mkF m 18 #[.val (.int p1), .val (.int p2), .val (.int p3), .val (.int (own_bit p1 (1 : Int32))), .unset, .unset, .unset, .unset, .unset, .unset, .unset, .unset, .unset, .unset, .unset] [])) _
      refine XS.iconst X0.here hx rfl (hb hby at_18) ?_
      show Steps p.tables e below (s₁.setTop (mkF m 19 #[.val (.int p1), .val (.int p2), .val (.int p3), .val (.int (own_bit p1 (1 : Int32))), .unset, .unset, .unset, .unset, .unset, .unset, .unset, .unset, .unset, .unset, .unset] [(.int (1 : Int32))])) _
      refine XS.goto X0.here hx rfl (pc0 := 19) (pc' := 23) rfl (hb hby at_19) (by decide) (by decide) ?_
      exact kt
  have dm3 : ∀ t, Steps p.tables e below (s₁.setTop (mkF m 36 #[.val (.int p1), .val (.int p2), .val (.int p3), .val (.int (own_bit p1 (1 : Int32))), .val (.int (own_bit p1 (2 : Int32))), .unset, .unset, .unset, .unset, .unset, .unset, .unset, .unset, .unset, .unset] [(.int (own_bit p1 (4 : Int32)))])) t → Steps p.tables e below (s₁.setTop (mkF m 28 #[.val (.int p1), .val (.int p2), .val (.int p3), .val (.int (own_bit p1 (1 : Int32))), .val (.int (own_bit p1 (2 : Int32))), .unset, .unset, .unset, .unset, .unset, .unset, .unset, .unset, .unset, .unset] [(.int (p1 &&& (4 : Int32)))])) t := by
    intro t kt
    by_cases hc : (p1 &&& (4 : Int32)) = (0 : Int32)
    · rw [own_bit_t hc] at kt
      show Steps p.tables e below (s₁.setTop (mkF m 28 #[.val (.int p1), .val (.int p2), .val (.int p3), .val (.int (own_bit p1 (1 : Int32))), .val (.int (own_bit p1 (2 : Int32))), .unset, .unset, .unset, .unset, .unset, .unset, .unset, .unset, .unset, .unset] [(.int (p1 &&& (4 : Int32)))])) _
      refine XS.ifYes X0.here hx rfl (pc0 := 28) (pc' := 35) rfl (hb hby at_28) rfl ((if0 _ _).trans (teq hc).1) (by decide) (by decide) ?_
      show Steps p.tables e below (s₁.setTop (mkF m 35 #[.val (.int p1), .val (.int p2), .val (.int p3), .val (.int (own_bit p1 (1 : Int32))), .val (.int (own_bit p1 (2 : Int32))), .unset, .unset, .unset, .unset, .unset, .unset, .unset, .unset, .unset, .unset] [])) _
      refine XS.iconst X0.here hx rfl (hb hby at_35) ?_
      exact kt
    · rw [own_bit_f hc] at kt
      show Steps p.tables e below (s₁.setTop (mkF m 28 #[.val (.int p1), .val (.int p2), .val (.int p3), .val (.int (own_bit p1 (1 : Int32))), .val (.int (own_bit p1 (2 : Int32))), .unset, .unset, .unset, .unset, .unset, .unset, .unset, .unset, .unset, .unset] [(.int (p1 &&& (4 : Int32)))])) _
      refine XS.ifNo X0.here hx rfl (hb hby at_28) rfl ((if0 _ _).trans (feq hc).1) ?_
      show Steps p.tables e below (s₁.setTop (mkF m 31 #[.val (.int p1), .val (.int p2), .val (.int p3), .val (.int (own_bit p1 (1 : Int32))), .val (.int (own_bit p1 (2 : Int32))), .unset, .unset, .unset, .unset, .unset, .unset, .unset, .unset, .unset, .unset] [])) _
      refine XS.iconst X0.here hx rfl (hb hby at_31) ?_
      show Steps p.tables e below (s₁.setTop (mkF m 32 #[.val (.int p1), .val (.int p2), .val (.int p3), .val (.int (own_bit p1 (1 : Int32))), .val (.int (own_bit p1 (2 : Int32))), .unset, .unset, .unset, .unset, .unset, .unset, .unset, .unset, .unset, .unset] [(.int (1 : Int32))])) _
      refine XS.goto X0.here hx rfl (pc0 := 32) (pc' := 36) rfl (hb hby at_32) (by decide) (by decide) ?_
      exact kt
  have dm4 : ∀ t, Steps p.tables e below (s₁.setTop (mkF m 49 #[.val (.int p1), .val (.int p2), .val (.int p3), .val (.int (own_bit p1 (1 : Int32))), .val (.int (own_bit p1 (2 : Int32))), .val (.int (own_bit p1 (4 : Int32))), .unset, .unset, .unset, .unset, .unset, .unset, .unset, .unset, .unset] [(.int (own_bit p2 (1 : Int32)))])) t → Steps p.tables e below (s₁.setTop (mkF m 41 #[.val (.int p1), .val (.int p2), .val (.int p3), .val (.int (own_bit p1 (1 : Int32))), .val (.int (own_bit p1 (2 : Int32))), .val (.int (own_bit p1 (4 : Int32))), .unset, .unset, .unset, .unset, .unset, .unset, .unset, .unset, .unset] [(.int (p2 &&& (1 : Int32)))])) t := by
    intro t kt
    by_cases hc : (p2 &&& (1 : Int32)) = (0 : Int32)
    · rw [own_bit_t hc] at kt
      show Steps p.tables e below (s₁.setTop (mkF m 41 #[.val (.int p1), .val (.int p2), .val (.int p3), .val (.int (own_bit p1 (1 : Int32))), .val (.int (own_bit p1 (2 : Int32))), .val (.int (own_bit p1 (4 : Int32))), .unset, .unset, .unset, .unset, .unset, .unset, .unset, .unset, .unset] [(.int (p2 &&& (1 : Int32)))])) _
      refine XS.ifYes X0.here hx rfl (pc0 := 41) (pc' := 48) rfl (hb hby at_41) rfl ((if0 _ _).trans (teq hc).1) (by decide) (by decide) ?_
      show Steps p.tables e below (s₁.setTop (mkF m 48 #[.val (.int p1), .val (.int p2), .val (.int p3), .val (.int (own_bit p1 (1 : Int32))), .val (.int (own_bit p1 (2 : Int32))), .val (.int (own_bit p1 (4 : Int32))), .unset, .unset, .unset, .unset, .unset, .unset, .unset, .unset, .unset] [])) _
      refine XS.iconst X0.here hx rfl (hb hby at_48) ?_
      exact kt
    · rw [own_bit_f hc] at kt
      show Steps p.tables e below (s₁.setTop (mkF m 41 #[.val (.int p1), .val (.int p2), .val (.int p3), .val (.int (own_bit p1 (1 : Int32))), .val (.int (own_bit p1 (2 : Int32))), .val (.int (own_bit p1 (4 : Int32))), .unset, .unset, .unset, .unset, .unset, .unset, .unset, .unset, .unset] [(.int (p2 &&& (1 : Int32)))])) _
      refine XS.ifNo X0.here hx rfl (hb hby at_41) rfl ((if0 _ _).trans (feq hc).1) ?_
      show Steps p.tables e below (s₁.setTop (mkF m 44 #[.val (.int p1), .val (.int p2), .val (.int p3), .val (.int (own_bit p1 (1 : Int32))), .val (.int (own_bit p1 (2 : Int32))), .val (.int (own_bit p1 (4 : Int32))), .unset, .unset, .unset, .unset, .unset, .unset, .unset, .unset, .unset] [])) _
      refine XS.iconst X0.here hx rfl (hb hby at_44) ?_
      show Steps p.tables e below (s₁.setTop (mkF m 45 #[.val (.int p1), .val (.int p2), .val (.int p3), .val (.int (own_bit p1 (1 : Int32))), .val (.int (own_bit p1 (2 : Int32))), .val (.int (own_bit p1 (4 : Int32))), .unset, .unset, .unset, .unset, .unset, .unset, .unset, .unset, .unset] [(.int (1 : Int32))])) _
      refine XS.goto X0.here hx rfl (pc0 := 45) (pc' := 49) rfl (hb hby at_45) (by decide) (by decide) ?_
      exact kt
  have dm5 : ∀ t, Steps p.tables e below (s₁.setTop (mkF m 62 #[.val (.int p1), .val (.int p2), .val (.int p3), .val (.int (own_bit p1 (1 : Int32))), .val (.int (own_bit p1 (2 : Int32))), .val (.int (own_bit p1 (4 : Int32))), .val (.int (own_bit p2 (1 : Int32))), .unset, .unset, .unset, .unset, .unset, .unset, .unset, .unset] [(.int (own_bit p2 (2 : Int32)))])) t → Steps p.tables e below (s₁.setTop (mkF m 54 #[.val (.int p1), .val (.int p2), .val (.int p3), .val (.int (own_bit p1 (1 : Int32))), .val (.int (own_bit p1 (2 : Int32))), .val (.int (own_bit p1 (4 : Int32))), .val (.int (own_bit p2 (1 : Int32))), .unset, .unset, .unset, .unset, .unset, .unset, .unset, .unset] [(.int (p2 &&& (2 : Int32)))])) t := by
    intro t kt
    by_cases hc : (p2 &&& (2 : Int32)) = (0 : Int32)
    · rw [own_bit_t hc] at kt
      show Steps p.tables e below (s₁.setTop (mkF m 54 #[.val (.int p1), .val (.int p2), .val (.int p3), .val (.int (own_bit p1 (1 : Int32))), .val (.int (own_bit p1 (2 : Int32))), .val (.int (own_bit p1 (4 : Int32))), .val (.int (own_bit p2 (1 : Int32))), .unset, .unset, .unset, .unset, .unset, .unset, .unset, .unset] [(.int (p2 &&& (2 : Int32)))])) _
      refine XS.ifYes X0.here hx rfl (pc0 := 54) (pc' := 61) rfl (hb hby at_54) rfl ((if0 _ _).trans (teq hc).1) (by decide) (by decide) ?_
      show Steps p.tables e below (s₁.setTop (mkF m 61 #[.val (.int p1), .val (.int p2), .val (.int p3), .val (.int (own_bit p1 (1 : Int32))), .val (.int (own_bit p1 (2 : Int32))), .val (.int (own_bit p1 (4 : Int32))), .val (.int (own_bit p2 (1 : Int32))), .unset, .unset, .unset, .unset, .unset, .unset, .unset, .unset] [])) _
      refine XS.iconst X0.here hx rfl (hb hby at_61) ?_
      exact kt
    · rw [own_bit_f hc] at kt
      show Steps p.tables e below (s₁.setTop (mkF m 54 #[.val (.int p1), .val (.int p2), .val (.int p3), .val (.int (own_bit p1 (1 : Int32))), .val (.int (own_bit p1 (2 : Int32))), .val (.int (own_bit p1 (4 : Int32))), .val (.int (own_bit p2 (1 : Int32))), .unset, .unset, .unset, .unset, .unset, .unset, .unset, .unset] [(.int (p2 &&& (2 : Int32)))])) _
      refine XS.ifNo X0.here hx rfl (hb hby at_54) rfl ((if0 _ _).trans (feq hc).1) ?_
      show Steps p.tables e below (s₁.setTop (mkF m 57 #[.val (.int p1), .val (.int p2), .val (.int p3), .val (.int (own_bit p1 (1 : Int32))), .val (.int (own_bit p1 (2 : Int32))), .val (.int (own_bit p1 (4 : Int32))), .val (.int (own_bit p2 (1 : Int32))), .unset, .unset, .unset, .unset, .unset, .unset, .unset, .unset] [])) _
      refine XS.iconst X0.here hx rfl (hb hby at_57) ?_
      show Steps p.tables e below (s₁.setTop (mkF m 58 #[.val (.int p1), .val (.int p2), .val (.int p3), .val (.int (own_bit p1 (1 : Int32))), .val (.int (own_bit p1 (2 : Int32))), .val (.int (own_bit p1 (4 : Int32))), .val (.int (own_bit p2 (1 : Int32))), .unset, .unset, .unset, .unset, .unset, .unset, .unset, .unset] [(.int (1 : Int32))])) _
      refine XS.goto X0.here hx rfl (pc0 := 58) (pc' := 62) rfl (hb hby at_58) (by decide) (by decide) ?_
      exact kt
  have dm6 : ∀ t, Steps p.tables e below (s₁.setTop (mkF m 75 #[.val (.int p1), .val (.int p2), .val (.int p3), .val (.int (own_bit p1 (1 : Int32))), .val (.int (own_bit p1 (2 : Int32))), .val (.int (own_bit p1 (4 : Int32))), .val (.int (own_bit p2 (1 : Int32))), .val (.int (own_bit p2 (2 : Int32))), .unset, .unset, .unset, .unset, .unset, .unset, .unset] [(.int (own_bit p2 (4 : Int32)))])) t → Steps p.tables e below (s₁.setTop (mkF m 67 #[.val (.int p1), .val (.int p2), .val (.int p3), .val (.int (own_bit p1 (1 : Int32))), .val (.int (own_bit p1 (2 : Int32))), .val (.int (own_bit p1 (4 : Int32))), .val (.int (own_bit p2 (1 : Int32))), .val (.int (own_bit p2 (2 : Int32))), .unset, .unset, .unset, .unset, .unset, .unset, .unset] [(.int (p2 &&& (4 : Int32)))])) t := by
    intro t kt
    by_cases hc : (p2 &&& (4 : Int32)) = (0 : Int32)
    · rw [own_bit_t hc] at kt
      show Steps p.tables e below (s₁.setTop (mkF m 67 #[.val (.int p1), .val (.int p2), .val (.int p3), .val (.int (own_bit p1 (1 : Int32))), .val (.int (own_bit p1 (2 : Int32))), .val (.int (own_bit p1 (4 : Int32))), .val (.int (own_bit p2 (1 : Int32))), .val (.int (own_bit p2 (2 : Int32))), .unset, .unset, .unset, .unset, .unset, .unset, .unset] [(.int (p2 &&& (4 : Int32)))])) _
      refine XS.ifYes X0.here hx rfl (pc0 := 67) (pc' := 74) rfl (hb hby at_67) rfl ((if0 _ _).trans (teq hc).1) (by decide) (by decide) ?_
      show Steps p.tables e below (s₁.setTop (mkF m 74 #[.val (.int p1), .val (.int p2), .val (.int p3), .val (.int (own_bit p1 (1 : Int32))), .val (.int (own_bit p1 (2 : Int32))), .val (.int (own_bit p1 (4 : Int32))), .val (.int (own_bit p2 (1 : Int32))), .val (.int (own_bit p2 (2 : Int32))), .unset, .unset, .unset, .unset, .unset, .unset, .unset] [])) _
      refine XS.iconst X0.here hx rfl (hb hby at_74) ?_
      exact kt
    · rw [own_bit_f hc] at kt
      show Steps p.tables e below (s₁.setTop (mkF m 67 #[.val (.int p1), .val (.int p2), .val (.int p3), .val (.int (own_bit p1 (1 : Int32))), .val (.int (own_bit p1 (2 : Int32))), .val (.int (own_bit p1 (4 : Int32))), .val (.int (own_bit p2 (1 : Int32))), .val (.int (own_bit p2 (2 : Int32))), .unset, .unset, .unset, .unset, .unset, .unset, .unset] [(.int (p2 &&& (4 : Int32)))])) _
      refine XS.ifNo X0.here hx rfl (hb hby at_67) rfl ((if0 _ _).trans (feq hc).1) ?_
      show Steps p.tables e below (s₁.setTop (mkF m 70 #[.val (.int p1), .val (.int p2), .val (.int p3), .val (.int (own_bit p1 (1 : Int32))), .val (.int (own_bit p1 (2 : Int32))), .val (.int (own_bit p1 (4 : Int32))), .val (.int (own_bit p2 (1 : Int32))), .val (.int (own_bit p2 (2 : Int32))), .unset, .unset, .unset, .unset, .unset, .unset, .unset] [])) _
      refine XS.iconst X0.here hx rfl (hb hby at_70) ?_
      show Steps p.tables e below (s₁.setTop (mkF m 71 #[.val (.int p1), .val (.int p2), .val (.int p3), .val (.int (own_bit p1 (1 : Int32))), .val (.int (own_bit p1 (2 : Int32))), .val (.int (own_bit p1 (4 : Int32))), .val (.int (own_bit p2 (1 : Int32))), .val (.int (own_bit p2 (2 : Int32))), .unset, .unset, .unset, .unset, .unset, .unset, .unset] [(.int (1 : Int32))])) _
      refine XS.goto X0.here hx rfl (pc0 := 71) (pc' := 75) rfl (hb hby at_71) (by decide) (by decide) ?_
      exact kt
  obtain ⟨T7, h7, X7, e7, E7, A7, D7, U7, st7⟩ := newO X0 hx hZ hown (hw _ (List.mem_of_getElem? (i := 0) rfl)) (hw _ (List.mem_of_getElem? (i := 1) rfl)) (hw _ (List.mem_of_getElem? (i := 2) rfl)) e0 (g := (mkF m 77 #[.val (.int p1), .val (.int p2), .val (.int p3), .val (.int (own_bit p1 (1 : Int32))), .val (.int (own_bit p1 (2 : Int32))), .val (.int (own_bit p1 (4 : Int32))), .val (.int (own_bit p2 (1 : Int32))), .val (.int (own_bit p2 (2 : Int32))), .val (.int (own_bit p2 (4 : Int32))), .unset, .unset, .unset, .unset, .unset, .unset] [])) rfl (hb hby at_77) (by decide) (by decide)
  obtain ⟨b7, g7⟩ : ∃ z, z = h0.size := ⟨_, rfl⟩
  rw [← g7] at A7 D7 st7
  have g_b7 : n0 ≤ b7 := Nat.le_trans (own_le O0) (Nat.le_of_eq g7.symm)
  have O7 := O0.ext E7
  have F_left_b7 : Fld Z h7 b7 "com/example/semaforo/semaforo/network/Lane" "left" "Z" (.int (0 : Int32)) := D7 (Or.inr (hw _ (List.mem_of_getElem? (i := 10) rfl))) (ty := .boolean) (by decide)
  have F_straight_b7 : Fld Z h7 b7 "com/example/semaforo/semaforo/network/Lane" "straight" "Z" (.int (0 : Int32)) := D7 (Or.inr (hw _ (List.mem_of_getElem? (i := 12) rfl))) (ty := .boolean) (by decide)
  have F_right_b7 : Fld Z h7 b7 "com/example/semaforo/semaforo/network/Lane" "right" "Z" (.int (0 : Int32)) := D7 (Or.inr (hw _ (List.mem_of_getElem? (i := 14) rfl))) (ty := .boolean) (by decide)
  obtain ⟨_, _, ⟨T8, L8, k8, n8⟩, -, X8, ⟨Lc8, hQ8, l8, y8, z8⟩, st8⟩ := X7.specialBack hx (y := (⟨"com/example/semaforo/semaforo/network/Lane", "<init>", "(ZZZ)V"⟩ : MethodName)) rfl hown (mvT hZ (hw _ (List.mem_of_getElem? (i := 3) rfl))) (mvT hZ (hw _ (List.mem_of_getElem? (i := 4) rfl))) (mvT hZ (hw _ (List.mem_of_getElem? (i := 5) rfl))) (by decide) (backOf (W := 1) (ctor l Z a0 hw [] b7 (own_bit p1 (1 : Int32)) (own_bit p1 (2 : Int32)) (own_bit p1 (4 : Int32)) h7 n0 O7 A7 g_b7 F_left_b7 F_straight_b7 F_right_b7 (own_01 p1 (1 : Int32)) (own_01 p1 (2 : Int32)) (own_01 p1 (4 : Int32))) hZ (hw _ (List.mem_of_getElem? (i := 5) rfl)) (hw _ (List.mem_of_getElem? (i := 2) rfl)) (by decide) (by decide)) (g := (mkF m 86 #[.val (.int p1), .val (.int p2), .val (.int p3), .val (.int (own_bit p1 (1 : Int32))), .val (.int (own_bit p1 (2 : Int32))), .val (.int (own_bit p1 (4 : Int32))), .val (.int (own_bit p2 (1 : Int32))), .val (.int (own_bit p2 (2 : Int32))), .val (.int (own_bit p2 (4 : Int32))), .unset, .unset, .unset, .unset, .unset, .unset] [(.int (own_bit p1 (4 : Int32))), (.int (own_bit p1 (2 : Int32))), (.int (own_bit p1 (1 : Int32))), (.ref b7), (.ref b7)])) rfl (by rw [hml]; rfl) (Steps.refl _) (a := b7) (argsL := [(.int (own_bit p1 (1 : Int32))), (.int (own_bit p1 (2 : Int32))), (.int (own_bit p1 (4 : Int32)))]) (rest := [(.ref b7)]) (lenOf pd__ZZZ_V rfl) rfl (by show 2 * 0 + _ ≤ _; exact Nat.le_of_eq rfl) (hb hby at_86) (fun _ _ => ⟨rfl, e7, (by decide : 1 + 0 ≤ _), (by decide : 3 + 0 ≤ _)⟩)
  dsimp only [Pt.U, Pt.locs, Pt.cells, Pt.slots] at X8 l8 y8 z8 st8 hQ8
  subst l8 y8 z8
  obtain ⟨rfl, Nq8, Kq8, Ea8, Fx8, Fy8, Fz8⟩ := hQ8
  have N8 := Fr.app N0 Nq8
  have O8 := O7.keep Kq8 (allS g_b7 all0)
  obtain ⟨T9, h9, X9, e9, E9, A9, D9, U9, st9⟩ := newO X8 hx hZ hown (hw _ (List.mem_of_getElem? (i := 0) rfl)) (hw _ (List.mem_of_getElem? (i := 1) rfl)) (hw _ (List.mem_of_getElem? (i := 2) rfl)) rfl (g := (mkF m 91 #[.val (.int p1), .val (.int p2), .val (.int p3), .val (.int (own_bit p1 (1 : Int32))), .val (.int (own_bit p1 (2 : Int32))), .val (.int (own_bit p1 (4 : Int32))), .val (.int (own_bit p2 (1 : Int32))), .val (.int (own_bit p2 (2 : Int32))), .val (.int (own_bit p2 (4 : Int32))), .val (.ref b7), .unset, .unset, .unset, .unset, .unset] [])) rfl (hb hby at_91) (by decide) (by decide)
  obtain ⟨b9, g9⟩ : ∃ z, z = T8.heap.size := ⟨_, rfl⟩
  rw [← g9] at A9 D9 st9
  have ne_b7_b9 : b7 ≠ b9 := Nat.ne_of_lt (Nat.lt_of_lt_of_le Ea8.lt (Nat.le_of_eq g9.symm))
  have g_b9 : n0 ≤ b9 := Nat.le_trans (own_le O8) (Nat.le_of_eq g9.symm)
  have O9 := O8.ext E9
  have F_left_b9 : Fld Z h9 b9 "com/example/semaforo/semaforo/network/Lane" "left" "Z" (.int (0 : Int32)) := D9 (Or.inr (hw _ (List.mem_of_getElem? (i := 10) rfl))) (ty := .boolean) (by decide)
  have F_straight_b9 : Fld Z h9 b9 "com/example/semaforo/semaforo/network/Lane" "straight" "Z" (.int (0 : Int32)) := D9 (Or.inr (hw _ (List.mem_of_getElem? (i := 12) rfl))) (ty := .boolean) (by decide)
  have F_right_b9 : Fld Z h9 b9 "com/example/semaforo/semaforo/network/Lane" "right" "Z" (.int (0 : Int32)) := D9 (Or.inr (hw _ (List.mem_of_getElem? (i := 14) rfl))) (ty := .boolean) (by decide)
  obtain ⟨_, _, ⟨T10, L10, k10, n10⟩, -, X10, ⟨Lc10, hQ10, l10, y10, z10⟩, st10⟩ := X9.specialBack hx (y := (⟨"com/example/semaforo/semaforo/network/Lane", "<init>", "(ZZZ)V"⟩ : MethodName)) rfl hown (mvT hZ (hw _ (List.mem_of_getElem? (i := 3) rfl))) (mvT hZ (hw _ (List.mem_of_getElem? (i := 4) rfl))) (mvT hZ (hw _ (List.mem_of_getElem? (i := 5) rfl))) (by decide) (backOf (W := 1) (ctor l Z a0 hw [] b9 (own_bit p2 (1 : Int32)) (own_bit p2 (2 : Int32)) (own_bit p2 (4 : Int32)) h9 n0 O9 A9 g_b9 F_left_b9 F_straight_b9 F_right_b9 (own_01 p2 (1 : Int32)) (own_01 p2 (2 : Int32)) (own_01 p2 (4 : Int32))) hZ (hw _ (List.mem_of_getElem? (i := 5) rfl)) (hw _ (List.mem_of_getElem? (i := 2) rfl)) (by decide) (by decide)) (g := (mkF m 101 #[.val (.int p1), .val (.int p2), .val (.int p3), .val (.int (own_bit p1 (1 : Int32))), .val (.int (own_bit p1 (2 : Int32))), .val (.int (own_bit p1 (4 : Int32))), .val (.int (own_bit p2 (1 : Int32))), .val (.int (own_bit p2 (2 : Int32))), .val (.int (own_bit p2 (4 : Int32))), .val (.ref b7), .unset, .unset, .unset, .unset, .unset] [(.int (own_bit p2 (4 : Int32))), (.int (own_bit p2 (2 : Int32))), (.int (own_bit p2 (1 : Int32))), (.ref b9), (.ref b9)])) rfl (by rw [hml]; rfl) (Steps.refl _) (a := b9) (argsL := [(.int (own_bit p2 (1 : Int32))), (.int (own_bit p2 (2 : Int32))), (.int (own_bit p2 (4 : Int32)))]) (rest := [(.ref b9)]) (lenOf pd__ZZZ_V rfl) rfl (by show 2 * 0 + _ ≤ _; exact Nat.le_of_eq rfl) (hb hby at_101) (fun _ _ => ⟨rfl, e9, (by decide : 2 + 0 ≤ _), (by decide : 6 + 0 ≤ _)⟩)
  dsimp only [Pt.U, Pt.locs, Pt.cells, Pt.slots] at X10 l10 y10 z10 st10 hQ10
  subst l10 y10 z10
  obtain ⟨rfl, Nq10, Kq10, Ea10, Fx10, Fy10, Fz10⟩ := hQ10
  have N10 := Fr.app N8 Nq10
  have O10 := O9.keep Kq10 (allS g_b9 all0)
  have pre11 : ∀ t, Steps p.tables e below (T10.setTop (mkF m 113 #[.val (.int p1), .val (.int p2), .val (.int p3), .val (.int (own_bit p1 (1 : Int32))), .val (.int (own_bit p1 (2 : Int32))), .val (.int (own_bit p1 (4 : Int32))), .val (.int (own_bit p2 (1 : Int32))), .val (.int (own_bit p2 (2 : Int32))), .val (.int (own_bit p2 (4 : Int32))), .val (.ref b7), .val (.ref b9), .val (.int (p3 &&& (3 : Int32))), .unset, .unset, .unset] [(.int (p3 &&& (3 : Int32)))])) t → Steps p.tables e below (s₁.setTop (entryFrame m #[(.int p1), (.int p2), (.int p3)] maxLocals)) t := by
    intro t kt
    refine pre0 _ ?_
    show Steps p.tables e below (s₁.setTop (mkF m 0 #[.val (.int p1), .val (.int p2), .val (.int p3), .unset, .unset, .unset, .unset, .unset, .unset, .unset, .unset, .unset, .unset, .unset, .unset] [])) _
    refine XS.iloadN X0.here hx rfl (hb hby at_0) rfl ?_
    show Steps p.tables e below (s₁.setTop (mkF m 1 #[.val (.int p1), .val (.int p2), .val (.int p3), .unset, .unset, .unset, .unset, .unset, .unset, .unset, .unset, .unset, .unset, .unset, .unset] [(.int p1)])) _
    refine XS.iconst X0.here hx rfl (hb hby at_1) ?_
    show Steps p.tables e below (s₁.setTop (mkF m 2 #[.val (.int p1), .val (.int p2), .val (.int p3), .unset, .unset, .unset, .unset, .unset, .unset, .unset, .unset, .unset, .unset, .unset, .unset] [(.int (1 : Int32)), (.int p1)])) _
    refine XS.iand X0.here hx rfl (hb hby at_2) rfl ?_
    show Steps p.tables e below (s₁.setTop (mkF m 3 #[.val (.int p1), .val (.int p2), .val (.int p3), .unset, .unset, .unset, .unset, .unset, .unset, .unset, .unset, .unset, .unset, .unset, .unset] [(.int (p1 &&& (1 : Int32)))])) _
    refine dm1 _ ?_
    show Steps p.tables e below (s₁.setTop (mkF m 11 #[.val (.int p1), .val (.int p2), .val (.int p3), .unset, .unset, .unset, .unset, .unset, .unset, .unset, .unset, .unset, .unset, .unset, .unset] [(.int (own_bit p1 (1 : Int32)))])) _
    refine XS.istoreN X0.here hx rfl (hb hby at_11) rfl (l' := #[.val (.int p1), .val (.int p2), .val (.int p3), .val (.int (own_bit p1 (1 : Int32))), .unset, .unset, .unset, .unset, .unset, .unset, .unset, .unset, .unset, .unset, .unset]) rfl ?_
    show Steps p.tables e below (s₁.setTop (mkF m 12 #[.val (.int p1), .val (.int p2), .val (.int p3), .val (.int (own_bit p1 (1 : Int32))), .unset, .unset, .unset, .unset, .unset, .unset, .unset, .unset, .unset, .unset, .unset] [])) _
    refine XS.iloadN X0.here hx rfl (hb hby at_12) rfl ?_
    show Steps p.tables e below (s₁.setTop (mkF m 13 #[.val (.int p1), .val (.int p2), .val (.int p3), .val (.int (own_bit p1 (1 : Int32))), .unset, .unset, .unset, .unset, .unset, .unset, .unset, .unset, .unset, .unset, .unset] [(.int p1)])) _
    refine XS.iconst X0.here hx rfl (hb hby at_13) ?_
    show Steps p.tables e below (s₁.setTop (mkF m 14 #[.val (.int p1), .val (.int p2), .val (.int p3), .val (.int (own_bit p1 (1 : Int32))), .unset, .unset, .unset, .unset, .unset, .unset, .unset, .unset, .unset, .unset, .unset] [(.int (2 : Int32)), (.int p1)])) _
    refine XS.iand X0.here hx rfl (hb hby at_14) rfl ?_
    show Steps p.tables e below (s₁.setTop (mkF m 15 #[.val (.int p1), .val (.int p2), .val (.int p3), .val (.int (own_bit p1 (1 : Int32))), .unset, .unset, .unset, .unset, .unset, .unset, .unset, .unset, .unset, .unset, .unset] [(.int (p1 &&& (2 : Int32)))])) _
    refine dm2 _ ?_
    show Steps p.tables e below (s₁.setTop (mkF m 23 #[.val (.int p1), .val (.int p2), .val (.int p3), .val (.int (own_bit p1 (1 : Int32))), .unset, .unset, .unset, .unset, .unset, .unset, .unset, .unset, .unset, .unset, .unset] [(.int (own_bit p1 (2 : Int32)))])) _
    refine XS.istore X0.here hx rfl (hb hby at_23) rfl (l' := #[.val (.int p1), .val (.int p2), .val (.int p3), .val (.int (own_bit p1 (1 : Int32))), .val (.int (own_bit p1 (2 : Int32))), .unset, .unset, .unset, .unset, .unset, .unset, .unset, .unset, .unset, .unset]) rfl ?_
    show Steps p.tables e below (s₁.setTop (mkF m 25 #[.val (.int p1), .val (.int p2), .val (.int p3), .val (.int (own_bit p1 (1 : Int32))), .val (.int (own_bit p1 (2 : Int32))), .unset, .unset, .unset, .unset, .unset, .unset, .unset, .unset, .unset, .unset] [])) _
    refine XS.iloadN X0.here hx rfl (hb hby at_25) rfl ?_
    show Steps p.tables e below (s₁.setTop (mkF m 26 #[.val (.int p1), .val (.int p2), .val (.int p3), .val (.int (own_bit p1 (1 : Int32))), .val (.int (own_bit p1 (2 : Int32))), .unset, .unset, .unset, .unset, .unset, .unset, .unset, .unset, .unset, .unset] [(.int p1)])) _
    refine XS.iconst X0.here hx rfl (hb hby at_26) ?_
    show Steps p.tables e below (s₁.setTop (mkF m 27 #[.val (.int p1), .val (.int p2), .val (.int p3), .val (.int (own_bit p1 (1 : Int32))), .val (.int (own_bit p1 (2 : Int32))), .unset, .unset, .unset, .unset, .unset, .unset, .unset, .unset, .unset, .unset] [(.int (4 : Int32)), (.int p1)])) _
    refine XS.iand X0.here hx rfl (hb hby at_27) rfl ?_
    show Steps p.tables e below (s₁.setTop (mkF m 28 #[.val (.int p1), .val (.int p2), .val (.int p3), .val (.int (own_bit p1 (1 : Int32))), .val (.int (own_bit p1 (2 : Int32))), .unset, .unset, .unset, .unset, .unset, .unset, .unset, .unset, .unset, .unset] [(.int (p1 &&& (4 : Int32)))])) _
    refine dm3 _ ?_
    show Steps p.tables e below (s₁.setTop (mkF m 36 #[.val (.int p1), .val (.int p2), .val (.int p3), .val (.int (own_bit p1 (1 : Int32))), .val (.int (own_bit p1 (2 : Int32))), .unset, .unset, .unset, .unset, .unset, .unset, .unset, .unset, .unset, .unset] [(.int (own_bit p1 (4 : Int32)))])) _
    refine XS.istore X0.here hx rfl (hb hby at_36) rfl (l' := #[.val (.int p1), .val (.int p2), .val (.int p3), .val (.int (own_bit p1 (1 : Int32))), .val (.int (own_bit p1 (2 : Int32))), .val (.int (own_bit p1 (4 : Int32))), .unset, .unset, .unset, .unset, .unset, .unset, .unset, .unset, .unset]) rfl ?_
    show Steps p.tables e below (s₁.setTop (mkF m 38 #[.val (.int p1), .val (.int p2), .val (.int p3), .val (.int (own_bit p1 (1 : Int32))), .val (.int (own_bit p1 (2 : Int32))), .val (.int (own_bit p1 (4 : Int32))), .unset, .unset, .unset, .unset, .unset, .unset, .unset, .unset, .unset] [])) _
    refine XS.iloadN X0.here hx rfl (hb hby at_38) rfl ?_
    show Steps p.tables e below (s₁.setTop (mkF m 39 #[.val (.int p1), .val (.int p2), .val (.int p3), .val (.int (own_bit p1 (1 : Int32))), .val (.int (own_bit p1 (2 : Int32))), .val (.int (own_bit p1 (4 : Int32))), .unset, .unset, .unset, .unset, .unset, .unset, .unset, .unset, .unset] [(.int p2)])) _
    refine XS.iconst X0.here hx rfl (hb hby at_39) ?_
    show Steps p.tables e below (s₁.setTop (mkF m 40 #[.val (.int p1), .val (.int p2), .val (.int p3), .val (.int (own_bit p1 (1 : Int32))), .val (.int (own_bit p1 (2 : Int32))), .val (.int (own_bit p1 (4 : Int32))), .unset, .unset, .unset, .unset, .unset, .unset, .unset, .unset, .unset] [(.int (1 : Int32)), (.int p2)])) _
    refine XS.iand X0.here hx rfl (hb hby at_40) rfl ?_
    show Steps p.tables e below (s₁.setTop (mkF m 41 #[.val (.int p1), .val (.int p2), .val (.int p3), .val (.int (own_bit p1 (1 : Int32))), .val (.int (own_bit p1 (2 : Int32))), .val (.int (own_bit p1 (4 : Int32))), .unset, .unset, .unset, .unset, .unset, .unset, .unset, .unset, .unset] [(.int (p2 &&& (1 : Int32)))])) _
    refine dm4 _ ?_
    show Steps p.tables e below (s₁.setTop (mkF m 49 #[.val (.int p1), .val (.int p2), .val (.int p3), .val (.int (own_bit p1 (1 : Int32))), .val (.int (own_bit p1 (2 : Int32))), .val (.int (own_bit p1 (4 : Int32))), .unset, .unset, .unset, .unset, .unset, .unset, .unset, .unset, .unset] [(.int (own_bit p2 (1 : Int32)))])) _
    refine XS.istore X0.here hx rfl (hb hby at_49) rfl (l' := #[.val (.int p1), .val (.int p2), .val (.int p3), .val (.int (own_bit p1 (1 : Int32))), .val (.int (own_bit p1 (2 : Int32))), .val (.int (own_bit p1 (4 : Int32))), .val (.int (own_bit p2 (1 : Int32))), .unset, .unset, .unset, .unset, .unset, .unset, .unset, .unset]) rfl ?_
    show Steps p.tables e below (s₁.setTop (mkF m 51 #[.val (.int p1), .val (.int p2), .val (.int p3), .val (.int (own_bit p1 (1 : Int32))), .val (.int (own_bit p1 (2 : Int32))), .val (.int (own_bit p1 (4 : Int32))), .val (.int (own_bit p2 (1 : Int32))), .unset, .unset, .unset, .unset, .unset, .unset, .unset, .unset] [])) _
    refine XS.iloadN X0.here hx rfl (hb hby at_51) rfl ?_
    show Steps p.tables e below (s₁.setTop (mkF m 52 #[.val (.int p1), .val (.int p2), .val (.int p3), .val (.int (own_bit p1 (1 : Int32))), .val (.int (own_bit p1 (2 : Int32))), .val (.int (own_bit p1 (4 : Int32))), .val (.int (own_bit p2 (1 : Int32))), .unset, .unset, .unset, .unset, .unset, .unset, .unset, .unset] [(.int p2)])) _
    refine XS.iconst X0.here hx rfl (hb hby at_52) ?_
    show Steps p.tables e below (s₁.setTop (mkF m 53 #[.val (.int p1), .val (.int p2), .val (.int p3), .val (.int (own_bit p1 (1 : Int32))), .val (.int (own_bit p1 (2 : Int32))), .val (.int (own_bit p1 (4 : Int32))), .val (.int (own_bit p2 (1 : Int32))), .unset, .unset, .unset, .unset, .unset, .unset, .unset, .unset] [(.int (2 : Int32)), (.int p2)])) _
    refine XS.iand X0.here hx rfl (hb hby at_53) rfl ?_
    show Steps p.tables e below (s₁.setTop (mkF m 54 #[.val (.int p1), .val (.int p2), .val (.int p3), .val (.int (own_bit p1 (1 : Int32))), .val (.int (own_bit p1 (2 : Int32))), .val (.int (own_bit p1 (4 : Int32))), .val (.int (own_bit p2 (1 : Int32))), .unset, .unset, .unset, .unset, .unset, .unset, .unset, .unset] [(.int (p2 &&& (2 : Int32)))])) _
    refine dm5 _ ?_
    show Steps p.tables e below (s₁.setTop (mkF m 62 #[.val (.int p1), .val (.int p2), .val (.int p3), .val (.int (own_bit p1 (1 : Int32))), .val (.int (own_bit p1 (2 : Int32))), .val (.int (own_bit p1 (4 : Int32))), .val (.int (own_bit p2 (1 : Int32))), .unset, .unset, .unset, .unset, .unset, .unset, .unset, .unset] [(.int (own_bit p2 (2 : Int32)))])) _
    refine XS.istore X0.here hx rfl (hb hby at_62) rfl (l' := #[.val (.int p1), .val (.int p2), .val (.int p3), .val (.int (own_bit p1 (1 : Int32))), .val (.int (own_bit p1 (2 : Int32))), .val (.int (own_bit p1 (4 : Int32))), .val (.int (own_bit p2 (1 : Int32))), .val (.int (own_bit p2 (2 : Int32))), .unset, .unset, .unset, .unset, .unset, .unset, .unset]) rfl ?_
    show Steps p.tables e below (s₁.setTop (mkF m 64 #[.val (.int p1), .val (.int p2), .val (.int p3), .val (.int (own_bit p1 (1 : Int32))), .val (.int (own_bit p1 (2 : Int32))), .val (.int (own_bit p1 (4 : Int32))), .val (.int (own_bit p2 (1 : Int32))), .val (.int (own_bit p2 (2 : Int32))), .unset, .unset, .unset, .unset, .unset, .unset, .unset] [])) _
    refine XS.iloadN X0.here hx rfl (hb hby at_64) rfl ?_
    show Steps p.tables e below (s₁.setTop (mkF m 65 #[.val (.int p1), .val (.int p2), .val (.int p3), .val (.int (own_bit p1 (1 : Int32))), .val (.int (own_bit p1 (2 : Int32))), .val (.int (own_bit p1 (4 : Int32))), .val (.int (own_bit p2 (1 : Int32))), .val (.int (own_bit p2 (2 : Int32))), .unset, .unset, .unset, .unset, .unset, .unset, .unset] [(.int p2)])) _
    refine XS.iconst X0.here hx rfl (hb hby at_65) ?_
    show Steps p.tables e below (s₁.setTop (mkF m 66 #[.val (.int p1), .val (.int p2), .val (.int p3), .val (.int (own_bit p1 (1 : Int32))), .val (.int (own_bit p1 (2 : Int32))), .val (.int (own_bit p1 (4 : Int32))), .val (.int (own_bit p2 (1 : Int32))), .val (.int (own_bit p2 (2 : Int32))), .unset, .unset, .unset, .unset, .unset, .unset, .unset] [(.int (4 : Int32)), (.int p2)])) _
    refine XS.iand X0.here hx rfl (hb hby at_66) rfl ?_
    show Steps p.tables e below (s₁.setTop (mkF m 67 #[.val (.int p1), .val (.int p2), .val (.int p3), .val (.int (own_bit p1 (1 : Int32))), .val (.int (own_bit p1 (2 : Int32))), .val (.int (own_bit p1 (4 : Int32))), .val (.int (own_bit p2 (1 : Int32))), .val (.int (own_bit p2 (2 : Int32))), .unset, .unset, .unset, .unset, .unset, .unset, .unset] [(.int (p2 &&& (4 : Int32)))])) _
    refine dm6 _ ?_
    show Steps p.tables e below (s₁.setTop (mkF m 75 #[.val (.int p1), .val (.int p2), .val (.int p3), .val (.int (own_bit p1 (1 : Int32))), .val (.int (own_bit p1 (2 : Int32))), .val (.int (own_bit p1 (4 : Int32))), .val (.int (own_bit p2 (1 : Int32))), .val (.int (own_bit p2 (2 : Int32))), .unset, .unset, .unset, .unset, .unset, .unset, .unset] [(.int (own_bit p2 (4 : Int32)))])) _
    refine XS.istore X0.here hx rfl (hb hby at_75) rfl (l' := #[.val (.int p1), .val (.int p2), .val (.int p3), .val (.int (own_bit p1 (1 : Int32))), .val (.int (own_bit p1 (2 : Int32))), .val (.int (own_bit p1 (4 : Int32))), .val (.int (own_bit p2 (1 : Int32))), .val (.int (own_bit p2 (2 : Int32))), .val (.int (own_bit p2 (4 : Int32))), .unset, .unset, .unset, .unset, .unset, .unset]) rfl ?_
    show Steps p.tables e below (s₁.setTop (mkF m 77 #[.val (.int p1), .val (.int p2), .val (.int p3), .val (.int (own_bit p1 (1 : Int32))), .val (.int (own_bit p1 (2 : Int32))), .val (.int (own_bit p1 (4 : Int32))), .val (.int (own_bit p2 (1 : Int32))), .val (.int (own_bit p2 (2 : Int32))), .val (.int (own_bit p2 (4 : Int32))), .unset, .unset, .unset, .unset, .unset, .unset] [])) _
    refine st7 _ ?_
    show Steps p.tables e below (T7.setTop (mkF m 80 #[.val (.int p1), .val (.int p2), .val (.int p3), .val (.int (own_bit p1 (1 : Int32))), .val (.int (own_bit p1 (2 : Int32))), .val (.int (own_bit p1 (4 : Int32))), .val (.int (own_bit p2 (1 : Int32))), .val (.int (own_bit p2 (2 : Int32))), .val (.int (own_bit p2 (4 : Int32))), .unset, .unset, .unset, .unset, .unset, .unset] [(.ref b7)])) _
    refine XS.dup X7.here hx rfl (hb hby at_80) rfl rfl ?_
    show Steps p.tables e below (T7.setTop (mkF m 81 #[.val (.int p1), .val (.int p2), .val (.int p3), .val (.int (own_bit p1 (1 : Int32))), .val (.int (own_bit p1 (2 : Int32))), .val (.int (own_bit p1 (4 : Int32))), .val (.int (own_bit p2 (1 : Int32))), .val (.int (own_bit p2 (2 : Int32))), .val (.int (own_bit p2 (4 : Int32))), .unset, .unset, .unset, .unset, .unset, .unset] [(.ref b7), (.ref b7)])) _
    refine XS.iloadN X7.here hx rfl (hb hby at_81) rfl ?_
    show Steps p.tables e below (T7.setTop (mkF m 82 #[.val (.int p1), .val (.int p2), .val (.int p3), .val (.int (own_bit p1 (1 : Int32))), .val (.int (own_bit p1 (2 : Int32))), .val (.int (own_bit p1 (4 : Int32))), .val (.int (own_bit p2 (1 : Int32))), .val (.int (own_bit p2 (2 : Int32))), .val (.int (own_bit p2 (4 : Int32))), .unset, .unset, .unset, .unset, .unset, .unset] [(.int (own_bit p1 (1 : Int32))), (.ref b7), (.ref b7)])) _
    refine XS.iload X7.here hx rfl (hb hby at_82) rfl ?_
    show Steps p.tables e below (T7.setTop (mkF m 84 #[.val (.int p1), .val (.int p2), .val (.int p3), .val (.int (own_bit p1 (1 : Int32))), .val (.int (own_bit p1 (2 : Int32))), .val (.int (own_bit p1 (4 : Int32))), .val (.int (own_bit p2 (1 : Int32))), .val (.int (own_bit p2 (2 : Int32))), .val (.int (own_bit p2 (4 : Int32))), .unset, .unset, .unset, .unset, .unset, .unset] [(.int (own_bit p1 (2 : Int32))), (.int (own_bit p1 (1 : Int32))), (.ref b7), (.ref b7)])) _
    refine XS.iload X7.here hx rfl (hb hby at_84) rfl ?_
    show Steps p.tables e below (T7.setTop (mkF m 86 #[.val (.int p1), .val (.int p2), .val (.int p3), .val (.int (own_bit p1 (1 : Int32))), .val (.int (own_bit p1 (2 : Int32))), .val (.int (own_bit p1 (4 : Int32))), .val (.int (own_bit p2 (1 : Int32))), .val (.int (own_bit p2 (2 : Int32))), .val (.int (own_bit p2 (4 : Int32))), .unset, .unset, .unset, .unset, .unset, .unset] [(.int (own_bit p1 (4 : Int32))), (.int (own_bit p1 (2 : Int32))), (.int (own_bit p1 (1 : Int32))), (.ref b7), (.ref b7)])) _
    refine st8.trans ?_
    show Steps p.tables e below (T8.setTop (mkF m 89 #[.val (.int p1), .val (.int p2), .val (.int p3), .val (.int (own_bit p1 (1 : Int32))), .val (.int (own_bit p1 (2 : Int32))), .val (.int (own_bit p1 (4 : Int32))), .val (.int (own_bit p2 (1 : Int32))), .val (.int (own_bit p2 (2 : Int32))), .val (.int (own_bit p2 (4 : Int32))), .unset, .unset, .unset, .unset, .unset, .unset] [(.ref b7)])) _
    refine XS.astore X8.here hx rfl (hb hby at_89) rfl rfl (l' := #[.val (.int p1), .val (.int p2), .val (.int p3), .val (.int (own_bit p1 (1 : Int32))), .val (.int (own_bit p1 (2 : Int32))), .val (.int (own_bit p1 (4 : Int32))), .val (.int (own_bit p2 (1 : Int32))), .val (.int (own_bit p2 (2 : Int32))), .val (.int (own_bit p2 (4 : Int32))), .val (.ref b7), .unset, .unset, .unset, .unset, .unset]) rfl ?_
    show Steps p.tables e below (T8.setTop (mkF m 91 #[.val (.int p1), .val (.int p2), .val (.int p3), .val (.int (own_bit p1 (1 : Int32))), .val (.int (own_bit p1 (2 : Int32))), .val (.int (own_bit p1 (4 : Int32))), .val (.int (own_bit p2 (1 : Int32))), .val (.int (own_bit p2 (2 : Int32))), .val (.int (own_bit p2 (4 : Int32))), .val (.ref b7), .unset, .unset, .unset, .unset, .unset] [])) _
    refine st9 _ ?_
    show Steps p.tables e below (T9.setTop (mkF m 94 #[.val (.int p1), .val (.int p2), .val (.int p3), .val (.int (own_bit p1 (1 : Int32))), .val (.int (own_bit p1 (2 : Int32))), .val (.int (own_bit p1 (4 : Int32))), .val (.int (own_bit p2 (1 : Int32))), .val (.int (own_bit p2 (2 : Int32))), .val (.int (own_bit p2 (4 : Int32))), .val (.ref b7), .unset, .unset, .unset, .unset, .unset] [(.ref b9)])) _
    refine XS.dup X9.here hx rfl (hb hby at_94) rfl rfl ?_
    show Steps p.tables e below (T9.setTop (mkF m 95 #[.val (.int p1), .val (.int p2), .val (.int p3), .val (.int (own_bit p1 (1 : Int32))), .val (.int (own_bit p1 (2 : Int32))), .val (.int (own_bit p1 (4 : Int32))), .val (.int (own_bit p2 (1 : Int32))), .val (.int (own_bit p2 (2 : Int32))), .val (.int (own_bit p2 (4 : Int32))), .val (.ref b7), .unset, .unset, .unset, .unset, .unset] [(.ref b9), (.ref b9)])) _
    refine XS.iload X9.here hx rfl (hb hby at_95) rfl ?_
    show Steps p.tables e below (T9.setTop (mkF m 97 #[.val (.int p1), .val (.int p2), .val (.int p3), .val (.int (own_bit p1 (1 : Int32))), .val (.int (own_bit p1 (2 : Int32))), .val (.int (own_bit p1 (4 : Int32))), .val (.int (own_bit p2 (1 : Int32))), .val (.int (own_bit p2 (2 : Int32))), .val (.int (own_bit p2 (4 : Int32))), .val (.ref b7), .unset, .unset, .unset, .unset, .unset] [(.int (own_bit p2 (1 : Int32))), (.ref b9), (.ref b9)])) _
    refine XS.iload X9.here hx rfl (hb hby at_97) rfl ?_
    show Steps p.tables e below (T9.setTop (mkF m 99 #[.val (.int p1), .val (.int p2), .val (.int p3), .val (.int (own_bit p1 (1 : Int32))), .val (.int (own_bit p1 (2 : Int32))), .val (.int (own_bit p1 (4 : Int32))), .val (.int (own_bit p2 (1 : Int32))), .val (.int (own_bit p2 (2 : Int32))), .val (.int (own_bit p2 (4 : Int32))), .val (.ref b7), .unset, .unset, .unset, .unset, .unset] [(.int (own_bit p2 (2 : Int32))), (.int (own_bit p2 (1 : Int32))), (.ref b9), (.ref b9)])) _
    refine XS.iload X9.here hx rfl (hb hby at_99) rfl ?_
    show Steps p.tables e below (T9.setTop (mkF m 101 #[.val (.int p1), .val (.int p2), .val (.int p3), .val (.int (own_bit p1 (1 : Int32))), .val (.int (own_bit p1 (2 : Int32))), .val (.int (own_bit p1 (4 : Int32))), .val (.int (own_bit p2 (1 : Int32))), .val (.int (own_bit p2 (2 : Int32))), .val (.int (own_bit p2 (4 : Int32))), .val (.ref b7), .unset, .unset, .unset, .unset, .unset] [(.int (own_bit p2 (4 : Int32))), (.int (own_bit p2 (2 : Int32))), (.int (own_bit p2 (1 : Int32))), (.ref b9), (.ref b9)])) _
    refine st10.trans ?_
    show Steps p.tables e below (T10.setTop (mkF m 104 #[.val (.int p1), .val (.int p2), .val (.int p3), .val (.int (own_bit p1 (1 : Int32))), .val (.int (own_bit p1 (2 : Int32))), .val (.int (own_bit p1 (4 : Int32))), .val (.int (own_bit p2 (1 : Int32))), .val (.int (own_bit p2 (2 : Int32))), .val (.int (own_bit p2 (4 : Int32))), .val (.ref b7), .unset, .unset, .unset, .unset, .unset] [(.ref b9)])) _
    refine XS.astore X10.here hx rfl (hb hby at_104) rfl rfl (l' := #[.val (.int p1), .val (.int p2), .val (.int p3), .val (.int (own_bit p1 (1 : Int32))), .val (.int (own_bit p1 (2 : Int32))), .val (.int (own_bit p1 (4 : Int32))), .val (.int (own_bit p2 (1 : Int32))), .val (.int (own_bit p2 (2 : Int32))), .val (.int (own_bit p2 (4 : Int32))), .val (.ref b7), .val (.ref b9), .unset, .unset, .unset, .unset]) rfl ?_
    show Steps p.tables e below (T10.setTop (mkF m 106 #[.val (.int p1), .val (.int p2), .val (.int p3), .val (.int (own_bit p1 (1 : Int32))), .val (.int (own_bit p1 (2 : Int32))), .val (.int (own_bit p1 (4 : Int32))), .val (.int (own_bit p2 (1 : Int32))), .val (.int (own_bit p2 (2 : Int32))), .val (.int (own_bit p2 (4 : Int32))), .val (.ref b7), .val (.ref b9), .unset, .unset, .unset, .unset] [])) _
    refine XS.iloadN X10.here hx rfl (hb hby at_106) rfl ?_
    show Steps p.tables e below (T10.setTop (mkF m 107 #[.val (.int p1), .val (.int p2), .val (.int p3), .val (.int (own_bit p1 (1 : Int32))), .val (.int (own_bit p1 (2 : Int32))), .val (.int (own_bit p1 (4 : Int32))), .val (.int (own_bit p2 (1 : Int32))), .val (.int (own_bit p2 (2 : Int32))), .val (.int (own_bit p2 (4 : Int32))), .val (.ref b7), .val (.ref b9), .unset, .unset, .unset, .unset] [(.int p3)])) _
    refine XS.iconst X10.here hx rfl (hb hby at_107) ?_
    show Steps p.tables e below (T10.setTop (mkF m 108 #[.val (.int p1), .val (.int p2), .val (.int p3), .val (.int (own_bit p1 (1 : Int32))), .val (.int (own_bit p1 (2 : Int32))), .val (.int (own_bit p1 (4 : Int32))), .val (.int (own_bit p2 (1 : Int32))), .val (.int (own_bit p2 (2 : Int32))), .val (.int (own_bit p2 (4 : Int32))), .val (.ref b7), .val (.ref b9), .unset, .unset, .unset, .unset] [(.int (3 : Int32)), (.int p3)])) _
    refine XS.iand X10.here hx rfl (hb hby at_108) rfl ?_
    show Steps p.tables e below (T10.setTop (mkF m 109 #[.val (.int p1), .val (.int p2), .val (.int p3), .val (.int (own_bit p1 (1 : Int32))), .val (.int (own_bit p1 (2 : Int32))), .val (.int (own_bit p1 (4 : Int32))), .val (.int (own_bit p2 (1 : Int32))), .val (.int (own_bit p2 (2 : Int32))), .val (.int (own_bit p2 (4 : Int32))), .val (.ref b7), .val (.ref b9), .unset, .unset, .unset, .unset] [(.int (p3 &&& (3 : Int32)))])) _
    refine XS.istore X10.here hx rfl (hb hby at_109) rfl (l' := #[.val (.int p1), .val (.int p2), .val (.int p3), .val (.int (own_bit p1 (1 : Int32))), .val (.int (own_bit p1 (2 : Int32))), .val (.int (own_bit p1 (4 : Int32))), .val (.int (own_bit p2 (1 : Int32))), .val (.int (own_bit p2 (2 : Int32))), .val (.int (own_bit p2 (4 : Int32))), .val (.ref b7), .val (.ref b9), .val (.int (p3 &&& (3 : Int32))), .unset, .unset, .unset]) rfl ?_
    show Steps p.tables e below (T10.setTop (mkF m 111 #[.val (.int p1), .val (.int p2), .val (.int p3), .val (.int (own_bit p1 (1 : Int32))), .val (.int (own_bit p1 (2 : Int32))), .val (.int (own_bit p1 (4 : Int32))), .val (.int (own_bit p2 (1 : Int32))), .val (.int (own_bit p2 (2 : Int32))), .val (.int (own_bit p2 (4 : Int32))), .val (.ref b7), .val (.ref b9), .val (.int (p3 &&& (3 : Int32))), .unset, .unset, .unset] [])) _
    refine XS.iload X10.here hx rfl (hb hby at_111) rfl ?_
    exact kt
  by_cases hc113_11 : (p3 &&& (3 : Int32)) = (0 : Int32)
  · have pre12 : ∀ t, Steps p.tables e below (T10.setTop (mkF m 124 #[.val (.int p1), .val (.int p2), .val (.int p3), .val (.int (own_bit p1 (1 : Int32))), .val (.int (own_bit p1 (2 : Int32))), .val (.int (own_bit p1 (4 : Int32))), .val (.int (own_bit p2 (1 : Int32))), .val (.int (own_bit p2 (2 : Int32))), .val (.int (own_bit p2 (4 : Int32))), .val (.ref b7), .val (.ref b9), .val (.int (p3 &&& (3 : Int32))), .unset, .unset, .unset] [(.int (p2 &&& (7 : Int32))), (.int (p1 &&& (7 : Int32)))])) t → Steps p.tables e below (s₁.setTop (entryFrame m #[(.int p1), (.int p2), (.int p3)] maxLocals)) t := by
      intro t kt
      refine pre11 _ ?_
      show Steps p.tables e below (T10.setTop (mkF m 113 #[.val (.int p1), .val (.int p2), .val (.int p3), .val (.int (own_bit p1 (1 : Int32))), .val (.int (own_bit p1 (2 : Int32))), .val (.int (own_bit p1 (4 : Int32))), .val (.int (own_bit p2 (1 : Int32))), .val (.int (own_bit p2 (2 : Int32))), .val (.int (own_bit p2 (4 : Int32))), .val (.ref b7), .val (.ref b9), .val (.int (p3 &&& (3 : Int32))), .unset, .unset, .unset] [(.int (p3 &&& (3 : Int32)))])) _
      refine XS.ifNo X10.here hx rfl (hb hby at_113) rfl ((if0 _ _).trans (teq hc113_11).2) ?_
      show Steps p.tables e below (T10.setTop (mkF m 116 #[.val (.int p1), .val (.int p2), .val (.int p3), .val (.int (own_bit p1 (1 : Int32))), .val (.int (own_bit p1 (2 : Int32))), .val (.int (own_bit p1 (4 : Int32))), .val (.int (own_bit p2 (1 : Int32))), .val (.int (own_bit p2 (2 : Int32))), .val (.int (own_bit p2 (4 : Int32))), .val (.ref b7), .val (.ref b9), .val (.int (p3 &&& (3 : Int32))), .unset, .unset, .unset] [])) _
      refine XS.iloadN X10.here hx rfl (hb hby at_116) rfl ?_
      show Steps p.tables e below (T10.setTop (mkF m 117 #[.val (.int p1), .val (.int p2), .val (.int p3), .val (.int (own_bit p1 (1 : Int32))), .val (.int (own_bit p1 (2 : Int32))), .val (.int (own_bit p1 (4 : Int32))), .val (.int (own_bit p2 (1 : Int32))), .val (.int (own_bit p2 (2 : Int32))), .val (.int (own_bit p2 (4 : Int32))), .val (.ref b7), .val (.ref b9), .val (.int (p3 &&& (3 : Int32))), .unset, .unset, .unset] [(.int p1)])) _
      refine XS.bipush X10.here hx rfl (hb hby at_117) ?_
      show Steps p.tables e below (T10.setTop (mkF m 119 #[.val (.int p1), .val (.int p2), .val (.int p3), .val (.int (own_bit p1 (1 : Int32))), .val (.int (own_bit p1 (2 : Int32))), .val (.int (own_bit p1 (4 : Int32))), .val (.int (own_bit p2 (1 : Int32))), .val (.int (own_bit p2 (2 : Int32))), .val (.int (own_bit p2 (4 : Int32))), .val (.ref b7), .val (.ref b9), .val (.int (p3 &&& (3 : Int32))), .unset, .unset, .unset] [(.int (7 : Int32)), (.int p1)])) _
      refine XS.iand X10.here hx rfl (hb hby at_119) rfl ?_
      show Steps p.tables e below (T10.setTop (mkF m 120 #[.val (.int p1), .val (.int p2), .val (.int p3), .val (.int (own_bit p1 (1 : Int32))), .val (.int (own_bit p1 (2 : Int32))), .val (.int (own_bit p1 (4 : Int32))), .val (.int (own_bit p2 (1 : Int32))), .val (.int (own_bit p2 (2 : Int32))), .val (.int (own_bit p2 (4 : Int32))), .val (.ref b7), .val (.ref b9), .val (.int (p3 &&& (3 : Int32))), .unset, .unset, .unset] [(.int (p1 &&& (7 : Int32)))])) _
      refine XS.iloadN X10.here hx rfl (hb hby at_120) rfl ?_
      show Steps p.tables e below (T10.setTop (mkF m 121 #[.val (.int p1), .val (.int p2), .val (.int p3), .val (.int (own_bit p1 (1 : Int32))), .val (.int (own_bit p1 (2 : Int32))), .val (.int (own_bit p1 (4 : Int32))), .val (.int (own_bit p2 (1 : Int32))), .val (.int (own_bit p2 (2 : Int32))), .val (.int (own_bit p2 (4 : Int32))), .val (.ref b7), .val (.ref b9), .val (.int (p3 &&& (3 : Int32))), .unset, .unset, .unset] [(.int p2), (.int (p1 &&& (7 : Int32)))])) _
      refine XS.bipush X10.here hx rfl (hb hby at_121) ?_
      show Steps p.tables e below (T10.setTop (mkF m 123 #[.val (.int p1), .val (.int p2), .val (.int p3), .val (.int (own_bit p1 (1 : Int32))), .val (.int (own_bit p1 (2 : Int32))), .val (.int (own_bit p1 (4 : Int32))), .val (.int (own_bit p2 (1 : Int32))), .val (.int (own_bit p2 (2 : Int32))), .val (.int (own_bit p2 (4 : Int32))), .val (.ref b7), .val (.ref b9), .val (.int (p3 &&& (3 : Int32))), .unset, .unset, .unset] [(.int (7 : Int32)), (.int p2), (.int (p1 &&& (7 : Int32)))])) _
      refine XS.iand X10.here hx rfl (hb hby at_123) rfl ?_
      exact kt
    by_cases hc124_12 : (p1 &&& (7 : Int32)) = (p2 &&& (7 : Int32))
    · have f14 := ((Ea8.ext E9).keep Kq10)
      have f15 := ((Fx8.ext E9).keep Kq10 (ninS ne_b7_b9 nin0))
      have f16 := ((Fy8.ext E9).keep Kq10 (ninS ne_b7_b9 nin0))
      have f17 := ((Fz8.ext E9).keep Kq10 (ninS ne_b7_b9 nin0))
      obtain ⟨cq13, kq13, q13a, q13b, q13c⟩ := isOf hZ rfl f14
      obtain ⟨_, _, ⟨T13, L13, k13, n13⟩, -, X13, ⟨Lc13, hQ13, l13, y13, z13⟩, st13⟩ := X10.virtualBack hx (y := (⟨"com/example/semaforo/semaforo/network/Lane", "equals", "(Ljava/lang/Object;)Z"⟩ : MethodName)) (z := (⟨"com/example/semaforo/semaforo/network/Lane", "equals", "(Ljava/lang/Object;)Z"⟩ : MethodName)) hown (mvT hZ (hw _ (List.mem_of_getElem? (i := 15) rfl))) (mvT hZ (hw _ (List.mem_of_getElem? (i := 16) rfl))) (notFace_of_selects (args := #[]) (mvT hZ (hw _ (List.mem_of_getElem? (i := 18) rfl)))) (mvT hZ (hw _ (List.mem_of_getElem? (i := 18) rfl))) (mvT hZ (hw _ (List.mem_of_getElem? (i := 17) rfl))) (by decide) (backOf (W := 0) (eqC l Z a0 hw [] b7 b9 (own_bit p1 (1 : Int32)) (own_bit p1 (2 : Int32)) (own_bit p1 (4 : Int32)) (own_bit p2 (1 : Int32)) (own_bit p2 (2 : Int32)) (own_bit p2 (4 : Int32)) T10.heap n0 O10 f14 Ea10 ne_b7_b9 f15 f16 f17 Fx10 Fy10 Fz10) hZ (hw _ (List.mem_of_getElem? (i := 19) rfl)) (hw _ (List.mem_of_getElem? (i := 2) rfl)) (by decide) (by decide)) q13a q13c (g := (mkF m 138 #[.val (.int p1), .val (.int p2), .val (.int p3), .val (.int (own_bit p1 (1 : Int32))), .val (.int (own_bit p1 (2 : Int32))), .val (.int (own_bit p1 (4 : Int32))), .val (.int (own_bit p2 (1 : Int32))), .val (.int (own_bit p2 (2 : Int32))), .val (.int (own_bit p2 (4 : Int32))), .val (.ref b7), .val (.ref b9), .val (.int (p3 &&& (3 : Int32))), .val (.int (1 : Int32)), .unset, .unset] [(.ref b9), (.ref b7)])) rfl (by rw [hml]; rfl) (Steps.refl _) (argsL := [(.ref b9)]) (rest := []) (lenOf pd__Ljava_lang_Object__Z rfl) rfl (by show 2 * 0 + _ ≤ _; exact Nat.le_of_eq rfl) (hb hby at_138) (fun _ _ => ⟨rfl, rfl, (by decide : 2 + 0 ≤ _), (by decide : 6 + 0 ≤ _)⟩)
      dsimp only [Pt.U, Pt.locs, Pt.cells, Pt.slots] at X13 l13 y13 z13 st13 hQ13
      subst l13 y13 z13
      obtain ⟨rfl, Nq13, eq13⟩ := hQ13
      have N13 := Fr.app N10 Nq13
      obtain ⟨cq18, kq18, q18a, q18b, q18c⟩ := isOf hZ eq13 Ea10
      obtain ⟨_, _, ⟨T18, L18, k18, n18⟩, -, X18, ⟨Lc18, hQ18, l18, y18, z18⟩, st18⟩ := X13.virtualBack hx (y := (⟨"com/example/semaforo/semaforo/network/Lane", "equals", "(Ljava/lang/Object;)Z"⟩ : MethodName)) (z := (⟨"com/example/semaforo/semaforo/network/Lane", "equals", "(Ljava/lang/Object;)Z"⟩ : MethodName)) hown (mvT hZ (hw _ (List.mem_of_getElem? (i := 15) rfl))) (mvT hZ (hw _ (List.mem_of_getElem? (i := 16) rfl))) (notFace_of_selects (args := #[]) (mvT hZ (hw _ (List.mem_of_getElem? (i := 18) rfl)))) (mvT hZ (hw _ (List.mem_of_getElem? (i := 18) rfl))) (mvT hZ (hw _ (List.mem_of_getElem? (i := 17) rfl))) (by decide) (backOf (W := 0) (eqC l Z a0 hw [] b9 b7 (own_bit p2 (1 : Int32)) (own_bit p2 (2 : Int32)) (own_bit p2 (4 : Int32)) (own_bit p1 (1 : Int32)) (own_bit p1 (2 : Int32)) (own_bit p1 (4 : Int32)) T10.heap n0 O10 Ea10 f14 (Ne.symm ne_b7_b9) Fx10 Fy10 Fz10 f15 f16 f17) hZ (hw _ (List.mem_of_getElem? (i := 19) rfl)) (hw _ (List.mem_of_getElem? (i := 2) rfl)) (by decide) (by decide)) q18a q18c (g := (mkF m 147 #[.val (.int p1), .val (.int p2), .val (.int p3), .val (.int (own_bit p1 (1 : Int32))), .val (.int (own_bit p1 (2 : Int32))), .val (.int (own_bit p1 (4 : Int32))), .val (.int (own_bit p2 (1 : Int32))), .val (.int (own_bit p2 (2 : Int32))), .val (.int (own_bit p2 (4 : Int32))), .val (.ref b7), .val (.ref b9), .val (.int (p3 &&& (3 : Int32))), .val (.int (1 : Int32)), .val (.int (own_eq (own_bit p1 (1 : Int32)) (own_bit p1 (2 : Int32)) (own_bit p1 (4 : Int32)) (own_bit p2 (1 : Int32)) (own_bit p2 (2 : Int32)) (own_bit p2 (4 : Int32)))), .unset] [(.ref b7), (.ref b9)])) rfl (by rw [hml]; rfl) (Steps.refl _) (argsL := [(.ref b7)]) (rest := []) (lenOf pd__Ljava_lang_Object__Z rfl) rfl (by show 2 * 0 + _ ≤ _; exact Nat.le_of_eq rfl) (hb hby at_147) (fun _ _ => ⟨rfl, eq13, (by decide : 2 + 0 ≤ _), (by decide : 6 + 0 ≤ _)⟩)
      dsimp only [Pt.U, Pt.locs, Pt.cells, Pt.slots] at X18 l18 y18 z18 st18 hQ18
      subst l18 y18 z18
      obtain ⟨rfl, Nq18, eq18⟩ := hQ18
      have N18 := Fr.app N13 Nq18
      have hd19 : (own_eq (own_bit p1 (1 : Int32)) (own_bit p1 (2 : Int32)) (own_bit p1 (4 : Int32)) (own_bit p2 (1 : Int32)) (own_bit p2 (2 : Int32)) (own_bit p2 (4 : Int32))) = (1 : Int32) := own_lane_t hc124_12
      have hd20 : (own_eq (own_bit p2 (1 : Int32)) (own_bit p2 (2 : Int32)) (own_bit p2 (4 : Int32)) (own_bit p1 (1 : Int32)) (own_bit p1 (2 : Int32)) (own_bit p1 (4 : Int32))) = (1 : Int32) := own_lane_t (hc124_12).symm
      obtain ⟨fs, hr, hrun, hended, hW, hsame⟩ := X18.leave (v := some (.int (1 : Int32))) (fun h => by rw [Bd.returns] at h; cases h)
      refine ⟨_, _, pre12 _ ?_, hrun, hended, _, _, rfl, ?_, ⟨_, rfl⟩, hW, hsame.mono (by decide) (by decide)⟩
      · show Steps p.tables e below (T10.setTop (mkF m 124 #[.val (.int p1), .val (.int p2), .val (.int p3), .val (.int (own_bit p1 (1 : Int32))), .val (.int (own_bit p1 (2 : Int32))), .val (.int (own_bit p1 (4 : Int32))), .val (.int (own_bit p2 (1 : Int32))), .val (.int (own_bit p2 (2 : Int32))), .val (.int (own_bit p2 (4 : Int32))), .val (.ref b7), .val (.ref b9), .val (.int (p3 &&& (3 : Int32))), .unset, .unset, .unset] [(.int (p2 &&& (7 : Int32))), (.int (p1 &&& (7 : Int32)))])) _
        refine XS.icmpNo X10.here hx rfl (hb hby at_124) rfl (teq hc124_12).2 ?_
        show Steps p.tables e below (T10.setTop (mkF m 127 #[.val (.int p1), .val (.int p2), .val (.int p3), .val (.int (own_bit p1 (1 : Int32))), .val (.int (own_bit p1 (2 : Int32))), .val (.int (own_bit p1 (4 : Int32))), .val (.int (own_bit p2 (1 : Int32))), .val (.int (own_bit p2 (2 : Int32))), .val (.int (own_bit p2 (4 : Int32))), .val (.ref b7), .val (.ref b9), .val (.int (p3 &&& (3 : Int32))), .unset, .unset, .unset] [])) _
        refine XS.iconst X10.here hx rfl (hb hby at_127) ?_
        show Steps p.tables e below (T10.setTop (mkF m 128 #[.val (.int p1), .val (.int p2), .val (.int p3), .val (.int (own_bit p1 (1 : Int32))), .val (.int (own_bit p1 (2 : Int32))), .val (.int (own_bit p1 (4 : Int32))), .val (.int (own_bit p2 (1 : Int32))), .val (.int (own_bit p2 (2 : Int32))), .val (.int (own_bit p2 (4 : Int32))), .val (.ref b7), .val (.ref b9), .val (.int (p3 &&& (3 : Int32))), .unset, .unset, .unset] [(.int (1 : Int32))])) _
        refine XS.goto X10.here hx rfl (pc0 := 128) (pc' := 132) rfl (hb hby at_128) (by decide) (by decide) ?_
        show Steps p.tables e below (T10.setTop (mkF m 132 #[.val (.int p1), .val (.int p2), .val (.int p3), .val (.int (own_bit p1 (1 : Int32))), .val (.int (own_bit p1 (2 : Int32))), .val (.int (own_bit p1 (4 : Int32))), .val (.int (own_bit p2 (1 : Int32))), .val (.int (own_bit p2 (2 : Int32))), .val (.int (own_bit p2 (4 : Int32))), .val (.ref b7), .val (.ref b9), .val (.int (p3 &&& (3 : Int32))), .unset, .unset, .unset] [(.int (1 : Int32))])) _
        refine XS.istore X10.here hx rfl (hb hby at_132) rfl (l' := #[.val (.int p1), .val (.int p2), .val (.int p3), .val (.int (own_bit p1 (1 : Int32))), .val (.int (own_bit p1 (2 : Int32))), .val (.int (own_bit p1 (4 : Int32))), .val (.int (own_bit p2 (1 : Int32))), .val (.int (own_bit p2 (2 : Int32))), .val (.int (own_bit p2 (4 : Int32))), .val (.ref b7), .val (.ref b9), .val (.int (p3 &&& (3 : Int32))), .val (.int (1 : Int32)), .unset, .unset]) rfl ?_
        show Steps p.tables e below (T10.setTop (mkF m 134 #[.val (.int p1), .val (.int p2), .val (.int p3), .val (.int (own_bit p1 (1 : Int32))), .val (.int (own_bit p1 (2 : Int32))), .val (.int (own_bit p1 (4 : Int32))), .val (.int (own_bit p2 (1 : Int32))), .val (.int (own_bit p2 (2 : Int32))), .val (.int (own_bit p2 (4 : Int32))), .val (.ref b7), .val (.ref b9), .val (.int (p3 &&& (3 : Int32))), .val (.int (1 : Int32)), .unset, .unset] [])) _
        refine XS.aload X10.here hx rfl (hb hby at_134) rfl rfl ?_
        show Steps p.tables e below (T10.setTop (mkF m 136 #[.val (.int p1), .val (.int p2), .val (.int p3), .val (.int (own_bit p1 (1 : Int32))), .val (.int (own_bit p1 (2 : Int32))), .val (.int (own_bit p1 (4 : Int32))), .val (.int (own_bit p2 (1 : Int32))), .val (.int (own_bit p2 (2 : Int32))), .val (.int (own_bit p2 (4 : Int32))), .val (.ref b7), .val (.ref b9), .val (.int (p3 &&& (3 : Int32))), .val (.int (1 : Int32)), .unset, .unset] [(.ref b7)])) _
        refine XS.aload X10.here hx rfl (hb hby at_136) rfl rfl ?_
        show Steps p.tables e below (T10.setTop (mkF m 138 #[.val (.int p1), .val (.int p2), .val (.int p3), .val (.int (own_bit p1 (1 : Int32))), .val (.int (own_bit p1 (2 : Int32))), .val (.int (own_bit p1 (4 : Int32))), .val (.int (own_bit p2 (1 : Int32))), .val (.int (own_bit p2 (2 : Int32))), .val (.int (own_bit p2 (4 : Int32))), .val (.ref b7), .val (.ref b9), .val (.int (p3 &&& (3 : Int32))), .val (.int (1 : Int32)), .unset, .unset] [(.ref b9), (.ref b7)])) _
        refine st13.trans ?_
        show Steps p.tables e below (T13.setTop (mkF m 141 #[.val (.int p1), .val (.int p2), .val (.int p3), .val (.int (own_bit p1 (1 : Int32))), .val (.int (own_bit p1 (2 : Int32))), .val (.int (own_bit p1 (4 : Int32))), .val (.int (own_bit p2 (1 : Int32))), .val (.int (own_bit p2 (2 : Int32))), .val (.int (own_bit p2 (4 : Int32))), .val (.ref b7), .val (.ref b9), .val (.int (p3 &&& (3 : Int32))), .val (.int (1 : Int32)), .unset, .unset] [(.int (own_eq (own_bit p1 (1 : Int32)) (own_bit p1 (2 : Int32)) (own_bit p1 (4 : Int32)) (own_bit p2 (1 : Int32)) (own_bit p2 (2 : Int32)) (own_bit p2 (4 : Int32))))])) _
        refine XS.istore X13.here hx rfl (hb hby at_141) rfl (l' := #[.val (.int p1), .val (.int p2), .val (.int p3), .val (.int (own_bit p1 (1 : Int32))), .val (.int (own_bit p1 (2 : Int32))), .val (.int (own_bit p1 (4 : Int32))), .val (.int (own_bit p2 (1 : Int32))), .val (.int (own_bit p2 (2 : Int32))), .val (.int (own_bit p2 (4 : Int32))), .val (.ref b7), .val (.ref b9), .val (.int (p3 &&& (3 : Int32))), .val (.int (1 : Int32)), .val (.int (own_eq (own_bit p1 (1 : Int32)) (own_bit p1 (2 : Int32)) (own_bit p1 (4 : Int32)) (own_bit p2 (1 : Int32)) (own_bit p2 (2 : Int32)) (own_bit p2 (4 : Int32)))), .unset]) rfl ?_
        show Steps p.tables e below (T13.setTop (mkF m 143 #[.val (.int p1), .val (.int p2), .val (.int p3), .val (.int (own_bit p1 (1 : Int32))), .val (.int (own_bit p1 (2 : Int32))), .val (.int (own_bit p1 (4 : Int32))), .val (.int (own_bit p2 (1 : Int32))), .val (.int (own_bit p2 (2 : Int32))), .val (.int (own_bit p2 (4 : Int32))), .val (.ref b7), .val (.ref b9), .val (.int (p3 &&& (3 : Int32))), .val (.int (1 : Int32)), .val (.int (own_eq (own_bit p1 (1 : Int32)) (own_bit p1 (2 : Int32)) (own_bit p1 (4 : Int32)) (own_bit p2 (1 : Int32)) (own_bit p2 (2 : Int32)) (own_bit p2 (4 : Int32)))), .unset] [])) _
        refine XS.aload X13.here hx rfl (hb hby at_143) rfl rfl ?_
        show Steps p.tables e below (T13.setTop (mkF m 145 #[.val (.int p1), .val (.int p2), .val (.int p3), .val (.int (own_bit p1 (1 : Int32))), .val (.int (own_bit p1 (2 : Int32))), .val (.int (own_bit p1 (4 : Int32))), .val (.int (own_bit p2 (1 : Int32))), .val (.int (own_bit p2 (2 : Int32))), .val (.int (own_bit p2 (4 : Int32))), .val (.ref b7), .val (.ref b9), .val (.int (p3 &&& (3 : Int32))), .val (.int (1 : Int32)), .val (.int (own_eq (own_bit p1 (1 : Int32)) (own_bit p1 (2 : Int32)) (own_bit p1 (4 : Int32)) (own_bit p2 (1 : Int32)) (own_bit p2 (2 : Int32)) (own_bit p2 (4 : Int32)))), .unset] [(.ref b9)])) _
        refine XS.aload X13.here hx rfl (hb hby at_145) rfl rfl ?_
        show Steps p.tables e below (T13.setTop (mkF m 147 #[.val (.int p1), .val (.int p2), .val (.int p3), .val (.int (own_bit p1 (1 : Int32))), .val (.int (own_bit p1 (2 : Int32))), .val (.int (own_bit p1 (4 : Int32))), .val (.int (own_bit p2 (1 : Int32))), .val (.int (own_bit p2 (2 : Int32))), .val (.int (own_bit p2 (4 : Int32))), .val (.ref b7), .val (.ref b9), .val (.int (p3 &&& (3 : Int32))), .val (.int (1 : Int32)), .val (.int (own_eq (own_bit p1 (1 : Int32)) (own_bit p1 (2 : Int32)) (own_bit p1 (4 : Int32)) (own_bit p2 (1 : Int32)) (own_bit p2 (2 : Int32)) (own_bit p2 (4 : Int32)))), .unset] [(.ref b7), (.ref b9)])) _
        refine st18.trans ?_
        show Steps p.tables e below (T18.setTop (mkF m 150 #[.val (.int p1), .val (.int p2), .val (.int p3), .val (.int (own_bit p1 (1 : Int32))), .val (.int (own_bit p1 (2 : Int32))), .val (.int (own_bit p1 (4 : Int32))), .val (.int (own_bit p2 (1 : Int32))), .val (.int (own_bit p2 (2 : Int32))), .val (.int (own_bit p2 (4 : Int32))), .val (.ref b7), .val (.ref b9), .val (.int (p3 &&& (3 : Int32))), .val (.int (1 : Int32)), .val (.int (own_eq (own_bit p1 (1 : Int32)) (own_bit p1 (2 : Int32)) (own_bit p1 (4 : Int32)) (own_bit p2 (1 : Int32)) (own_bit p2 (2 : Int32)) (own_bit p2 (4 : Int32)))), .unset] [(.int (own_eq (own_bit p2 (1 : Int32)) (own_bit p2 (2 : Int32)) (own_bit p2 (4 : Int32)) (own_bit p1 (1 : Int32)) (own_bit p1 (2 : Int32)) (own_bit p1 (4 : Int32))))])) _
        refine XS.istore X18.here hx rfl (hb hby at_150) rfl (l' := #[.val (.int p1), .val (.int p2), .val (.int p3), .val (.int (own_bit p1 (1 : Int32))), .val (.int (own_bit p1 (2 : Int32))), .val (.int (own_bit p1 (4 : Int32))), .val (.int (own_bit p2 (1 : Int32))), .val (.int (own_bit p2 (2 : Int32))), .val (.int (own_bit p2 (4 : Int32))), .val (.ref b7), .val (.ref b9), .val (.int (p3 &&& (3 : Int32))), .val (.int (1 : Int32)), .val (.int (own_eq (own_bit p1 (1 : Int32)) (own_bit p1 (2 : Int32)) (own_bit p1 (4 : Int32)) (own_bit p2 (1 : Int32)) (own_bit p2 (2 : Int32)) (own_bit p2 (4 : Int32)))), .val (.int (own_eq (own_bit p2 (1 : Int32)) (own_bit p2 (2 : Int32)) (own_bit p2 (4 : Int32)) (own_bit p1 (1 : Int32)) (own_bit p1 (2 : Int32)) (own_bit p1 (4 : Int32))))]) rfl ?_
        show Steps p.tables e below (T18.setTop (mkF m 152 #[.val (.int p1), .val (.int p2), .val (.int p3), .val (.int (own_bit p1 (1 : Int32))), .val (.int (own_bit p1 (2 : Int32))), .val (.int (own_bit p1 (4 : Int32))), .val (.int (own_bit p2 (1 : Int32))), .val (.int (own_bit p2 (2 : Int32))), .val (.int (own_bit p2 (4 : Int32))), .val (.ref b7), .val (.ref b9), .val (.int (p3 &&& (3 : Int32))), .val (.int (1 : Int32)), .val (.int (own_eq (own_bit p1 (1 : Int32)) (own_bit p1 (2 : Int32)) (own_bit p1 (4 : Int32)) (own_bit p2 (1 : Int32)) (own_bit p2 (2 : Int32)) (own_bit p2 (4 : Int32)))), .val (.int (own_eq (own_bit p2 (1 : Int32)) (own_bit p2 (2 : Int32)) (own_bit p2 (4 : Int32)) (own_bit p1 (1 : Int32)) (own_bit p1 (2 : Int32)) (own_bit p1 (4 : Int32))))] [])) _
        refine XS.iload X18.here hx rfl (hb hby at_152) rfl ?_
        show Steps p.tables e below (T18.setTop (mkF m 154 #[.val (.int p1), .val (.int p2), .val (.int p3), .val (.int (own_bit p1 (1 : Int32))), .val (.int (own_bit p1 (2 : Int32))), .val (.int (own_bit p1 (4 : Int32))), .val (.int (own_bit p2 (1 : Int32))), .val (.int (own_bit p2 (2 : Int32))), .val (.int (own_bit p2 (4 : Int32))), .val (.ref b7), .val (.ref b9), .val (.int (p3 &&& (3 : Int32))), .val (.int (1 : Int32)), .val (.int (own_eq (own_bit p1 (1 : Int32)) (own_bit p1 (2 : Int32)) (own_bit p1 (4 : Int32)) (own_bit p2 (1 : Int32)) (own_bit p2 (2 : Int32)) (own_bit p2 (4 : Int32)))), .val (.int (own_eq (own_bit p2 (1 : Int32)) (own_bit p2 (2 : Int32)) (own_bit p2 (4 : Int32)) (own_bit p1 (1 : Int32)) (own_bit p1 (2 : Int32)) (own_bit p1 (4 : Int32))))] [(.int (own_eq (own_bit p1 (1 : Int32)) (own_bit p1 (2 : Int32)) (own_bit p1 (4 : Int32)) (own_bit p2 (1 : Int32)) (own_bit p2 (2 : Int32)) (own_bit p2 (4 : Int32))))])) _
        refine XS.iload X18.here hx rfl (hb hby at_154) rfl ?_
        show Steps p.tables e below (T18.setTop (mkF m 156 #[.val (.int p1), .val (.int p2), .val (.int p3), .val (.int (own_bit p1 (1 : Int32))), .val (.int (own_bit p1 (2 : Int32))), .val (.int (own_bit p1 (4 : Int32))), .val (.int (own_bit p2 (1 : Int32))), .val (.int (own_bit p2 (2 : Int32))), .val (.int (own_bit p2 (4 : Int32))), .val (.ref b7), .val (.ref b9), .val (.int (p3 &&& (3 : Int32))), .val (.int (1 : Int32)), .val (.int (own_eq (own_bit p1 (1 : Int32)) (own_bit p1 (2 : Int32)) (own_bit p1 (4 : Int32)) (own_bit p2 (1 : Int32)) (own_bit p2 (2 : Int32)) (own_bit p2 (4 : Int32)))), .val (.int (own_eq (own_bit p2 (1 : Int32)) (own_bit p2 (2 : Int32)) (own_bit p2 (4 : Int32)) (own_bit p1 (1 : Int32)) (own_bit p1 (2 : Int32)) (own_bit p1 (4 : Int32))))] [(.int (1 : Int32)), (.int (own_eq (own_bit p1 (1 : Int32)) (own_bit p1 (2 : Int32)) (own_bit p1 (4 : Int32)) (own_bit p2 (1 : Int32)) (own_bit p2 (2 : Int32)) (own_bit p2 (4 : Int32))))])) _
        refine XS.icmpNo X18.here hx rfl (hb hby at_156) rfl (teq hd19).2 ?_
        show Steps p.tables e below (T18.setTop (mkF m 159 #[.val (.int p1), .val (.int p2), .val (.int p3), .val (.int (own_bit p1 (1 : Int32))), .val (.int (own_bit p1 (2 : Int32))), .val (.int (own_bit p1 (4 : Int32))), .val (.int (own_bit p2 (1 : Int32))), .val (.int (own_bit p2 (2 : Int32))), .val (.int (own_bit p2 (4 : Int32))), .val (.ref b7), .val (.ref b9), .val (.int (p3 &&& (3 : Int32))), .val (.int (1 : Int32)), .val (.int (own_eq (own_bit p1 (1 : Int32)) (own_bit p1 (2 : Int32)) (own_bit p1 (4 : Int32)) (own_bit p2 (1 : Int32)) (own_bit p2 (2 : Int32)) (own_bit p2 (4 : Int32)))), .val (.int (own_eq (own_bit p2 (1 : Int32)) (own_bit p2 (2 : Int32)) (own_bit p2 (4 : Int32)) (own_bit p1 (1 : Int32)) (own_bit p1 (2 : Int32)) (own_bit p1 (4 : Int32))))] [])) _
        refine XS.iload X18.here hx rfl (hb hby at_159) rfl ?_
        show Steps p.tables e below (T18.setTop (mkF m 161 #[.val (.int p1), .val (.int p2), .val (.int p3), .val (.int (own_bit p1 (1 : Int32))), .val (.int (own_bit p1 (2 : Int32))), .val (.int (own_bit p1 (4 : Int32))), .val (.int (own_bit p2 (1 : Int32))), .val (.int (own_bit p2 (2 : Int32))), .val (.int (own_bit p2 (4 : Int32))), .val (.ref b7), .val (.ref b9), .val (.int (p3 &&& (3 : Int32))), .val (.int (1 : Int32)), .val (.int (own_eq (own_bit p1 (1 : Int32)) (own_bit p1 (2 : Int32)) (own_bit p1 (4 : Int32)) (own_bit p2 (1 : Int32)) (own_bit p2 (2 : Int32)) (own_bit p2 (4 : Int32)))), .val (.int (own_eq (own_bit p2 (1 : Int32)) (own_bit p2 (2 : Int32)) (own_bit p2 (4 : Int32)) (own_bit p1 (1 : Int32)) (own_bit p1 (2 : Int32)) (own_bit p1 (4 : Int32))))] [(.int (own_eq (own_bit p2 (1 : Int32)) (own_bit p2 (2 : Int32)) (own_bit p2 (4 : Int32)) (own_bit p1 (1 : Int32)) (own_bit p1 (2 : Int32)) (own_bit p1 (4 : Int32))))])) _
        refine XS.iload X18.here hx rfl (hb hby at_161) rfl ?_
        show Steps p.tables e below (T18.setTop (mkF m 163 #[.val (.int p1), .val (.int p2), .val (.int p3), .val (.int (own_bit p1 (1 : Int32))), .val (.int (own_bit p1 (2 : Int32))), .val (.int (own_bit p1 (4 : Int32))), .val (.int (own_bit p2 (1 : Int32))), .val (.int (own_bit p2 (2 : Int32))), .val (.int (own_bit p2 (4 : Int32))), .val (.ref b7), .val (.ref b9), .val (.int (p3 &&& (3 : Int32))), .val (.int (1 : Int32)), .val (.int (own_eq (own_bit p1 (1 : Int32)) (own_bit p1 (2 : Int32)) (own_bit p1 (4 : Int32)) (own_bit p2 (1 : Int32)) (own_bit p2 (2 : Int32)) (own_bit p2 (4 : Int32)))), .val (.int (own_eq (own_bit p2 (1 : Int32)) (own_bit p2 (2 : Int32)) (own_bit p2 (4 : Int32)) (own_bit p1 (1 : Int32)) (own_bit p1 (2 : Int32)) (own_bit p1 (4 : Int32))))] [(.int (1 : Int32)), (.int (own_eq (own_bit p2 (1 : Int32)) (own_bit p2 (2 : Int32)) (own_bit p2 (4 : Int32)) (own_bit p1 (1 : Int32)) (own_bit p1 (2 : Int32)) (own_bit p1 (4 : Int32))))])) _
        refine XS.icmpNo X18.here hx rfl (hb hby at_163) rfl (teq hd20).2 ?_
        show Steps p.tables e below (T18.setTop (mkF m 166 #[.val (.int p1), .val (.int p2), .val (.int p3), .val (.int (own_bit p1 (1 : Int32))), .val (.int (own_bit p1 (2 : Int32))), .val (.int (own_bit p1 (4 : Int32))), .val (.int (own_bit p2 (1 : Int32))), .val (.int (own_bit p2 (2 : Int32))), .val (.int (own_bit p2 (4 : Int32))), .val (.ref b7), .val (.ref b9), .val (.int (p3 &&& (3 : Int32))), .val (.int (1 : Int32)), .val (.int (own_eq (own_bit p1 (1 : Int32)) (own_bit p1 (2 : Int32)) (own_bit p1 (4 : Int32)) (own_bit p2 (1 : Int32)) (own_bit p2 (2 : Int32)) (own_bit p2 (4 : Int32)))), .val (.int (own_eq (own_bit p2 (1 : Int32)) (own_bit p2 (2 : Int32)) (own_bit p2 (4 : Int32)) (own_bit p1 (1 : Int32)) (own_bit p1 (2 : Int32)) (own_bit p1 (4 : Int32))))] [])) _
        refine XS.iconst X18.here hx rfl (hb hby at_166) ?_
        show Steps p.tables e below (T18.setTop (mkF m 167 #[.val (.int p1), .val (.int p2), .val (.int p3), .val (.int (own_bit p1 (1 : Int32))), .val (.int (own_bit p1 (2 : Int32))), .val (.int (own_bit p1 (4 : Int32))), .val (.int (own_bit p2 (1 : Int32))), .val (.int (own_bit p2 (2 : Int32))), .val (.int (own_bit p2 (4 : Int32))), .val (.ref b7), .val (.ref b9), .val (.int (p3 &&& (3 : Int32))), .val (.int (1 : Int32)), .val (.int (own_eq (own_bit p1 (1 : Int32)) (own_bit p1 (2 : Int32)) (own_bit p1 (4 : Int32)) (own_bit p2 (1 : Int32)) (own_bit p2 (2 : Int32)) (own_bit p2 (4 : Int32)))), .val (.int (own_eq (own_bit p2 (1 : Int32)) (own_bit p2 (2 : Int32)) (own_bit p2 (4 : Int32)) (own_bit p1 (1 : Int32)) (own_bit p1 (2 : Int32)) (own_bit p1 (4 : Int32))))] [(.int (1 : Int32))])) _
        refine XS.goto X18.here hx rfl (pc0 := 167) (pc' := 171) rfl (hb hby at_167) (by decide) (by decide) ?_
        show Steps p.tables e below (T18.setTop (mkF m 171 #[.val (.int p1), .val (.int p2), .val (.int p3), .val (.int (own_bit p1 (1 : Int32))), .val (.int (own_bit p1 (2 : Int32))), .val (.int (own_bit p1 (4 : Int32))), .val (.int (own_bit p2 (1 : Int32))), .val (.int (own_bit p2 (2 : Int32))), .val (.int (own_bit p2 (4 : Int32))), .val (.ref b7), .val (.ref b9), .val (.int (p3 &&& (3 : Int32))), .val (.int (1 : Int32)), .val (.int (own_eq (own_bit p1 (1 : Int32)) (own_bit p1 (2 : Int32)) (own_bit p1 (4 : Int32)) (own_bit p2 (1 : Int32)) (own_bit p2 (2 : Int32)) (own_bit p2 (4 : Int32)))), .val (.int (own_eq (own_bit p2 (1 : Int32)) (own_bit p2 (2 : Int32)) (own_bit p2 (4 : Int32)) (own_bit p1 (1 : Int32)) (own_bit p1 (2 : Int32)) (own_bit p1 (4 : Int32))))] [(.int (1 : Int32))])) _
        exact retN X18 hx (t := .boolean) Bd.returns (by simp) (hb hby at_171) hr
      · show Q_rm0 Z p1 p2 p3 wc clc h0 n0 _ T18.heap _
        rw [eq18]
        exact ⟨rfl, N18⟩
    · have f22 := ((Ea8.ext E9).keep Kq10)
      have f23 := ((Fx8.ext E9).keep Kq10 (ninS ne_b7_b9 nin0))
      have f24 := ((Fy8.ext E9).keep Kq10 (ninS ne_b7_b9 nin0))
      have f25 := ((Fz8.ext E9).keep Kq10 (ninS ne_b7_b9 nin0))
      obtain ⟨cq21, kq21, q21a, q21b, q21c⟩ := isOf hZ rfl f22
      obtain ⟨_, _, ⟨T21, L21, k21, n21⟩, -, X21, ⟨Lc21, hQ21, l21, y21, z21⟩, st21⟩ := X10.virtualBack hx (y := (⟨"com/example/semaforo/semaforo/network/Lane", "equals", "(Ljava/lang/Object;)Z"⟩ : MethodName)) (z := (⟨"com/example/semaforo/semaforo/network/Lane", "equals", "(Ljava/lang/Object;)Z"⟩ : MethodName)) hown (mvT hZ (hw _ (List.mem_of_getElem? (i := 15) rfl))) (mvT hZ (hw _ (List.mem_of_getElem? (i := 16) rfl))) (notFace_of_selects (args := #[]) (mvT hZ (hw _ (List.mem_of_getElem? (i := 18) rfl)))) (mvT hZ (hw _ (List.mem_of_getElem? (i := 18) rfl))) (mvT hZ (hw _ (List.mem_of_getElem? (i := 17) rfl))) (by decide) (backOf (W := 0) (eqC l Z a0 hw [] b7 b9 (own_bit p1 (1 : Int32)) (own_bit p1 (2 : Int32)) (own_bit p1 (4 : Int32)) (own_bit p2 (1 : Int32)) (own_bit p2 (2 : Int32)) (own_bit p2 (4 : Int32)) T10.heap n0 O10 f22 Ea10 ne_b7_b9 f23 f24 f25 Fx10 Fy10 Fz10) hZ (hw _ (List.mem_of_getElem? (i := 19) rfl)) (hw _ (List.mem_of_getElem? (i := 2) rfl)) (by decide) (by decide)) q21a q21c (g := (mkF m 138 #[.val (.int p1), .val (.int p2), .val (.int p3), .val (.int (own_bit p1 (1 : Int32))), .val (.int (own_bit p1 (2 : Int32))), .val (.int (own_bit p1 (4 : Int32))), .val (.int (own_bit p2 (1 : Int32))), .val (.int (own_bit p2 (2 : Int32))), .val (.int (own_bit p2 (4 : Int32))), .val (.ref b7), .val (.ref b9), .val (.int (p3 &&& (3 : Int32))), .val (.int (0 : Int32)), .unset, .unset] [(.ref b9), (.ref b7)])) rfl (by rw [hml]; rfl) (Steps.refl _) (argsL := [(.ref b9)]) (rest := []) (lenOf pd__Ljava_lang_Object__Z rfl) rfl (by show 2 * 0 + _ ≤ _; exact Nat.le_of_eq rfl) (hb hby at_138) (fun _ _ => ⟨rfl, rfl, (by decide : 2 + 0 ≤ _), (by decide : 6 + 0 ≤ _)⟩)
      dsimp only [Pt.U, Pt.locs, Pt.cells, Pt.slots] at X21 l21 y21 z21 st21 hQ21
      subst l21 y21 z21
      obtain ⟨rfl, Nq21, eq21⟩ := hQ21
      have N21 := Fr.app N10 Nq21
      obtain ⟨cq26, kq26, q26a, q26b, q26c⟩ := isOf hZ eq21 Ea10
      obtain ⟨_, _, ⟨T26, L26, k26, n26⟩, -, X26, ⟨Lc26, hQ26, l26, y26, z26⟩, st26⟩ := X21.virtualBack hx (y := (⟨"com/example/semaforo/semaforo/network/Lane", "equals", "(Ljava/lang/Object;)Z"⟩ : MethodName)) (z := (⟨"com/example/semaforo/semaforo/network/Lane", "equals", "(Ljava/lang/Object;)Z"⟩ : MethodName)) hown (mvT hZ (hw _ (List.mem_of_getElem? (i := 15) rfl))) (mvT hZ (hw _ (List.mem_of_getElem? (i := 16) rfl))) (notFace_of_selects (args := #[]) (mvT hZ (hw _ (List.mem_of_getElem? (i := 18) rfl)))) (mvT hZ (hw _ (List.mem_of_getElem? (i := 18) rfl))) (mvT hZ (hw _ (List.mem_of_getElem? (i := 17) rfl))) (by decide) (backOf (W := 0) (eqC l Z a0 hw [] b9 b7 (own_bit p2 (1 : Int32)) (own_bit p2 (2 : Int32)) (own_bit p2 (4 : Int32)) (own_bit p1 (1 : Int32)) (own_bit p1 (2 : Int32)) (own_bit p1 (4 : Int32)) T10.heap n0 O10 Ea10 f22 (Ne.symm ne_b7_b9) Fx10 Fy10 Fz10 f23 f24 f25) hZ (hw _ (List.mem_of_getElem? (i := 19) rfl)) (hw _ (List.mem_of_getElem? (i := 2) rfl)) (by decide) (by decide)) q26a q26c (g := (mkF m 147 #[.val (.int p1), .val (.int p2), .val (.int p3), .val (.int (own_bit p1 (1 : Int32))), .val (.int (own_bit p1 (2 : Int32))), .val (.int (own_bit p1 (4 : Int32))), .val (.int (own_bit p2 (1 : Int32))), .val (.int (own_bit p2 (2 : Int32))), .val (.int (own_bit p2 (4 : Int32))), .val (.ref b7), .val (.ref b9), .val (.int (p3 &&& (3 : Int32))), .val (.int (0 : Int32)), .val (.int (own_eq (own_bit p1 (1 : Int32)) (own_bit p1 (2 : Int32)) (own_bit p1 (4 : Int32)) (own_bit p2 (1 : Int32)) (own_bit p2 (2 : Int32)) (own_bit p2 (4 : Int32)))), .unset] [(.ref b7), (.ref b9)])) rfl (by rw [hml]; rfl) (Steps.refl _) (argsL := [(.ref b7)]) (rest := []) (lenOf pd__Ljava_lang_Object__Z rfl) rfl (by show 2 * 0 + _ ≤ _; exact Nat.le_of_eq rfl) (hb hby at_147) (fun _ _ => ⟨rfl, eq21, (by decide : 2 + 0 ≤ _), (by decide : 6 + 0 ≤ _)⟩)
      dsimp only [Pt.U, Pt.locs, Pt.cells, Pt.slots] at X26 l26 y26 z26 st26 hQ26
      subst l26 y26 z26
      obtain ⟨rfl, Nq26, eq26⟩ := hQ26
      have N26 := Fr.app N21 Nq26
      have hd27 : (own_eq (own_bit p1 (1 : Int32)) (own_bit p1 (2 : Int32)) (own_bit p1 (4 : Int32)) (own_bit p2 (1 : Int32)) (own_bit p2 (2 : Int32)) (own_bit p2 (4 : Int32))) = (0 : Int32) := own_lane_f hc124_12
      have hd28 : (own_eq (own_bit p2 (1 : Int32)) (own_bit p2 (2 : Int32)) (own_bit p2 (4 : Int32)) (own_bit p1 (1 : Int32)) (own_bit p1 (2 : Int32)) (own_bit p1 (4 : Int32))) = (0 : Int32) := own_lane_f (fun z => hc124_12 z.symm)
      obtain ⟨fs, hr, hrun, hended, hW, hsame⟩ := X26.leave (v := some (.int (1 : Int32))) (fun h => by rw [Bd.returns] at h; cases h)
      refine ⟨_, _, pre12 _ ?_, hrun, hended, _, _, rfl, ?_, ⟨_, rfl⟩, hW, hsame.mono (by decide) (by decide)⟩
      · show Steps p.tables e below (T10.setTop (mkF m 124 #[.val (.int p1), .val (.int p2), .val (.int p3), .val (.int (own_bit p1 (1 : Int32))), .val (.int (own_bit p1 (2 : Int32))), .val (.int (own_bit p1 (4 : Int32))), .val (.int (own_bit p2 (1 : Int32))), .val (.int (own_bit p2 (2 : Int32))), .val (.int (own_bit p2 (4 : Int32))), .val (.ref b7), .val (.ref b9), .val (.int (p3 &&& (3 : Int32))), .unset, .unset, .unset] [(.int (p2 &&& (7 : Int32))), (.int (p1 &&& (7 : Int32)))])) _
        refine XS.icmpYes X10.here hx rfl (pc0 := 124) (pc' := 131) rfl (hb hby at_124) rfl (feq hc124_12).2 (by decide) (by decide) ?_
        show Steps p.tables e below (T10.setTop (mkF m 131 #[.val (.int p1), .val (.int p2), .val (.int p3), .val (.int (own_bit p1 (1 : Int32))), .val (.int (own_bit p1 (2 : Int32))), .val (.int (own_bit p1 (4 : Int32))), .val (.int (own_bit p2 (1 : Int32))), .val (.int (own_bit p2 (2 : Int32))), .val (.int (own_bit p2 (4 : Int32))), .val (.ref b7), .val (.ref b9), .val (.int (p3 &&& (3 : Int32))), .unset, .unset, .unset] [])) _
        refine XS.iconst X10.here hx rfl (hb hby at_131) ?_
        show Steps p.tables e below (T10.setTop (mkF m 132 #[.val (.int p1), .val (.int p2), .val (.int p3), .val (.int (own_bit p1 (1 : Int32))), .val (.int (own_bit p1 (2 : Int32))), .val (.int (own_bit p1 (4 : Int32))), .val (.int (own_bit p2 (1 : Int32))), .val (.int (own_bit p2 (2 : Int32))), .val (.int (own_bit p2 (4 : Int32))), .val (.ref b7), .val (.ref b9), .val (.int (p3 &&& (3 : Int32))), .unset, .unset, .unset] [(.int (0 : Int32))])) _
        refine XS.istore X10.here hx rfl (hb hby at_132) rfl (l' := #[.val (.int p1), .val (.int p2), .val (.int p3), .val (.int (own_bit p1 (1 : Int32))), .val (.int (own_bit p1 (2 : Int32))), .val (.int (own_bit p1 (4 : Int32))), .val (.int (own_bit p2 (1 : Int32))), .val (.int (own_bit p2 (2 : Int32))), .val (.int (own_bit p2 (4 : Int32))), .val (.ref b7), .val (.ref b9), .val (.int (p3 &&& (3 : Int32))), .val (.int (0 : Int32)), .unset, .unset]) rfl ?_
        show Steps p.tables e below (T10.setTop (mkF m 134 #[.val (.int p1), .val (.int p2), .val (.int p3), .val (.int (own_bit p1 (1 : Int32))), .val (.int (own_bit p1 (2 : Int32))), .val (.int (own_bit p1 (4 : Int32))), .val (.int (own_bit p2 (1 : Int32))), .val (.int (own_bit p2 (2 : Int32))), .val (.int (own_bit p2 (4 : Int32))), .val (.ref b7), .val (.ref b9), .val (.int (p3 &&& (3 : Int32))), .val (.int (0 : Int32)), .unset, .unset] [])) _
        refine XS.aload X10.here hx rfl (hb hby at_134) rfl rfl ?_
        show Steps p.tables e below (T10.setTop (mkF m 136 #[.val (.int p1), .val (.int p2), .val (.int p3), .val (.int (own_bit p1 (1 : Int32))), .val (.int (own_bit p1 (2 : Int32))), .val (.int (own_bit p1 (4 : Int32))), .val (.int (own_bit p2 (1 : Int32))), .val (.int (own_bit p2 (2 : Int32))), .val (.int (own_bit p2 (4 : Int32))), .val (.ref b7), .val (.ref b9), .val (.int (p3 &&& (3 : Int32))), .val (.int (0 : Int32)), .unset, .unset] [(.ref b7)])) _
        refine XS.aload X10.here hx rfl (hb hby at_136) rfl rfl ?_
        show Steps p.tables e below (T10.setTop (mkF m 138 #[.val (.int p1), .val (.int p2), .val (.int p3), .val (.int (own_bit p1 (1 : Int32))), .val (.int (own_bit p1 (2 : Int32))), .val (.int (own_bit p1 (4 : Int32))), .val (.int (own_bit p2 (1 : Int32))), .val (.int (own_bit p2 (2 : Int32))), .val (.int (own_bit p2 (4 : Int32))), .val (.ref b7), .val (.ref b9), .val (.int (p3 &&& (3 : Int32))), .val (.int (0 : Int32)), .unset, .unset] [(.ref b9), (.ref b7)])) _
        refine st21.trans ?_
        show Steps p.tables e below (T21.setTop (mkF m 141 #[.val (.int p1), .val (.int p2), .val (.int p3), .val (.int (own_bit p1 (1 : Int32))), .val (.int (own_bit p1 (2 : Int32))), .val (.int (own_bit p1 (4 : Int32))), .val (.int (own_bit p2 (1 : Int32))), .val (.int (own_bit p2 (2 : Int32))), .val (.int (own_bit p2 (4 : Int32))), .val (.ref b7), .val (.ref b9), .val (.int (p3 &&& (3 : Int32))), .val (.int (0 : Int32)), .unset, .unset] [(.int (own_eq (own_bit p1 (1 : Int32)) (own_bit p1 (2 : Int32)) (own_bit p1 (4 : Int32)) (own_bit p2 (1 : Int32)) (own_bit p2 (2 : Int32)) (own_bit p2 (4 : Int32))))])) _
        refine XS.istore X21.here hx rfl (hb hby at_141) rfl (l' := #[.val (.int p1), .val (.int p2), .val (.int p3), .val (.int (own_bit p1 (1 : Int32))), .val (.int (own_bit p1 (2 : Int32))), .val (.int (own_bit p1 (4 : Int32))), .val (.int (own_bit p2 (1 : Int32))), .val (.int (own_bit p2 (2 : Int32))), .val (.int (own_bit p2 (4 : Int32))), .val (.ref b7), .val (.ref b9), .val (.int (p3 &&& (3 : Int32))), .val (.int (0 : Int32)), .val (.int (own_eq (own_bit p1 (1 : Int32)) (own_bit p1 (2 : Int32)) (own_bit p1 (4 : Int32)) (own_bit p2 (1 : Int32)) (own_bit p2 (2 : Int32)) (own_bit p2 (4 : Int32)))), .unset]) rfl ?_
        show Steps p.tables e below (T21.setTop (mkF m 143 #[.val (.int p1), .val (.int p2), .val (.int p3), .val (.int (own_bit p1 (1 : Int32))), .val (.int (own_bit p1 (2 : Int32))), .val (.int (own_bit p1 (4 : Int32))), .val (.int (own_bit p2 (1 : Int32))), .val (.int (own_bit p2 (2 : Int32))), .val (.int (own_bit p2 (4 : Int32))), .val (.ref b7), .val (.ref b9), .val (.int (p3 &&& (3 : Int32))), .val (.int (0 : Int32)), .val (.int (own_eq (own_bit p1 (1 : Int32)) (own_bit p1 (2 : Int32)) (own_bit p1 (4 : Int32)) (own_bit p2 (1 : Int32)) (own_bit p2 (2 : Int32)) (own_bit p2 (4 : Int32)))), .unset] [])) _
        refine XS.aload X21.here hx rfl (hb hby at_143) rfl rfl ?_
        show Steps p.tables e below (T21.setTop (mkF m 145 #[.val (.int p1), .val (.int p2), .val (.int p3), .val (.int (own_bit p1 (1 : Int32))), .val (.int (own_bit p1 (2 : Int32))), .val (.int (own_bit p1 (4 : Int32))), .val (.int (own_bit p2 (1 : Int32))), .val (.int (own_bit p2 (2 : Int32))), .val (.int (own_bit p2 (4 : Int32))), .val (.ref b7), .val (.ref b9), .val (.int (p3 &&& (3 : Int32))), .val (.int (0 : Int32)), .val (.int (own_eq (own_bit p1 (1 : Int32)) (own_bit p1 (2 : Int32)) (own_bit p1 (4 : Int32)) (own_bit p2 (1 : Int32)) (own_bit p2 (2 : Int32)) (own_bit p2 (4 : Int32)))), .unset] [(.ref b9)])) _
        refine XS.aload X21.here hx rfl (hb hby at_145) rfl rfl ?_
        show Steps p.tables e below (T21.setTop (mkF m 147 #[.val (.int p1), .val (.int p2), .val (.int p3), .val (.int (own_bit p1 (1 : Int32))), .val (.int (own_bit p1 (2 : Int32))), .val (.int (own_bit p1 (4 : Int32))), .val (.int (own_bit p2 (1 : Int32))), .val (.int (own_bit p2 (2 : Int32))), .val (.int (own_bit p2 (4 : Int32))), .val (.ref b7), .val (.ref b9), .val (.int (p3 &&& (3 : Int32))), .val (.int (0 : Int32)), .val (.int (own_eq (own_bit p1 (1 : Int32)) (own_bit p1 (2 : Int32)) (own_bit p1 (4 : Int32)) (own_bit p2 (1 : Int32)) (own_bit p2 (2 : Int32)) (own_bit p2 (4 : Int32)))), .unset] [(.ref b7), (.ref b9)])) _
        refine st26.trans ?_
        show Steps p.tables e below (T26.setTop (mkF m 150 #[.val (.int p1), .val (.int p2), .val (.int p3), .val (.int (own_bit p1 (1 : Int32))), .val (.int (own_bit p1 (2 : Int32))), .val (.int (own_bit p1 (4 : Int32))), .val (.int (own_bit p2 (1 : Int32))), .val (.int (own_bit p2 (2 : Int32))), .val (.int (own_bit p2 (4 : Int32))), .val (.ref b7), .val (.ref b9), .val (.int (p3 &&& (3 : Int32))), .val (.int (0 : Int32)), .val (.int (own_eq (own_bit p1 (1 : Int32)) (own_bit p1 (2 : Int32)) (own_bit p1 (4 : Int32)) (own_bit p2 (1 : Int32)) (own_bit p2 (2 : Int32)) (own_bit p2 (4 : Int32)))), .unset] [(.int (own_eq (own_bit p2 (1 : Int32)) (own_bit p2 (2 : Int32)) (own_bit p2 (4 : Int32)) (own_bit p1 (1 : Int32)) (own_bit p1 (2 : Int32)) (own_bit p1 (4 : Int32))))])) _
        refine XS.istore X26.here hx rfl (hb hby at_150) rfl (l' := #[.val (.int p1), .val (.int p2), .val (.int p3), .val (.int (own_bit p1 (1 : Int32))), .val (.int (own_bit p1 (2 : Int32))), .val (.int (own_bit p1 (4 : Int32))), .val (.int (own_bit p2 (1 : Int32))), .val (.int (own_bit p2 (2 : Int32))), .val (.int (own_bit p2 (4 : Int32))), .val (.ref b7), .val (.ref b9), .val (.int (p3 &&& (3 : Int32))), .val (.int (0 : Int32)), .val (.int (own_eq (own_bit p1 (1 : Int32)) (own_bit p1 (2 : Int32)) (own_bit p1 (4 : Int32)) (own_bit p2 (1 : Int32)) (own_bit p2 (2 : Int32)) (own_bit p2 (4 : Int32)))), .val (.int (own_eq (own_bit p2 (1 : Int32)) (own_bit p2 (2 : Int32)) (own_bit p2 (4 : Int32)) (own_bit p1 (1 : Int32)) (own_bit p1 (2 : Int32)) (own_bit p1 (4 : Int32))))]) rfl ?_
        show Steps p.tables e below (T26.setTop (mkF m 152 #[.val (.int p1), .val (.int p2), .val (.int p3), .val (.int (own_bit p1 (1 : Int32))), .val (.int (own_bit p1 (2 : Int32))), .val (.int (own_bit p1 (4 : Int32))), .val (.int (own_bit p2 (1 : Int32))), .val (.int (own_bit p2 (2 : Int32))), .val (.int (own_bit p2 (4 : Int32))), .val (.ref b7), .val (.ref b9), .val (.int (p3 &&& (3 : Int32))), .val (.int (0 : Int32)), .val (.int (own_eq (own_bit p1 (1 : Int32)) (own_bit p1 (2 : Int32)) (own_bit p1 (4 : Int32)) (own_bit p2 (1 : Int32)) (own_bit p2 (2 : Int32)) (own_bit p2 (4 : Int32)))), .val (.int (own_eq (own_bit p2 (1 : Int32)) (own_bit p2 (2 : Int32)) (own_bit p2 (4 : Int32)) (own_bit p1 (1 : Int32)) (own_bit p1 (2 : Int32)) (own_bit p1 (4 : Int32))))] [])) _
        refine XS.iload X26.here hx rfl (hb hby at_152) rfl ?_
        show Steps p.tables e below (T26.setTop (mkF m 154 #[.val (.int p1), .val (.int p2), .val (.int p3), .val (.int (own_bit p1 (1 : Int32))), .val (.int (own_bit p1 (2 : Int32))), .val (.int (own_bit p1 (4 : Int32))), .val (.int (own_bit p2 (1 : Int32))), .val (.int (own_bit p2 (2 : Int32))), .val (.int (own_bit p2 (4 : Int32))), .val (.ref b7), .val (.ref b9), .val (.int (p3 &&& (3 : Int32))), .val (.int (0 : Int32)), .val (.int (own_eq (own_bit p1 (1 : Int32)) (own_bit p1 (2 : Int32)) (own_bit p1 (4 : Int32)) (own_bit p2 (1 : Int32)) (own_bit p2 (2 : Int32)) (own_bit p2 (4 : Int32)))), .val (.int (own_eq (own_bit p2 (1 : Int32)) (own_bit p2 (2 : Int32)) (own_bit p2 (4 : Int32)) (own_bit p1 (1 : Int32)) (own_bit p1 (2 : Int32)) (own_bit p1 (4 : Int32))))] [(.int (own_eq (own_bit p1 (1 : Int32)) (own_bit p1 (2 : Int32)) (own_bit p1 (4 : Int32)) (own_bit p2 (1 : Int32)) (own_bit p2 (2 : Int32)) (own_bit p2 (4 : Int32))))])) _
        refine XS.iload X26.here hx rfl (hb hby at_154) rfl ?_
        show Steps p.tables e below (T26.setTop (mkF m 156 #[.val (.int p1), .val (.int p2), .val (.int p3), .val (.int (own_bit p1 (1 : Int32))), .val (.int (own_bit p1 (2 : Int32))), .val (.int (own_bit p1 (4 : Int32))), .val (.int (own_bit p2 (1 : Int32))), .val (.int (own_bit p2 (2 : Int32))), .val (.int (own_bit p2 (4 : Int32))), .val (.ref b7), .val (.ref b9), .val (.int (p3 &&& (3 : Int32))), .val (.int (0 : Int32)), .val (.int (own_eq (own_bit p1 (1 : Int32)) (own_bit p1 (2 : Int32)) (own_bit p1 (4 : Int32)) (own_bit p2 (1 : Int32)) (own_bit p2 (2 : Int32)) (own_bit p2 (4 : Int32)))), .val (.int (own_eq (own_bit p2 (1 : Int32)) (own_bit p2 (2 : Int32)) (own_bit p2 (4 : Int32)) (own_bit p1 (1 : Int32)) (own_bit p1 (2 : Int32)) (own_bit p1 (4 : Int32))))] [(.int (0 : Int32)), (.int (own_eq (own_bit p1 (1 : Int32)) (own_bit p1 (2 : Int32)) (own_bit p1 (4 : Int32)) (own_bit p2 (1 : Int32)) (own_bit p2 (2 : Int32)) (own_bit p2 (4 : Int32))))])) _
        refine XS.icmpNo X26.here hx rfl (hb hby at_156) rfl (teq hd27).2 ?_
        show Steps p.tables e below (T26.setTop (mkF m 159 #[.val (.int p1), .val (.int p2), .val (.int p3), .val (.int (own_bit p1 (1 : Int32))), .val (.int (own_bit p1 (2 : Int32))), .val (.int (own_bit p1 (4 : Int32))), .val (.int (own_bit p2 (1 : Int32))), .val (.int (own_bit p2 (2 : Int32))), .val (.int (own_bit p2 (4 : Int32))), .val (.ref b7), .val (.ref b9), .val (.int (p3 &&& (3 : Int32))), .val (.int (0 : Int32)), .val (.int (own_eq (own_bit p1 (1 : Int32)) (own_bit p1 (2 : Int32)) (own_bit p1 (4 : Int32)) (own_bit p2 (1 : Int32)) (own_bit p2 (2 : Int32)) (own_bit p2 (4 : Int32)))), .val (.int (own_eq (own_bit p2 (1 : Int32)) (own_bit p2 (2 : Int32)) (own_bit p2 (4 : Int32)) (own_bit p1 (1 : Int32)) (own_bit p1 (2 : Int32)) (own_bit p1 (4 : Int32))))] [])) _
        refine XS.iload X26.here hx rfl (hb hby at_159) rfl ?_
        show Steps p.tables e below (T26.setTop (mkF m 161 #[.val (.int p1), .val (.int p2), .val (.int p3), .val (.int (own_bit p1 (1 : Int32))), .val (.int (own_bit p1 (2 : Int32))), .val (.int (own_bit p1 (4 : Int32))), .val (.int (own_bit p2 (1 : Int32))), .val (.int (own_bit p2 (2 : Int32))), .val (.int (own_bit p2 (4 : Int32))), .val (.ref b7), .val (.ref b9), .val (.int (p3 &&& (3 : Int32))), .val (.int (0 : Int32)), .val (.int (own_eq (own_bit p1 (1 : Int32)) (own_bit p1 (2 : Int32)) (own_bit p1 (4 : Int32)) (own_bit p2 (1 : Int32)) (own_bit p2 (2 : Int32)) (own_bit p2 (4 : Int32)))), .val (.int (own_eq (own_bit p2 (1 : Int32)) (own_bit p2 (2 : Int32)) (own_bit p2 (4 : Int32)) (own_bit p1 (1 : Int32)) (own_bit p1 (2 : Int32)) (own_bit p1 (4 : Int32))))] [(.int (own_eq (own_bit p2 (1 : Int32)) (own_bit p2 (2 : Int32)) (own_bit p2 (4 : Int32)) (own_bit p1 (1 : Int32)) (own_bit p1 (2 : Int32)) (own_bit p1 (4 : Int32))))])) _
        refine XS.iload X26.here hx rfl (hb hby at_161) rfl ?_
        show Steps p.tables e below (T26.setTop (mkF m 163 #[.val (.int p1), .val (.int p2), .val (.int p3), .val (.int (own_bit p1 (1 : Int32))), .val (.int (own_bit p1 (2 : Int32))), .val (.int (own_bit p1 (4 : Int32))), .val (.int (own_bit p2 (1 : Int32))), .val (.int (own_bit p2 (2 : Int32))), .val (.int (own_bit p2 (4 : Int32))), .val (.ref b7), .val (.ref b9), .val (.int (p3 &&& (3 : Int32))), .val (.int (0 : Int32)), .val (.int (own_eq (own_bit p1 (1 : Int32)) (own_bit p1 (2 : Int32)) (own_bit p1 (4 : Int32)) (own_bit p2 (1 : Int32)) (own_bit p2 (2 : Int32)) (own_bit p2 (4 : Int32)))), .val (.int (own_eq (own_bit p2 (1 : Int32)) (own_bit p2 (2 : Int32)) (own_bit p2 (4 : Int32)) (own_bit p1 (1 : Int32)) (own_bit p1 (2 : Int32)) (own_bit p1 (4 : Int32))))] [(.int (0 : Int32)), (.int (own_eq (own_bit p2 (1 : Int32)) (own_bit p2 (2 : Int32)) (own_bit p2 (4 : Int32)) (own_bit p1 (1 : Int32)) (own_bit p1 (2 : Int32)) (own_bit p1 (4 : Int32))))])) _
        refine XS.icmpNo X26.here hx rfl (hb hby at_163) rfl (teq hd28).2 ?_
        show Steps p.tables e below (T26.setTop (mkF m 166 #[.val (.int p1), .val (.int p2), .val (.int p3), .val (.int (own_bit p1 (1 : Int32))), .val (.int (own_bit p1 (2 : Int32))), .val (.int (own_bit p1 (4 : Int32))), .val (.int (own_bit p2 (1 : Int32))), .val (.int (own_bit p2 (2 : Int32))), .val (.int (own_bit p2 (4 : Int32))), .val (.ref b7), .val (.ref b9), .val (.int (p3 &&& (3 : Int32))), .val (.int (0 : Int32)), .val (.int (own_eq (own_bit p1 (1 : Int32)) (own_bit p1 (2 : Int32)) (own_bit p1 (4 : Int32)) (own_bit p2 (1 : Int32)) (own_bit p2 (2 : Int32)) (own_bit p2 (4 : Int32)))), .val (.int (own_eq (own_bit p2 (1 : Int32)) (own_bit p2 (2 : Int32)) (own_bit p2 (4 : Int32)) (own_bit p1 (1 : Int32)) (own_bit p1 (2 : Int32)) (own_bit p1 (4 : Int32))))] [])) _
        refine XS.iconst X26.here hx rfl (hb hby at_166) ?_
        show Steps p.tables e below (T26.setTop (mkF m 167 #[.val (.int p1), .val (.int p2), .val (.int p3), .val (.int (own_bit p1 (1 : Int32))), .val (.int (own_bit p1 (2 : Int32))), .val (.int (own_bit p1 (4 : Int32))), .val (.int (own_bit p2 (1 : Int32))), .val (.int (own_bit p2 (2 : Int32))), .val (.int (own_bit p2 (4 : Int32))), .val (.ref b7), .val (.ref b9), .val (.int (p3 &&& (3 : Int32))), .val (.int (0 : Int32)), .val (.int (own_eq (own_bit p1 (1 : Int32)) (own_bit p1 (2 : Int32)) (own_bit p1 (4 : Int32)) (own_bit p2 (1 : Int32)) (own_bit p2 (2 : Int32)) (own_bit p2 (4 : Int32)))), .val (.int (own_eq (own_bit p2 (1 : Int32)) (own_bit p2 (2 : Int32)) (own_bit p2 (4 : Int32)) (own_bit p1 (1 : Int32)) (own_bit p1 (2 : Int32)) (own_bit p1 (4 : Int32))))] [(.int (1 : Int32))])) _
        refine XS.goto X26.here hx rfl (pc0 := 167) (pc' := 171) rfl (hb hby at_167) (by decide) (by decide) ?_
        show Steps p.tables e below (T26.setTop (mkF m 171 #[.val (.int p1), .val (.int p2), .val (.int p3), .val (.int (own_bit p1 (1 : Int32))), .val (.int (own_bit p1 (2 : Int32))), .val (.int (own_bit p1 (4 : Int32))), .val (.int (own_bit p2 (1 : Int32))), .val (.int (own_bit p2 (2 : Int32))), .val (.int (own_bit p2 (4 : Int32))), .val (.ref b7), .val (.ref b9), .val (.int (p3 &&& (3 : Int32))), .val (.int (0 : Int32)), .val (.int (own_eq (own_bit p1 (1 : Int32)) (own_bit p1 (2 : Int32)) (own_bit p1 (4 : Int32)) (own_bit p2 (1 : Int32)) (own_bit p2 (2 : Int32)) (own_bit p2 (4 : Int32)))), .val (.int (own_eq (own_bit p2 (1 : Int32)) (own_bit p2 (2 : Int32)) (own_bit p2 (4 : Int32)) (own_bit p1 (1 : Int32)) (own_bit p1 (2 : Int32)) (own_bit p1 (4 : Int32))))] [(.int (1 : Int32))])) _
        exact retN X26 hx (t := .boolean) Bd.returns (by simp) (hb hby at_171) hr
      · show Q_rm0 Z p1 p2 p3 wc clc h0 n0 _ T26.heap _
        rw [eq26]
        exact ⟨rfl, N26⟩
  · have pre29 : ∀ t, Steps p.tables e below (T10.setTop (mkF m 175 #[.val (.int p1), .val (.int p2), .val (.int p3), .val (.int (own_bit p1 (1 : Int32))), .val (.int (own_bit p1 (2 : Int32))), .val (.int (own_bit p1 (4 : Int32))), .val (.int (own_bit p2 (1 : Int32))), .val (.int (own_bit p2 (2 : Int32))), .val (.int (own_bit p2 (4 : Int32))), .val (.ref b7), .val (.ref b9), .val (.int (p3 &&& (3 : Int32))), .unset, .unset, .unset] [(.int (1 : Int32)), (.int (p3 &&& (3 : Int32)))])) t → Steps p.tables e below (s₁.setTop (entryFrame m #[(.int p1), (.int p2), (.int p3)] maxLocals)) t := by
      intro t kt
      refine pre11 _ ?_
      show Steps p.tables e below (T10.setTop (mkF m 113 #[.val (.int p1), .val (.int p2), .val (.int p3), .val (.int (own_bit p1 (1 : Int32))), .val (.int (own_bit p1 (2 : Int32))), .val (.int (own_bit p1 (4 : Int32))), .val (.int (own_bit p2 (1 : Int32))), .val (.int (own_bit p2 (2 : Int32))), .val (.int (own_bit p2 (4 : Int32))), .val (.ref b7), .val (.ref b9), .val (.int (p3 &&& (3 : Int32))), .unset, .unset, .unset] [(.int (p3 &&& (3 : Int32)))])) _
      refine XS.ifYes X10.here hx rfl (pc0 := 113) (pc' := 172) rfl (hb hby at_113) rfl ((if0 _ _).trans (feq hc113_11).2) (by decide) (by decide) ?_
      show Steps p.tables e below (T10.setTop (mkF m 172 #[.val (.int p1), .val (.int p2), .val (.int p3), .val (.int (own_bit p1 (1 : Int32))), .val (.int (own_bit p1 (2 : Int32))), .val (.int (own_bit p1 (4 : Int32))), .val (.int (own_bit p2 (1 : Int32))), .val (.int (own_bit p2 (2 : Int32))), .val (.int (own_bit p2 (4 : Int32))), .val (.ref b7), .val (.ref b9), .val (.int (p3 &&& (3 : Int32))), .unset, .unset, .unset] [])) _
      refine XS.iload X10.here hx rfl (hb hby at_172) rfl ?_
      show Steps p.tables e below (T10.setTop (mkF m 174 #[.val (.int p1), .val (.int p2), .val (.int p3), .val (.int (own_bit p1 (1 : Int32))), .val (.int (own_bit p1 (2 : Int32))), .val (.int (own_bit p1 (4 : Int32))), .val (.int (own_bit p2 (1 : Int32))), .val (.int (own_bit p2 (2 : Int32))), .val (.int (own_bit p2 (4 : Int32))), .val (.ref b7), .val (.ref b9), .val (.int (p3 &&& (3 : Int32))), .unset, .unset, .unset] [(.int (p3 &&& (3 : Int32)))])) _
      refine XS.iconst X10.here hx rfl (hb hby at_174) ?_
      exact kt
    by_cases hc175_29 : (p3 &&& (3 : Int32)) = (1 : Int32)
    · have f31 := ((Ea8.ext E9).keep Kq10)
      obtain ⟨cq30, kq30, q30a, q30b, q30c⟩ := isOf hZ rfl f31
      obtain ⟨_, _, ⟨T30, L30, k30, n30⟩, -, X30, ⟨Lc30, hQ30, l30, y30, z30⟩, st30⟩ := X10.virtualBack hx (y := (⟨"com/example/semaforo/semaforo/network/Lane", "equals", "(Ljava/lang/Object;)Z"⟩ : MethodName)) (z := (⟨"com/example/semaforo/semaforo/network/Lane", "equals", "(Ljava/lang/Object;)Z"⟩ : MethodName)) hown (mvT hZ (hw _ (List.mem_of_getElem? (i := 15) rfl))) (mvT hZ (hw _ (List.mem_of_getElem? (i := 16) rfl))) (notFace_of_selects (args := #[]) (mvT hZ (hw _ (List.mem_of_getElem? (i := 18) rfl)))) (mvT hZ (hw _ (List.mem_of_getElem? (i := 18) rfl))) (mvT hZ (hw _ (List.mem_of_getElem? (i := 17) rfl))) (by decide) (backOf (W := 0) (eqS l Z a0 hw [] b7 T10.heap n0 O10) hZ (hw _ (List.mem_of_getElem? (i := 19) rfl)) (hw _ (List.mem_of_getElem? (i := 2) rfl)) (by decide) (by decide)) q30a q30c (g := (mkF m 182 #[.val (.int p1), .val (.int p2), .val (.int p3), .val (.int (own_bit p1 (1 : Int32))), .val (.int (own_bit p1 (2 : Int32))), .val (.int (own_bit p1 (4 : Int32))), .val (.int (own_bit p2 (1 : Int32))), .val (.int (own_bit p2 (2 : Int32))), .val (.int (own_bit p2 (4 : Int32))), .val (.ref b7), .val (.ref b9), .val (.int (p3 &&& (3 : Int32))), .unset, .unset, .unset] [(.ref b7), (.ref b7)])) rfl (by rw [hml]; rfl) (Steps.refl _) (argsL := [(.ref b7)]) (rest := []) (lenOf pd__Ljava_lang_Object__Z rfl) rfl (by show 2 * 0 + _ ≤ _; exact Nat.le_of_eq rfl) (hb hby at_182) (fun _ _ => ⟨rfl, rfl, (by decide : 2 + 0 ≤ _), (by decide : 6 + 0 ≤ _)⟩)
      dsimp only [Pt.U, Pt.locs, Pt.cells, Pt.slots] at X30 l30 y30 z30 st30 hQ30
      subst l30 y30 z30
      obtain ⟨rfl, Nq30, eq30⟩ := hQ30
      have N30 := Fr.app N10 Nq30
      obtain ⟨fs, hr, hrun, hended, hW, hsame⟩ := X30.leave (v := some (.int (1 : Int32))) (fun h => by rw [Bd.returns] at h; cases h)
      refine ⟨_, _, pre29 _ ?_, hrun, hended, _, _, rfl, ?_, ⟨_, rfl⟩, hW, hsame.mono (by decide) (by decide)⟩
      · show Steps p.tables e below (T10.setTop (mkF m 175 #[.val (.int p1), .val (.int p2), .val (.int p3), .val (.int (own_bit p1 (1 : Int32))), .val (.int (own_bit p1 (2 : Int32))), .val (.int (own_bit p1 (4 : Int32))), .val (.int (own_bit p2 (1 : Int32))), .val (.int (own_bit p2 (2 : Int32))), .val (.int (own_bit p2 (4 : Int32))), .val (.ref b7), .val (.ref b9), .val (.int (p3 &&& (3 : Int32))), .unset, .unset, .unset] [(.int (1 : Int32)), (.int (p3 &&& (3 : Int32)))])) _
        refine XS.icmpNo X10.here hx rfl (hb hby at_175) rfl (teq hc175_29).2 ?_
        show Steps p.tables e below (T10.setTop (mkF m 178 #[.val (.int p1), .val (.int p2), .val (.int p3), .val (.int (own_bit p1 (1 : Int32))), .val (.int (own_bit p1 (2 : Int32))), .val (.int (own_bit p1 (4 : Int32))), .val (.int (own_bit p2 (1 : Int32))), .val (.int (own_bit p2 (2 : Int32))), .val (.int (own_bit p2 (4 : Int32))), .val (.ref b7), .val (.ref b9), .val (.int (p3 &&& (3 : Int32))), .unset, .unset, .unset] [])) _
        refine XS.aload X10.here hx rfl (hb hby at_178) rfl rfl ?_
        show Steps p.tables e below (T10.setTop (mkF m 180 #[.val (.int p1), .val (.int p2), .val (.int p3), .val (.int (own_bit p1 (1 : Int32))), .val (.int (own_bit p1 (2 : Int32))), .val (.int (own_bit p1 (4 : Int32))), .val (.int (own_bit p2 (1 : Int32))), .val (.int (own_bit p2 (2 : Int32))), .val (.int (own_bit p2 (4 : Int32))), .val (.ref b7), .val (.ref b9), .val (.int (p3 &&& (3 : Int32))), .unset, .unset, .unset] [(.ref b7)])) _
        refine XS.aload X10.here hx rfl (hb hby at_180) rfl rfl ?_
        show Steps p.tables e below (T10.setTop (mkF m 182 #[.val (.int p1), .val (.int p2), .val (.int p3), .val (.int (own_bit p1 (1 : Int32))), .val (.int (own_bit p1 (2 : Int32))), .val (.int (own_bit p1 (4 : Int32))), .val (.int (own_bit p2 (1 : Int32))), .val (.int (own_bit p2 (2 : Int32))), .val (.int (own_bit p2 (4 : Int32))), .val (.ref b7), .val (.ref b9), .val (.int (p3 &&& (3 : Int32))), .unset, .unset, .unset] [(.ref b7), (.ref b7)])) _
        refine st30.trans ?_
        show Steps p.tables e below (T30.setTop (mkF m 185 #[.val (.int p1), .val (.int p2), .val (.int p3), .val (.int (own_bit p1 (1 : Int32))), .val (.int (own_bit p1 (2 : Int32))), .val (.int (own_bit p1 (4 : Int32))), .val (.int (own_bit p2 (1 : Int32))), .val (.int (own_bit p2 (2 : Int32))), .val (.int (own_bit p2 (4 : Int32))), .val (.ref b7), .val (.ref b9), .val (.int (p3 &&& (3 : Int32))), .unset, .unset, .unset] [(.int (1 : Int32))])) _
        exact retN X30 hx (t := .boolean) Bd.returns (by simp) (hb hby at_185) hr
      · show Q_rm0 Z p1 p2 p3 wc clc h0 n0 _ T30.heap _
        rw [eq30]
        exact ⟨rfl, N30⟩
    · have pre32 : ∀ t, Steps p.tables e below (T10.setTop (mkF m 189 #[.val (.int p1), .val (.int p2), .val (.int p3), .val (.int (own_bit p1 (1 : Int32))), .val (.int (own_bit p1 (2 : Int32))), .val (.int (own_bit p1 (4 : Int32))), .val (.int (own_bit p2 (1 : Int32))), .val (.int (own_bit p2 (2 : Int32))), .val (.int (own_bit p2 (4 : Int32))), .val (.ref b7), .val (.ref b9), .val (.int (p3 &&& (3 : Int32))), .unset, .unset, .unset] [(.int (2 : Int32)), (.int (p3 &&& (3 : Int32)))])) t → Steps p.tables e below (s₁.setTop (entryFrame m #[(.int p1), (.int p2), (.int p3)] maxLocals)) t := by
        intro t kt
        refine pre29 _ ?_
        show Steps p.tables e below (T10.setTop (mkF m 175 #[.val (.int p1), .val (.int p2), .val (.int p3), .val (.int (own_bit p1 (1 : Int32))), .val (.int (own_bit p1 (2 : Int32))), .val (.int (own_bit p1 (4 : Int32))), .val (.int (own_bit p2 (1 : Int32))), .val (.int (own_bit p2 (2 : Int32))), .val (.int (own_bit p2 (4 : Int32))), .val (.ref b7), .val (.ref b9), .val (.int (p3 &&& (3 : Int32))), .unset, .unset, .unset] [(.int (1 : Int32)), (.int (p3 &&& (3 : Int32)))])) _
        refine XS.icmpYes X10.here hx rfl (pc0 := 175) (pc' := 186) rfl (hb hby at_175) rfl (feq hc175_29).2 (by decide) (by decide) ?_
        show Steps p.tables e below (T10.setTop (mkF m 186 #[.val (.int p1), .val (.int p2), .val (.int p3), .val (.int (own_bit p1 (1 : Int32))), .val (.int (own_bit p1 (2 : Int32))), .val (.int (own_bit p1 (4 : Int32))), .val (.int (own_bit p2 (1 : Int32))), .val (.int (own_bit p2 (2 : Int32))), .val (.int (own_bit p2 (4 : Int32))), .val (.ref b7), .val (.ref b9), .val (.int (p3 &&& (3 : Int32))), .unset, .unset, .unset] [])) _
        refine XS.iload X10.here hx rfl (hb hby at_186) rfl ?_
        show Steps p.tables e below (T10.setTop (mkF m 188 #[.val (.int p1), .val (.int p2), .val (.int p3), .val (.int (own_bit p1 (1 : Int32))), .val (.int (own_bit p1 (2 : Int32))), .val (.int (own_bit p1 (4 : Int32))), .val (.int (own_bit p2 (1 : Int32))), .val (.int (own_bit p2 (2 : Int32))), .val (.int (own_bit p2 (4 : Int32))), .val (.ref b7), .val (.ref b9), .val (.int (p3 &&& (3 : Int32))), .unset, .unset, .unset] [(.int (p3 &&& (3 : Int32)))])) _
        refine XS.iconst X10.here hx rfl (hb hby at_188) ?_
        exact kt
      by_cases hc189_32 : (p3 &&& (3 : Int32)) = (2 : Int32)
      · have f34 := ((Ea8.ext E9).keep Kq10)
        obtain ⟨cq33, kq33, q33a, q33b, q33c⟩ := isOf hZ rfl f34
        obtain ⟨_, _, ⟨T33, L33, k33, n33⟩, -, X33, ⟨Lc33, hQ33, l33, y33, z33⟩, st33⟩ := X10.virtualBack hx (y := (⟨"com/example/semaforo/semaforo/network/Lane", "equals", "(Ljava/lang/Object;)Z"⟩ : MethodName)) (z := (⟨"com/example/semaforo/semaforo/network/Lane", "equals", "(Ljava/lang/Object;)Z"⟩ : MethodName)) hown (mvT hZ (hw _ (List.mem_of_getElem? (i := 15) rfl))) (mvT hZ (hw _ (List.mem_of_getElem? (i := 16) rfl))) (notFace_of_selects (args := #[]) (mvT hZ (hw _ (List.mem_of_getElem? (i := 18) rfl)))) (mvT hZ (hw _ (List.mem_of_getElem? (i := 18) rfl))) (mvT hZ (hw _ (List.mem_of_getElem? (i := 17) rfl))) (by decide) (backOf (W := 0) (eqN l Z a0 hw [] b7 T10.heap n0 O10) hZ (hw _ (List.mem_of_getElem? (i := 19) rfl)) (hw _ (List.mem_of_getElem? (i := 2) rfl)) (by decide) (by decide)) q33a q33c (g := (mkF m 195 #[.val (.int p1), .val (.int p2), .val (.int p3), .val (.int (own_bit p1 (1 : Int32))), .val (.int (own_bit p1 (2 : Int32))), .val (.int (own_bit p1 (4 : Int32))), .val (.int (own_bit p2 (1 : Int32))), .val (.int (own_bit p2 (2 : Int32))), .val (.int (own_bit p2 (4 : Int32))), .val (.ref b7), .val (.ref b9), .val (.int (p3 &&& (3 : Int32))), .unset, .unset, .unset] [.null, (.ref b7)])) rfl (by rw [hml]; rfl) (Steps.refl _) (argsL := [.null]) (rest := []) (lenOf pd__Ljava_lang_Object__Z rfl) rfl (by show 2 * 0 + _ ≤ _; exact Nat.le_of_eq rfl) (hb hby at_195) (fun _ _ => ⟨rfl, rfl, (by decide : 2 + 0 ≤ _), (by decide : 6 + 0 ≤ _)⟩)
        dsimp only [Pt.U, Pt.locs, Pt.cells, Pt.slots] at X33 l33 y33 z33 st33 hQ33
        subst l33 y33 z33
        obtain ⟨rfl, Nq33, eq33⟩ := hQ33
        have N33 := Fr.app N10 Nq33
        obtain ⟨fs, hr, hrun, hended, hW, hsame⟩ := X33.leave (v := some (.int (1 : Int32))) (fun h => by rw [Bd.returns] at h; cases h)
        refine ⟨_, _, pre32 _ ?_, hrun, hended, _, _, rfl, ?_, ⟨_, rfl⟩, hW, hsame.mono (by decide) (by decide)⟩
        · show Steps p.tables e below (T10.setTop (mkF m 189 #[.val (.int p1), .val (.int p2), .val (.int p3), .val (.int (own_bit p1 (1 : Int32))), .val (.int (own_bit p1 (2 : Int32))), .val (.int (own_bit p1 (4 : Int32))), .val (.int (own_bit p2 (1 : Int32))), .val (.int (own_bit p2 (2 : Int32))), .val (.int (own_bit p2 (4 : Int32))), .val (.ref b7), .val (.ref b9), .val (.int (p3 &&& (3 : Int32))), .unset, .unset, .unset] [(.int (2 : Int32)), (.int (p3 &&& (3 : Int32)))])) _
          refine XS.icmpNo X10.here hx rfl (hb hby at_189) rfl (teq hc189_32).2 ?_
          show Steps p.tables e below (T10.setTop (mkF m 192 #[.val (.int p1), .val (.int p2), .val (.int p3), .val (.int (own_bit p1 (1 : Int32))), .val (.int (own_bit p1 (2 : Int32))), .val (.int (own_bit p1 (4 : Int32))), .val (.int (own_bit p2 (1 : Int32))), .val (.int (own_bit p2 (2 : Int32))), .val (.int (own_bit p2 (4 : Int32))), .val (.ref b7), .val (.ref b9), .val (.int (p3 &&& (3 : Int32))), .unset, .unset, .unset] [])) _
          refine XS.aload X10.here hx rfl (hb hby at_192) rfl rfl ?_
          show Steps p.tables e below (T10.setTop (mkF m 194 #[.val (.int p1), .val (.int p2), .val (.int p3), .val (.int (own_bit p1 (1 : Int32))), .val (.int (own_bit p1 (2 : Int32))), .val (.int (own_bit p1 (4 : Int32))), .val (.int (own_bit p2 (1 : Int32))), .val (.int (own_bit p2 (2 : Int32))), .val (.int (own_bit p2 (4 : Int32))), .val (.ref b7), .val (.ref b9), .val (.int (p3 &&& (3 : Int32))), .unset, .unset, .unset] [(.ref b7)])) _
          refine XS.aconstNull X10.here hx rfl (hb hby at_194) ?_
          show Steps p.tables e below (T10.setTop (mkF m 195 #[.val (.int p1), .val (.int p2), .val (.int p3), .val (.int (own_bit p1 (1 : Int32))), .val (.int (own_bit p1 (2 : Int32))), .val (.int (own_bit p1 (4 : Int32))), .val (.int (own_bit p2 (1 : Int32))), .val (.int (own_bit p2 (2 : Int32))), .val (.int (own_bit p2 (4 : Int32))), .val (.ref b7), .val (.ref b9), .val (.int (p3 &&& (3 : Int32))), .unset, .unset, .unset] [.null, (.ref b7)])) _
          refine st33.trans ?_
          show Steps p.tables e below (T33.setTop (mkF m 198 #[.val (.int p1), .val (.int p2), .val (.int p3), .val (.int (own_bit p1 (1 : Int32))), .val (.int (own_bit p1 (2 : Int32))), .val (.int (own_bit p1 (4 : Int32))), .val (.int (own_bit p2 (1 : Int32))), .val (.int (own_bit p2 (2 : Int32))), .val (.int (own_bit p2 (4 : Int32))), .val (.ref b7), .val (.ref b9), .val (.int (p3 &&& (3 : Int32))), .unset, .unset, .unset] [(.int (0 : Int32))])) _
          refine XS.ifNo X33.here hx rfl (hb hby at_198) rfl ((if0 _ _).trans (teq (by decide : (0 : Int32) = (0 : Int32))).2) ?_
          show Steps p.tables e below (T33.setTop (mkF m 201 #[.val (.int p1), .val (.int p2), .val (.int p3), .val (.int (own_bit p1 (1 : Int32))), .val (.int (own_bit p1 (2 : Int32))), .val (.int (own_bit p1 (4 : Int32))), .val (.int (own_bit p2 (1 : Int32))), .val (.int (own_bit p2 (2 : Int32))), .val (.int (own_bit p2 (4 : Int32))), .val (.ref b7), .val (.ref b9), .val (.int (p3 &&& (3 : Int32))), .unset, .unset, .unset] [])) _
          refine XS.iconst X33.here hx rfl (hb hby at_201) ?_
          show Steps p.tables e below (T33.setTop (mkF m 202 #[.val (.int p1), .val (.int p2), .val (.int p3), .val (.int (own_bit p1 (1 : Int32))), .val (.int (own_bit p1 (2 : Int32))), .val (.int (own_bit p1 (4 : Int32))), .val (.int (own_bit p2 (1 : Int32))), .val (.int (own_bit p2 (2 : Int32))), .val (.int (own_bit p2 (4 : Int32))), .val (.ref b7), .val (.ref b9), .val (.int (p3 &&& (3 : Int32))), .unset, .unset, .unset] [(.int (1 : Int32))])) _
          refine XS.goto X33.here hx rfl (pc0 := 202) (pc' := 206) rfl (hb hby at_202) (by decide) (by decide) ?_
          show Steps p.tables e below (T33.setTop (mkF m 206 #[.val (.int p1), .val (.int p2), .val (.int p3), .val (.int (own_bit p1 (1 : Int32))), .val (.int (own_bit p1 (2 : Int32))), .val (.int (own_bit p1 (4 : Int32))), .val (.int (own_bit p2 (1 : Int32))), .val (.int (own_bit p2 (2 : Int32))), .val (.int (own_bit p2 (4 : Int32))), .val (.ref b7), .val (.ref b9), .val (.int (p3 &&& (3 : Int32))), .unset, .unset, .unset] [(.int (1 : Int32))])) _
          exact retN X33 hx (t := .boolean) Bd.returns (by simp) (hb hby at_206) hr
        · show Q_rm0 Z p1 p2 p3 wc clc h0 n0 _ T33.heap _
          rw [eq33]
          exact ⟨rfl, N33⟩
      · obtain ⟨_, _, ⟨T35, L35, k35, n35⟩, -, X35, ⟨Lc35, hQ35, l35, y35, z35⟩, st35⟩ := Jvm.LawKit.callS X10 hx (y := (⟨"java/lang/Integer", "valueOf", "(I)Ljava/lang/Integer;"⟩ : MethodName)) hown (mvT hZ (hw _ (List.mem_of_getElem? (i := 20) rfl))) (mvT hZ (hw _ (List.mem_of_getElem? (i := 21) rfl))) (mvT hZ (hw _ (List.mem_of_getElem? (i := 22) rfl))) (mvT hZ (hw _ (List.mem_of_getElem? (i := 23) rfl))) (by decide) (backOf (W := 1) (vOf l Z a0 hw [] p1 wc clc T10.heap n0 O10 hI) hZ (hw _ (List.mem_of_getElem? (i := 23) rfl)) (hw _ (List.mem_of_getElem? (i := 22) rfl)) (by decide) (by decide)) (g := (mkF m 210 #[.val (.int p1), .val (.int p2), .val (.int p3), .val (.int (own_bit p1 (1 : Int32))), .val (.int (own_bit p1 (2 : Int32))), .val (.int (own_bit p1 (4 : Int32))), .val (.int (own_bit p2 (1 : Int32))), .val (.int (own_bit p2 (2 : Int32))), .val (.int (own_bit p2 (4 : Int32))), .val (.ref b7), .val (.ref b9), .val (.int (p3 &&& (3 : Int32))), .unset, .unset, .unset] [(.int p1), (.ref b7)])) rfl (by rw [hml]; rfl) (argsL := [(.int p1)]) (rest := [(.ref b7)]) (lenOf pd__I_Ljava_lang_Integer_ rfl) rfl (by show 2 * 0 + _ ≤ _; exact Nat.le_of_eq rfl) (hb hby at_210) (fun _ _ => ⟨rfl, rfl, (by decide : 2 + 1 ≤ _), (by decide : 6 + 1 ≤ _)⟩)
        dsimp only [Pt.U, Pt.locs, Pt.cells, Pt.slots] at X35 l35 y35 z35 st35 hQ35
        subst l35 y35 z35
        obtain ⟨bo35, rfl, Nq35, Kq35, Ea35⟩ := hQ35
        have N35 := Fr.app N10 Nq35
        have O35 := O10.keep Kq35 all0
        have f37 := (((Ea8.ext E9).keep Kq10).keep Kq35)
        obtain ⟨cq36, kq36, q36a, q36b, q36c⟩ := isOf hZ rfl f37
        obtain ⟨_, _, ⟨T36, L36, k36, n36⟩, -, X36, ⟨Lc36, hQ36, l36, y36, z36⟩, st36⟩ := X35.virtualBack hx (y := (⟨"com/example/semaforo/semaforo/network/Lane", "equals", "(Ljava/lang/Object;)Z"⟩ : MethodName)) (z := (⟨"com/example/semaforo/semaforo/network/Lane", "equals", "(Ljava/lang/Object;)Z"⟩ : MethodName)) hown (mvT hZ (hw _ (List.mem_of_getElem? (i := 15) rfl))) (mvT hZ (hw _ (List.mem_of_getElem? (i := 16) rfl))) (notFace_of_selects (args := #[]) (mvT hZ (hw _ (List.mem_of_getElem? (i := 18) rfl)))) (mvT hZ (hw _ (List.mem_of_getElem? (i := 18) rfl))) (mvT hZ (hw _ (List.mem_of_getElem? (i := 17) rfl))) (by decide) (backOf (W := 0) (eqI l Z a0 hw [] b7 bo35 T35.heap n0 O35 f37 Ea35) hZ (hw _ (List.mem_of_getElem? (i := 19) rfl)) (hw _ (List.mem_of_getElem? (i := 2) rfl)) (by decide) (by decide)) q36a q36c (g := (mkF m 213 #[.val (.int p1), .val (.int p2), .val (.int p3), .val (.int (own_bit p1 (1 : Int32))), .val (.int (own_bit p1 (2 : Int32))), .val (.int (own_bit p1 (4 : Int32))), .val (.int (own_bit p2 (1 : Int32))), .val (.int (own_bit p2 (2 : Int32))), .val (.int (own_bit p2 (4 : Int32))), .val (.ref b7), .val (.ref b9), .val (.int (p3 &&& (3 : Int32))), .unset, .unset, .unset] [(.ref bo35), (.ref b7)])) rfl (by rw [hml]; rfl) (Steps.refl _) (argsL := [(.ref bo35)]) (rest := []) (lenOf pd__Ljava_lang_Object__Z rfl) rfl (by show 2 * 0 + _ ≤ _; exact Nat.le_of_eq rfl) (hb hby at_213) (fun _ _ => ⟨rfl, rfl, (by decide : 3 + 0 ≤ _), (by decide : 7 + 0 ≤ _)⟩)
        dsimp only [Pt.U, Pt.locs, Pt.cells, Pt.slots] at X36 l36 y36 z36 st36 hQ36
        subst l36 y36 z36
        obtain ⟨rfl, Nq36, eq36⟩ := hQ36
        have N36 := Fr.app N35 Nq36
        obtain ⟨fs, hr, hrun, hended, hW, hsame⟩ := X36.leave (v := some (.int (1 : Int32))) (fun h => by rw [Bd.returns] at h; cases h)
        refine ⟨_, _, pre32 _ ?_, hrun, hended, _, _, rfl, ?_, ⟨_, rfl⟩, hW, hsame.mono (by decide) (by decide)⟩
        · show Steps p.tables e below (T10.setTop (mkF m 189 #[.val (.int p1), .val (.int p2), .val (.int p3), .val (.int (own_bit p1 (1 : Int32))), .val (.int (own_bit p1 (2 : Int32))), .val (.int (own_bit p1 (4 : Int32))), .val (.int (own_bit p2 (1 : Int32))), .val (.int (own_bit p2 (2 : Int32))), .val (.int (own_bit p2 (4 : Int32))), .val (.ref b7), .val (.ref b9), .val (.int (p3 &&& (3 : Int32))), .unset, .unset, .unset] [(.int (2 : Int32)), (.int (p3 &&& (3 : Int32)))])) _
          refine XS.icmpYes X10.here hx rfl (pc0 := 189) (pc' := 207) rfl (hb hby at_189) rfl (feq hc189_32).2 (by decide) (by decide) ?_
          show Steps p.tables e below (T10.setTop (mkF m 207 #[.val (.int p1), .val (.int p2), .val (.int p3), .val (.int (own_bit p1 (1 : Int32))), .val (.int (own_bit p1 (2 : Int32))), .val (.int (own_bit p1 (4 : Int32))), .val (.int (own_bit p2 (1 : Int32))), .val (.int (own_bit p2 (2 : Int32))), .val (.int (own_bit p2 (4 : Int32))), .val (.ref b7), .val (.ref b9), .val (.int (p3 &&& (3 : Int32))), .unset, .unset, .unset] [])) _
          refine XS.aload X10.here hx rfl (hb hby at_207) rfl rfl ?_
          show Steps p.tables e below (T10.setTop (mkF m 209 #[.val (.int p1), .val (.int p2), .val (.int p3), .val (.int (own_bit p1 (1 : Int32))), .val (.int (own_bit p1 (2 : Int32))), .val (.int (own_bit p1 (4 : Int32))), .val (.int (own_bit p2 (1 : Int32))), .val (.int (own_bit p2 (2 : Int32))), .val (.int (own_bit p2 (4 : Int32))), .val (.ref b7), .val (.ref b9), .val (.int (p3 &&& (3 : Int32))), .unset, .unset, .unset] [(.ref b7)])) _
          refine XS.iloadN X10.here hx rfl (hb hby at_209) rfl ?_
          show Steps p.tables e below (T10.setTop (mkF m 210 #[.val (.int p1), .val (.int p2), .val (.int p3), .val (.int (own_bit p1 (1 : Int32))), .val (.int (own_bit p1 (2 : Int32))), .val (.int (own_bit p1 (4 : Int32))), .val (.int (own_bit p2 (1 : Int32))), .val (.int (own_bit p2 (2 : Int32))), .val (.int (own_bit p2 (4 : Int32))), .val (.ref b7), .val (.ref b9), .val (.int (p3 &&& (3 : Int32))), .unset, .unset, .unset] [(.int p1), (.ref b7)])) _
          refine st35 _ ?_
          show Steps p.tables e below (T35.setTop (mkF m 213 #[.val (.int p1), .val (.int p2), .val (.int p3), .val (.int (own_bit p1 (1 : Int32))), .val (.int (own_bit p1 (2 : Int32))), .val (.int (own_bit p1 (4 : Int32))), .val (.int (own_bit p2 (1 : Int32))), .val (.int (own_bit p2 (2 : Int32))), .val (.int (own_bit p2 (4 : Int32))), .val (.ref b7), .val (.ref b9), .val (.int (p3 &&& (3 : Int32))), .unset, .unset, .unset] [(.ref bo35), (.ref b7)])) _
          refine st36.trans ?_
          show Steps p.tables e below (T36.setTop (mkF m 216 #[.val (.int p1), .val (.int p2), .val (.int p3), .val (.int (own_bit p1 (1 : Int32))), .val (.int (own_bit p1 (2 : Int32))), .val (.int (own_bit p1 (4 : Int32))), .val (.int (own_bit p2 (1 : Int32))), .val (.int (own_bit p2 (2 : Int32))), .val (.int (own_bit p2 (4 : Int32))), .val (.ref b7), .val (.ref b9), .val (.int (p3 &&& (3 : Int32))), .unset, .unset, .unset] [(.int (0 : Int32))])) _
          refine XS.ifNo X36.here hx rfl (hb hby at_216) rfl ((if0 _ _).trans (teq (by decide : (0 : Int32) = (0 : Int32))).2) ?_
          show Steps p.tables e below (T36.setTop (mkF m 219 #[.val (.int p1), .val (.int p2), .val (.int p3), .val (.int (own_bit p1 (1 : Int32))), .val (.int (own_bit p1 (2 : Int32))), .val (.int (own_bit p1 (4 : Int32))), .val (.int (own_bit p2 (1 : Int32))), .val (.int (own_bit p2 (2 : Int32))), .val (.int (own_bit p2 (4 : Int32))), .val (.ref b7), .val (.ref b9), .val (.int (p3 &&& (3 : Int32))), .unset, .unset, .unset] [])) _
          refine XS.iconst X36.here hx rfl (hb hby at_219) ?_
          show Steps p.tables e below (T36.setTop (mkF m 220 #[.val (.int p1), .val (.int p2), .val (.int p3), .val (.int (own_bit p1 (1 : Int32))), .val (.int (own_bit p1 (2 : Int32))), .val (.int (own_bit p1 (4 : Int32))), .val (.int (own_bit p2 (1 : Int32))), .val (.int (own_bit p2 (2 : Int32))), .val (.int (own_bit p2 (4 : Int32))), .val (.ref b7), .val (.ref b9), .val (.int (p3 &&& (3 : Int32))), .unset, .unset, .unset] [(.int (1 : Int32))])) _
          refine XS.goto X36.here hx rfl (pc0 := 220) (pc' := 224) rfl (hb hby at_220) (by decide) (by decide) ?_
          show Steps p.tables e below (T36.setTop (mkF m 224 #[.val (.int p1), .val (.int p2), .val (.int p3), .val (.int (own_bit p1 (1 : Int32))), .val (.int (own_bit p1 (2 : Int32))), .val (.int (own_bit p1 (4 : Int32))), .val (.int (own_bit p2 (1 : Int32))), .val (.int (own_bit p2 (2 : Int32))), .val (.int (own_bit p2 (4 : Int32))), .val (.ref b7), .val (.ref b9), .val (.int (p3 &&& (3 : Int32))), .unset, .unset, .unset] [(.int (1 : Int32))])) _
          exact retN X36 hx (t := .boolean) Bd.returns (by simp) (hb hby at_224) hr
        · show Q_rm0 Z p1 p2 p3 wc clc h0 n0 _ T36.heap _
          rw [eq36]
          exact ⟨rfl, N36⟩
set_option maxRecDepth 65536 in
set_option maxHeartbeats 40000000 in
theorem comes_1 {Post : Tables → Env → Array Value → State → Outcome → State → Prop} (hpost : ∀ tb e args s v u, (limb_1_1.after args s (.returned v) u = true ∧ limb_1_2.after args s (.returned v) u = true ∧ True) → FrameEnd s (.returned v) u (Jvm.fieldLocs frame_1_writes args s ++ Jvm.arrayLocs frame_1_arrays args s ++ Jvm.staticLocs frame_1_statics s) 16 128 → Post tb e args s (.returned v) u) :
    ArmFor flags0 classFile x code maxLocals ret World_1 tables_1 room_1 Calls_1 rest_1 Pre_1 Post := by
  intro l hfl _ _ p e ha hc hk s m args below hf hA hF happ hP
  obtain ⟨hcalls, hrest, hpre⟩ := hP
  obtain ⟨-, -, -, hnamed, -, -, -, hat⟩ := (Spec.applies_iff hf).mp happ
  obtain ⟨hg, hn⟩ := and_e (Cond.before_iff.mp (show (Jvm.Cond.and given_1 narrow_1).before args s = true from hpre))
  obtain ⟨hg0, hgr0⟩ := and_e hg
  obtain ⟨ha0, hgr1⟩ := and_e hgr0
  obtain ⟨ha1, hgr2⟩ := and_e hgr1
  obtain ⟨w0, w1, w2, rfl⟩ : ∃ w0 w1 w2 : Value, args = #[w0, w1, w2] := by
    have hs : args.size = 3 := by simpa [Cond.value, given_1] using hg0
    obtain ⟨L⟩ := args
    match L, hs with
    | [w0, w1, w2], _ => exact ⟨w0, w1, w2, rfl⟩
  have hw := fun d (hd : d ∈ tables_1) => atoms_spec (ws := Jvm.Cond.code x code maxLocals ret :: tables_1) hat d (List.mem_cons_of_mem _ hd)
  have hfit : Fit s := fun {y c} hc i hi => by
    obtain ⟨ha, rfl⟩ := Array.getElem?_eq_some_iff.mp hc
    have q := List.all_eq_true.mp ((Array.all_eq_true_iff_forall_mem.mp hF) _ (Array.getElem_mem ha)) i (List.mem_range.mpr hi)
    simpa [Array.getElem?_eq_getElem hi] using q
  obtain ⟨i0, ei0⟩ := is_v ha0
  obtain rfl : w0 = (.int i0) := Option.some.inj ei0
  obtain ⟨i1, ei1⟩ := is_v ha1
  obtain rfl : w1 = (.int i1) := Option.some.inj ei1
  obtain ⟨i2, ei2⟩ := is_v hgr2
  obtain rfl : w2 = (.int i2) := Option.some.inj ei2
  obtain ⟨hsets, hown0⟩ := atoms_of _ (rest_1_c_eq ▸ (show rest_1_c.before _ s = true from hrest))
  obtain ⟨wc, clc, hI⟩ := own_cache hw hsets
  obtain ⟨n, o, h1, h2, h3, _, L, rfl, ⟨rfl, N⟩, hq⟩ := rm0 l s _ hw tables_1 i0 i1 i2 wc clc s.heap s.heap.size (Old.start s) hI p e ha hc hk s m _ below hf ((Spec.applies_iff_loose hf).mp happ).1 ⟨rfl, State.Warmed39.refl s, rfl⟩ trivial
  refine ⟨n, _, h1, h2, h3, hpost _ _ _ _ _ _ ⟨Cond.after_iff.mpr rfl, Cond.after_iff.mpr (eq_i res_at (Term.int_eval (1)) rfl), trivial⟩ ⟨hq.1, hq.2.1, (hq.2.2.sift fun y hy => Or.inr (N y hy)).mono (by decide) (by decide)⟩⟩
theorem main_1_1 : Claimed_1_1 := comes_1 fun _ _ _ _ _ _ h hF => ⟨h.1, hF⟩
theorem main_1_2 : Claimed_1_2 := comes_1 fun _ _ _ _ _ _ h hF => ⟨h.2.1, hF⟩
end Jvm.Pilot.@@N@@
namespace Jvm.Pilot.@@N@@
open Jvm Jvm.ClassFile Sem Op Lib Jvm.Free Jvm.Stand Jvm.Pilot.@@N@@.Jvm.D
/-! MADE BY PROGRAM (witnessworld.py) out of the Statement's table words and the real class files: 16 classes; the members and pool entries that the words name. The judged class is class 1, her method 1. -/
namespace start1
open Jvm.ClassFile
def u (s : String) : CpInfo := .utf8 (stringToUtf16 s)
/-- a pool by its gaps: so many unusable entries, then the entry; so many at the end -/
def gap : Nat → List CpInfo → List CpInfo
  | 0, r => r
  | n + 1, r => .unusable :: gap n r
def poolList (es : List (Nat × CpInfo)) (last : Nat) : List CpInfo := es.foldr (fun e r => gap e.1 (e.2 :: r)) (gap last [])
def pool (es : List (Nat × CpInfo)) (last : Nat) : Array CpInfo := ⟨poolList es last⟩
def fileOf (pool : Array CpInfo) (this : Nat) (attrs : Array Attribute := #[]) (ms : Array MethodInfo := #[]) (fl : Nat := 33) (sup : Nat := 0) (ifs : Array Nat := #[]) (fds : Array FieldInfo := #[]) : ClassFile where
  minorVersion := 0
  majorVersion := 65
  constantPool := pool
  accessFlags := fl
  thisClass := this
  superClass := sup
  interfaces := ifs
  fields := fds
  methods := ms
  attributes := attrs
def plain (name : String) (sup : Option ClassId) : Class where
  name := name
  kind := .ordinary
  loader := none
  accessFlags := 33
  super := sup
  interfaces := #[]
  cf := none
  fields := #[]
  methods := #[]
  instanceTypes := #[]
  staticTypes := #[]
  resolved := #[]
  callSites := []
  init := .initialized
  statics := none
  mirror := none

def pool0 : Array CpInfo := pool [(5, u "<init>"), (0, u "()V"), (1, .class_ 10), (1, u "java/lang/Object")] 113

def k0c0 : Code := { maxStack := 0, maxLocals := 1, code := object_method_1_code, exceptionTable := #[], attributes := #[] }
def k0m0 : Method := { name := "<init>", desc := "()V", sig := { parameters := [], returnType := none }, accessFlags := 1, code := some k0c0 }
/-- java/lang/Object -/
def k0 : Class := { plain "java/lang/Object" none with
  accessFlags := 33
  interfaces := #[]
  cf := some (fileOf pool0 8 #[] #[{ accessFlags := 1, nameIndex := 5, descriptorIndex := 6, attributes := #[] }] 33 0 #[] #[])
  fields := #[]
  methods := #[k0m0]
  instanceTypes := #[]
  staticTypes := #[]
  resolved := Array.replicate 124 none
  statics := none }

def pool1 : Array CpInfo := pool [(2, .class_ 4), (1, u "java/lang/Object"), (0, u "<init>"), (0, u "()V"), (0, .class_ 8), (0, u "com/example/semaforo/semaforo/network/Lane"), (0, .methodref 7 10), (0, .nameAndType 5 11), (0, u "(ZZZ)V"), (0, .methodref 7 13), (0, .nameAndType 14 15), (0, u "equals"), (0, u "(Ljava/lang/Object;)Z"), (0, .methodref 17 18), (0, .class_ 19), (0, .nameAndType 20 21), (0, u "java/lang/Integer"), (0, u "valueOf"), (0, u "(I)Ljava/lang/Integer;"), (0, .class_ 23), (0, u "com/example/semaforo/semaforo/network/LaneEqualsPinLaw"), (2, u "law"), (0, u "(III)Z")] 3

def k1m0 : Method := { name := "<init>", desc := "()V", sig := { parameters := [], returnType := none }, accessFlags := 1, code := none }
def k1c1 : Code := { maxStack := 5, maxLocals := 15, code := code, exceptionTable := #[], attributes := #[] }
def k1m1 : Method := { name := "law", desc := "(III)Z", sig := { parameters := [.int, .int, .int], returnType := some .boolean }, accessFlags := 9, code := some k1c1 }
/-- com/example/semaforo/semaforo/network/LaneEqualsPinLaw -/
def k1 : Class := { plain "com/example/semaforo/semaforo/network/LaneEqualsPinLaw" (some 0) with
  accessFlags := 49
  interfaces := #[]
  cf := some (fileOf pool1 22 #[] #[{ accessFlags := 1, nameIndex := 5, descriptorIndex := 6, attributes := #[] }, { accessFlags := 9, nameIndex := 26, descriptorIndex := 27, attributes := #[] }] 49 2 #[] #[])
  fields := #[]
  methods := #[k1m0, k1m1]
  instanceTypes := #[]
  staticTypes := #[]
  resolved := Array.replicate 31 none
  statics := none }

def pool2 : Array CpInfo := pool [(1, .methodref 2 3), (0, .class_ 4), (0, .nameAndType 5 6), (0, u "java/lang/Object"), (0, u "<init>"), (0, u "()V"), (0, .fieldref 8 9), (0, .class_ 10), (0, .nameAndType 11 12), (0, u "com/example/semaforo/semaforo/network/Lane"), (0, u "left"), (0, u "Z"), (0, .fieldref 8 14), (0, .nameAndType 15 12), (0, u "straight"), (0, .fieldref 8 17), (0, .nameAndType 18 12), (0, u "right"), (12, u "(ZZZ)V"), (3, u "equals"), (0, u "(Ljava/lang/Object;)Z")] 24

def k2c0 : Code := { maxStack := 2, maxLocals := 4, code := prog_52_method_1_code, exceptionTable := #[], attributes := #[] }
def k2m0 : Method := { name := "<init>", desc := "(ZZZ)V", sig := { parameters := [.boolean, .boolean, .boolean], returnType := none }, accessFlags := 1, code := some k2c0 }
def k2c1 : Code := { maxStack := 2, maxLocals := 3, code := prog_52_method_5_code, exceptionTable := #[], attributes := #[] }
def k2m1 : Method := { name := "equals", desc := "(Ljava/lang/Object;)Z", sig := { parameters := [(.object "java/lang/Object")], returnType := some .boolean }, accessFlags := 1, code := some k2c1 }
/-- com/example/semaforo/semaforo/network/Lane -/
def k2 : Class := { plain "com/example/semaforo/semaforo/network/Lane" (some 0) with
  accessFlags := 33
  interfaces := #[]
  cf := some (fileOf pool2 8 #[] #[{ accessFlags := 1, nameIndex := 5, descriptorIndex := 31, attributes := #[] }, { accessFlags := 1, nameIndex := 35, descriptorIndex := 36, attributes := #[] }] 33 2 #[] #[{ accessFlags := 18, nameIndex := 11, descriptorIndex := 12, attributes := #[] }, { accessFlags := 18, nameIndex := 15, descriptorIndex := 12, attributes := #[] }, { accessFlags := 18, nameIndex := 18, descriptorIndex := 12, attributes := #[] }])
  fields := #[{ name := "left", type := .boolean, accessFlags := 18, slot := 0, constantValue := 0 }, { name := "straight", type := .boolean, accessFlags := 18, slot := 1, constantValue := 0 }, { name := "right", type := .boolean, accessFlags := 18, slot := 2, constantValue := 0 }]
  methods := #[k2m0, k2m1]
  instanceTypes := #[.boolean, .boolean, .boolean]
  staticTypes := #[]
  resolved := Array.replicate 61 none
  statics := none }

def pool3 : Array CpInfo := pool [(1, .class_ 2), (0, u "java/io/Serializable"), (0, .class_ 4), (0, u "java/lang/Object")] 2

/-- java/io/Serializable -/
def k3 : Class := { plain "java/io/Serializable" (some 0) with
  accessFlags := 1537
  interfaces := #[]
  cf := some (fileOf pool3 1 #[] #[] 1537 3 #[] #[])
  fields := #[]
  methods := #[]
  instanceTypes := #[]
  staticTypes := #[]
  resolved := Array.replicate 7 none
  statics := none }

def pool4 : Array CpInfo := pool [(1, .methodref 2 3), (0, .class_ 4), (0, .nameAndType 5 6), (0, u "java/lang/Object"), (0, u "<init>"), (0, u "()V"), (1, .class_ 10), (1, u "java/lang/Number"), (2, .class_ 14), (0, u "java/io/Serializable"), (0, u "serialVersionUID"), (0, u "J")] 20

def k4c0 : Code := { maxStack := 1, maxLocals := 1, code := jdk_18_method_1_code, exceptionTable := #[], attributes := #[] }
def k4m0 : Method := { name := "<init>", desc := "()V", sig := { parameters := [], returnType := none }, accessFlags := 1, code := some k4c0 }
/-- java/lang/Number -/
def k4 : Class := { plain "java/lang/Number" (some 0) with
  accessFlags := 1057
  interfaces := #[3]
  cf := some (fileOf pool4 8 #[] #[{ accessFlags := 1, nameIndex := 5, descriptorIndex := 6, attributes := #[] }] 1057 2 #[13] #[{ accessFlags := 26, nameIndex := 15, descriptorIndex := 16, attributes := #[] }])
  fields := #[{ name := "serialVersionUID", type := .long, accessFlags := 26, slot := 0, constantValue := 0 }]
  methods := #[k4m0]
  instanceTypes := #[]
  staticTypes := #[.long]
  resolved := Array.replicate 37 none
  statics := none }

def pool5 : Array CpInfo := pool [(1, .class_ 2), (0, u "java/lang/Comparable"), (0, .class_ 4), (0, u "java/lang/Object")] 7

/-- java/lang/Comparable -/
def k5 : Class := { plain "java/lang/Comparable" (some 0) with
  accessFlags := 1537
  interfaces := #[]
  cf := some (fileOf pool5 1 #[] #[] 1537 3 #[] #[])
  fields := #[]
  methods := #[]
  instanceTypes := #[]
  staticTypes := #[]
  resolved := Array.replicate 12 none
  statics := none }

def pool6 : Array CpInfo := pool [(1, .class_ 2), (0, u "java/lang/constant/Constable"), (0, .class_ 4), (0, u "java/lang/Object")] 6

/-- java/lang/constant/Constable -/
def k6 : Class := { plain "java/lang/constant/Constable" (some 0) with
  accessFlags := 1537
  interfaces := #[]
  cf := some (fileOf pool6 1 #[] #[] 1537 3 #[] #[])
  fields := #[]
  methods := #[]
  instanceTypes := #[]
  staticTypes := #[]
  resolved := Array.replicate 11 none
  statics := none }

def pool7 : Array CpInfo := pool [(1, .class_ 2), (0, u "java/lang/constant/ConstantDesc"), (0, .class_ 4), (0, u "java/lang/Object")] 32

/-- java/lang/constant/ConstantDesc -/
def k7 : Class := { plain "java/lang/constant/ConstantDesc" (some 0) with
  accessFlags := 1537
  interfaces := #[]
  cf := some (fileOf pool7 1 #[] #[] 1537 3 #[] #[])
  fields := #[]
  methods := #[]
  instanceTypes := #[]
  staticTypes := #[]
  resolved := Array.replicate 37 none
  statics := none }

def pool8 : Array CpInfo := pool [(1, .class_ 2), (0, u "java/lang/Integer"), (16, u "digits"), (0, u "[C"), (46, u "<init>"), (17, u "DigitOnes"), (0, u "[B"), (2, u "DigitTens"), (10, .nameAndType 67 101), (0, u "()V"), (85, u "valueOf"), (0, u "(I)Ljava/lang/Integer;"), (0, .class_ 190), (0, u "java/lang/Integer$IntegerCache"), (0, .fieldref 189 192), (0, .nameAndType 193 194), (0, u "high"), (0, u "I"), (0, .fieldref 189 196), (0, .nameAndType 197 198), (0, u "cache"), (0, u "[Ljava/lang/Integer;"), (0, .methodref 1 200), (0, .nameAndType 67 201), (0, u "(I)V"), (0, .methodref 203 100), (0, .class_ 204), (0, u "java/lang/Number"), (0, .fieldref 1 206), (0, .nameAndType 207 194), (0, u "value"), (94, u "TYPE"), (0, u "Ljava/lang/Class;"), (0, .class_ 305), (0, u "java/lang/Comparable"), (0, .class_ 307), (0, u "java/lang/constant/Constable"), (0, .class_ 309), (0, u "java/lang/constant/ConstantDesc"), (0, u "MIN_VALUE"), (1, u "MAX_VALUE"), (3, u "SIZE"), (1, u "BYTES"), (1, u "serialVersionUID"), (0, u "J")] 131

def k8c0 : Code := { maxStack := 3, maxLocals := 1, code := jdk_33_method_22_code, exceptionTable := #[], attributes := #[] }
def k8m0 : Method := { name := "valueOf", desc := "(I)Ljava/lang/Integer;", sig := { parameters := [.int], returnType := some (.object "java/lang/Integer") }, accessFlags := 9, code := some k8c0 }
def k8c1 : Code := { maxStack := 2, maxLocals := 2, code := jdk_33_method_23_code, exceptionTable := #[], attributes := #[] }
def k8m1 : Method := { name := "<init>", desc := "(I)V", sig := { parameters := [.int], returnType := none }, accessFlags := 1, code := some k8c1 }
/-- java/lang/Integer -/
def k8 : Class := { plain "java/lang/Integer" (some 4) with
  accessFlags := 49
  interfaces := #[5, 6, 7]
  cf := some (fileOf pool8 1 #[.nestMembers #[189]] #[{ accessFlags := 9, nameIndex := 187, descriptorIndex := 188, attributes := #[] }, { accessFlags := 1, nameIndex := 67, descriptorIndex := 201, attributes := #[] }] 49 203 #[304, 306, 308] #[{ accessFlags := 25, nameIndex := 310, descriptorIndex := 194, attributes := #[] }, { accessFlags := 25, nameIndex := 312, descriptorIndex := 194, attributes := #[] }, { accessFlags := 25, nameIndex := 302, descriptorIndex := 303, attributes := #[] }, { accessFlags := 24, nameIndex := 19, descriptorIndex := 20, attributes := #[] }, { accessFlags := 24, nameIndex := 89, descriptorIndex := 86, attributes := #[] }, { accessFlags := 24, nameIndex := 85, descriptorIndex := 86, attributes := #[] }, { accessFlags := 18, nameIndex := 207, descriptorIndex := 194, attributes := #[] }, { accessFlags := 25, nameIndex := 316, descriptorIndex := 194, attributes := #[] }, { accessFlags := 25, nameIndex := 318, descriptorIndex := 194, attributes := #[] }, { accessFlags := 26, nameIndex := 320, descriptorIndex := 321, attributes := #[] }])
  fields := #[{ name := "MIN_VALUE", type := .int, accessFlags := 25, slot := 0, constantValue := 0 }, { name := "MAX_VALUE", type := .int, accessFlags := 25, slot := 1, constantValue := 0 }, { name := "TYPE", type := (.object "java/lang/Class"), accessFlags := 25, slot := 2, constantValue := 0 }, { name := "digits", type := (.array .char), accessFlags := 24, slot := 3, constantValue := 0 }, { name := "DigitTens", type := (.array .byte), accessFlags := 24, slot := 4, constantValue := 0 }, { name := "DigitOnes", type := (.array .byte), accessFlags := 24, slot := 5, constantValue := 0 }, { name := "value", type := .int, accessFlags := 18, slot := 0, constantValue := 0 }, { name := "SIZE", type := .int, accessFlags := 25, slot := 6, constantValue := 0 }, { name := "BYTES", type := .int, accessFlags := 25, slot := 7, constantValue := 0 }, { name := "serialVersionUID", type := .long, accessFlags := 26, slot := 8, constantValue := 0 }]
  methods := #[k8m0, k8m1]
  instanceTypes := #[.int]
  staticTypes := #[.int, .int, (.object "java/lang/Class"), (.array .char), (.array .byte), (.array .byte), .int, .int, .long]
  resolved := Array.replicate 453 none
  statics := none }

def pool9 : Array CpInfo := pool [(2, .class_ 4), (1, u "java/lang/Object"), (0, u "<init>"), (0, u "()V"), (0, .class_ 8), (0, u "java/lang/Integer"), (7, .class_ 18), (1, u "java/lang/Integer$IntegerCache"), (0, u "$assertionsDisabled"), (0, u "Z"), (26, u "high"), (0, u "I"), (8, u "archivedCache"), (0, u "[Ljava/lang/Integer;"), (12, u "cache"), (0, u "low")] 27

def k9m0 : Method := { name := "<init>", desc := "()V", sig := { parameters := [], returnType := none }, accessFlags := 2, code := none }
/-- java/lang/Integer$IntegerCache -/
def k9 : Class := { plain "java/lang/Integer$IntegerCache" (some 0) with
  accessFlags := 48
  interfaces := #[]
  cf := some (fileOf pool9 16 #[.nestHost 7] #[{ accessFlags := 2, nameIndex := 5, descriptorIndex := 6, attributes := #[] }] 48 2 #[] #[{ accessFlags := 24, nameIndex := 72, descriptorIndex := 48, attributes := #[] }, { accessFlags := 24, nameIndex := 47, descriptorIndex := 48, attributes := #[] }, { accessFlags := 24, nameIndex := 71, descriptorIndex := 58, attributes := #[] }, { accessFlags := 8, nameIndex := 57, descriptorIndex := 58, attributes := #[] }, { accessFlags := 4120, nameIndex := 19, descriptorIndex := 20, attributes := #[] }])
  fields := #[{ name := "low", type := .int, accessFlags := 24, slot := 0, constantValue := 0 }, { name := "high", type := .int, accessFlags := 24, slot := 1, constantValue := 0 }, { name := "cache", type := (.array (.object "java/lang/Integer")), accessFlags := 24, slot := 2, constantValue := 0 }, { name := "archivedCache", type := (.array (.object "java/lang/Integer")), accessFlags := 8, slot := 3, constantValue := 0 }, { name := "$assertionsDisabled", type := .boolean, accessFlags := 4120, slot := 4, constantValue := 0 }]
  methods := #[k9m0]
  instanceTypes := #[]
  staticTypes := #[.int, .int, (.array (.object "java/lang/Integer")), (.array (.object "java/lang/Integer")), .boolean]
  resolved := Array.replicate 100 none
  statics := some 0 }

def pool10 : Array CpInfo := pool [(1, u "java/lang/Cloneable"), (0, .class_ 1), (0, u "java/lang/Object"), (0, .class_ 3)] 3

/-- java/lang/Cloneable -/
def k10 : Class := { plain "java/lang/Cloneable" (some 0) with
  accessFlags := 1537
  interfaces := #[]
  cf := some (fileOf pool10 2 #[] #[] 1537 4 #[] #[])
  fields := #[]
  methods := #[]
  instanceTypes := #[]
  staticTypes := #[]
  resolved := Array.replicate 8 none
  statics := none }

/-- the primitive byte -/
def k11 : Class := { plain "byte" none with kind := .primitive 'B', accessFlags := 0x411 }
/-- [B -/
def k12 : Class := { plain "[B" (some 0) with kind := .array 11 .byte, interfaces := #[10, 3], accessFlags := 1041 }

/-- the primitive int -/
def k13 : Class := { plain "int" none with kind := .primitive 'I', accessFlags := 0x411 }
/-- [I -/
def k14 : Class := { plain "[I" (some 0) with kind := .array 13 .int, interfaces := #[10, 3], accessFlags := 1041 }

/-- [Ljava/lang/Integer; -/
def k15 : Class := { plain "[Ljava/lang/Integer;" (some 0) with kind := .array 8 (.object "java/lang/Integer"), interfaces := #[10, 3], accessFlags := 1041 }

def heap : Heap := #[{ cls := 9, slots := #[.int 0, .int 127, .ref 1, .null, .int 0], vm := .statics 9 },
  { cls := 15, slots := #[.ref 2, .ref 3, .ref 4, .ref 5, .ref 6, .ref 7, .ref 8, .ref 9, .ref 10, .ref 11, .ref 12, .ref 13, .ref 14, .ref 15, .ref 16, .ref 17, .ref 18, .ref 19, .ref 20, .ref 21, .ref 22, .ref 23, .ref 24, .ref 25, .ref 26, .ref 27, .ref 28, .ref 29, .ref 30, .ref 31, .ref 32, .ref 33, .ref 34, .ref 35, .ref 36, .ref 37, .ref 38, .ref 39, .ref 40, .ref 41, .ref 42, .ref 43, .ref 44, .ref 45, .ref 46, .ref 47, .ref 48, .ref 49, .ref 50, .ref 51, .ref 52, .ref 53, .ref 54, .ref 55, .ref 56, .ref 57, .ref 58, .ref 59, .ref 60, .ref 61, .ref 62, .ref 63, .ref 64, .ref 65, .ref 66, .ref 67, .ref 68, .ref 69, .ref 70, .ref 71, .ref 72, .ref 73, .ref 74, .ref 75, .ref 76, .ref 77, .ref 78, .ref 79, .ref 80, .ref 81, .ref 82, .ref 83, .ref 84, .ref 85, .ref 86, .ref 87, .ref 88, .ref 89, .ref 90, .ref 91, .ref 92, .ref 93, .ref 94, .ref 95, .ref 96, .ref 97, .ref 98, .ref 99, .ref 100, .ref 101, .ref 102, .ref 103, .ref 104, .ref 105, .ref 106, .ref 107, .ref 108, .ref 109, .ref 110, .ref 111, .ref 112, .ref 113, .ref 114, .ref 115, .ref 116, .ref 117, .ref 118, .ref 119, .ref 120, .ref 121, .ref 122, .ref 123, .ref 124, .ref 125, .ref 126, .ref 127, .ref 128, .ref 129, .ref 130, .ref 131, .ref 132, .ref 133, .ref 134, .ref 135, .ref 136, .ref 137, .ref 138, .ref 139, .ref 140, .ref 141, .ref 142, .ref 143, .ref 144, .ref 145, .ref 146, .ref 147, .ref 148, .ref 149, .ref 150, .ref 151, .ref 152, .ref 153, .ref 154, .ref 155, .ref 156, .ref 157, .ref 158, .ref 159, .ref 160, .ref 161, .ref 162, .ref 163, .ref 164, .ref 165, .ref 166, .ref 167, .ref 168, .ref 169, .ref 170, .ref 171, .ref 172, .ref 173, .ref 174, .ref 175, .ref 176, .ref 177, .ref 178, .ref 179, .ref 180, .ref 181, .ref 182, .ref 183, .ref 184, .ref 185, .ref 186, .ref 187, .ref 188, .ref 189, .ref 190, .ref 191, .ref 192, .ref 193, .ref 194, .ref 195, .ref 196, .ref 197, .ref 198, .ref 199, .ref 200, .ref 201, .ref 202, .ref 203, .ref 204, .ref 205, .ref 206, .ref 207, .ref 208, .ref 209, .ref 210, .ref 211, .ref 212, .ref 213, .ref 214, .ref 215, .ref 216, .ref 217, .ref 218, .ref 219, .ref 220, .ref 221, .ref 222, .ref 223, .ref 224, .ref 225, .ref 226, .ref 227, .ref 228, .ref 229, .ref 230, .ref 231, .ref 232, .ref 233, .ref 234, .ref 235, .ref 236, .ref 237, .ref 238, .ref 239, .ref 240, .ref 241, .ref 242, .ref 243, .ref 244, .ref 245, .ref 246, .ref 247, .ref 248, .ref 249, .ref 250, .ref 251, .ref 252, .ref 253, .ref 254, .ref 255, .ref 256, .ref 257], vm := .none },
  { cls := 8, slots := #[.int (-128)], vm := .none },
  { cls := 8, slots := #[.int (-127)], vm := .none },
  { cls := 8, slots := #[.int (-126)], vm := .none },
  { cls := 8, slots := #[.int (-125)], vm := .none },
  { cls := 8, slots := #[.int (-124)], vm := .none },
  { cls := 8, slots := #[.int (-123)], vm := .none },
  { cls := 8, slots := #[.int (-122)], vm := .none },
  { cls := 8, slots := #[.int (-121)], vm := .none },
  { cls := 8, slots := #[.int (-120)], vm := .none },
  { cls := 8, slots := #[.int (-119)], vm := .none },
  { cls := 8, slots := #[.int (-118)], vm := .none },
  { cls := 8, slots := #[.int (-117)], vm := .none },
  { cls := 8, slots := #[.int (-116)], vm := .none },
  { cls := 8, slots := #[.int (-115)], vm := .none },
  { cls := 8, slots := #[.int (-114)], vm := .none },
  { cls := 8, slots := #[.int (-113)], vm := .none },
  { cls := 8, slots := #[.int (-112)], vm := .none },
  { cls := 8, slots := #[.int (-111)], vm := .none },
  { cls := 8, slots := #[.int (-110)], vm := .none },
  { cls := 8, slots := #[.int (-109)], vm := .none },
  { cls := 8, slots := #[.int (-108)], vm := .none },
  { cls := 8, slots := #[.int (-107)], vm := .none },
  { cls := 8, slots := #[.int (-106)], vm := .none },
  { cls := 8, slots := #[.int (-105)], vm := .none },
  { cls := 8, slots := #[.int (-104)], vm := .none },
  { cls := 8, slots := #[.int (-103)], vm := .none },
  { cls := 8, slots := #[.int (-102)], vm := .none },
  { cls := 8, slots := #[.int (-101)], vm := .none },
  { cls := 8, slots := #[.int (-100)], vm := .none },
  { cls := 8, slots := #[.int (-99)], vm := .none },
  { cls := 8, slots := #[.int (-98)], vm := .none },
  { cls := 8, slots := #[.int (-97)], vm := .none },
  { cls := 8, slots := #[.int (-96)], vm := .none },
  { cls := 8, slots := #[.int (-95)], vm := .none },
  { cls := 8, slots := #[.int (-94)], vm := .none },
  { cls := 8, slots := #[.int (-93)], vm := .none },
  { cls := 8, slots := #[.int (-92)], vm := .none },
  { cls := 8, slots := #[.int (-91)], vm := .none },
  { cls := 8, slots := #[.int (-90)], vm := .none },
  { cls := 8, slots := #[.int (-89)], vm := .none },
  { cls := 8, slots := #[.int (-88)], vm := .none },
  { cls := 8, slots := #[.int (-87)], vm := .none },
  { cls := 8, slots := #[.int (-86)], vm := .none },
  { cls := 8, slots := #[.int (-85)], vm := .none },
  { cls := 8, slots := #[.int (-84)], vm := .none },
  { cls := 8, slots := #[.int (-83)], vm := .none },
  { cls := 8, slots := #[.int (-82)], vm := .none },
  { cls := 8, slots := #[.int (-81)], vm := .none },
  { cls := 8, slots := #[.int (-80)], vm := .none },
  { cls := 8, slots := #[.int (-79)], vm := .none },
  { cls := 8, slots := #[.int (-78)], vm := .none },
  { cls := 8, slots := #[.int (-77)], vm := .none },
  { cls := 8, slots := #[.int (-76)], vm := .none },
  { cls := 8, slots := #[.int (-75)], vm := .none },
  { cls := 8, slots := #[.int (-74)], vm := .none },
  { cls := 8, slots := #[.int (-73)], vm := .none },
  { cls := 8, slots := #[.int (-72)], vm := .none },
  { cls := 8, slots := #[.int (-71)], vm := .none },
  { cls := 8, slots := #[.int (-70)], vm := .none },
  { cls := 8, slots := #[.int (-69)], vm := .none },
  { cls := 8, slots := #[.int (-68)], vm := .none },
  { cls := 8, slots := #[.int (-67)], vm := .none },
  { cls := 8, slots := #[.int (-66)], vm := .none },
  { cls := 8, slots := #[.int (-65)], vm := .none },
  { cls := 8, slots := #[.int (-64)], vm := .none },
  { cls := 8, slots := #[.int (-63)], vm := .none },
  { cls := 8, slots := #[.int (-62)], vm := .none },
  { cls := 8, slots := #[.int (-61)], vm := .none },
  { cls := 8, slots := #[.int (-60)], vm := .none },
  { cls := 8, slots := #[.int (-59)], vm := .none },
  { cls := 8, slots := #[.int (-58)], vm := .none },
  { cls := 8, slots := #[.int (-57)], vm := .none },
  { cls := 8, slots := #[.int (-56)], vm := .none },
  { cls := 8, slots := #[.int (-55)], vm := .none },
  { cls := 8, slots := #[.int (-54)], vm := .none },
  { cls := 8, slots := #[.int (-53)], vm := .none },
  { cls := 8, slots := #[.int (-52)], vm := .none },
  { cls := 8, slots := #[.int (-51)], vm := .none },
  { cls := 8, slots := #[.int (-50)], vm := .none },
  { cls := 8, slots := #[.int (-49)], vm := .none },
  { cls := 8, slots := #[.int (-48)], vm := .none },
  { cls := 8, slots := #[.int (-47)], vm := .none },
  { cls := 8, slots := #[.int (-46)], vm := .none },
  { cls := 8, slots := #[.int (-45)], vm := .none },
  { cls := 8, slots := #[.int (-44)], vm := .none },
  { cls := 8, slots := #[.int (-43)], vm := .none },
  { cls := 8, slots := #[.int (-42)], vm := .none },
  { cls := 8, slots := #[.int (-41)], vm := .none },
  { cls := 8, slots := #[.int (-40)], vm := .none },
  { cls := 8, slots := #[.int (-39)], vm := .none },
  { cls := 8, slots := #[.int (-38)], vm := .none },
  { cls := 8, slots := #[.int (-37)], vm := .none },
  { cls := 8, slots := #[.int (-36)], vm := .none },
  { cls := 8, slots := #[.int (-35)], vm := .none },
  { cls := 8, slots := #[.int (-34)], vm := .none },
  { cls := 8, slots := #[.int (-33)], vm := .none },
  { cls := 8, slots := #[.int (-32)], vm := .none },
  { cls := 8, slots := #[.int (-31)], vm := .none },
  { cls := 8, slots := #[.int (-30)], vm := .none },
  { cls := 8, slots := #[.int (-29)], vm := .none },
  { cls := 8, slots := #[.int (-28)], vm := .none },
  { cls := 8, slots := #[.int (-27)], vm := .none },
  { cls := 8, slots := #[.int (-26)], vm := .none },
  { cls := 8, slots := #[.int (-25)], vm := .none },
  { cls := 8, slots := #[.int (-24)], vm := .none },
  { cls := 8, slots := #[.int (-23)], vm := .none },
  { cls := 8, slots := #[.int (-22)], vm := .none },
  { cls := 8, slots := #[.int (-21)], vm := .none },
  { cls := 8, slots := #[.int (-20)], vm := .none },
  { cls := 8, slots := #[.int (-19)], vm := .none },
  { cls := 8, slots := #[.int (-18)], vm := .none },
  { cls := 8, slots := #[.int (-17)], vm := .none },
  { cls := 8, slots := #[.int (-16)], vm := .none },
  { cls := 8, slots := #[.int (-15)], vm := .none },
  { cls := 8, slots := #[.int (-14)], vm := .none },
  { cls := 8, slots := #[.int (-13)], vm := .none },
  { cls := 8, slots := #[.int (-12)], vm := .none },
  { cls := 8, slots := #[.int (-11)], vm := .none },
  { cls := 8, slots := #[.int (-10)], vm := .none },
  { cls := 8, slots := #[.int (-9)], vm := .none },
  { cls := 8, slots := #[.int (-8)], vm := .none },
  { cls := 8, slots := #[.int (-7)], vm := .none },
  { cls := 8, slots := #[.int (-6)], vm := .none },
  { cls := 8, slots := #[.int (-5)], vm := .none },
  { cls := 8, slots := #[.int (-4)], vm := .none },
  { cls := 8, slots := #[.int (-3)], vm := .none },
  { cls := 8, slots := #[.int (-2)], vm := .none },
  { cls := 8, slots := #[.int (-1)], vm := .none },
  { cls := 8, slots := #[.int 0], vm := .none },
  { cls := 8, slots := #[.int 1], vm := .none },
  { cls := 8, slots := #[.int 2], vm := .none },
  { cls := 8, slots := #[.int 3], vm := .none },
  { cls := 8, slots := #[.int 4], vm := .none },
  { cls := 8, slots := #[.int 5], vm := .none },
  { cls := 8, slots := #[.int 6], vm := .none },
  { cls := 8, slots := #[.int 7], vm := .none },
  { cls := 8, slots := #[.int 8], vm := .none },
  { cls := 8, slots := #[.int 9], vm := .none },
  { cls := 8, slots := #[.int 10], vm := .none },
  { cls := 8, slots := #[.int 11], vm := .none },
  { cls := 8, slots := #[.int 12], vm := .none },
  { cls := 8, slots := #[.int 13], vm := .none },
  { cls := 8, slots := #[.int 14], vm := .none },
  { cls := 8, slots := #[.int 15], vm := .none },
  { cls := 8, slots := #[.int 16], vm := .none },
  { cls := 8, slots := #[.int 17], vm := .none },
  { cls := 8, slots := #[.int 18], vm := .none },
  { cls := 8, slots := #[.int 19], vm := .none },
  { cls := 8, slots := #[.int 20], vm := .none },
  { cls := 8, slots := #[.int 21], vm := .none },
  { cls := 8, slots := #[.int 22], vm := .none },
  { cls := 8, slots := #[.int 23], vm := .none },
  { cls := 8, slots := #[.int 24], vm := .none },
  { cls := 8, slots := #[.int 25], vm := .none },
  { cls := 8, slots := #[.int 26], vm := .none },
  { cls := 8, slots := #[.int 27], vm := .none },
  { cls := 8, slots := #[.int 28], vm := .none },
  { cls := 8, slots := #[.int 29], vm := .none },
  { cls := 8, slots := #[.int 30], vm := .none },
  { cls := 8, slots := #[.int 31], vm := .none },
  { cls := 8, slots := #[.int 32], vm := .none },
  { cls := 8, slots := #[.int 33], vm := .none },
  { cls := 8, slots := #[.int 34], vm := .none },
  { cls := 8, slots := #[.int 35], vm := .none },
  { cls := 8, slots := #[.int 36], vm := .none },
  { cls := 8, slots := #[.int 37], vm := .none },
  { cls := 8, slots := #[.int 38], vm := .none },
  { cls := 8, slots := #[.int 39], vm := .none },
  { cls := 8, slots := #[.int 40], vm := .none },
  { cls := 8, slots := #[.int 41], vm := .none },
  { cls := 8, slots := #[.int 42], vm := .none },
  { cls := 8, slots := #[.int 43], vm := .none },
  { cls := 8, slots := #[.int 44], vm := .none },
  { cls := 8, slots := #[.int 45], vm := .none },
  { cls := 8, slots := #[.int 46], vm := .none },
  { cls := 8, slots := #[.int 47], vm := .none },
  { cls := 8, slots := #[.int 48], vm := .none },
  { cls := 8, slots := #[.int 49], vm := .none },
  { cls := 8, slots := #[.int 50], vm := .none },
  { cls := 8, slots := #[.int 51], vm := .none },
  { cls := 8, slots := #[.int 52], vm := .none },
  { cls := 8, slots := #[.int 53], vm := .none },
  { cls := 8, slots := #[.int 54], vm := .none },
  { cls := 8, slots := #[.int 55], vm := .none },
  { cls := 8, slots := #[.int 56], vm := .none },
  { cls := 8, slots := #[.int 57], vm := .none },
  { cls := 8, slots := #[.int 58], vm := .none },
  { cls := 8, slots := #[.int 59], vm := .none },
  { cls := 8, slots := #[.int 60], vm := .none },
  { cls := 8, slots := #[.int 61], vm := .none },
  { cls := 8, slots := #[.int 62], vm := .none },
  { cls := 8, slots := #[.int 63], vm := .none },
  { cls := 8, slots := #[.int 64], vm := .none },
  { cls := 8, slots := #[.int 65], vm := .none },
  { cls := 8, slots := #[.int 66], vm := .none },
  { cls := 8, slots := #[.int 67], vm := .none },
  { cls := 8, slots := #[.int 68], vm := .none },
  { cls := 8, slots := #[.int 69], vm := .none },
  { cls := 8, slots := #[.int 70], vm := .none },
  { cls := 8, slots := #[.int 71], vm := .none },
  { cls := 8, slots := #[.int 72], vm := .none },
  { cls := 8, slots := #[.int 73], vm := .none },
  { cls := 8, slots := #[.int 74], vm := .none },
  { cls := 8, slots := #[.int 75], vm := .none },
  { cls := 8, slots := #[.int 76], vm := .none },
  { cls := 8, slots := #[.int 77], vm := .none },
  { cls := 8, slots := #[.int 78], vm := .none },
  { cls := 8, slots := #[.int 79], vm := .none },
  { cls := 8, slots := #[.int 80], vm := .none },
  { cls := 8, slots := #[.int 81], vm := .none },
  { cls := 8, slots := #[.int 82], vm := .none },
  { cls := 8, slots := #[.int 83], vm := .none },
  { cls := 8, slots := #[.int 84], vm := .none },
  { cls := 8, slots := #[.int 85], vm := .none },
  { cls := 8, slots := #[.int 86], vm := .none },
  { cls := 8, slots := #[.int 87], vm := .none },
  { cls := 8, slots := #[.int 88], vm := .none },
  { cls := 8, slots := #[.int 89], vm := .none },
  { cls := 8, slots := #[.int 90], vm := .none },
  { cls := 8, slots := #[.int 91], vm := .none },
  { cls := 8, slots := #[.int 92], vm := .none },
  { cls := 8, slots := #[.int 93], vm := .none },
  { cls := 8, slots := #[.int 94], vm := .none },
  { cls := 8, slots := #[.int 95], vm := .none },
  { cls := 8, slots := #[.int 96], vm := .none },
  { cls := 8, slots := #[.int 97], vm := .none },
  { cls := 8, slots := #[.int 98], vm := .none },
  { cls := 8, slots := #[.int 99], vm := .none },
  { cls := 8, slots := #[.int 100], vm := .none },
  { cls := 8, slots := #[.int 101], vm := .none },
  { cls := 8, slots := #[.int 102], vm := .none },
  { cls := 8, slots := #[.int 103], vm := .none },
  { cls := 8, slots := #[.int 104], vm := .none },
  { cls := 8, slots := #[.int 105], vm := .none },
  { cls := 8, slots := #[.int 106], vm := .none },
  { cls := 8, slots := #[.int 107], vm := .none },
  { cls := 8, slots := #[.int 108], vm := .none },
  { cls := 8, slots := #[.int 109], vm := .none },
  { cls := 8, slots := #[.int 110], vm := .none },
  { cls := 8, slots := #[.int 111], vm := .none },
  { cls := 8, slots := #[.int 112], vm := .none },
  { cls := 8, slots := #[.int 113], vm := .none },
  { cls := 8, slots := #[.int 114], vm := .none },
  { cls := 8, slots := #[.int 115], vm := .none },
  { cls := 8, slots := #[.int 116], vm := .none },
  { cls := 8, slots := #[.int 117], vm := .none },
  { cls := 8, slots := #[.int 118], vm := .none },
  { cls := 8, slots := #[.int 119], vm := .none },
  { cls := 8, slots := #[.int 120], vm := .none },
  { cls := 8, slots := #[.int 121], vm := .none },
  { cls := 8, slots := #[.int 122], vm := .none },
  { cls := 8, slots := #[.int 123], vm := .none },
  { cls := 8, slots := #[.int 124], vm := .none },
  { cls := 8, slots := #[.int 125], vm := .none },
  { cls := 8, slots := #[.int 126], vm := .none },
  { cls := 8, slots := #[.int 127], vm := .none }]
def classes : Array Class := #[k0, k1, k2, k3, k4, k5, k6, k7, k8, k9, k10, k11, k12, k13, k14, k15]
def interned : List (Array UInt16 × Addr) := []
def slotsUsed : Nat := 517
def theMethod : MethodId := ⟨1, 1⟩
def args0 : Array Value := #[.int 5, .int 6, .int 7]
def aboutOver (below : List Frame) : State where
  vm := { classes := classes, interned := interned.toArray }
  heap := heap
  slotsUsed := slotsUsed
  threads := #[{ frames := .invoking theMethod args0 :: below }]
def below0 : List Frame := [.native { method := ⟨0, 0⟩, args := #[] }]
def about1 : State := aboutOver below0
def p0 : Program := .bare "" "" ""
def e0 : Env := launch0.env 0 0 0
theorem w_frames : about1.frames = Frame.invoking theMethod args0 :: below0 := rfl
set_option maxRecDepth 65536 in
theorem w_args : argsFit about1.vm theMethod args0 = true := by decide +kernel
set_option maxRecDepth 65536 in
theorem w_heap : heapFits about1 = true := by decide +kernel
set_option maxRecDepth 65536 in
theorem w_runnable : about1.curStatus? = some .runnable := by decide +kernel
set_option maxRecDepth 65536 in
theorem w_alone : about1.alone = true := by decide +kernel
set_option maxRecDepth 65536 in
theorem w_named : about1.methodNamed? x = some theMethod := by decide +kernel
set_option maxRecDepth 65536 in
theorem w_hears : about1.hears theMethod below0 = true := by decide +kernel
set_option maxRecDepth 65536 in
theorem w_ripe : about1.ripe theMethod args0 below0 = true := by decide +kernel
theorem w_running : about1.status = .running := rfl
set_option maxRecDepth 65536 in
theorem w_room : about1.hasRoom e0.platform room_1 = true :=
  launch0.hasRoom_least _ room_1 (by decide +kernel) (by decide +kernel) (by decide +kernel) (by decide +kernel) (by decide +kernel) (by decide +kernel)
theorem allAtoms_all (ts : List Jvm.Cond) (a : Array Jvm.Value) (st : Jvm.State) : (allAtoms ts).before a st = ts.all (fun c => c.before a st) := by
  induction ts with
  | nil => rfl
  | cons c t ih =>
    show (Jvm.Cond.and c (allAtoms t)).before a st = _
    rw [Jvm.Cond.before_and, ih, List.all_cons]
def words1 : List Jvm.Cond := Jvm.Cond.code x code maxLocals ret :: tables_1
/-- a 'code' word, met by the world's own term for the bytes: nothing is compared byte by byte -/
theorem code_word {y : MethodName} {bytes : ByteArray} {mx : Nat} {rt : Option FieldType} {a : Array Value} {s : State} {m : MethodId} {meth : Method} {c : Code} (h1 : s.methodNamed? y = some m) (h2 : s.vm.method? m = some meth) (h3 : meth.code = some c) (h4 : c.code = bytes)
    (h5 : (c.maxLocals == mx && c.exceptionTable.isEmpty && decide (c.maxStack ≤ mostOperands) && decide (meth.sig.returnType = rt) && !meth.locks && decide (parseMethodDescriptor y.desc = some meth.sig)) = true) : (Jvm.Cond.code y bytes mx rt).before a s = true := by
  simp only [Bool.and_eq_true, beq_iff_eq, Bool.not_eq_true', decide_eq_true_eq] at h5
  obtain ⟨⟨⟨⟨⟨g1, g2⟩, g3⟩, g4⟩, g5⟩, g6⟩ := h5
  simp [Cond.before, Cond.holds, Cond.value, h1, h2, h3, h4, g1, g2, g3, g4, g5, g6]
def isCode : Jvm.Cond → Bool
  | .code _ _ _ _ => true
  | _ => false
theorem all_split {L : List Jvm.Cond} {P : Jvm.Cond → Bool} (h1 : L.all (fun c => isCode c || P c) = true) (h2 : ∀ c ∈ L.filter isCode, P c = true) : L.all P = true := by
  refine List.all_eq_true.mpr fun c hc => ?_
  have h := List.all_eq_true.mp h1 c hc
  rcases Bool.eq_false_or_eq_true (isCode c) with hi | hi
  · exact h2 c (List.mem_filter.mpr ⟨hc, hi⟩)
  · simpa [hi] using h
set_option maxRecDepth 65536 in
theorem w_c0 : (Jvm.Cond.code x code maxLocals ret).before args0 about1 = true := code_word (m := ⟨1, 1⟩) (meth := k1m1) (c := k1c1) (by decide +kernel) rfl rfl rfl (by decide +kernel)
set_option maxRecDepth 65536 in
theorem w_c1 : (Jvm.Cond.code ({ cls := "com/example/semaforo/semaforo/network/Lane", name := "<init>", desc := "(ZZZ)V" } : Jvm.MethodName) prog_52_method_1_code (4 : Nat) (Option.none : Option Jvm.ClassFile.FieldType)).before args0 about1 = true := code_word (m := ⟨2, 0⟩) (meth := k2m0) (c := k2c0) (by decide +kernel) rfl rfl rfl (by decide +kernel)
set_option maxRecDepth 65536 in
theorem w_c2 : (Jvm.Cond.code ({ cls := "java/lang/Object", name := "<init>", desc := "()V" } : Jvm.MethodName) object_method_1_code (1 : Nat) (Option.none : Option Jvm.ClassFile.FieldType)).before args0 about1 = true := code_word (m := ⟨0, 0⟩) (meth := k0m0) (c := k0c0) (by decide +kernel) rfl rfl rfl (by decide +kernel)
set_option maxRecDepth 65536 in
theorem w_c3 : (Jvm.Cond.code ({ cls := "com/example/semaforo/semaforo/network/Lane", name := "equals", desc := "(Ljava/lang/Object;)Z" } : Jvm.MethodName) prog_52_method_5_code (3 : Nat) (Option.some Jvm.ClassFile.FieldType.boolean)).before args0 about1 = true := code_word (m := ⟨2, 1⟩) (meth := k2m1) (c := k2c1) (by decide +kernel) rfl rfl rfl (by decide +kernel)
set_option maxRecDepth 65536 in
theorem w_c4 : (Jvm.Cond.code ({ cls := "java/lang/Integer", name := "valueOf", desc := "(I)Ljava/lang/Integer;" } : Jvm.MethodName) jdk_33_method_22_code (1 : Nat) (Option.some (Jvm.ClassFile.FieldType.object "java/lang/Integer"))).before args0 about1 = true := code_word (m := ⟨8, 0⟩) (meth := k8m0) (c := k8c0) (by decide +kernel) rfl rfl rfl (by decide +kernel)
set_option maxRecDepth 65536 in
theorem w_c5 : (Jvm.Cond.code ({ cls := "java/lang/Integer", name := "<init>", desc := "(I)V" } : Jvm.MethodName) jdk_33_method_23_code (2 : Nat) (Option.none : Option Jvm.ClassFile.FieldType)).before args0 about1 = true := code_word (m := ⟨8, 1⟩) (meth := k8m1) (c := k8c1) (by decide +kernel) rfl rfl rfl (by decide +kernel)
set_option maxRecDepth 65536 in
theorem w_c6 : (Jvm.Cond.code ({ cls := "java/lang/Number", name := "<init>", desc := "()V" } : Jvm.MethodName) jdk_18_method_1_code (1 : Nat) (Option.none : Option Jvm.ClassFile.FieldType)).before args0 about1 = true := code_word (m := ⟨4, 0⟩) (meth := k4m0) (c := k4c0) (by decide +kernel) rfl rfl rfl (by decide +kernel)
def codes1 : List Jvm.Cond := [Jvm.Cond.code x code maxLocals ret, Jvm.Cond.code ({ cls := "com/example/semaforo/semaforo/network/Lane", name := "<init>", desc := "(ZZZ)V" } : Jvm.MethodName) prog_52_method_1_code (4 : Nat) (Option.none : Option Jvm.ClassFile.FieldType), Jvm.Cond.code ({ cls := "java/lang/Object", name := "<init>", desc := "()V" } : Jvm.MethodName) object_method_1_code (1 : Nat) (Option.none : Option Jvm.ClassFile.FieldType), Jvm.Cond.code ({ cls := "com/example/semaforo/semaforo/network/Lane", name := "equals", desc := "(Ljava/lang/Object;)Z" } : Jvm.MethodName) prog_52_method_5_code (3 : Nat) (Option.some Jvm.ClassFile.FieldType.boolean), Jvm.Cond.code ({ cls := "java/lang/Integer", name := "valueOf", desc := "(I)Ljava/lang/Integer;" } : Jvm.MethodName) jdk_33_method_22_code (1 : Nat) (Option.some (Jvm.ClassFile.FieldType.object "java/lang/Integer")), Jvm.Cond.code ({ cls := "java/lang/Integer", name := "<init>", desc := "(I)V" } : Jvm.MethodName) jdk_33_method_23_code (2 : Nat) (Option.none : Option Jvm.ClassFile.FieldType), Jvm.Cond.code ({ cls := "java/lang/Number", name := "<init>", desc := "()V" } : Jvm.MethodName) jdk_18_method_1_code (1 : Nat) (Option.none : Option Jvm.ClassFile.FieldType)]
set_option maxRecDepth 65536 in
theorem codes_eq : words1.filter isCode = codes1 := rfl
theorem w_codes : ∀ c ∈ words1.filter isCode, c.before args0 about1 = true := by
  rw [codes_eq]
  intro c hc
  simp only [codes1, List.mem_cons, List.not_mem_nil, or_false] at hc
  rcases hc with rfl | rfl | rfl | rfl | rfl | rfl | rfl
  · exact w_c0
  · exact w_c1
  · exact w_c2
  · exact w_c3
  · exact w_c4
  · exact w_c5
  · exact w_c6
set_option maxRecDepth 65536 in
theorem w_t1 : (words1.take 24).all (fun c => isCode c || c.before args0 about1) = true := by decide +kernel
set_option maxRecDepth 65536 in
theorem w_t2 : (words1.drop 24).all (fun c => isCode c || c.before args0 about1) = true := by decide +kernel
theorem w_tables : (allAtoms (Jvm.Cond.code x code maxLocals ret :: tables_1)).before args0 about1 = true := by
  rw [allAtoms_all]
  show words1.all (fun c => c.before args0 about1) = true
  refine all_split ?_ w_codes
  rw [← List.take_append_drop 24 words1, List.all_append, w_t1, w_t2]
  rfl
set_option maxRecDepth 65536 in
theorem w_rest : rest_1_c.before args0 about1 = true := by decide +kernel
set_option maxRecDepth 65536 in
theorem w_case : (Jvm.Cond.and given_1 narrow_1).before args0 about1 = true := by decide +kernel
theorem w_applies : (headSpec (Jvm.Cond.code x code maxLocals ret :: tables_1) room_1).applies x e0.platform about1 = true :=
  (Spec.applies_iff w_frames).mpr ⟨w_running, w_runnable, w_alone, w_named, w_hears, w_ripe, w_room, w_tables⟩
theorem atStart : AtStart classFile x code maxLocals ret World_1 tables_1 room_1 Calls_1 rest_1 Pre_1 launch0 p0 e0 about1 theMethod args0 below0 :=
  ⟨lists_1, trivial, launch0.admits_env _ _ _, launch0.least_env, fairChoices_fair.cas, fairChoices_fair.clock, w_frames, w_args, w_heap, w_applies, trivial, w_rest, w_case⟩
end start1
theorem witness_1 : WitnessClaimed_1 := ⟨start1.p0, start1.e0, start1.about1, start1.theMethod, start1.args0, start1.below0, start1.atStart⟩
end Jvm.Pilot.@@N@@
