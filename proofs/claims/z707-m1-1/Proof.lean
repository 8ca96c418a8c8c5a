import JvmDerived
import JvmDerived.Pilot.@@N@@Statement
import JvmDerived.Pilot.@@N@@Code
set_option linter.unusedVariables false
set_option linter.unusedSimpArgs false
namespace Jvm.RoadKit
open Sem ClassFile Op Lib Jvm.Stand Jvm.Free Jvm.LawKit
section New
variable {p : Program} {l : Launch} {e : Env} {R : Room} {s : State} {m : MethodId} {args : Array Value} {below : List Frame} {meth : Method} {c : Code} {T : State} {locs : List Loc} {cells slots : Nat}
theorem retI (X : Stand p l e R s m args below meth c T locs cells slots) (hx : p.tables.exec = Jvm.exec) {pc : Nat} {Ls : Array Slot} {z : Int32} {rest : List Value} (hret : meth.sig.returnType = some .int) (hd : decode c.code pc = .ok (.ireturn, 1)) {fs : List Frame}
    (hl : ∀ (f : JFrame) (acts : List Action), f.method = m → f.locked = none → f.entered = [] → (doReturn e (T.setTop f) acts (some (.int z))).1 = T.setFrames fs) : Steps p.tables e below (T.setTop (mkF m pc Ls (.int z :: rest))) (T.setFrames fs) := by
  have hm' : T.vm.method? m = some meth := X.method'
  have hn : narrow .int (.int z) = .int z := rfl
  show Steps p.tables e below (T.setTop { method := m, pc := pc, locals := Ls, stack := _ :: rest, locked := none }) _
  jvm_step X.here [X.here.top, hx, hd, hm', hret, hn]
  first | (intro acts; rw [hl _ acts rfl rfl rfl]) | rw [hl _ _ rfl rfl rfl]
  exact Steps.refl _
end New
end Jvm.RoadKit
namespace Jvm.Pilot.@@N@@
open Jvm Jvm.ClassFile Sem Op Lib Jvm.Free Jvm.Stand Jvm.LawKit Jvm.RoadKit Bundle Jvm.Pilot.@@N@@.Jvm.D
theorem own_le {Z : State} {n0 : Nat} {h : Heap} (O : Old Z n0 h) : n0 ≤ h.size := O.1 ▸ O.2.1
theorem pn_com_example_riposte_riposte_packet_HeaderField : plainName "com/example/riposte/riposte/packet/HeaderField" = true := by first | (simp [plainName, overriddenIn]; done) | decide +kernel
theorem pn_com_example_riposte_riposte_packet_HeaderFieldHoldsPinLaw : plainName "com/example/riposte/riposte/packet/HeaderFieldHoldsPinLaw" = true := by first | (simp [plainName, overriddenIn]; done) | decide +kernel
theorem pd__J_Z : parseMethodDescriptor "(J)Z" = some ⟨[.long], some .boolean⟩ := by decide +kernel
theorem d1_0 : decode prog_43_method_4_code 0 = .ok (.aload_n 0, 1) := by decide +kernel
theorem d1_1 : decode prog_43_method_4_code 1 = .ok (.getfield 165, 3) := by decide +kernel
theorem d1_4 : decode prog_43_method_4_code 4 = .ok (.bipush 64, 2) := by decide +kernel
theorem d1_6 : decode prog_43_method_4_code 6 = .ok (.if_icmp .eq 14, 3) := by decide +kernel
theorem d1_9 : decode prog_43_method_4_code 9 = .ok (.lload_n 1, 1) := by decide +kernel
theorem d1_10 : decode prog_43_method_4_code 10 = .ok (.aload_n 0, 1) := by decide +kernel
theorem d1_11 : decode prog_43_method_4_code 11 = .ok (.getfield 165, 3) := by decide +kernel
theorem d1_14 : decode prog_43_method_4_code 14 = .ok (.lushr, 1) := by decide +kernel
theorem d1_15 : decode prog_43_method_4_code 15 = .ok (.lconst 0, 1) := by decide +kernel
theorem d1_16 : decode prog_43_method_4_code 16 = .ok (.lcmp, 1) := by decide +kernel
theorem d1_17 : decode prog_43_method_4_code 17 = .ok (.ifCond .ne 7, 3) := by decide +kernel
theorem d1_20 : decode prog_43_method_4_code 20 = .ok (.iconst 1, 1) := by decide +kernel
theorem d1_21 : decode prog_43_method_4_code 21 = .ok (.goto 4, 3) := by decide +kernel
theorem d1_24 : decode prog_43_method_4_code 24 = .ok (.iconst 0, 1) := by decide +kernel
theorem d1_25 : decode prog_43_method_4_code 25 = .ok (.ireturn, 1) := by decide +kernel
section OwnWords
variable {args : Array Value} {s : State} {t u : Term} {a b : Addr} {C n d K : String}
theorem own_exa (h : (Jvm.Cond.exactly t K).value args s none s [] = some true) (ev : t.eval args s none [] s = some (.ref a)) : Exa s s.heap a K := Exa.start ev h
theorem own_fi {k : Int32} (ev : t.eval args s none [] s = some (.ref a)) (h : (Jvm.Cond.eq (.field t C n d) (.int k)).value args s none s [] = some true) : Fld s s.heap a C n d (.int k) := by
  refine Fld.start ?_
  have e := fld_at (C := C) (n := n) (dd := d) ev
  simp only [Cond.value, e] at h
  cases hv : s.fieldOf? a C n d with
  | none => simp [hv] at h
  | some z => cases z <;> simp [hv, Term.eval] at h ⊢; exact h
theorem own_fn (ev : t.eval args s none [] s = some (.ref a)) (h : (Jvm.Cond.eq (.field t C n d) .null).value args s none s [] = some true) : Fld s s.heap a C n d .null :=
  Fld.start ((fld_at ev).symm.trans (null_v h))
theorem own_fr (ev : t.eval args s none [] s = some (.ref a)) (ev' : u.eval args s none [] s = some (.ref b)) (h : (Jvm.Cond.eq (.field t C n d) u).value args s none s [] = some true) : Fld s s.heap a C n d (.ref b) := by
  refine Fld.start ?_
  have e := fld_at (C := C) (n := n) (dd := d) ev
  simp only [Cond.value, e, ev'] at h
  cases hv : s.fieldOf? a C n d with
  | none => simp [hv] at h
  | some z => cases z <;> simp [hv] at h ⊢; exact h
end OwnWords
theorem own_nx {z a b : Int} (h : a ≤ z) (e : a + 1 = b) : z = a ∨ b ≤ z := by omega
theorem own_k (x : Int32) : (x &&& (2147483647 : Int32)) % (45 : Int32) = (0 : Int32) ∨ (x &&& (2147483647 : Int32)) % (45 : Int32) = (1 : Int32) ∨ (x &&& (2147483647 : Int32)) % (45 : Int32) = (2 : Int32) ∨ (x &&& (2147483647 : Int32)) % (45 : Int32) = (3 : Int32) ∨ (x &&& (2147483647 : Int32)) % (45 : Int32) = (4 : Int32) ∨ (x &&& (2147483647 : Int32)) % (45 : Int32) = (5 : Int32) ∨ (x &&& (2147483647 : Int32)) % (45 : Int32) = (6 : Int32) ∨ (x &&& (2147483647 : Int32)) % (45 : Int32) = (7 : Int32) ∨ (x &&& (2147483647 : Int32)) % (45 : Int32) = (8 : Int32) ∨ (x &&& (2147483647 : Int32)) % (45 : Int32) = (9 : Int32) ∨ (x &&& (2147483647 : Int32)) % (45 : Int32) = (10 : Int32) ∨ (x &&& (2147483647 : Int32)) % (45 : Int32) = (11 : Int32) ∨ (x &&& (2147483647 : Int32)) % (45 : Int32) = (12 : Int32) ∨ (x &&& (2147483647 : Int32)) % (45 : Int32) = (13 : Int32) ∨ (x &&& (2147483647 : Int32)) % (45 : Int32) = (14 : Int32) ∨ (x &&& (2147483647 : Int32)) % (45 : Int32) = (15 : Int32) ∨ (x &&& (2147483647 : Int32)) % (45 : Int32) = (16 : Int32) ∨ (x &&& (2147483647 : Int32)) % (45 : Int32) = (17 : Int32) ∨ (x &&& (2147483647 : Int32)) % (45 : Int32) = (18 : Int32) ∨ (x &&& (2147483647 : Int32)) % (45 : Int32) = (19 : Int32) ∨ (x &&& (2147483647 : Int32)) % (45 : Int32) = (20 : Int32) ∨ (x &&& (2147483647 : Int32)) % (45 : Int32) = (21 : Int32) ∨ (x &&& (2147483647 : Int32)) % (45 : Int32) = (22 : Int32) ∨ (x &&& (2147483647 : Int32)) % (45 : Int32) = (23 : Int32) ∨ (x &&& (2147483647 : Int32)) % (45 : Int32) = (24 : Int32) ∨ (x &&& (2147483647 : Int32)) % (45 : Int32) = (25 : Int32) ∨ (x &&& (2147483647 : Int32)) % (45 : Int32) = (26 : Int32) ∨ (x &&& (2147483647 : Int32)) % (45 : Int32) = (27 : Int32) ∨ (x &&& (2147483647 : Int32)) % (45 : Int32) = (28 : Int32) ∨ (x &&& (2147483647 : Int32)) % (45 : Int32) = (29 : Int32) ∨ (x &&& (2147483647 : Int32)) % (45 : Int32) = (30 : Int32) ∨ (x &&& (2147483647 : Int32)) % (45 : Int32) = (31 : Int32) ∨ (x &&& (2147483647 : Int32)) % (45 : Int32) = (32 : Int32) ∨ (x &&& (2147483647 : Int32)) % (45 : Int32) = (33 : Int32) ∨ (x &&& (2147483647 : Int32)) % (45 : Int32) = (34 : Int32) ∨ (x &&& (2147483647 : Int32)) % (45 : Int32) = (35 : Int32) ∨ (x &&& (2147483647 : Int32)) % (45 : Int32) = (36 : Int32) ∨ (x &&& (2147483647 : Int32)) % (45 : Int32) = (37 : Int32) ∨ (x &&& (2147483647 : Int32)) % (45 : Int32) = (38 : Int32) ∨ (x &&& (2147483647 : Int32)) % (45 : Int32) = (39 : Int32) ∨ (x &&& (2147483647 : Int32)) % (45 : Int32) = (40 : Int32) ∨ (x &&& (2147483647 : Int32)) % (45 : Int32) = (41 : Int32) ∨ (x &&& (2147483647 : Int32)) % (45 : Int32) = (42 : Int32) ∨ (x &&& (2147483647 : Int32)) % (45 : Int32) = (43 : Int32) ∨ (x &&& (2147483647 : Int32)) % (45 : Int32) = (44 : Int32) := by
  have e := c_mask x 2147483647 31 (by decide) (by decide)
  have r := (c_irem (x &&& 2147483647) 45 45 rfl).1 (by omega)
  have h0 : (0 : Int) ≤ ((x &&& (2147483647 : Int32)) % (45 : Int32)).toInt := by omega
  have hn : ((x &&& (2147483647 : Int32)) % (45 : Int32)).toInt < 45 := by omega
  clear e r
  rcases own_nx h0 (rfl : (0 : Int) + 1 = 1) with q | h1
  · exact Or.inl (Int32.toInt_inj.mp (q.trans rfl))
  refine Or.inr ?_
  rcases own_nx h1 (rfl : (1 : Int) + 1 = 2) with q | h2
  · exact Or.inl (Int32.toInt_inj.mp (q.trans rfl))
  refine Or.inr ?_
  rcases own_nx h2 (rfl : (2 : Int) + 1 = 3) with q | h3
  · exact Or.inl (Int32.toInt_inj.mp (q.trans rfl))
  refine Or.inr ?_
  rcases own_nx h3 (rfl : (3 : Int) + 1 = 4) with q | h4
  · exact Or.inl (Int32.toInt_inj.mp (q.trans rfl))
  refine Or.inr ?_
  rcases own_nx h4 (rfl : (4 : Int) + 1 = 5) with q | h5
  · exact Or.inl (Int32.toInt_inj.mp (q.trans rfl))
  refine Or.inr ?_
  rcases own_nx h5 (rfl : (5 : Int) + 1 = 6) with q | h6
  · exact Or.inl (Int32.toInt_inj.mp (q.trans rfl))
  refine Or.inr ?_
  rcases own_nx h6 (rfl : (6 : Int) + 1 = 7) with q | h7
  · exact Or.inl (Int32.toInt_inj.mp (q.trans rfl))
  refine Or.inr ?_
  rcases own_nx h7 (rfl : (7 : Int) + 1 = 8) with q | h8
  · exact Or.inl (Int32.toInt_inj.mp (q.trans rfl))
  refine Or.inr ?_
  rcases own_nx h8 (rfl : (8 : Int) + 1 = 9) with q | h9
  · exact Or.inl (Int32.toInt_inj.mp (q.trans rfl))
  refine Or.inr ?_
  rcases own_nx h9 (rfl : (9 : Int) + 1 = 10) with q | h10
  · exact Or.inl (Int32.toInt_inj.mp (q.trans rfl))
  refine Or.inr ?_
  rcases own_nx h10 (rfl : (10 : Int) + 1 = 11) with q | h11
  · exact Or.inl (Int32.toInt_inj.mp (q.trans rfl))
  refine Or.inr ?_
  rcases own_nx h11 (rfl : (11 : Int) + 1 = 12) with q | h12
  · exact Or.inl (Int32.toInt_inj.mp (q.trans rfl))
  refine Or.inr ?_
  rcases own_nx h12 (rfl : (12 : Int) + 1 = 13) with q | h13
  · exact Or.inl (Int32.toInt_inj.mp (q.trans rfl))
  refine Or.inr ?_
  rcases own_nx h13 (rfl : (13 : Int) + 1 = 14) with q | h14
  · exact Or.inl (Int32.toInt_inj.mp (q.trans rfl))
  refine Or.inr ?_
  rcases own_nx h14 (rfl : (14 : Int) + 1 = 15) with q | h15
  · exact Or.inl (Int32.toInt_inj.mp (q.trans rfl))
  refine Or.inr ?_
  rcases own_nx h15 (rfl : (15 : Int) + 1 = 16) with q | h16
  · exact Or.inl (Int32.toInt_inj.mp (q.trans rfl))
  refine Or.inr ?_
  rcases own_nx h16 (rfl : (16 : Int) + 1 = 17) with q | h17
  · exact Or.inl (Int32.toInt_inj.mp (q.trans rfl))
  refine Or.inr ?_
  rcases own_nx h17 (rfl : (17 : Int) + 1 = 18) with q | h18
  · exact Or.inl (Int32.toInt_inj.mp (q.trans rfl))
  refine Or.inr ?_
  rcases own_nx h18 (rfl : (18 : Int) + 1 = 19) with q | h19
  · exact Or.inl (Int32.toInt_inj.mp (q.trans rfl))
  refine Or.inr ?_
  rcases own_nx h19 (rfl : (19 : Int) + 1 = 20) with q | h20
  · exact Or.inl (Int32.toInt_inj.mp (q.trans rfl))
  refine Or.inr ?_
  rcases own_nx h20 (rfl : (20 : Int) + 1 = 21) with q | h21
  · exact Or.inl (Int32.toInt_inj.mp (q.trans rfl))
  refine Or.inr ?_
  rcases own_nx h21 (rfl : (21 : Int) + 1 = 22) with q | h22
  · exact Or.inl (Int32.toInt_inj.mp (q.trans rfl))
  refine Or.inr ?_
  rcases own_nx h22 (rfl : (22 : Int) + 1 = 23) with q | h23
  · exact Or.inl (Int32.toInt_inj.mp (q.trans rfl))
  refine Or.inr ?_
  rcases own_nx h23 (rfl : (23 : Int) + 1 = 24) with q | h24
  · exact Or.inl (Int32.toInt_inj.mp (q.trans rfl))
  refine Or.inr ?_
  rcases own_nx h24 (rfl : (24 : Int) + 1 = 25) with q | h25
  · exact Or.inl (Int32.toInt_inj.mp (q.trans rfl))
  refine Or.inr ?_
  rcases own_nx h25 (rfl : (25 : Int) + 1 = 26) with q | h26
  · exact Or.inl (Int32.toInt_inj.mp (q.trans rfl))
  refine Or.inr ?_
  rcases own_nx h26 (rfl : (26 : Int) + 1 = 27) with q | h27
  · exact Or.inl (Int32.toInt_inj.mp (q.trans rfl))
  refine Or.inr ?_
  rcases own_nx h27 (rfl : (27 : Int) + 1 = 28) with q | h28
  · exact Or.inl (Int32.toInt_inj.mp (q.trans rfl))
  refine Or.inr ?_
  rcases own_nx h28 (rfl : (28 : Int) + 1 = 29) with q | h29
  · exact Or.inl (Int32.toInt_inj.mp (q.trans rfl))
  refine Or.inr ?_
  rcases own_nx h29 (rfl : (29 : Int) + 1 = 30) with q | h30
  · exact Or.inl (Int32.toInt_inj.mp (q.trans rfl))
  refine Or.inr ?_
  rcases own_nx h30 (rfl : (30 : Int) + 1 = 31) with q | h31
  · exact Or.inl (Int32.toInt_inj.mp (q.trans rfl))
  refine Or.inr ?_
  rcases own_nx h31 (rfl : (31 : Int) + 1 = 32) with q | h32
  · exact Or.inl (Int32.toInt_inj.mp (q.trans rfl))
  refine Or.inr ?_
  rcases own_nx h32 (rfl : (32 : Int) + 1 = 33) with q | h33
  · exact Or.inl (Int32.toInt_inj.mp (q.trans rfl))
  refine Or.inr ?_
  rcases own_nx h33 (rfl : (33 : Int) + 1 = 34) with q | h34
  · exact Or.inl (Int32.toInt_inj.mp (q.trans rfl))
  refine Or.inr ?_
  rcases own_nx h34 (rfl : (34 : Int) + 1 = 35) with q | h35
  · exact Or.inl (Int32.toInt_inj.mp (q.trans rfl))
  refine Or.inr ?_
  rcases own_nx h35 (rfl : (35 : Int) + 1 = 36) with q | h36
  · exact Or.inl (Int32.toInt_inj.mp (q.trans rfl))
  refine Or.inr ?_
  rcases own_nx h36 (rfl : (36 : Int) + 1 = 37) with q | h37
  · exact Or.inl (Int32.toInt_inj.mp (q.trans rfl))
  refine Or.inr ?_
  rcases own_nx h37 (rfl : (37 : Int) + 1 = 38) with q | h38
  · exact Or.inl (Int32.toInt_inj.mp (q.trans rfl))
  refine Or.inr ?_
  rcases own_nx h38 (rfl : (38 : Int) + 1 = 39) with q | h39
  · exact Or.inl (Int32.toInt_inj.mp (q.trans rfl))
  refine Or.inr ?_
  rcases own_nx h39 (rfl : (39 : Int) + 1 = 40) with q | h40
  · exact Or.inl (Int32.toInt_inj.mp (q.trans rfl))
  refine Or.inr ?_
  rcases own_nx h40 (rfl : (40 : Int) + 1 = 41) with q | h41
  · exact Or.inl (Int32.toInt_inj.mp (q.trans rfl))
  refine Or.inr ?_
  rcases own_nx h41 (rfl : (41 : Int) + 1 = 42) with q | h42
  · exact Or.inl (Int32.toInt_inj.mp (q.trans rfl))
  refine Or.inr ?_
  rcases own_nx h42 (rfl : (42 : Int) + 1 = 43) with q | h43
  · exact Or.inl (Int32.toInt_inj.mp (q.trans rfl))
  refine Or.inr ?_
  rcases own_nx h43 (rfl : (43 : Int) + 1 = 44) with q | h44
  · exact Or.inl (Int32.toInt_inj.mp (q.trans rfl))
  refine Or.inr ?_
  rcases own_nx h44 (rfl : (44 : Int) + 1 = 45) with q | h45
  · exact (Int32.toInt_inj.mp (q.trans rfl))
  · exact absurd hn (by omega)
theorem own_b (x : Int32) : ¬ (x &&& (2147483647 : Int32)) % (45 : Int32) < 0 ∧ (x &&& (2147483647 : Int32)) % (45 : Int32) < (45 : Int32) := by
  rcases own_k x with h | h | h | h | h | h | h | h | h | h | h | h | h | h | h | h | h | h | h | h | h | h | h | h | h | h | h | h | h | h | h | h | h | h | h | h | h | h | h | h | h | h | h | h | h <;> (rw [h]; decide)
def own_holds (wd : Int32) (v : Int64) : Int32 := if wd = (64 : Int32) then 1 else if (lcmpW ((v.toUInt64 >>> (wd &&& 0x3f).toInt64.toUInt64).toInt64) (0 : Int64)) = (0 : Int32) then 1 else 0
def own_rel (wd : Int32) (top : Int64) : Prop := (wd = 64 ∧ top = -1) ∨ (wd = 1 ∧ top = 1) ∨ (wd = 3 ∧ top = 7) ∨ (wd = 4 ∧ top = 15) ∨ (wd = 8 ∧ top = 255) ∨ (wd = 13 ∧ top = 8191) ∨ (wd = 24 ∧ top = 16777215) ∨ (wd = 32 ∧ top = 4294967295)
theorem own_hk (v : Int64) (wd : Int32) (k : Nat) (hk : wd.toBitVec.toNat % 64 = k) (h0 : 0 < k) (h64 : ¬ wd = (64 : Int32)) (P : Int) (hP : ((2 ^ k : Nat) : Int) = P) : own_holds wd v = if v.toInt % 18446744073709551616 / P = 0 then 1 else 0 := by
  have e := c_lushr v wd k hk h0
  rw [hP] at e
  unfold own_holds
  rw [if_neg h64]
  have q : (lcmpW ((v.toUInt64 >>> (wd &&& 0x3f).toInt64.toUInt64).toInt64) (0 : Int64) = (0 : Int32)) ↔ (v.toInt % 18446744073709551616 / P = 0) := by
    rw [lw_eq, ← Int64.toInt_inj, e]; rfl
  simp only [q]
theorem own_h1 {wd : Int32} {top v : Int64} (hR : own_rel wd top) (hA : lcmpW top (-1 : Int64) = (0 : Int32)) : own_holds wd v = (1 : Int32) := by
  rw [lw_eq] at hA
  rcases hR with ⟨rfl, rfl⟩ | ⟨rfl, rfl⟩ | ⟨rfl, rfl⟩ | ⟨rfl, rfl⟩ | ⟨rfl, rfl⟩ | ⟨rfl, rfl⟩ | ⟨rfl, rfl⟩ | ⟨rfl, rfl⟩
  · rfl
  · exact absurd hA (by decide)
  · exact absurd hA (by decide)
  · exact absurd hA (by decide)
  · exact absurd hA (by decide)
  · exact absurd hA (by decide)
  · exact absurd hA (by decide)
  · exact absurd hA (by decide)
theorem own_h2 {wd : Int32} {top v : Int64} (hR : own_rel wd top) (hA : ¬ lcmpW top (-1 : Int64) = (0 : Int32)) (hB : lcmpW v (0 : Int64) < (0 : Int32)) : own_holds wd v = (0 : Int32) := by
  rw [lw_eq] at hA; rw [lw_lt, Int64.lt_iff_toInt_lt] at hB
  have z : (0 : Int64).toInt = 0 := rfl
  have r := rng64 v
  rcases hR with ⟨rfl, rfl⟩ | ⟨rfl, rfl⟩ | ⟨rfl, rfl⟩ | ⟨rfl, rfl⟩ | ⟨rfl, rfl⟩ | ⟨rfl, rfl⟩ | ⟨rfl, rfl⟩ | ⟨rfl, rfl⟩
  · exact absurd rfl hA
  · rw [own_hk v 1 1 (by decide) (by decide) (by decide) 2 (by decide)]; exact if_neg (by omega)
  · rw [own_hk v 3 3 (by decide) (by decide) (by decide) 8 (by decide)]; exact if_neg (by omega)
  · rw [own_hk v 4 4 (by decide) (by decide) (by decide) 16 (by decide)]; exact if_neg (by omega)
  · rw [own_hk v 8 8 (by decide) (by decide) (by decide) 256 (by decide)]; exact if_neg (by omega)
  · rw [own_hk v 13 13 (by decide) (by decide) (by decide) 8192 (by decide)]; exact if_neg (by omega)
  · rw [own_hk v 24 24 (by decide) (by decide) (by decide) 16777216 (by decide)]; exact if_neg (by omega)
  · rw [own_hk v 32 32 (by decide) (by decide) (by decide) 4294967296 (by decide)]; exact if_neg (by omega)
theorem own_h3 {wd : Int32} {top v : Int64} (hR : own_rel wd top) (hA : ¬ lcmpW top (-1 : Int64) = (0 : Int32)) (hC : (0 : Int32) < lcmpW v top) : own_holds wd v = (0 : Int32) := by
  rw [lw_eq] at hA; rw [lw_gt, Int64.lt_iff_toInt_lt] at hC
  have r := rng64 v
  rcases hR with ⟨rfl, rfl⟩ | ⟨rfl, rfl⟩ | ⟨rfl, rfl⟩ | ⟨rfl, rfl⟩ | ⟨rfl, rfl⟩ | ⟨rfl, rfl⟩ | ⟨rfl, rfl⟩ | ⟨rfl, rfl⟩
  · exact absurd rfl hA
  · have t : (1 : Int64).toInt = 1 := rfl
    rw [own_hk v 1 1 (by decide) (by decide) (by decide) 2 (by decide)]; exact if_neg (by omega)
  · have t : (7 : Int64).toInt = 7 := rfl
    rw [own_hk v 3 3 (by decide) (by decide) (by decide) 8 (by decide)]; exact if_neg (by omega)
  · have t : (15 : Int64).toInt = 15 := rfl
    rw [own_hk v 4 4 (by decide) (by decide) (by decide) 16 (by decide)]; exact if_neg (by omega)
  · have t : (255 : Int64).toInt = 255 := rfl
    rw [own_hk v 8 8 (by decide) (by decide) (by decide) 256 (by decide)]; exact if_neg (by omega)
  · have t : (8191 : Int64).toInt = 8191 := rfl
    rw [own_hk v 13 13 (by decide) (by decide) (by decide) 8192 (by decide)]; exact if_neg (by omega)
  · have t : (16777215 : Int64).toInt = 16777215 := rfl
    rw [own_hk v 24 24 (by decide) (by decide) (by decide) 16777216 (by decide)]; exact if_neg (by omega)
  · have t : (4294967295 : Int64).toInt = 4294967295 := rfl
    rw [own_hk v 32 32 (by decide) (by decide) (by decide) 4294967296 (by decide)]; exact if_neg (by omega)
theorem own_h4 {wd : Int32} {top v : Int64} (hR : own_rel wd top) (hB : ¬ lcmpW v (0 : Int64) < (0 : Int32)) (hC : ¬ (0 : Int32) < lcmpW v top) : own_holds wd v = (1 : Int32) := by
  rw [lw_lt, Int64.lt_iff_toInt_lt] at hB; rw [lw_gt, Int64.lt_iff_toInt_lt] at hC
  have z : (0 : Int64).toInt = 0 := rfl
  have r := rng64 v
  rcases hR with ⟨rfl, rfl⟩ | ⟨rfl, rfl⟩ | ⟨rfl, rfl⟩ | ⟨rfl, rfl⟩ | ⟨rfl, rfl⟩ | ⟨rfl, rfl⟩ | ⟨rfl, rfl⟩ | ⟨rfl, rfl⟩
  · rfl
  · have t : (1 : Int64).toInt = 1 := rfl
    rw [own_hk v 1 1 (by decide) (by decide) (by decide) 2 (by decide)]; exact if_pos (by omega)
  · have t : (7 : Int64).toInt = 7 := rfl
    rw [own_hk v 3 3 (by decide) (by decide) (by decide) 8 (by decide)]; exact if_pos (by omega)
  · have t : (15 : Int64).toInt = 15 := rfl
    rw [own_hk v 4 4 (by decide) (by decide) (by decide) 16 (by decide)]; exact if_pos (by omega)
  · have t : (255 : Int64).toInt = 255 := rfl
    rw [own_hk v 8 8 (by decide) (by decide) (by decide) 256 (by decide)]; exact if_pos (by omega)
  · have t : (8191 : Int64).toInt = 8191 := rfl
    rw [own_hk v 13 13 (by decide) (by decide) (by decide) 8192 (by decide)]; exact if_pos (by omega)
  · have t : (16777215 : Int64).toInt = 16777215 := rfl
    rw [own_hk v 24 24 (by decide) (by decide) (by decide) 16777216 (by decide)]; exact if_pos (by omega)
  · have t : (4294967295 : Int64).toInt = 4294967295 := rfl
    rw [own_hk v 32 32 (by decide) (by decide) (by decide) 4294967296 (by decide)]; exact if_pos (by omega)
theorem own_stR {p : Program} {l : Launch} {e : Env} {R : Room} {s : State} {m : MethodId} {args : Array Value} {below : List Frame} {meth : Method} {c : Code} {T : State} {locs : List Loc} {cells slots : Nat} {Z : State} {h hs : Heap} {n0 : Nat} {a : Addr} {k : ClassId} {C : String} {z : Int32} {vs : List Value} {dv : Value} {j : Int32} {w : Addr} {g : JFrame} {rest : List Value}
    (X : Stand p l e R s m args below meth c T locs cells slots) (hx : p.tables.exec = Jvm.exec) (hZ : Z.Warmed39 s.vm) (eT : T.heap = h) (O : Old Z n0 h) (N : Fr n0 locs) (K : Keep hs h [a]) (V : Arv Z h a k (.object C) z vs dv) (Ov : Ovr Z k C) (ga : n0 ≤ a) (E : Exa Z h w C) (hj : ¬ j < 0 ∧ j < z) (i : Nat) (hji : j.toNatClampNeg = i) (hi : i < vs.length) (hg : g.method = m) (hs' : g.stack = .ref w :: .int j :: .ref a :: rest) (hd : decode c.code g.pc = .ok (.aastore, 1)) :
    ∃ T' h' locs', Stand p l e R s m args below meth c T' locs' cells slots ∧ T'.heap = h' ∧ Old Z n0 h' ∧ Fr n0 locs' ∧ Keep hs h' [a] ∧ Arv Z h' a k (.object C) z (vs.set i (.ref w)) dv ∧ ∀ target, Steps p.tables e below (T'.setTop { g with pc := g.pc + 1, stack := rest }) target → Steps p.tables e below (T.setTop g) target := by
  obtain ⟨cl, Ar, qa, Sz, Nn, Ha, Ga⟩ := V
  obtain ⟨T', h', X', e', W, st⟩ := stR X hx hZ eT Ar (j := j) (inb_of Sz hj) rfl (Sto.ofV Ar qa Ov (Ins.self E)) hg hs' hd
  exact ⟨T', h', _, X', e', O.wr W ga, Fr.snoc X' N ga, K.wr W (Or.inl (List.mem_singleton.mpr rfl)), Arv.set Ar qa Sz Nn Ha Ga rfl W i hji hi, st⟩
theorem own_stJ {p : Program} {l : Launch} {e : Env} {R : Room} {s : State} {m : MethodId} {args : Array Value} {below : List Frame} {meth : Method} {c : Code} {T : State} {locs : List Loc} {cells slots : Nat} {Z : State} {h hs : Heap} {n0 : Nat} {a : Addr} {k : ClassId} {z : Int32} {vs : List Value} {dv : Value} {j : Int32} {x : Int64} {g : JFrame} {rest : List Value}
    (X : Stand p l e R s m args below meth c T locs cells slots) (hx : p.tables.exec = Jvm.exec) (hZ : Z.Warmed39 s.vm) (eT : T.heap = h) (O : Old Z n0 h) (N : Fr n0 locs) (K : Keep hs h [a]) (V : Arv Z h a k .long z vs dv) (ga : n0 ≤ a) (hj : ¬ j < 0 ∧ j < z) (i : Nat) (hji : j.toNatClampNeg = i) (hi : i < vs.length) (hg : g.method = m) (hs' : g.stack = .long x :: .int j :: .ref a :: rest) (hd : decode c.code g.pc = .ok (.lastore, 1)) :
    ∃ T' h' locs', Stand p l e R s m args below meth c T' locs' cells slots ∧ T'.heap = h' ∧ Old Z n0 h' ∧ Fr n0 locs' ∧ Keep hs h' [a] ∧ Arv Z h' a k .long z (vs.set i (.long x)) dv ∧ ∀ target, Steps p.tables e below (T'.setTop { g with pc := g.pc + 1, stack := rest }) target → Steps p.tables e below (T.setTop g) target := by
  obtain ⟨cl, Ar, qa, Sz, Nn, Ha, Ga⟩ := V
  obtain ⟨T', h', X', e', W, st⟩ := stJ X hx hZ eT Ar (j := j) (inb_of Sz hj) hg hs' hd
  exact ⟨T', h', _, X', e', O.wr W ga, Fr.snoc X' N ga, K.wr W (Or.inl (List.mem_singleton.mpr rfl)), Arv.set Ar qa Sz Nn Ha Ga rfl W i hji hi, st⟩
def OwnEnv (Z : State) (w_CLIENT w_VERSION w_DOMAIN w_HCO w_EPG w_MPG w_LENGTH w_CONTROL w_NRS w_APG w_NSR w_NER w_NRT w_MDG w_CMG w_STI w_DRT w_RETRANSMIT_COUNT w_FORWARD_COUNT w_INTER_PACKET_GAP w_PG_COUNT w_PRIORITY w_FUNCTION_CODE w_TRANSACTION w_PACKET_DELIVERY w_SERVER w_FLAGS_AND_CODE w_CMD w_DGM w_MDM w_SDA w_CRE w_MRD w_PIC w_CODE w_CO_RESIDENT_ENTITY w_USER_DATA w_MSG_DELIVERY w_SEGMENT_SIZE w_NOTIFY_CONTROL w_NOTIFY_RECEIVE_SEQUENCE w_NOTIFY_CLIENT w_NOTIFY_TRANSACTION w_NOTIFY_DELIVERY w_NOTIFY_CODE : Addr) : Prop := Sta Z Z.heap "com/example/riposte/riposte/packet/HeaderField" "CLIENT" "Lcom/example/riposte/riposte/packet/HeaderField;" (.ref w_CLIENT) ∧ Exa Z Z.heap w_CLIENT "com/example/riposte/riposte/packet/HeaderField" ∧ Sta Z Z.heap "com/example/riposte/riposte/packet/HeaderField" "VERSION" "Lcom/example/riposte/riposte/packet/HeaderField;" (.ref w_VERSION) ∧ Exa Z Z.heap w_VERSION "com/example/riposte/riposte/packet/HeaderField" ∧ Sta Z Z.heap "com/example/riposte/riposte/packet/HeaderField" "DOMAIN" "Lcom/example/riposte/riposte/packet/HeaderField;" (.ref w_DOMAIN) ∧ Exa Z Z.heap w_DOMAIN "com/example/riposte/riposte/packet/HeaderField" ∧ Sta Z Z.heap "com/example/riposte/riposte/packet/HeaderField" "HCO" "Lcom/example/riposte/riposte/packet/HeaderField;" (.ref w_HCO) ∧ Exa Z Z.heap w_HCO "com/example/riposte/riposte/packet/HeaderField" ∧ Sta Z Z.heap "com/example/riposte/riposte/packet/HeaderField" "EPG" "Lcom/example/riposte/riposte/packet/HeaderField;" (.ref w_EPG) ∧ Exa Z Z.heap w_EPG "com/example/riposte/riposte/packet/HeaderField" ∧ Sta Z Z.heap "com/example/riposte/riposte/packet/HeaderField" "MPG" "Lcom/example/riposte/riposte/packet/HeaderField;" (.ref w_MPG) ∧ Exa Z Z.heap w_MPG "com/example/riposte/riposte/packet/HeaderField" ∧ Sta Z Z.heap "com/example/riposte/riposte/packet/HeaderField" "LENGTH" "Lcom/example/riposte/riposte/packet/HeaderField;" (.ref w_LENGTH) ∧ Exa Z Z.heap w_LENGTH "com/example/riposte/riposte/packet/HeaderField" ∧ Sta Z Z.heap "com/example/riposte/riposte/packet/HeaderField" "CONTROL" "Lcom/example/riposte/riposte/packet/HeaderField;" (.ref w_CONTROL) ∧ Exa Z Z.heap w_CONTROL "com/example/riposte/riposte/packet/HeaderField" ∧ Sta Z Z.heap "com/example/riposte/riposte/packet/HeaderField" "NRS" "Lcom/example/riposte/riposte/packet/HeaderField;" (.ref w_NRS) ∧ Exa Z Z.heap w_NRS "com/example/riposte/riposte/packet/HeaderField" ∧ Sta Z Z.heap "com/example/riposte/riposte/packet/HeaderField" "APG" "Lcom/example/riposte/riposte/packet/HeaderField;" (.ref w_APG) ∧ Exa Z Z.heap w_APG "com/example/riposte/riposte/packet/HeaderField" ∧ Sta Z Z.heap "com/example/riposte/riposte/packet/HeaderField" "NSR" "Lcom/example/riposte/riposte/packet/HeaderField;" (.ref w_NSR) ∧ Exa Z Z.heap w_NSR "com/example/riposte/riposte/packet/HeaderField" ∧ Sta Z Z.heap "com/example/riposte/riposte/packet/HeaderField" "NER" "Lcom/example/riposte/riposte/packet/HeaderField;" (.ref w_NER) ∧ Exa Z Z.heap w_NER "com/example/riposte/riposte/packet/HeaderField" ∧ Sta Z Z.heap "com/example/riposte/riposte/packet/HeaderField" "NRT" "Lcom/example/riposte/riposte/packet/HeaderField;" (.ref w_NRT) ∧ Exa Z Z.heap w_NRT "com/example/riposte/riposte/packet/HeaderField" ∧ Sta Z Z.heap "com/example/riposte/riposte/packet/HeaderField" "MDG" "Lcom/example/riposte/riposte/packet/HeaderField;" (.ref w_MDG) ∧ Exa Z Z.heap w_MDG "com/example/riposte/riposte/packet/HeaderField" ∧ Sta Z Z.heap "com/example/riposte/riposte/packet/HeaderField" "CMG" "Lcom/example/riposte/riposte/packet/HeaderField;" (.ref w_CMG) ∧ Exa Z Z.heap w_CMG "com/example/riposte/riposte/packet/HeaderField" ∧ Sta Z Z.heap "com/example/riposte/riposte/packet/HeaderField" "STI" "Lcom/example/riposte/riposte/packet/HeaderField;" (.ref w_STI) ∧ Exa Z Z.heap w_STI "com/example/riposte/riposte/packet/HeaderField" ∧ Sta Z Z.heap "com/example/riposte/riposte/packet/HeaderField" "DRT" "Lcom/example/riposte/riposte/packet/HeaderField;" (.ref w_DRT) ∧ Exa Z Z.heap w_DRT "com/example/riposte/riposte/packet/HeaderField" ∧ Sta Z Z.heap "com/example/riposte/riposte/packet/HeaderField" "RETRANSMIT_COUNT" "Lcom/example/riposte/riposte/packet/HeaderField;" (.ref w_RETRANSMIT_COUNT) ∧ Exa Z Z.heap w_RETRANSMIT_COUNT "com/example/riposte/riposte/packet/HeaderField" ∧ Sta Z Z.heap "com/example/riposte/riposte/packet/HeaderField" "FORWARD_COUNT" "Lcom/example/riposte/riposte/packet/HeaderField;" (.ref w_FORWARD_COUNT) ∧ Exa Z Z.heap w_FORWARD_COUNT "com/example/riposte/riposte/packet/HeaderField" ∧ Sta Z Z.heap "com/example/riposte/riposte/packet/HeaderField" "INTER_PACKET_GAP" "Lcom/example/riposte/riposte/packet/HeaderField;" (.ref w_INTER_PACKET_GAP) ∧ Exa Z Z.heap w_INTER_PACKET_GAP "com/example/riposte/riposte/packet/HeaderField" ∧ Sta Z Z.heap "com/example/riposte/riposte/packet/HeaderField" "PG_COUNT" "Lcom/example/riposte/riposte/packet/HeaderField;" (.ref w_PG_COUNT) ∧ Exa Z Z.heap w_PG_COUNT "com/example/riposte/riposte/packet/HeaderField" ∧ Sta Z Z.heap "com/example/riposte/riposte/packet/HeaderField" "PRIORITY" "Lcom/example/riposte/riposte/packet/HeaderField;" (.ref w_PRIORITY) ∧ Exa Z Z.heap w_PRIORITY "com/example/riposte/riposte/packet/HeaderField" ∧ Sta Z Z.heap "com/example/riposte/riposte/packet/HeaderField" "FUNCTION_CODE" "Lcom/example/riposte/riposte/packet/HeaderField;" (.ref w_FUNCTION_CODE) ∧ Exa Z Z.heap w_FUNCTION_CODE "com/example/riposte/riposte/packet/HeaderField" ∧ Sta Z Z.heap "com/example/riposte/riposte/packet/HeaderField" "TRANSACTION" "Lcom/example/riposte/riposte/packet/HeaderField;" (.ref w_TRANSACTION) ∧ Exa Z Z.heap w_TRANSACTION "com/example/riposte/riposte/packet/HeaderField" ∧ Sta Z Z.heap "com/example/riposte/riposte/packet/HeaderField" "PACKET_DELIVERY" "Lcom/example/riposte/riposte/packet/HeaderField;" (.ref w_PACKET_DELIVERY) ∧ Exa Z Z.heap w_PACKET_DELIVERY "com/example/riposte/riposte/packet/HeaderField" ∧ Sta Z Z.heap "com/example/riposte/riposte/packet/HeaderField" "SERVER" "Lcom/example/riposte/riposte/packet/HeaderField;" (.ref w_SERVER) ∧ Exa Z Z.heap w_SERVER "com/example/riposte/riposte/packet/HeaderField" ∧ Sta Z Z.heap "com/example/riposte/riposte/packet/HeaderField" "FLAGS_AND_CODE" "Lcom/example/riposte/riposte/packet/HeaderField;" (.ref w_FLAGS_AND_CODE) ∧ Exa Z Z.heap w_FLAGS_AND_CODE "com/example/riposte/riposte/packet/HeaderField" ∧ Sta Z Z.heap "com/example/riposte/riposte/packet/HeaderField" "CMD" "Lcom/example/riposte/riposte/packet/HeaderField;" (.ref w_CMD) ∧ Exa Z Z.heap w_CMD "com/example/riposte/riposte/packet/HeaderField" ∧ Sta Z Z.heap "com/example/riposte/riposte/packet/HeaderField" "DGM" "Lcom/example/riposte/riposte/packet/HeaderField;" (.ref w_DGM) ∧ Exa Z Z.heap w_DGM "com/example/riposte/riposte/packet/HeaderField" ∧ Sta Z Z.heap "com/example/riposte/riposte/packet/HeaderField" "MDM" "Lcom/example/riposte/riposte/packet/HeaderField;" (.ref w_MDM) ∧ Exa Z Z.heap w_MDM "com/example/riposte/riposte/packet/HeaderField" ∧ Sta Z Z.heap "com/example/riposte/riposte/packet/HeaderField" "SDA" "Lcom/example/riposte/riposte/packet/HeaderField;" (.ref w_SDA) ∧ Exa Z Z.heap w_SDA "com/example/riposte/riposte/packet/HeaderField" ∧ Sta Z Z.heap "com/example/riposte/riposte/packet/HeaderField" "CRE" "Lcom/example/riposte/riposte/packet/HeaderField;" (.ref w_CRE) ∧ Exa Z Z.heap w_CRE "com/example/riposte/riposte/packet/HeaderField" ∧ Sta Z Z.heap "com/example/riposte/riposte/packet/HeaderField" "MRD" "Lcom/example/riposte/riposte/packet/HeaderField;" (.ref w_MRD) ∧ Exa Z Z.heap w_MRD "com/example/riposte/riposte/packet/HeaderField" ∧ Sta Z Z.heap "com/example/riposte/riposte/packet/HeaderField" "PIC" "Lcom/example/riposte/riposte/packet/HeaderField;" (.ref w_PIC) ∧ Exa Z Z.heap w_PIC "com/example/riposte/riposte/packet/HeaderField" ∧ Sta Z Z.heap "com/example/riposte/riposte/packet/HeaderField" "CODE" "Lcom/example/riposte/riposte/packet/HeaderField;" (.ref w_CODE) ∧ Exa Z Z.heap w_CODE "com/example/riposte/riposte/packet/HeaderField" ∧ Sta Z Z.heap "com/example/riposte/riposte/packet/HeaderField" "CO_RESIDENT_ENTITY" "Lcom/example/riposte/riposte/packet/HeaderField;" (.ref w_CO_RESIDENT_ENTITY) ∧ Exa Z Z.heap w_CO_RESIDENT_ENTITY "com/example/riposte/riposte/packet/HeaderField" ∧ Sta Z Z.heap "com/example/riposte/riposte/packet/HeaderField" "USER_DATA" "Lcom/example/riposte/riposte/packet/HeaderField;" (.ref w_USER_DATA) ∧ Exa Z Z.heap w_USER_DATA "com/example/riposte/riposte/packet/HeaderField" ∧ Sta Z Z.heap "com/example/riposte/riposte/packet/HeaderField" "MSG_DELIVERY" "Lcom/example/riposte/riposte/packet/HeaderField;" (.ref w_MSG_DELIVERY) ∧ Exa Z Z.heap w_MSG_DELIVERY "com/example/riposte/riposte/packet/HeaderField" ∧ Sta Z Z.heap "com/example/riposte/riposte/packet/HeaderField" "SEGMENT_SIZE" "Lcom/example/riposte/riposte/packet/HeaderField;" (.ref w_SEGMENT_SIZE) ∧ Exa Z Z.heap w_SEGMENT_SIZE "com/example/riposte/riposte/packet/HeaderField" ∧ Sta Z Z.heap "com/example/riposte/riposte/packet/HeaderField" "NOTIFY_CONTROL" "Lcom/example/riposte/riposte/packet/HeaderField;" (.ref w_NOTIFY_CONTROL) ∧ Exa Z Z.heap w_NOTIFY_CONTROL "com/example/riposte/riposte/packet/HeaderField" ∧ Sta Z Z.heap "com/example/riposte/riposte/packet/HeaderField" "NOTIFY_RECEIVE_SEQUENCE" "Lcom/example/riposte/riposte/packet/HeaderField;" (.ref w_NOTIFY_RECEIVE_SEQUENCE) ∧ Exa Z Z.heap w_NOTIFY_RECEIVE_SEQUENCE "com/example/riposte/riposte/packet/HeaderField" ∧ Sta Z Z.heap "com/example/riposte/riposte/packet/HeaderField" "NOTIFY_CLIENT" "Lcom/example/riposte/riposte/packet/HeaderField;" (.ref w_NOTIFY_CLIENT) ∧ Exa Z Z.heap w_NOTIFY_CLIENT "com/example/riposte/riposte/packet/HeaderField" ∧ Sta Z Z.heap "com/example/riposte/riposte/packet/HeaderField" "NOTIFY_TRANSACTION" "Lcom/example/riposte/riposte/packet/HeaderField;" (.ref w_NOTIFY_TRANSACTION) ∧ Exa Z Z.heap w_NOTIFY_TRANSACTION "com/example/riposte/riposte/packet/HeaderField" ∧ Sta Z Z.heap "com/example/riposte/riposte/packet/HeaderField" "NOTIFY_DELIVERY" "Lcom/example/riposte/riposte/packet/HeaderField;" (.ref w_NOTIFY_DELIVERY) ∧ Exa Z Z.heap w_NOTIFY_DELIVERY "com/example/riposte/riposte/packet/HeaderField" ∧ Sta Z Z.heap "com/example/riposte/riposte/packet/HeaderField" "NOTIFY_CODE" "Lcom/example/riposte/riposte/packet/HeaderField;" (.ref w_NOTIFY_CODE) ∧ Exa Z Z.heap w_NOTIFY_CODE "com/example/riposte/riposte/packet/HeaderField" ∧ Fld Z Z.heap w_CLIENT "com/example/riposte/riposte/packet/HeaderField" "width" "I" (.int (64 : Int32)) ∧ Fld Z Z.heap w_NRT "com/example/riposte/riposte/packet/HeaderField" "width" "I" (.int (1 : Int32)) ∧ Fld Z Z.heap w_CODE "com/example/riposte/riposte/packet/HeaderField" "width" "I" (.int (24 : Int32)) ∧ Fld Z Z.heap w_NOTIFY_DELIVERY "com/example/riposte/riposte/packet/HeaderField" "width" "I" (.int (32 : Int32)) ∧ Fld Z Z.heap w_MSG_DELIVERY "com/example/riposte/riposte/packet/HeaderField" "width" "I" (.int (32 : Int32)) ∧ Fld Z Z.heap w_FORWARD_COUNT "com/example/riposte/riposte/packet/HeaderField" "width" "I" (.int (4 : Int32)) ∧ Fld Z Z.heap w_NER "com/example/riposte/riposte/packet/HeaderField" "width" "I" (.int (1 : Int32)) ∧ Fld Z Z.heap w_NSR "com/example/riposte/riposte/packet/HeaderField" "width" "I" (.int (1 : Int32)) ∧ Fld Z Z.heap w_NRS "com/example/riposte/riposte/packet/HeaderField" "width" "I" (.int (1 : Int32)) ∧ Fld Z Z.heap w_SDA "com/example/riposte/riposte/packet/HeaderField" "width" "I" (.int (1 : Int32)) ∧ Fld Z Z.heap w_VERSION "com/example/riposte/riposte/packet/HeaderField" "width" "I" (.int (3 : Int32)) ∧ Fld Z Z.heap w_DRT "com/example/riposte/riposte/packet/HeaderField" "width" "I" (.int (1 : Int32)) ∧ Fld Z Z.heap w_DOMAIN "com/example/riposte/riposte/packet/HeaderField" "width" "I" (.int (13 : Int32)) ∧ Fld Z Z.heap w_HCO "com/example/riposte/riposte/packet/HeaderField" "width" "I" (.int (1 : Int32)) ∧ Fld Z Z.heap w_PACKET_DELIVERY "com/example/riposte/riposte/packet/HeaderField" "width" "I" (.int (32 : Int32)) ∧ Fld Z Z.heap w_CONTROL "com/example/riposte/riposte/packet/HeaderField" "width" "I" (.int (32 : Int32)) ∧ Fld Z Z.heap w_NOTIFY_CONTROL "com/example/riposte/riposte/packet/HeaderField" "width" "I" (.int (32 : Int32)) ∧ Fld Z Z.heap w_RETRANSMIT_COUNT "com/example/riposte/riposte/packet/HeaderField" "width" "I" (.int (3 : Int32)) ∧ Fld Z Z.heap w_APG "com/example/riposte/riposte/packet/HeaderField" "width" "I" (.int (1 : Int32)) ∧ Fld Z Z.heap w_NOTIFY_CODE "com/example/riposte/riposte/packet/HeaderField" "width" "I" (.int (32 : Int32)) ∧ Fld Z Z.heap w_CRE "com/example/riposte/riposte/packet/HeaderField" "width" "I" (.int (1 : Int32)) ∧ Fld Z Z.heap w_MPG "com/example/riposte/riposte/packet/HeaderField" "width" "I" (.int (1 : Int32)) ∧ Fld Z Z.heap w_LENGTH "com/example/riposte/riposte/packet/HeaderField" "width" "I" (.int (13 : Int32)) ∧ Fld Z Z.heap w_EPG "com/example/riposte/riposte/packet/HeaderField" "width" "I" (.int (1 : Int32)) ∧ Fld Z Z.heap w_PIC "com/example/riposte/riposte/packet/HeaderField" "width" "I" (.int (1 : Int32)) ∧ Fld Z Z.heap w_PRIORITY "com/example/riposte/riposte/packet/HeaderField" "width" "I" (.int (4 : Int32)) ∧ Fld Z Z.heap w_NOTIFY_CLIENT "com/example/riposte/riposte/packet/HeaderField" "width" "I" (.int (64 : Int32)) ∧ Fld Z Z.heap w_PG_COUNT "com/example/riposte/riposte/packet/HeaderField" "width" "I" (.int (8 : Int32)) ∧ Fld Z Z.heap w_SERVER "com/example/riposte/riposte/packet/HeaderField" "width" "I" (.int (64 : Int32)) ∧ Fld Z Z.heap w_CMG "com/example/riposte/riposte/packet/HeaderField" "width" "I" (.int (1 : Int32)) ∧ Fld Z Z.heap w_MDG "com/example/riposte/riposte/packet/HeaderField" "width" "I" (.int (1 : Int32)) ∧ Fld Z Z.heap w_CMD "com/example/riposte/riposte/packet/HeaderField" "width" "I" (.int (1 : Int32)) ∧ Fld Z Z.heap w_TRANSACTION "com/example/riposte/riposte/packet/HeaderField" "width" "I" (.int (32 : Int32)) ∧ Fld Z Z.heap w_NOTIFY_RECEIVE_SEQUENCE "com/example/riposte/riposte/packet/HeaderField" "width" "I" (.int (32 : Int32)) ∧ Fld Z Z.heap w_MRD "com/example/riposte/riposte/packet/HeaderField" "width" "I" (.int (1 : Int32)) ∧ Fld Z Z.heap w_STI "com/example/riposte/riposte/packet/HeaderField" "width" "I" (.int (1 : Int32)) ∧ Fld Z Z.heap w_MDM "com/example/riposte/riposte/packet/HeaderField" "width" "I" (.int (1 : Int32)) ∧ Fld Z Z.heap w_FUNCTION_CODE "com/example/riposte/riposte/packet/HeaderField" "width" "I" (.int (1 : Int32)) ∧ Fld Z Z.heap w_INTER_PACKET_GAP "com/example/riposte/riposte/packet/HeaderField" "width" "I" (.int (8 : Int32)) ∧ Fld Z Z.heap w_FLAGS_AND_CODE "com/example/riposte/riposte/packet/HeaderField" "width" "I" (.int (32 : Int32)) ∧ Fld Z Z.heap w_CO_RESIDENT_ENTITY "com/example/riposte/riposte/packet/HeaderField" "width" "I" (.int (64 : Int32)) ∧ Fld Z Z.heap w_NOTIFY_TRANSACTION "com/example/riposte/riposte/packet/HeaderField" "width" "I" (.int (32 : Int32)) ∧ Fld Z Z.heap w_USER_DATA "com/example/riposte/riposte/packet/HeaderField" "width" "I" (.int (64 : Int32)) ∧ Fld Z Z.heap w_DGM "com/example/riposte/riposte/packet/HeaderField" "width" "I" (.int (1 : Int32)) ∧ Fld Z Z.heap w_SEGMENT_SIZE "com/example/riposte/riposte/packet/HeaderField" "width" "I" (.int (32 : Int32))
theorem ef_hold (m : MethodId) (a1 : Addr) (q1 : Int64) : entryFrame m #[(.ref a1), (.long q1)] 3 = mkF m 0 #[.val (.ref a1), .val (.long q1), .second] [] := by first | (simp [entryFrame, mkF, argsToLocals, Value.category]; done) | rfl
def Q_hold (Z : State) (a1 : Addr) (q1 : Int64) (k1 : Int32) (h0 : Heap) (n0 : Nat) (v : Option Value) (h : Heap) (L : List Loc) : Prop := v = some (.int (own_holds k1 q1)) ∧ Fr n0 L ∧ h = h0
set_option maxRecDepth 65536 in
set_option maxHeartbeats 40000000 in
theorem hold (l : Launch) (Z : State) (a0 : Array Value) (hw : ∀ d ∈ tables_1, d.before a0 Z = true) (ws : List Jvm.Cond) (a1 : Addr) (q1 : Int64) (k1 : Int32) (h0 : Heap) (n0 : Nat) (O0 : Old Z n0 h0) (F1 : Fld Z h0 a1 "com/example/riposte/riposte/packet/HeaderField" "width" "I" (.int k1)) :
    MetFree l (⟨"com/example/riposte/riposte/packet/HeaderField", "holds", "(J)Z"⟩ : MethodName) (head1 (Jvm.Cond.code (⟨"com/example/riposte/riposte/packet/HeaderField", "holds", "(J)Z"⟩ : MethodName) prog_43_method_4_code 3 (some .boolean) :: ws) ({ frames := 0, cells := 0, slots := 0, locals := 0 } : Room)) (fun a U => a = #[(.ref a1), (.long q1)] ∧ Z.Warmed39 U.vm ∧ U.heap = h0) (fun _ _ _ _ _ => True) (fun _ U o U' => ∃ v L, o = .returned v ∧ Q_hold Z a1 q1 k1 h0 n0 v U'.heap L ∧ FrameEnd U o U' L ({ frames := 0, cells := 0, slots := 0, locals := 0 } : Room).cells ({ frames := 0, cells := 0, slots := 0, locals := 0 } : Room).slots) := by
  refine MetFree.of_bodySF (plainFor_of_name pn_com_example_riposte_riposte_packet_HeaderField) hisR ?_
  intro p e s m args below meth c s₁ Bd hml0 hP hK
  obtain ⟨rfl, hZ, hh⟩ := hP
  have hx := Bd.exec
  have hby := Bd.bytes
  have hml : c.maxLocals = 3 := hml0
  have hown : s.vm.findClass "com/example/riposte/riposte/packet/HeaderField" = some m.cls := findClass_of_methodNamed Bd.named
  have hnm := (name_of_methodNamed Bd.named Bd.method).1
  have X0 : Stand p l e ({ frames := 0, cells := 0, slots := 0, locals := 0 } : Room) s m #[(.ref a1), (.long q1)] below meth c s₁ [] 0 0 := Stand.of_body Bd
  have e0 : s₁.heap = h0 := by rw [← hh, Bd.state]; rfl
  have N0 := Fr.nil n0
  have pre0 : ∀ t, Steps p.tables e below (s₁.setTop (mkF m 0 #[.val (.ref a1), .val (.long q1), .second] [])) t → Steps p.tables e below (s₁.setTop (entryFrame m #[(.ref a1), (.long q1)] 3)) t := fun t k => castTop (ef_hold m a1 q1) k
  obtain ⟨T1, X1, e1, st1⟩ := getF X0 hx hZ hown (host := "") (Or.inl (hw _ (List.mem_of_getElem? (i := 109) rfl))) Via.refl e0 F1 (g := (mkF m 1 #[.val (.ref a1), .val (.long q1), .second] [(.ref a1)])) rfl rfl (hb hby d1_1)
  have pre2 : ∀ t, Steps p.tables e below (T1.setTop (mkF m 6 #[.val (.ref a1), .val (.long q1), .second] [(.int (64 : Int32)), (.int k1)])) t → Steps p.tables e below (s₁.setTop (entryFrame m #[(.ref a1), (.long q1)] 3)) t := by
    intro t kt
    refine pre0 _ ?_
    show Steps p.tables e below (s₁.setTop (mkF m 0 #[.val (.ref a1), .val (.long q1), .second] [])) _
    refine XS.aloadN X0.here hx rfl (hb hby d1_0) rfl rfl ?_
    show Steps p.tables e below (s₁.setTop (mkF m 1 #[.val (.ref a1), .val (.long q1), .second] [(.ref a1)])) _
    refine st1 _ ?_
    show Steps p.tables e below (T1.setTop (mkF m 4 #[.val (.ref a1), .val (.long q1), .second] [(.int k1)])) _
    refine XS.bipush X1.here hx rfl (hb hby d1_4) ?_
    exact kt
  by_cases hc6_2 : k1 = (64 : Int32)
  · obtain ⟨fs, hr, hrun, hended, hW, hsame⟩ := X1.leave (v := some (.int (1 : Int32))) (fun h => by rw [Bd.returns] at h; cases h)
    refine ⟨_, _, pre2 _ ?_, hrun, hended, _, _, rfl, ?_, ⟨_, rfl⟩, hW, hsame.mono (by decide) (by decide)⟩
    · show Steps p.tables e below (T1.setTop (mkF m 6 #[.val (.ref a1), .val (.long q1), .second] [(.int (64 : Int32)), (.int k1)])) _
      refine XS.icmpYes X1.here hx rfl (pc0 := 6) (pc' := 20) rfl (hb hby d1_6) rfl (teq hc6_2).1 (by decide) (by decide) ?_
      show Steps p.tables e below (T1.setTop (mkF m 20 #[.val (.ref a1), .val (.long q1), .second] [])) _
      refine XS.iconst X1.here hx rfl (hb hby d1_20) ?_
      show Steps p.tables e below (T1.setTop (mkF m 21 #[.val (.ref a1), .val (.long q1), .second] [(.int (1 : Int32))])) _
      refine XS.goto X1.here hx rfl (pc0 := 21) (pc' := 25) rfl (hb hby d1_21) (by decide) (by decide) ?_
      show Steps p.tables e below (T1.setTop (mkF m 25 #[.val (.ref a1), .val (.long q1), .second] [(.int (1 : Int32))])) _
      exact retN X1 hx (t := .boolean) Bd.returns (by simp) (hb hby d1_25) hr
    · show Q_hold Z a1 q1 k1 h0 n0 _ T1.heap _
      rw [e1]
      exact ⟨by simp only [own_holds, if_pos hc6_2], N0, rfl⟩
  · obtain ⟨T3, X3, e3, st3⟩ := getF X1 hx hZ hown (host := "") (Or.inl (hw _ (List.mem_of_getElem? (i := 109) rfl))) Via.refl e1 F1 (g := (mkF m 11 #[.val (.ref a1), .val (.long q1), .second] [(.ref a1), (.long q1)])) rfl rfl (hb hby d1_11)
    have pre4 : ∀ t, Steps p.tables e below (T3.setTop (mkF m 17 #[.val (.ref a1), .val (.long q1), .second] [(.int (lcmpW ((q1.toUInt64 >>> (k1 &&& 0x3f).toInt64.toUInt64).toInt64) (0 : Int64)))])) t → Steps p.tables e below (s₁.setTop (entryFrame m #[(.ref a1), (.long q1)] 3)) t := by
      intro t kt
      refine pre2 _ ?_
      show Steps p.tables e below (T1.setTop (mkF m 6 #[.val (.ref a1), .val (.long q1), .second] [(.int (64 : Int32)), (.int k1)])) _
      refine XS.icmpNo X1.here hx rfl (hb hby d1_6) rfl (feq hc6_2).1 ?_
      show Steps p.tables e below (T1.setTop (mkF m 9 #[.val (.ref a1), .val (.long q1), .second] [])) _
      refine XS.lloadN X1.here hx rfl (hb hby d1_9) rfl ?_
      show Steps p.tables e below (T1.setTop (mkF m 10 #[.val (.ref a1), .val (.long q1), .second] [(.long q1)])) _
      refine XS.aloadN X1.here hx rfl (hb hby d1_10) rfl rfl ?_
      show Steps p.tables e below (T1.setTop (mkF m 11 #[.val (.ref a1), .val (.long q1), .second] [(.ref a1), (.long q1)])) _
      refine st3 _ ?_
      show Steps p.tables e below (T3.setTop (mkF m 14 #[.val (.ref a1), .val (.long q1), .second] [(.int k1), (.long q1)])) _
      refine XS.lushr X3.here hx rfl (hb hby d1_14) rfl ?_
      show Steps p.tables e below (T3.setTop (mkF m 15 #[.val (.ref a1), .val (.long q1), .second] [(.long ((q1.toUInt64 >>> (k1 &&& 0x3f).toInt64.toUInt64).toInt64))])) _
      refine XS.lconst X3.here hx rfl (hb hby d1_15) ?_
      show Steps p.tables e below (T3.setTop (mkF m 16 #[.val (.ref a1), .val (.long q1), .second] [(.long (0 : Int64)), (.long ((q1.toUInt64 >>> (k1 &&& 0x3f).toInt64.toUInt64).toInt64))])) _
      refine XS.lcmp X3.here hx rfl (hb hby d1_16) rfl ?_
      exact kt
    by_cases hc17_4 : (lcmpW ((q1.toUInt64 >>> (k1 &&& 0x3f).toInt64.toUInt64).toInt64) (0 : Int64)) = (0 : Int32)
    · obtain ⟨fs, hr, hrun, hended, hW, hsame⟩ := X3.leave (v := some (.int (1 : Int32))) (fun h => by rw [Bd.returns] at h; cases h)
      refine ⟨_, _, pre4 _ ?_, hrun, hended, _, _, rfl, ?_, ⟨_, rfl⟩, hW, hsame.mono (by decide) (by decide)⟩
      · show Steps p.tables e below (T3.setTop (mkF m 17 #[.val (.ref a1), .val (.long q1), .second] [(.int (lcmpW ((q1.toUInt64 >>> (k1 &&& 0x3f).toInt64.toUInt64).toInt64) (0 : Int64)))])) _
        refine XS.ifNo X3.here hx rfl (hb hby d1_17) rfl ((if0 _ _).trans (teq hc17_4).2) ?_
        show Steps p.tables e below (T3.setTop (mkF m 20 #[.val (.ref a1), .val (.long q1), .second] [])) _
        refine XS.iconst X3.here hx rfl (hb hby d1_20) ?_
        show Steps p.tables e below (T3.setTop (mkF m 21 #[.val (.ref a1), .val (.long q1), .second] [(.int (1 : Int32))])) _
        refine XS.goto X3.here hx rfl (pc0 := 21) (pc' := 25) rfl (hb hby d1_21) (by decide) (by decide) ?_
        show Steps p.tables e below (T3.setTop (mkF m 25 #[.val (.ref a1), .val (.long q1), .second] [(.int (1 : Int32))])) _
        exact retN X3 hx (t := .boolean) Bd.returns (by simp) (hb hby d1_25) hr
      · show Q_hold Z a1 q1 k1 h0 n0 _ T3.heap _
        rw [e3]
        exact ⟨by simp only [own_holds, if_neg hc6_2, if_pos hc17_4], N0, rfl⟩
    · obtain ⟨fs, hr, hrun, hended, hW, hsame⟩ := X3.leave (v := some (.int (0 : Int32))) (fun h => by rw [Bd.returns] at h; cases h)
      refine ⟨_, _, pre4 _ ?_, hrun, hended, _, _, rfl, ?_, ⟨_, rfl⟩, hW, hsame.mono (by decide) (by decide)⟩
      · show Steps p.tables e below (T3.setTop (mkF m 17 #[.val (.ref a1), .val (.long q1), .second] [(.int (lcmpW ((q1.toUInt64 >>> (k1 &&& 0x3f).toInt64.toUInt64).toInt64) (0 : Int64)))])) _
        refine XS.ifYes X3.here hx rfl (pc0 := 17) (pc' := 24) rfl (hb hby d1_17) rfl ((if0 _ _).trans (feq hc17_4).2) (by decide) (by decide) ?_
        show Steps p.tables e below (T3.setTop (mkF m 24 #[.val (.ref a1), .val (.long q1), .second] [])) _
        refine XS.iconst X3.here hx rfl (hb hby d1_24) ?_
        show Steps p.tables e below (T3.setTop (mkF m 25 #[.val (.ref a1), .val (.long q1), .second] [(.int (0 : Int32))])) _
        exact retN X3 hx (t := .boolean) Bd.returns (by simp) (hb hby d1_25) hr
      · show Q_hold Z a1 q1 k1 h0 n0 _ T3.heap _
        rw [e3]
        exact ⟨by simp only [own_holds, if_neg hc6_2, if_neg hc17_4], N0, rfl⟩
theorem ef_rm0 (m : MethodId) (p1 : Int32) (p2 : Int32) (q1 : Int64) : entryFrame m #[(.int p1), (.int p2), (.long q1)] maxLocals = mkF m 0 #[.val (.int p1), .val (.int p2), .val (.long q1), .second, .unset, .unset, .unset, .unset, .unset, .unset, .unset, .unset, .unset, .unset] [] := by first | (simp [entryFrame, mkF, argsToLocals, Value.category, maxLocals]; done) | rfl
def Q_rm0 (Z : State) (p1 p2 : Int32) (q1 : Int64) (w_CLIENT w_VERSION w_DOMAIN w_HCO w_EPG w_MPG w_LENGTH w_CONTROL w_NRS w_APG w_NSR w_NER w_NRT w_MDG w_CMG w_STI w_DRT w_RETRANSMIT_COUNT w_FORWARD_COUNT w_INTER_PACKET_GAP w_PG_COUNT w_PRIORITY w_FUNCTION_CODE w_TRANSACTION w_PACKET_DELIVERY w_SERVER w_FLAGS_AND_CODE w_CMD w_DGM w_MDM w_SDA w_CRE w_MRD w_PIC w_CODE w_CO_RESIDENT_ENTITY w_USER_DATA w_MSG_DELIVERY w_SEGMENT_SIZE w_NOTIFY_CONTROL w_NOTIFY_RECEIVE_SEQUENCE w_NOTIFY_CLIENT w_NOTIFY_TRANSACTION w_NOTIFY_DELIVERY w_NOTIFY_CODE : Addr) (h0 : Heap) (n0 : Nat) (v : Option Value) (h : Heap) (L : List Loc) : Prop := v = some (.int (1 : Int32)) ∧ Fr n0 L
set_option maxRecDepth 65536 in
set_option maxHeartbeats 40000000 in
theorem rm0 (l : Launch) (Z : State) (a0 : Array Value) (hw : ∀ d ∈ tables_1, d.before a0 Z = true) (ws : List Jvm.Cond) (p1 p2 : Int32) (q1 : Int64) (w_CLIENT w_VERSION w_DOMAIN w_HCO w_EPG w_MPG w_LENGTH w_CONTROL w_NRS w_APG w_NSR w_NER w_NRT w_MDG w_CMG w_STI w_DRT w_RETRANSMIT_COUNT w_FORWARD_COUNT w_INTER_PACKET_GAP w_PG_COUNT w_PRIORITY w_FUNCTION_CODE w_TRANSACTION w_PACKET_DELIVERY w_SERVER w_FLAGS_AND_CODE w_CMD w_DGM w_MDM w_SDA w_CRE w_MRD w_PIC w_CODE w_CO_RESIDENT_ENTITY w_USER_DATA w_MSG_DELIVERY w_SEGMENT_SIZE w_NOTIFY_CONTROL w_NOTIFY_RECEIVE_SEQUENCE w_NOTIFY_CLIENT w_NOTIFY_TRANSACTION w_NOTIFY_DELIVERY w_NOTIFY_CODE : Addr) (h0 : Heap) (n0 : Nat) (O0 : Old Z n0 h0) (hE : OwnEnv Z w_CLIENT w_VERSION w_DOMAIN w_HCO w_EPG w_MPG w_LENGTH w_CONTROL w_NRS w_APG w_NSR w_NER w_NRT w_MDG w_CMG w_STI w_DRT w_RETRANSMIT_COUNT w_FORWARD_COUNT w_INTER_PACKET_GAP w_PG_COUNT w_PRIORITY w_FUNCTION_CODE w_TRANSACTION w_PACKET_DELIVERY w_SERVER w_FLAGS_AND_CODE w_CMD w_DGM w_MDM w_SDA w_CRE w_MRD w_PIC w_CODE w_CO_RESIDENT_ENTITY w_USER_DATA w_MSG_DELIVERY w_SEGMENT_SIZE w_NOTIFY_CONTROL w_NOTIFY_RECEIVE_SEQUENCE w_NOTIFY_CLIENT w_NOTIFY_TRANSACTION w_NOTIFY_DELIVERY w_NOTIFY_CODE) :
    MetFree l x (head1 (Jvm.Cond.code x code maxLocals ret :: ws) room_1) (fun a U => a = #[(.int p1), (.int p2), (.long q1)] ∧ Z.Warmed39 U.vm ∧ U.heap = h0) (fun _ _ _ _ _ => True) (fun _ U o U' => ∃ v L, o = .returned v ∧ Q_rm0 Z p1 p2 q1 w_CLIENT w_VERSION w_DOMAIN w_HCO w_EPG w_MPG w_LENGTH w_CONTROL w_NRS w_APG w_NSR w_NER w_NRT w_MDG w_CMG w_STI w_DRT w_RETRANSMIT_COUNT w_FORWARD_COUNT w_INTER_PACKET_GAP w_PG_COUNT w_PRIORITY w_FUNCTION_CODE w_TRANSACTION w_PACKET_DELIVERY w_SERVER w_FLAGS_AND_CODE w_CMD w_DGM w_MDM w_SDA w_CRE w_MRD w_PIC w_CODE w_CO_RESIDENT_ENTITY w_USER_DATA w_MSG_DELIVERY w_SEGMENT_SIZE w_NOTIFY_CONTROL w_NOTIFY_RECEIVE_SEQUENCE w_NOTIFY_CLIENT w_NOTIFY_TRANSACTION w_NOTIFY_DELIVERY w_NOTIFY_CODE h0 n0 v U'.heap L ∧ FrameEnd U o U' L room_1.cells room_1.slots) := by
  refine MetFree.of_bodySF (plainFor_of_name pn_com_example_riposte_riposte_packet_HeaderFieldHoldsPinLaw) hisR ?_
  intro p e s m args below meth c s₁ Bd hml0 hP hK
  obtain ⟨rfl, hZ, hh⟩ := hP
  have hx := Bd.exec
  have hby := Bd.bytes
  have hml : c.maxLocals = 14 := hml0
  have hown : s.vm.findClass "com/example/riposte/riposte/packet/HeaderFieldHoldsPinLaw" = some m.cls := findClass_of_methodNamed Bd.named
  have hnm := (name_of_methodNamed Bd.named Bd.method).1
  have X0 : Stand p l e room_1 s m #[(.int p1), (.int p2), (.long q1)] below meth c s₁ [] 0 0 := Stand.of_body Bd
  have e0 : s₁.heap = h0 := by rw [← hh, Bd.state]; rfl
  have N0 := Fr.nil n0
  have pre0 : ∀ t, Steps p.tables e below (s₁.setTop (mkF m 0 #[.val (.int p1), .val (.int p2), .val (.long q1), .second, .unset, .unset, .unset, .unset, .unset, .unset, .unset, .unset, .unset, .unset] [])) t → Steps p.tables e below (s₁.setTop (entryFrame m #[(.int p1), (.int p2), (.long q1)] maxLocals)) t := fun t k => castTop (ef_rm0 m p1 p2 q1) k
  have hE_ := hE; obtain ⟨S_w_CLIENT, E_w_CLIENT, S_w_VERSION, E_w_VERSION, S_w_DOMAIN, E_w_DOMAIN, S_w_HCO, E_w_HCO, S_w_EPG, E_w_EPG, S_w_MPG, E_w_MPG, S_w_LENGTH, E_w_LENGTH, S_w_CONTROL, E_w_CONTROL, S_w_NRS, E_w_NRS, S_w_APG, E_w_APG, S_w_NSR, E_w_NSR, S_w_NER, E_w_NER, S_w_NRT, E_w_NRT, S_w_MDG, E_w_MDG, S_w_CMG, E_w_CMG, S_w_STI, E_w_STI, S_w_DRT, E_w_DRT, S_w_RETRANSMIT_COUNT, E_w_RETRANSMIT_COUNT, S_w_FORWARD_COUNT, E_w_FORWARD_COUNT, S_w_INTER_PACKET_GAP, E_w_INTER_PACKET_GAP, S_w_PG_COUNT, E_w_PG_COUNT, S_w_PRIORITY, E_w_PRIORITY, S_w_FUNCTION_CODE, E_w_FUNCTION_CODE, S_w_TRANSACTION, E_w_TRANSACTION, S_w_PACKET_DELIVERY, E_w_PACKET_DELIVERY, S_w_SERVER, E_w_SERVER, S_w_FLAGS_AND_CODE, E_w_FLAGS_AND_CODE, S_w_CMD, E_w_CMD, S_w_DGM, E_w_DGM, S_w_MDM, E_w_MDM, S_w_SDA, E_w_SDA, S_w_CRE, E_w_CRE, S_w_MRD, E_w_MRD, S_w_PIC, E_w_PIC, S_w_CODE, E_w_CODE, S_w_CO_RESIDENT_ENTITY, E_w_CO_RESIDENT_ENTITY, S_w_USER_DATA, E_w_USER_DATA, S_w_MSG_DELIVERY, E_w_MSG_DELIVERY, S_w_SEGMENT_SIZE, E_w_SEGMENT_SIZE, S_w_NOTIFY_CONTROL, E_w_NOTIFY_CONTROL, S_w_NOTIFY_RECEIVE_SEQUENCE, E_w_NOTIFY_RECEIVE_SEQUENCE, S_w_NOTIFY_CLIENT, E_w_NOTIFY_CLIENT, S_w_NOTIFY_TRANSACTION, E_w_NOTIFY_TRANSACTION, S_w_NOTIFY_DELIVERY, E_w_NOTIFY_DELIVERY, S_w_NOTIFY_CODE, E_w_NOTIFY_CODE, F_width_w_CLIENT, F_width_w_NRT, F_width_w_CODE, F_width_w_NOTIFY_DELIVERY, F_width_w_MSG_DELIVERY, F_width_w_FORWARD_COUNT, F_width_w_NER, F_width_w_NSR, F_width_w_NRS, F_width_w_SDA, F_width_w_VERSION, F_width_w_DRT, F_width_w_DOMAIN, F_width_w_HCO, F_width_w_PACKET_DELIVERY, F_width_w_CONTROL, F_width_w_NOTIFY_CONTROL, F_width_w_RETRANSMIT_COUNT, F_width_w_APG, F_width_w_NOTIFY_CODE, F_width_w_CRE, F_width_w_MPG, F_width_w_LENGTH, F_width_w_EPG, F_width_w_PIC, F_width_w_PRIORITY, F_width_w_NOTIFY_CLIENT, F_width_w_PG_COUNT, F_width_w_SERVER, F_width_w_CMG, F_width_w_MDG, F_width_w_CMD, F_width_w_TRANSACTION, F_width_w_NOTIFY_RECEIVE_SEQUENCE, F_width_w_MRD, F_width_w_STI, F_width_w_MDM, F_width_w_FUNCTION_CODE, F_width_w_INTER_PACKET_GAP, F_width_w_FLAGS_AND_CODE, F_width_w_CO_RESIDENT_ENTITY, F_width_w_NOTIFY_TRANSACTION, F_width_w_USER_DATA, F_width_w_DGM, F_width_w_SEGMENT_SIZE⟩ := hE_
  obtain ⟨T1, h1, k1, X1, e1, E1, A1, Ov1, st1⟩ := newR X0 hx hZ hown (hw _ (List.mem_of_getElem? (i := 0) rfl)) (hw _ (List.mem_of_getElem? (i := 1) rfl)) e0 (g := (mkF m 2 #[.val (.int p1), .val (.int p2), .val (.long q1), .second, .unset, .unset, .unset, .unset, .unset, .unset, .unset, .unset, .unset, .unset] [(.int (45 : Int32))])) rfl (hb hby at_2) rfl (by decide) (cap := 45) (by decide) (by decide) (by decide) (by decide)
  obtain ⟨b1, g1⟩ : ∃ z, z = h0.size := ⟨_, rfl⟩
  rw [← g1] at A1 st1
  have g_b1 : n0 ≤ b1 := Nat.le_trans (own_le O0) (Nat.le_of_eq g1.symm)
  have O1 := O0.ext E1
  have V1 : Arv Z h1 b1 k1 (.object "com/example/riposte/riposte/packet/HeaderField") (45 : Int32) [.null, .null, .null, .null, .null, .null, .null, .null, .null, .null, .null, .null, .null, .null, .null, .null, .null, .null, .null, .null, .null, .null, .null, .null, .null, .null, .null, .null, .null, .null, .null, .null, .null, .null, .null, .null, .null, .null, .null, .null, .null, .null, .null, .null, .null] .null := (Arv.new A1 (by decide)).pad (pad_rep [] .null 45)
  obtain ⟨T2, X2, e2, st2⟩ := getS2 X1 hx hZ hown (host := "") (Or.inl (hw _ (List.mem_of_getElem? (i := 2) rfl))) Via.refl e1 (S_w_CLIENT.ext O1.2) (g := (mkF m 7 #[.val (.int p1), .val (.int p2), .val (.long q1), .second, .unset, .unset, .unset, .unset, .unset, .unset, .unset, .unset, .unset, .unset] [(.int (0 : Int32)), (.ref b1), (.ref b1)])) rfl (hb hby at_7)
  have V3 := V1
  have K3 := Keep.refl h1 [b1]
  obtain ⟨T4, h4, lo4, X4, e4, O4, N4, K4, Vn4, st4⟩ := own_stR X2 hx hZ e2 O1 N0 K3 V3 Ov1 g_b1 (E_w_CLIENT.ext O1.2) (j := (0 : Int32)) (by decide) 0 rfl (Nat.le_of_ble_eq_true rfl) (g := (mkF m 10 #[.val (.int p1), .val (.int p2), .val (.long q1), .second, .unset, .unset, .unset, .unset, .unset, .unset, .unset, .unset, .unset, .unset] [(.ref w_CLIENT), (.int (0 : Int32)), (.ref b1), (.ref b1)])) rfl rfl (hb hby at_10)
  have V4 : Arv Z h4 b1 k1 (.object "com/example/riposte/riposte/packet/HeaderField") (45 : Int32) [(.ref w_CLIENT), .null, .null, .null, .null, .null, .null, .null, .null, .null, .null, .null, .null, .null, .null, .null, .null, .null, .null, .null, .null, .null, .null, .null, .null, .null, .null, .null, .null, .null, .null, .null, .null, .null, .null, .null, .null, .null, .null, .null, .null, .null, .null, .null, .null] .null := Vn4
  have pre5 : ∀ t, Steps p.tables e below (T4.setTop (mkF m 11 #[.val (.int p1), .val (.int p2), .val (.long q1), .second, .unset, .unset, .unset, .unset, .unset, .unset, .unset, .unset, .unset, .unset] [(.ref b1)])) t → Steps p.tables e below (s₁.setTop (entryFrame m #[(.int p1), (.int p2), (.long q1)] maxLocals)) t := by
    intro t kt
    refine pre0 _ ?_
    show Steps p.tables e below (s₁.setTop (mkF m 0 #[.val (.int p1), .val (.int p2), .val (.long q1), .second, .unset, .unset, .unset, .unset, .unset, .unset, .unset, .unset, .unset, .unset] [])) _
    refine XS.bipush X0.here hx rfl (hb hby at_0) ?_
    show Steps p.tables e below (s₁.setTop (mkF m 2 #[.val (.int p1), .val (.int p2), .val (.long q1), .second, .unset, .unset, .unset, .unset, .unset, .unset, .unset, .unset, .unset, .unset] [(.int (45 : Int32))])) _
    refine st1 _ ?_
    show Steps p.tables e below (T1.setTop (mkF m 5 #[.val (.int p1), .val (.int p2), .val (.long q1), .second, .unset, .unset, .unset, .unset, .unset, .unset, .unset, .unset, .unset, .unset] [(.ref b1)])) _
    refine XS.dup X1.here hx rfl (hb hby at_5) rfl rfl ?_
    show Steps p.tables e below (T1.setTop (mkF m 6 #[.val (.int p1), .val (.int p2), .val (.long q1), .second, .unset, .unset, .unset, .unset, .unset, .unset, .unset, .unset, .unset, .unset] [(.ref b1), (.ref b1)])) _
    refine XS.iconst X1.here hx rfl (hb hby at_6) ?_
    show Steps p.tables e below (T1.setTop (mkF m 7 #[.val (.int p1), .val (.int p2), .val (.long q1), .second, .unset, .unset, .unset, .unset, .unset, .unset, .unset, .unset, .unset, .unset] [(.int (0 : Int32)), (.ref b1), (.ref b1)])) _
    refine st2 _ ?_
    show Steps p.tables e below (T2.setTop (mkF m 10 #[.val (.int p1), .val (.int p2), .val (.long q1), .second, .unset, .unset, .unset, .unset, .unset, .unset, .unset, .unset, .unset, .unset] [(.ref w_CLIENT), (.int (0 : Int32)), (.ref b1), (.ref b1)])) _
    refine st4 _ ?_
    exact kt
  obtain ⟨T6, X6, e6, st6⟩ := getS2 X4 hx hZ hown (host := "") (Or.inl (hw _ (List.mem_of_getElem? (i := 6) rfl))) Via.refl e4 (S_w_VERSION.ext O4.2) (g := (mkF m 13 #[.val (.int p1), .val (.int p2), .val (.long q1), .second, .unset, .unset, .unset, .unset, .unset, .unset, .unset, .unset, .unset, .unset] [(.int (1 : Int32)), (.ref b1), (.ref b1)])) rfl (hb hby at_13)
  obtain ⟨T7, h7, lo7, X7, e7, O7, N7, K7, Vn7, st7⟩ := own_stR X6 hx hZ e6 O4 N4 K4 V4 Ov1 g_b1 (E_w_VERSION.ext O4.2) (j := (1 : Int32)) (by decide) 1 rfl (Nat.le_of_ble_eq_true rfl) (g := (mkF m 16 #[.val (.int p1), .val (.int p2), .val (.long q1), .second, .unset, .unset, .unset, .unset, .unset, .unset, .unset, .unset, .unset, .unset] [(.ref w_VERSION), (.int (1 : Int32)), (.ref b1), (.ref b1)])) rfl rfl (hb hby at_16)
  have V7 : Arv Z h7 b1 k1 (.object "com/example/riposte/riposte/packet/HeaderField") (45 : Int32) [(.ref w_CLIENT), (.ref w_VERSION), .null, .null, .null, .null, .null, .null, .null, .null, .null, .null, .null, .null, .null, .null, .null, .null, .null, .null, .null, .null, .null, .null, .null, .null, .null, .null, .null, .null, .null, .null, .null, .null, .null, .null, .null, .null, .null, .null, .null, .null, .null, .null, .null] .null := Vn7
  have pre8 : ∀ t, Steps p.tables e below (T7.setTop (mkF m 17 #[.val (.int p1), .val (.int p2), .val (.long q1), .second, .unset, .unset, .unset, .unset, .unset, .unset, .unset, .unset, .unset, .unset] [(.ref b1)])) t → Steps p.tables e below (s₁.setTop (entryFrame m #[(.int p1), (.int p2), (.long q1)] maxLocals)) t := by
    intro t kt
    refine pre5 _ ?_
    show Steps p.tables e below (T4.setTop (mkF m 11 #[.val (.int p1), .val (.int p2), .val (.long q1), .second, .unset, .unset, .unset, .unset, .unset, .unset, .unset, .unset, .unset, .unset] [(.ref b1)])) _
    refine XS.dup X4.here hx rfl (hb hby at_11) rfl rfl ?_
    show Steps p.tables e below (T4.setTop (mkF m 12 #[.val (.int p1), .val (.int p2), .val (.long q1), .second, .unset, .unset, .unset, .unset, .unset, .unset, .unset, .unset, .unset, .unset] [(.ref b1), (.ref b1)])) _
    refine XS.iconst X4.here hx rfl (hb hby at_12) ?_
    show Steps p.tables e below (T4.setTop (mkF m 13 #[.val (.int p1), .val (.int p2), .val (.long q1), .second, .unset, .unset, .unset, .unset, .unset, .unset, .unset, .unset, .unset, .unset] [(.int (1 : Int32)), (.ref b1), (.ref b1)])) _
    refine st6 _ ?_
    show Steps p.tables e below (T6.setTop (mkF m 16 #[.val (.int p1), .val (.int p2), .val (.long q1), .second, .unset, .unset, .unset, .unset, .unset, .unset, .unset, .unset, .unset, .unset] [(.ref w_VERSION), (.int (1 : Int32)), (.ref b1), (.ref b1)])) _
    refine st7 _ ?_
    exact kt
  clear pre5 st7 Vn7 X6 e6 V4 K4 O4 N4
  obtain ⟨T9, X9, e9, st9⟩ := getS2 X7 hx hZ hown (host := "") (Or.inl (hw _ (List.mem_of_getElem? (i := 8) rfl))) Via.refl e7 (S_w_DOMAIN.ext O7.2) (g := (mkF m 19 #[.val (.int p1), .val (.int p2), .val (.long q1), .second, .unset, .unset, .unset, .unset, .unset, .unset, .unset, .unset, .unset, .unset] [(.int (2 : Int32)), (.ref b1), (.ref b1)])) rfl (hb hby at_19)
  obtain ⟨T10, h10, lo10, X10, e10, O10, N10, K10, Vn10, st10⟩ := own_stR X9 hx hZ e9 O7 N7 K7 V7 Ov1 g_b1 (E_w_DOMAIN.ext O7.2) (j := (2 : Int32)) (by decide) 2 rfl (Nat.le_of_ble_eq_true rfl) (g := (mkF m 22 #[.val (.int p1), .val (.int p2), .val (.long q1), .second, .unset, .unset, .unset, .unset, .unset, .unset, .unset, .unset, .unset, .unset] [(.ref w_DOMAIN), (.int (2 : Int32)), (.ref b1), (.ref b1)])) rfl rfl (hb hby at_22)
  have V10 : Arv Z h10 b1 k1 (.object "com/example/riposte/riposte/packet/HeaderField") (45 : Int32) [(.ref w_CLIENT), (.ref w_VERSION), (.ref w_DOMAIN), .null, .null, .null, .null, .null, .null, .null, .null, .null, .null, .null, .null, .null, .null, .null, .null, .null, .null, .null, .null, .null, .null, .null, .null, .null, .null, .null, .null, .null, .null, .null, .null, .null, .null, .null, .null, .null, .null, .null, .null, .null, .null] .null := Vn10
  have pre11 : ∀ t, Steps p.tables e below (T10.setTop (mkF m 23 #[.val (.int p1), .val (.int p2), .val (.long q1), .second, .unset, .unset, .unset, .unset, .unset, .unset, .unset, .unset, .unset, .unset] [(.ref b1)])) t → Steps p.tables e below (s₁.setTop (entryFrame m #[(.int p1), (.int p2), (.long q1)] maxLocals)) t := by
    intro t kt
    refine pre8 _ ?_
    show Steps p.tables e below (T7.setTop (mkF m 17 #[.val (.int p1), .val (.int p2), .val (.long q1), .second, .unset, .unset, .unset, .unset, .unset, .unset, .unset, .unset, .unset, .unset] [(.ref b1)])) _
    refine XS.dup X7.here hx rfl (hb hby at_17) rfl rfl ?_
    show Steps p.tables e below (T7.setTop (mkF m 18 #[.val (.int p1), .val (.int p2), .val (.long q1), .second, .unset, .unset, .unset, .unset, .unset, .unset, .unset, .unset, .unset, .unset] [(.ref b1), (.ref b1)])) _
    refine XS.iconst X7.here hx rfl (hb hby at_18) ?_
    show Steps p.tables e below (T7.setTop (mkF m 19 #[.val (.int p1), .val (.int p2), .val (.long q1), .second, .unset, .unset, .unset, .unset, .unset, .unset, .unset, .unset, .unset, .unset] [(.int (2 : Int32)), (.ref b1), (.ref b1)])) _
    refine st9 _ ?_
    show Steps p.tables e below (T9.setTop (mkF m 22 #[.val (.int p1), .val (.int p2), .val (.long q1), .second, .unset, .unset, .unset, .unset, .unset, .unset, .unset, .unset, .unset, .unset] [(.ref w_DOMAIN), (.int (2 : Int32)), (.ref b1), (.ref b1)])) _
    refine st10 _ ?_
    exact kt
  clear pre8 st10 Vn10 X9 e9 V7 K7 O7 N7
  obtain ⟨T12, X12, e12, st12⟩ := getS2 X10 hx hZ hown (host := "") (Or.inl (hw _ (List.mem_of_getElem? (i := 10) rfl))) Via.refl e10 (S_w_HCO.ext O10.2) (g := (mkF m 25 #[.val (.int p1), .val (.int p2), .val (.long q1), .second, .unset, .unset, .unset, .unset, .unset, .unset, .unset, .unset, .unset, .unset] [(.int (3 : Int32)), (.ref b1), (.ref b1)])) rfl (hb hby at_25)
  obtain ⟨T13, h13, lo13, X13, e13, O13, N13, K13, Vn13, st13⟩ := own_stR X12 hx hZ e12 O10 N10 K10 V10 Ov1 g_b1 (E_w_HCO.ext O10.2) (j := (3 : Int32)) (by decide) 3 rfl (Nat.le_of_ble_eq_true rfl) (g := (mkF m 28 #[.val (.int p1), .val (.int p2), .val (.long q1), .second, .unset, .unset, .unset, .unset, .unset, .unset, .unset, .unset, .unset, .unset] [(.ref w_HCO), (.int (3 : Int32)), (.ref b1), (.ref b1)])) rfl rfl (hb hby at_28)
  have V13 : Arv Z h13 b1 k1 (.object "com/example/riposte/riposte/packet/HeaderField") (45 : Int32) [(.ref w_CLIENT), (.ref w_VERSION), (.ref w_DOMAIN), (.ref w_HCO), .null, .null, .null, .null, .null, .null, .null, .null, .null, .null, .null, .null, .null, .null, .null, .null, .null, .null, .null, .null, .null, .null, .null, .null, .null, .null, .null, .null, .null, .null, .null, .null, .null, .null, .null, .null, .null, .null, .null, .null, .null] .null := Vn13
  have pre14 : ∀ t, Steps p.tables e below (T13.setTop (mkF m 29 #[.val (.int p1), .val (.int p2), .val (.long q1), .second, .unset, .unset, .unset, .unset, .unset, .unset, .unset, .unset, .unset, .unset] [(.ref b1)])) t → Steps p.tables e below (s₁.setTop (entryFrame m #[(.int p1), (.int p2), (.long q1)] maxLocals)) t := by
    intro t kt
    refine pre11 _ ?_
    show Steps p.tables e below (T10.setTop (mkF m 23 #[.val (.int p1), .val (.int p2), .val (.long q1), .second, .unset, .unset, .unset, .unset, .unset, .unset, .unset, .unset, .unset, .unset] [(.ref b1)])) _
    refine XS.dup X10.here hx rfl (hb hby at_23) rfl rfl ?_
    show Steps p.tables e below (T10.setTop (mkF m 24 #[.val (.int p1), .val (.int p2), .val (.long q1), .second, .unset, .unset, .unset, .unset, .unset, .unset, .unset, .unset, .unset, .unset] [(.ref b1), (.ref b1)])) _
    refine XS.iconst X10.here hx rfl (hb hby at_24) ?_
    show Steps p.tables e below (T10.setTop (mkF m 25 #[.val (.int p1), .val (.int p2), .val (.long q1), .second, .unset, .unset, .unset, .unset, .unset, .unset, .unset, .unset, .unset, .unset] [(.int (3 : Int32)), (.ref b1), (.ref b1)])) _
    refine st12 _ ?_
    show Steps p.tables e below (T12.setTop (mkF m 28 #[.val (.int p1), .val (.int p2), .val (.long q1), .second, .unset, .unset, .unset, .unset, .unset, .unset, .unset, .unset, .unset, .unset] [(.ref w_HCO), (.int (3 : Int32)), (.ref b1), (.ref b1)])) _
    refine st13 _ ?_
    exact kt
  clear pre11 st13 Vn13 X12 e12 V10 K10 O10 N10
  obtain ⟨T15, X15, e15, st15⟩ := getS2 X13 hx hZ hown (host := "") (Or.inl (hw _ (List.mem_of_getElem? (i := 12) rfl))) Via.refl e13 (S_w_EPG.ext O13.2) (g := (mkF m 31 #[.val (.int p1), .val (.int p2), .val (.long q1), .second, .unset, .unset, .unset, .unset, .unset, .unset, .unset, .unset, .unset, .unset] [(.int (4 : Int32)), (.ref b1), (.ref b1)])) rfl (hb hby at_31)
  obtain ⟨T16, h16, lo16, X16, e16, O16, N16, K16, Vn16, st16⟩ := own_stR X15 hx hZ e15 O13 N13 K13 V13 Ov1 g_b1 (E_w_EPG.ext O13.2) (j := (4 : Int32)) (by decide) 4 rfl (Nat.le_of_ble_eq_true rfl) (g := (mkF m 34 #[.val (.int p1), .val (.int p2), .val (.long q1), .second, .unset, .unset, .unset, .unset, .unset, .unset, .unset, .unset, .unset, .unset] [(.ref w_EPG), (.int (4 : Int32)), (.ref b1), (.ref b1)])) rfl rfl (hb hby at_34)
  have V16 : Arv Z h16 b1 k1 (.object "com/example/riposte/riposte/packet/HeaderField") (45 : Int32) [(.ref w_CLIENT), (.ref w_VERSION), (.ref w_DOMAIN), (.ref w_HCO), (.ref w_EPG), .null, .null, .null, .null, .null, .null, .null, .null, .null, .null, .null, .null, .null, .null, .null, .null, .null, .null, .null, .null, .null, .null, .null, .null, .null, .null, .null, .null, .null, .null, .null, .null, .null, .null, .null, .null, .null, .null, .null, .null] .null := Vn16
  have pre17 : ∀ t, Steps p.tables e below (T16.setTop (mkF m 35 #[.val (.int p1), .val (.int p2), .val (.long q1), .second, .unset, .unset, .unset, .unset, .unset, .unset, .unset, .unset, .unset, .unset] [(.ref b1)])) t → Steps p.tables e below (s₁.setTop (entryFrame m #[(.int p1), (.int p2), (.long q1)] maxLocals)) t := by
    intro t kt
    refine pre14 _ ?_
    show Steps p.tables e below (T13.setTop (mkF m 29 #[.val (.int p1), .val (.int p2), .val (.long q1), .second, .unset, .unset, .unset, .unset, .unset, .unset, .unset, .unset, .unset, .unset] [(.ref b1)])) _
    refine XS.dup X13.here hx rfl (hb hby at_29) rfl rfl ?_
    show Steps p.tables e below (T13.setTop (mkF m 30 #[.val (.int p1), .val (.int p2), .val (.long q1), .second, .unset, .unset, .unset, .unset, .unset, .unset, .unset, .unset, .unset, .unset] [(.ref b1), (.ref b1)])) _
    refine XS.iconst X13.here hx rfl (hb hby at_30) ?_
    show Steps p.tables e below (T13.setTop (mkF m 31 #[.val (.int p1), .val (.int p2), .val (.long q1), .second, .unset, .unset, .unset, .unset, .unset, .unset, .unset, .unset, .unset, .unset] [(.int (4 : Int32)), (.ref b1), (.ref b1)])) _
    refine st15 _ ?_
    show Steps p.tables e below (T15.setTop (mkF m 34 #[.val (.int p1), .val (.int p2), .val (.long q1), .second, .unset, .unset, .unset, .unset, .unset, .unset, .unset, .unset, .unset, .unset] [(.ref w_EPG), (.int (4 : Int32)), (.ref b1), (.ref b1)])) _
    refine st16 _ ?_
    exact kt
  clear pre14 st16 Vn16 X15 e15 V13 K13 O13 N13
  obtain ⟨T18, X18, e18, st18⟩ := getS2 X16 hx hZ hown (host := "") (Or.inl (hw _ (List.mem_of_getElem? (i := 14) rfl))) Via.refl e16 (S_w_MPG.ext O16.2) (g := (mkF m 37 #[.val (.int p1), .val (.int p2), .val (.long q1), .second, .unset, .unset, .unset, .unset, .unset, .unset, .unset, .unset, .unset, .unset] [(.int (5 : Int32)), (.ref b1), (.ref b1)])) rfl (hb hby at_37)
  obtain ⟨T19, h19, lo19, X19, e19, O19, N19, K19, Vn19, st19⟩ := own_stR X18 hx hZ e18 O16 N16 K16 V16 Ov1 g_b1 (E_w_MPG.ext O16.2) (j := (5 : Int32)) (by decide) 5 rfl (Nat.le_of_ble_eq_true rfl) (g := (mkF m 40 #[.val (.int p1), .val (.int p2), .val (.long q1), .second, .unset, .unset, .unset, .unset, .unset, .unset, .unset, .unset, .unset, .unset] [(.ref w_MPG), (.int (5 : Int32)), (.ref b1), (.ref b1)])) rfl rfl (hb hby at_40)
  have V19 : Arv Z h19 b1 k1 (.object "com/example/riposte/riposte/packet/HeaderField") (45 : Int32) [(.ref w_CLIENT), (.ref w_VERSION), (.ref w_DOMAIN), (.ref w_HCO), (.ref w_EPG), (.ref w_MPG), .null, .null, .null, .null, .null, .null, .null, .null, .null, .null, .null, .null, .null, .null, .null, .null, .null, .null, .null, .null, .null, .null, .null, .null, .null, .null, .null, .null, .null, .null, .null, .null, .null, .null, .null, .null, .null, .null, .null] .null := Vn19
  have pre20 : ∀ t, Steps p.tables e below (T19.setTop (mkF m 41 #[.val (.int p1), .val (.int p2), .val (.long q1), .second, .unset, .unset, .unset, .unset, .unset, .unset, .unset, .unset, .unset, .unset] [(.ref b1)])) t → Steps p.tables e below (s₁.setTop (entryFrame m #[(.int p1), (.int p2), (.long q1)] maxLocals)) t := by
    intro t kt
    refine pre17 _ ?_
    show Steps p.tables e below (T16.setTop (mkF m 35 #[.val (.int p1), .val (.int p2), .val (.long q1), .second, .unset, .unset, .unset, .unset, .unset, .unset, .unset, .unset, .unset, .unset] [(.ref b1)])) _
    refine XS.dup X16.here hx rfl (hb hby at_35) rfl rfl ?_
    show Steps p.tables e below (T16.setTop (mkF m 36 #[.val (.int p1), .val (.int p2), .val (.long q1), .second, .unset, .unset, .unset, .unset, .unset, .unset, .unset, .unset, .unset, .unset] [(.ref b1), (.ref b1)])) _
    refine XS.iconst X16.here hx rfl (hb hby at_36) ?_
    show Steps p.tables e below (T16.setTop (mkF m 37 #[.val (.int p1), .val (.int p2), .val (.long q1), .second, .unset, .unset, .unset, .unset, .unset, .unset, .unset, .unset, .unset, .unset] [(.int (5 : Int32)), (.ref b1), (.ref b1)])) _
    refine st18 _ ?_
    show Steps p.tables e below (T18.setTop (mkF m 40 #[.val (.int p1), .val (.int p2), .val (.long q1), .second, .unset, .unset, .unset, .unset, .unset, .unset, .unset, .unset, .unset, .unset] [(.ref w_MPG), (.int (5 : Int32)), (.ref b1), (.ref b1)])) _
    refine st19 _ ?_
    exact kt
  clear pre17 st19 Vn19 X18 e18 V16 K16 O16 N16
  obtain ⟨T21, X21, e21, st21⟩ := getS2 X19 hx hZ hown (host := "") (Or.inl (hw _ (List.mem_of_getElem? (i := 16) rfl))) Via.refl e19 (S_w_LENGTH.ext O19.2) (g := (mkF m 44 #[.val (.int p1), .val (.int p2), .val (.long q1), .second, .unset, .unset, .unset, .unset, .unset, .unset, .unset, .unset, .unset, .unset] [(.int (6 : Int32)), (.ref b1), (.ref b1)])) rfl (hb hby at_44)
  obtain ⟨T22, h22, lo22, X22, e22, O22, N22, K22, Vn22, st22⟩ := own_stR X21 hx hZ e21 O19 N19 K19 V19 Ov1 g_b1 (E_w_LENGTH.ext O19.2) (j := (6 : Int32)) (by decide) 6 rfl (Nat.le_of_ble_eq_true rfl) (g := (mkF m 47 #[.val (.int p1), .val (.int p2), .val (.long q1), .second, .unset, .unset, .unset, .unset, .unset, .unset, .unset, .unset, .unset, .unset] [(.ref w_LENGTH), (.int (6 : Int32)), (.ref b1), (.ref b1)])) rfl rfl (hb hby at_47)
  have V22 : Arv Z h22 b1 k1 (.object "com/example/riposte/riposte/packet/HeaderField") (45 : Int32) [(.ref w_CLIENT), (.ref w_VERSION), (.ref w_DOMAIN), (.ref w_HCO), (.ref w_EPG), (.ref w_MPG), (.ref w_LENGTH), .null, .null, .null, .null, .null, .null, .null, .null, .null, .null, .null, .null, .null, .null, .null, .null, .null, .null, .null, .null, .null, .null, .null, .null, .null, .null, .null, .null, .null, .null, .null, .null, .null, .null, .null, .null, .null, .null] .null := Vn22
  have pre23 : ∀ t, Steps p.tables e below (T22.setTop (mkF m 48 #[.val (.int p1), .val (.int p2), .val (.long q1), .second, .unset, .unset, .unset, .unset, .unset, .unset, .unset, .unset, .unset, .unset] [(.ref b1)])) t → Steps p.tables e below (s₁.setTop (entryFrame m #[(.int p1), (.int p2), (.long q1)] maxLocals)) t := by
    intro t kt
    refine pre20 _ ?_
    show Steps p.tables e below (T19.setTop (mkF m 41 #[.val (.int p1), .val (.int p2), .val (.long q1), .second, .unset, .unset, .unset, .unset, .unset, .unset, .unset, .unset, .unset, .unset] [(.ref b1)])) _
    refine XS.dup X19.here hx rfl (hb hby at_41) rfl rfl ?_
    show Steps p.tables e below (T19.setTop (mkF m 42 #[.val (.int p1), .val (.int p2), .val (.long q1), .second, .unset, .unset, .unset, .unset, .unset, .unset, .unset, .unset, .unset, .unset] [(.ref b1), (.ref b1)])) _
    refine XS.bipush X19.here hx rfl (hb hby at_42) ?_
    show Steps p.tables e below (T19.setTop (mkF m 44 #[.val (.int p1), .val (.int p2), .val (.long q1), .second, .unset, .unset, .unset, .unset, .unset, .unset, .unset, .unset, .unset, .unset] [(.int (6 : Int32)), (.ref b1), (.ref b1)])) _
    refine st21 _ ?_
    show Steps p.tables e below (T21.setTop (mkF m 47 #[.val (.int p1), .val (.int p2), .val (.long q1), .second, .unset, .unset, .unset, .unset, .unset, .unset, .unset, .unset, .unset, .unset] [(.ref w_LENGTH), (.int (6 : Int32)), (.ref b1), (.ref b1)])) _
    refine st22 _ ?_
    exact kt
  clear pre20 st22 Vn22 X21 e21 V19 K19 O19 N19
  obtain ⟨T24, X24, e24, st24⟩ := getS2 X22 hx hZ hown (host := "") (Or.inl (hw _ (List.mem_of_getElem? (i := 18) rfl))) Via.refl e22 (S_w_CONTROL.ext O22.2) (g := (mkF m 51 #[.val (.int p1), .val (.int p2), .val (.long q1), .second, .unset, .unset, .unset, .unset, .unset, .unset, .unset, .unset, .unset, .unset] [(.int (7 : Int32)), (.ref b1), (.ref b1)])) rfl (hb hby at_51)
  obtain ⟨T25, h25, lo25, X25, e25, O25, N25, K25, Vn25, st25⟩ := own_stR X24 hx hZ e24 O22 N22 K22 V22 Ov1 g_b1 (E_w_CONTROL.ext O22.2) (j := (7 : Int32)) (by decide) 7 rfl (Nat.le_of_ble_eq_true rfl) (g := (mkF m 54 #[.val (.int p1), .val (.int p2), .val (.long q1), .second, .unset, .unset, .unset, .unset, .unset, .unset, .unset, .unset, .unset, .unset] [(.ref w_CONTROL), (.int (7 : Int32)), (.ref b1), (.ref b1)])) rfl rfl (hb hby at_54)
  have V25 : Arv Z h25 b1 k1 (.object "com/example/riposte/riposte/packet/HeaderField") (45 : Int32) [(.ref w_CLIENT), (.ref w_VERSION), (.ref w_DOMAIN), (.ref w_HCO), (.ref w_EPG), (.ref w_MPG), (.ref w_LENGTH), (.ref w_CONTROL), .null, .null, .null, .null, .null, .null, .null, .null, .null, .null, .null, .null, .null, .null, .null, .null, .null, .null, .null, .null, .null, .null, .null, .null, .null, .null, .null, .null, .null, .null, .null, .null, .null, .null, .null, .null, .null] .null := Vn25
  have pre26 : ∀ t, Steps p.tables e below (T25.setTop (mkF m 55 #[.val (.int p1), .val (.int p2), .val (.long q1), .second, .unset, .unset, .unset, .unset, .unset, .unset, .unset, .unset, .unset, .unset] [(.ref b1)])) t → Steps p.tables e below (s₁.setTop (entryFrame m #[(.int p1), (.int p2), (.long q1)] maxLocals)) t := by
    intro t kt
    refine pre23 _ ?_
    show Steps p.tables e below (T22.setTop (mkF m 48 #[.val (.int p1), .val (.int p2), .val (.long q1), .second, .unset, .unset, .unset, .unset, .unset, .unset, .unset, .unset, .unset, .unset] [(.ref b1)])) _
    refine XS.dup X22.here hx rfl (hb hby at_48) rfl rfl ?_
    show Steps p.tables e below (T22.setTop (mkF m 49 #[.val (.int p1), .val (.int p2), .val (.long q1), .second, .unset, .unset, .unset, .unset, .unset, .unset, .unset, .unset, .unset, .unset] [(.ref b1), (.ref b1)])) _
    refine XS.bipush X22.here hx rfl (hb hby at_49) ?_
    show Steps p.tables e below (T22.setTop (mkF m 51 #[.val (.int p1), .val (.int p2), .val (.long q1), .second, .unset, .unset, .unset, .unset, .unset, .unset, .unset, .unset, .unset, .unset] [(.int (7 : Int32)), (.ref b1), (.ref b1)])) _
    refine st24 _ ?_
    show Steps p.tables e below (T24.setTop (mkF m 54 #[.val (.int p1), .val (.int p2), .val (.long q1), .second, .unset, .unset, .unset, .unset, .unset, .unset, .unset, .unset, .unset, .unset] [(.ref w_CONTROL), (.int (7 : Int32)), (.ref b1), (.ref b1)])) _
    refine st25 _ ?_
    exact kt
  clear pre23 st25 Vn25 X24 e24 V22 K22 O22 N22
  obtain ⟨T27, X27, e27, st27⟩ := getS2 X25 hx hZ hown (host := "") (Or.inl (hw _ (List.mem_of_getElem? (i := 20) rfl))) Via.refl e25 (S_w_NRS.ext O25.2) (g := (mkF m 58 #[.val (.int p1), .val (.int p2), .val (.long q1), .second, .unset, .unset, .unset, .unset, .unset, .unset, .unset, .unset, .unset, .unset] [(.int (8 : Int32)), (.ref b1), (.ref b1)])) rfl (hb hby at_58)
  obtain ⟨T28, h28, lo28, X28, e28, O28, N28, K28, Vn28, st28⟩ := own_stR X27 hx hZ e27 O25 N25 K25 V25 Ov1 g_b1 (E_w_NRS.ext O25.2) (j := (8 : Int32)) (by decide) 8 rfl (Nat.le_of_ble_eq_true rfl) (g := (mkF m 61 #[.val (.int p1), .val (.int p2), .val (.long q1), .second, .unset, .unset, .unset, .unset, .unset, .unset, .unset, .unset, .unset, .unset] [(.ref w_NRS), (.int (8 : Int32)), (.ref b1), (.ref b1)])) rfl rfl (hb hby at_61)
  have V28 : Arv Z h28 b1 k1 (.object "com/example/riposte/riposte/packet/HeaderField") (45 : Int32) [(.ref w_CLIENT), (.ref w_VERSION), (.ref w_DOMAIN), (.ref w_HCO), (.ref w_EPG), (.ref w_MPG), (.ref w_LENGTH), (.ref w_CONTROL), (.ref w_NRS), .null, .null, .null, .null, .null, .null, .null, .null, .null, .null, .null, .null, .null, .null, .null, .null, .null, .null, .null, .null, .null, .null, .null, .null, .null, .null, .null, .null, .null, .null, .null, .null, .null, .null, .null, .null] .null := Vn28
  have pre29 : ∀ t, Steps p.tables e below (T28.setTop (mkF m 62 #[.val (.int p1), .val (.int p2), .val (.long q1), .second, .unset, .unset, .unset, .unset, .unset, .unset, .unset, .unset, .unset, .unset] [(.ref b1)])) t → Steps p.tables e below (s₁.setTop (entryFrame m #[(.int p1), (.int p2), (.long q1)] maxLocals)) t := by
    intro t kt
    refine pre26 _ ?_
    show Steps p.tables e below (T25.setTop (mkF m 55 #[.val (.int p1), .val (.int p2), .val (.long q1), .second, .unset, .unset, .unset, .unset, .unset, .unset, .unset, .unset, .unset, .unset] [(.ref b1)])) _
    refine XS.dup X25.here hx rfl (hb hby at_55) rfl rfl ?_
    show Steps p.tables e below (T25.setTop (mkF m 56 #[.val (.int p1), .val (.int p2), .val (.long q1), .second, .unset, .unset, .unset, .unset, .unset, .unset, .unset, .unset, .unset, .unset] [(.ref b1), (.ref b1)])) _
    refine XS.bipush X25.here hx rfl (hb hby at_56) ?_
    show Steps p.tables e below (T25.setTop (mkF m 58 #[.val (.int p1), .val (.int p2), .val (.long q1), .second, .unset, .unset, .unset, .unset, .unset, .unset, .unset, .unset, .unset, .unset] [(.int (8 : Int32)), (.ref b1), (.ref b1)])) _
    refine st27 _ ?_
    show Steps p.tables e below (T27.setTop (mkF m 61 #[.val (.int p1), .val (.int p2), .val (.long q1), .second, .unset, .unset, .unset, .unset, .unset, .unset, .unset, .unset, .unset, .unset] [(.ref w_NRS), (.int (8 : Int32)), (.ref b1), (.ref b1)])) _
    refine st28 _ ?_
    exact kt
  clear pre26 st28 Vn28 X27 e27 V25 K25 O25 N25
  obtain ⟨T30, X30, e30, st30⟩ := getS2 X28 hx hZ hown (host := "") (Or.inl (hw _ (List.mem_of_getElem? (i := 22) rfl))) Via.refl e28 (S_w_APG.ext O28.2) (g := (mkF m 65 #[.val (.int p1), .val (.int p2), .val (.long q1), .second, .unset, .unset, .unset, .unset, .unset, .unset, .unset, .unset, .unset, .unset] [(.int (9 : Int32)), (.ref b1), (.ref b1)])) rfl (hb hby at_65)
  obtain ⟨T31, h31, lo31, X31, e31, O31, N31, K31, Vn31, st31⟩ := own_stR X30 hx hZ e30 O28 N28 K28 V28 Ov1 g_b1 (E_w_APG.ext O28.2) (j := (9 : Int32)) (by decide) 9 rfl (Nat.le_of_ble_eq_true rfl) (g := (mkF m 68 #[.val (.int p1), .val (.int p2), .val (.long q1), .second, .unset, .unset, .unset, .unset, .unset, .unset, .unset, .unset, .unset, .unset] [(.ref w_APG), (.int (9 : Int32)), (.ref b1), (.ref b1)])) rfl rfl (hb hby at_68)
  have V31 : Arv Z h31 b1 k1 (.object "com/example/riposte/riposte/packet/HeaderField") (45 : Int32) [(.ref w_CLIENT), (.ref w_VERSION), (.ref w_DOMAIN), (.ref w_HCO), (.ref w_EPG), (.ref w_MPG), (.ref w_LENGTH), (.ref w_CONTROL), (.ref w_NRS), (.ref w_APG), .null, .null, .null, .null, .null, .null, .null, .null, .null, .null, .null, .null, .null, .null, .null, .null, .null, .null, .null, .null, .null, .null, .null, .null, .null, .null, .null, .null, .null, .null, .null, .null, .null, .null, .null] .null := Vn31
  have pre32 : ∀ t, Steps p.tables e below (T31.setTop (mkF m 69 #[.val (.int p1), .val (.int p2), .val (.long q1), .second, .unset, .unset, .unset, .unset, .unset, .unset, .unset, .unset, .unset, .unset] [(.ref b1)])) t → Steps p.tables e below (s₁.setTop (entryFrame m #[(.int p1), (.int p2), (.long q1)] maxLocals)) t := by
    intro t kt
    refine pre29 _ ?_
    show Steps p.tables e below (T28.setTop (mkF m 62 #[.val (.int p1), .val (.int p2), .val (.long q1), .second, .unset, .unset, .unset, .unset, .unset, .unset, .unset, .unset, .unset, .unset] [(.ref b1)])) _
    refine XS.dup X28.here hx rfl (hb hby at_62) rfl rfl ?_
    show Steps p.tables e below (T28.setTop (mkF m 63 #[.val (.int p1), .val (.int p2), .val (.long q1), .second, .unset, .unset, .unset, .unset, .unset, .unset, .unset, .unset, .unset, .unset] [(.ref b1), (.ref b1)])) _
    refine XS.bipush X28.here hx rfl (hb hby at_63) ?_
    show Steps p.tables e below (T28.setTop (mkF m 65 #[.val (.int p1), .val (.int p2), .val (.long q1), .second, .unset, .unset, .unset, .unset, .unset, .unset, .unset, .unset, .unset, .unset] [(.int (9 : Int32)), (.ref b1), (.ref b1)])) _
    refine st30 _ ?_
    show Steps p.tables e below (T30.setTop (mkF m 68 #[.val (.int p1), .val (.int p2), .val (.long q1), .second, .unset, .unset, .unset, .unset, .unset, .unset, .unset, .unset, .unset, .unset] [(.ref w_APG), (.int (9 : Int32)), (.ref b1), (.ref b1)])) _
    refine st31 _ ?_
    exact kt
  clear pre29 st31 Vn31 X30 e30 V28 K28 O28 N28
  obtain ⟨T33, X33, e33, st33⟩ := getS2 X31 hx hZ hown (host := "") (Or.inl (hw _ (List.mem_of_getElem? (i := 24) rfl))) Via.refl e31 (S_w_NSR.ext O31.2) (g := (mkF m 72 #[.val (.int p1), .val (.int p2), .val (.long q1), .second, .unset, .unset, .unset, .unset, .unset, .unset, .unset, .unset, .unset, .unset] [(.int (10 : Int32)), (.ref b1), (.ref b1)])) rfl (hb hby at_72)
  obtain ⟨T34, h34, lo34, X34, e34, O34, N34, K34, Vn34, st34⟩ := own_stR X33 hx hZ e33 O31 N31 K31 V31 Ov1 g_b1 (E_w_NSR.ext O31.2) (j := (10 : Int32)) (by decide) 10 rfl (Nat.le_of_ble_eq_true rfl) (g := (mkF m 75 #[.val (.int p1), .val (.int p2), .val (.long q1), .second, .unset, .unset, .unset, .unset, .unset, .unset, .unset, .unset, .unset, .unset] [(.ref w_NSR), (.int (10 : Int32)), (.ref b1), (.ref b1)])) rfl rfl (hb hby at_75)
  have V34 : Arv Z h34 b1 k1 (.object "com/example/riposte/riposte/packet/HeaderField") (45 : Int32) [(.ref w_CLIENT), (.ref w_VERSION), (.ref w_DOMAIN), (.ref w_HCO), (.ref w_EPG), (.ref w_MPG), (.ref w_LENGTH), (.ref w_CONTROL), (.ref w_NRS), (.ref w_APG), (.ref w_NSR), .null, .null, .null, .null, .null, .null, .null, .null, .null, .null, .null, .null, .null, .null, .null, .null, .null, .null, .null, .null, .null, .null, .null, .null, .null, .null, .null, .null, .null, .null, .null, .null, .null, .null] .null := Vn34
  have pre35 : ∀ t, Steps p.tables e below (T34.setTop (mkF m 76 #[.val (.int p1), .val (.int p2), .val (.long q1), .second, .unset, .unset, .unset, .unset, .unset, .unset, .unset, .unset, .unset, .unset] [(.ref b1)])) t → Steps p.tables e below (s₁.setTop (entryFrame m #[(.int p1), (.int p2), (.long q1)] maxLocals)) t := by
    intro t kt
    refine pre32 _ ?_
    show Steps p.tables e below (T31.setTop (mkF m 69 #[.val (.int p1), .val (.int p2), .val (.long q1), .second, .unset, .unset, .unset, .unset, .unset, .unset, .unset, .unset, .unset, .unset] [(.ref b1)])) _
    refine XS.dup X31.here hx rfl (hb hby at_69) rfl rfl ?_
    show Steps p.tables e below (T31.setTop (mkF m 70 #[.val (.int p1), .val (.int p2), .val (.long q1), .second, .unset, .unset, .unset, .unset, .unset, .unset, .unset, .unset, .unset, .unset] [(.ref b1), (.ref b1)])) _
    refine XS.bipush X31.here hx rfl (hb hby at_70) ?_
    show Steps p.tables e below (T31.setTop (mkF m 72 #[.val (.int p1), .val (.int p2), .val (.long q1), .second, .unset, .unset, .unset, .unset, .unset, .unset, .unset, .unset, .unset, .unset] [(.int (10 : Int32)), (.ref b1), (.ref b1)])) _
    refine st33 _ ?_
    show Steps p.tables e below (T33.setTop (mkF m 75 #[.val (.int p1), .val (.int p2), .val (.long q1), .second, .unset, .unset, .unset, .unset, .unset, .unset, .unset, .unset, .unset, .unset] [(.ref w_NSR), (.int (10 : Int32)), (.ref b1), (.ref b1)])) _
    refine st34 _ ?_
    exact kt
  clear pre32 st34 Vn34 X33 e33 V31 K31 O31 N31
  obtain ⟨T36, X36, e36, st36⟩ := getS2 X34 hx hZ hown (host := "") (Or.inl (hw _ (List.mem_of_getElem? (i := 26) rfl))) Via.refl e34 (S_w_NER.ext O34.2) (g := (mkF m 79 #[.val (.int p1), .val (.int p2), .val (.long q1), .second, .unset, .unset, .unset, .unset, .unset, .unset, .unset, .unset, .unset, .unset] [(.int (11 : Int32)), (.ref b1), (.ref b1)])) rfl (hb hby at_79)
  obtain ⟨T37, h37, lo37, X37, e37, O37, N37, K37, Vn37, st37⟩ := own_stR X36 hx hZ e36 O34 N34 K34 V34 Ov1 g_b1 (E_w_NER.ext O34.2) (j := (11 : Int32)) (by decide) 11 rfl (Nat.le_of_ble_eq_true rfl) (g := (mkF m 82 #[.val (.int p1), .val (.int p2), .val (.long q1), .second, .unset, .unset, .unset, .unset, .unset, .unset, .unset, .unset, .unset, .unset] [(.ref w_NER), (.int (11 : Int32)), (.ref b1), (.ref b1)])) rfl rfl (hb hby at_82)
  have V37 : Arv Z h37 b1 k1 (.object "com/example/riposte/riposte/packet/HeaderField") (45 : Int32) [(.ref w_CLIENT), (.ref w_VERSION), (.ref w_DOMAIN), (.ref w_HCO), (.ref w_EPG), (.ref w_MPG), (.ref w_LENGTH), (.ref w_CONTROL), (.ref w_NRS), (.ref w_APG), (.ref w_NSR), (.ref w_NER), .null, .null, .null, .null, .null, .null, .null, .null, .null, .null, .null, .null, .null, .null, .null, .null, .null, .null, .null, .null, .null, .null, .null, .null, .null, .null, .null, .null, .null, .null, .null, .null, .null] .null := Vn37
  have pre38 : ∀ t, Steps p.tables e below (T37.setTop (mkF m 83 #[.val (.int p1), .val (.int p2), .val (.long q1), .second, .unset, .unset, .unset, .unset, .unset, .unset, .unset, .unset, .unset, .unset] [(.ref b1)])) t → Steps p.tables e below (s₁.setTop (entryFrame m #[(.int p1), (.int p2), (.long q1)] maxLocals)) t := by
    intro t kt
    refine pre35 _ ?_
    show Steps p.tables e below (T34.setTop (mkF m 76 #[.val (.int p1), .val (.int p2), .val (.long q1), .second, .unset, .unset, .unset, .unset, .unset, .unset, .unset, .unset, .unset, .unset] [(.ref b1)])) _
    refine XS.dup X34.here hx rfl (hb hby at_76) rfl rfl ?_
    show Steps p.tables e below (T34.setTop (mkF m 77 #[.val (.int p1), .val (.int p2), .val (.long q1), .second, .unset, .unset, .unset, .unset, .unset, .unset, .unset, .unset, .unset, .unset] [(.ref b1), (.ref b1)])) _
    refine XS.bipush X34.here hx rfl (hb hby at_77) ?_
    show Steps p.tables e below (T34.setTop (mkF m 79 #[.val (.int p1), .val (.int p2), .val (.long q1), .second, .unset, .unset, .unset, .unset, .unset, .unset, .unset, .unset, .unset, .unset] [(.int (11 : Int32)), (.ref b1), (.ref b1)])) _
    refine st36 _ ?_
    show Steps p.tables e below (T36.setTop (mkF m 82 #[.val (.int p1), .val (.int p2), .val (.long q1), .second, .unset, .unset, .unset, .unset, .unset, .unset, .unset, .unset, .unset, .unset] [(.ref w_NER), (.int (11 : Int32)), (.ref b1), (.ref b1)])) _
    refine st37 _ ?_
    exact kt
  clear pre35 st37 Vn37 X36 e36 V34 K34 O34 N34
  obtain ⟨T39, X39, e39, st39⟩ := getS2 X37 hx hZ hown (host := "") (Or.inl (hw _ (List.mem_of_getElem? (i := 28) rfl))) Via.refl e37 (S_w_NRT.ext O37.2) (g := (mkF m 86 #[.val (.int p1), .val (.int p2), .val (.long q1), .second, .unset, .unset, .unset, .unset, .unset, .unset, .unset, .unset, .unset, .unset] [(.int (12 : Int32)), (.ref b1), (.ref b1)])) rfl (hb hby at_86)
  obtain ⟨T40, h40, lo40, X40, e40, O40, N40, K40, Vn40, st40⟩ := own_stR X39 hx hZ e39 O37 N37 K37 V37 Ov1 g_b1 (E_w_NRT.ext O37.2) (j := (12 : Int32)) (by decide) 12 rfl (Nat.le_of_ble_eq_true rfl) (g := (mkF m 89 #[.val (.int p1), .val (.int p2), .val (.long q1), .second, .unset, .unset, .unset, .unset, .unset, .unset, .unset, .unset, .unset, .unset] [(.ref w_NRT), (.int (12 : Int32)), (.ref b1), (.ref b1)])) rfl rfl (hb hby at_89)
  have V40 : Arv Z h40 b1 k1 (.object "com/example/riposte/riposte/packet/HeaderField") (45 : Int32) [(.ref w_CLIENT), (.ref w_VERSION), (.ref w_DOMAIN), (.ref w_HCO), (.ref w_EPG), (.ref w_MPG), (.ref w_LENGTH), (.ref w_CONTROL), (.ref w_NRS), (.ref w_APG), (.ref w_NSR), (.ref w_NER), (.ref w_NRT), .null, .null, .null, .null, .null, .null, .null, .null, .null, .null, .null, .null, .null, .null, .null, .null, .null, .null, .null, .null, .null, .null, .null, .null, .null, .null, .null, .null, .null, .null, .null, .null] .null := Vn40
  have pre41 : ∀ t, Steps p.tables e below (T40.setTop (mkF m 90 #[.val (.int p1), .val (.int p2), .val (.long q1), .second, .unset, .unset, .unset, .unset, .unset, .unset, .unset, .unset, .unset, .unset] [(.ref b1)])) t → Steps p.tables e below (s₁.setTop (entryFrame m #[(.int p1), (.int p2), (.long q1)] maxLocals)) t := by
    intro t kt
    refine pre38 _ ?_
    show Steps p.tables e below (T37.setTop (mkF m 83 #[.val (.int p1), .val (.int p2), .val (.long q1), .second, .unset, .unset, .unset, .unset, .unset, .unset, .unset, .unset, .unset, .unset] [(.ref b1)])) _
    refine XS.dup X37.here hx rfl (hb hby at_83) rfl rfl ?_
    show Steps p.tables e below (T37.setTop (mkF m 84 #[.val (.int p1), .val (.int p2), .val (.long q1), .second, .unset, .unset, .unset, .unset, .unset, .unset, .unset, .unset, .unset, .unset] [(.ref b1), (.ref b1)])) _
    refine XS.bipush X37.here hx rfl (hb hby at_84) ?_
    show Steps p.tables e below (T37.setTop (mkF m 86 #[.val (.int p1), .val (.int p2), .val (.long q1), .second, .unset, .unset, .unset, .unset, .unset, .unset, .unset, .unset, .unset, .unset] [(.int (12 : Int32)), (.ref b1), (.ref b1)])) _
    refine st39 _ ?_
    show Steps p.tables e below (T39.setTop (mkF m 89 #[.val (.int p1), .val (.int p2), .val (.long q1), .second, .unset, .unset, .unset, .unset, .unset, .unset, .unset, .unset, .unset, .unset] [(.ref w_NRT), (.int (12 : Int32)), (.ref b1), (.ref b1)])) _
    refine st40 _ ?_
    exact kt
  clear pre38 st40 Vn40 X39 e39 V37 K37 O37 N37
  obtain ⟨T42, X42, e42, st42⟩ := getS2 X40 hx hZ hown (host := "") (Or.inl (hw _ (List.mem_of_getElem? (i := 30) rfl))) Via.refl e40 (S_w_MDG.ext O40.2) (g := (mkF m 93 #[.val (.int p1), .val (.int p2), .val (.long q1), .second, .unset, .unset, .unset, .unset, .unset, .unset, .unset, .unset, .unset, .unset] [(.int (13 : Int32)), (.ref b1), (.ref b1)])) rfl (hb hby at_93)
  obtain ⟨T43, h43, lo43, X43, e43, O43, N43, K43, Vn43, st43⟩ := own_stR X42 hx hZ e42 O40 N40 K40 V40 Ov1 g_b1 (E_w_MDG.ext O40.2) (j := (13 : Int32)) (by decide) 13 rfl (Nat.le_of_ble_eq_true rfl) (g := (mkF m 96 #[.val (.int p1), .val (.int p2), .val (.long q1), .second, .unset, .unset, .unset, .unset, .unset, .unset, .unset, .unset, .unset, .unset] [(.ref w_MDG), (.int (13 : Int32)), (.ref b1), (.ref b1)])) rfl rfl (hb hby at_96)
  have V43 : Arv Z h43 b1 k1 (.object "com/example/riposte/riposte/packet/HeaderField") (45 : Int32) [(.ref w_CLIENT), (.ref w_VERSION), (.ref w_DOMAIN), (.ref w_HCO), (.ref w_EPG), (.ref w_MPG), (.ref w_LENGTH), (.ref w_CONTROL), (.ref w_NRS), (.ref w_APG), (.ref w_NSR), (.ref w_NER), (.ref w_NRT), (.ref w_MDG), .null, .null, .null, .null, .null, .null, .null, .null, .null, .null, .null, .null, .null, .null, .null, .null, .null, .null, .null, .null, .null, .null, .null, .null, .null, .null, .null, .null, .null, .null, .null] .null := Vn43
  have pre44 : ∀ t, Steps p.tables e below (T43.setTop (mkF m 97 #[.val (.int p1), .val (.int p2), .val (.long q1), .second, .unset, .unset, .unset, .unset, .unset, .unset, .unset, .unset, .unset, .unset] [(.ref b1)])) t → Steps p.tables e below (s₁.setTop (entryFrame m #[(.int p1), (.int p2), (.long q1)] maxLocals)) t := by
    intro t kt
    refine pre41 _ ?_
    show Steps p.tables e below (T40.setTop (mkF m 90 #[.val (.int p1), .val (.int p2), .val (.long q1), .second, .unset, .unset, .unset, .unset, .unset, .unset, .unset, .unset, .unset, .unset] [(.ref b1)])) _
    refine XS.dup X40.here hx rfl (hb hby at_90) rfl rfl ?_
    show Steps p.tables e below (T40.setTop (mkF m 91 #[.val (.int p1), .val (.int p2), .val (.long q1), .second, .unset, .unset, .unset, .unset, .unset, .unset, .unset, .unset, .unset, .unset] [(.ref b1), (.ref b1)])) _
    refine XS.bipush X40.here hx rfl (hb hby at_91) ?_
    show Steps p.tables e below (T40.setTop (mkF m 93 #[.val (.int p1), .val (.int p2), .val (.long q1), .second, .unset, .unset, .unset, .unset, .unset, .unset, .unset, .unset, .unset, .unset] [(.int (13 : Int32)), (.ref b1), (.ref b1)])) _
    refine st42 _ ?_
    show Steps p.tables e below (T42.setTop (mkF m 96 #[.val (.int p1), .val (.int p2), .val (.long q1), .second, .unset, .unset, .unset, .unset, .unset, .unset, .unset, .unset, .unset, .unset] [(.ref w_MDG), (.int (13 : Int32)), (.ref b1), (.ref b1)])) _
    refine st43 _ ?_
    exact kt
  clear pre41 st43 Vn43 X42 e42 V40 K40 O40 N40
  obtain ⟨T45, X45, e45, st45⟩ := getS2 X43 hx hZ hown (host := "") (Or.inl (hw _ (List.mem_of_getElem? (i := 32) rfl))) Via.refl e43 (S_w_CMG.ext O43.2) (g := (mkF m 100 #[.val (.int p1), .val (.int p2), .val (.long q1), .second, .unset, .unset, .unset, .unset, .unset, .unset, .unset, .unset, .unset, .unset] [(.int (14 : Int32)), (.ref b1), (.ref b1)])) rfl (hb hby at_100)
  obtain ⟨T46, h46, lo46, X46, e46, O46, N46, K46, Vn46, st46⟩ := own_stR X45 hx hZ e45 O43 N43 K43 V43 Ov1 g_b1 (E_w_CMG.ext O43.2) (j := (14 : Int32)) (by decide) 14 rfl (Nat.le_of_ble_eq_true rfl) (g := (mkF m 103 #[.val (.int p1), .val (.int p2), .val (.long q1), .second, .unset, .unset, .unset, .unset, .unset, .unset, .unset, .unset, .unset, .unset] [(.ref w_CMG), (.int (14 : Int32)), (.ref b1), (.ref b1)])) rfl rfl (hb hby at_103)
  have V46 : Arv Z h46 b1 k1 (.object "com/example/riposte/riposte/packet/HeaderField") (45 : Int32) [(.ref w_CLIENT), (.ref w_VERSION), (.ref w_DOMAIN), (.ref w_HCO), (.ref w_EPG), (.ref w_MPG), (.ref w_LENGTH), (.ref w_CONTROL), (.ref w_NRS), (.ref w_APG), (.ref w_NSR), (.ref w_NER), (.ref w_NRT), (.ref w_MDG), (.ref w_CMG), .null, .null, .null, .null, .null, .null, .null, .null, .null, .null, .null, .null, .null, .null, .null, .null, .null, .null, .null, .null, .null, .null, .null, .null, .null, .null, .null, .null, .null, .null] .null := Vn46
  have pre47 : ∀ t, Steps p.tables e below (T46.setTop (mkF m 104 #[.val (.int p1), .val (.int p2), .val (.long q1), .second, .unset, .unset, .unset, .unset, .unset, .unset, .unset, .unset, .unset, .unset] [(.ref b1)])) t → Steps p.tables e below (s₁.setTop (entryFrame m #[(.int p1), (.int p2), (.long q1)] maxLocals)) t := by
    intro t kt
    refine pre44 _ ?_
    show Steps p.tables e below (T43.setTop (mkF m 97 #[.val (.int p1), .val (.int p2), .val (.long q1), .second, .unset, .unset, .unset, .unset, .unset, .unset, .unset, .unset, .unset, .unset] [(.ref b1)])) _
    refine XS.dup X43.here hx rfl (hb hby at_97) rfl rfl ?_
    show Steps p.tables e below (T43.setTop (mkF m 98 #[.val (.int p1), .val (.int p2), .val (.long q1), .second, .unset, .unset, .unset, .unset, .unset, .unset, .unset, .unset, .unset, .unset] [(.ref b1), (.ref b1)])) _
    refine XS.bipush X43.here hx rfl (hb hby at_98) ?_
    show Steps p.tables e below (T43.setTop (mkF m 100 #[.val (.int p1), .val (.int p2), .val (.long q1), .second, .unset, .unset, .unset, .unset, .unset, .unset, .unset, .unset, .unset, .unset] [(.int (14 : Int32)), (.ref b1), (.ref b1)])) _
    refine st45 _ ?_
    show Steps p.tables e below (T45.setTop (mkF m 103 #[.val (.int p1), .val (.int p2), .val (.long q1), .second, .unset, .unset, .unset, .unset, .unset, .unset, .unset, .unset, .unset, .unset] [(.ref w_CMG), (.int (14 : Int32)), (.ref b1), (.ref b1)])) _
    refine st46 _ ?_
    exact kt
  clear pre44 st46 Vn46 X45 e45 V43 K43 O43 N43
  obtain ⟨T48, X48, e48, st48⟩ := getS2 X46 hx hZ hown (host := "") (Or.inl (hw _ (List.mem_of_getElem? (i := 34) rfl))) Via.refl e46 (S_w_STI.ext O46.2) (g := (mkF m 107 #[.val (.int p1), .val (.int p2), .val (.long q1), .second, .unset, .unset, .unset, .unset, .unset, .unset, .unset, .unset, .unset, .unset] [(.int (15 : Int32)), (.ref b1), (.ref b1)])) rfl (hb hby at_107)
  obtain ⟨T49, h49, lo49, X49, e49, O49, N49, K49, Vn49, st49⟩ := own_stR X48 hx hZ e48 O46 N46 K46 V46 Ov1 g_b1 (E_w_STI.ext O46.2) (j := (15 : Int32)) (by decide) 15 rfl (Nat.le_of_ble_eq_true rfl) (g := (mkF m 110 #[.val (.int p1), .val (.int p2), .val (.long q1), .second, .unset, .unset, .unset, .unset, .unset, .unset, .unset, .unset, .unset, .unset] [(.ref w_STI), (.int (15 : Int32)), (.ref b1), (.ref b1)])) rfl rfl (hb hby at_110)
  have V49 : Arv Z h49 b1 k1 (.object "com/example/riposte/riposte/packet/HeaderField") (45 : Int32) [(.ref w_CLIENT), (.ref w_VERSION), (.ref w_DOMAIN), (.ref w_HCO), (.ref w_EPG), (.ref w_MPG), (.ref w_LENGTH), (.ref w_CONTROL), (.ref w_NRS), (.ref w_APG), (.ref w_NSR), (.ref w_NER), (.ref w_NRT), (.ref w_MDG), (.ref w_CMG), (.ref w_STI), .null, .null, .null, .null, .null, .null, .null, .null, .null, .null, .null, .null, .null, .null, .null, .null, .null, .null, .null, .null, .null, .null, .null, .null, .null, .null, .null, .null, .null] .null := Vn49
  have pre50 : ∀ t, Steps p.tables e below (T49.setTop (mkF m 111 #[.val (.int p1), .val (.int p2), .val (.long q1), .second, .unset, .unset, .unset, .unset, .unset, .unset, .unset, .unset, .unset, .unset] [(.ref b1)])) t → Steps p.tables e below (s₁.setTop (entryFrame m #[(.int p1), (.int p2), (.long q1)] maxLocals)) t := by
    intro t kt
    refine pre47 _ ?_
    show Steps p.tables e below (T46.setTop (mkF m 104 #[.val (.int p1), .val (.int p2), .val (.long q1), .second, .unset, .unset, .unset, .unset, .unset, .unset, .unset, .unset, .unset, .unset] [(.ref b1)])) _
    refine XS.dup X46.here hx rfl (hb hby at_104) rfl rfl ?_
    show Steps p.tables e below (T46.setTop (mkF m 105 #[.val (.int p1), .val (.int p2), .val (.long q1), .second, .unset, .unset, .unset, .unset, .unset, .unset, .unset, .unset, .unset, .unset] [(.ref b1), (.ref b1)])) _
    refine XS.bipush X46.here hx rfl (hb hby at_105) ?_
    show Steps p.tables e below (T46.setTop (mkF m 107 #[.val (.int p1), .val (.int p2), .val (.long q1), .second, .unset, .unset, .unset, .unset, .unset, .unset, .unset, .unset, .unset, .unset] [(.int (15 : Int32)), (.ref b1), (.ref b1)])) _
    refine st48 _ ?_
    show Steps p.tables e below (T48.setTop (mkF m 110 #[.val (.int p1), .val (.int p2), .val (.long q1), .second, .unset, .unset, .unset, .unset, .unset, .unset, .unset, .unset, .unset, .unset] [(.ref w_STI), (.int (15 : Int32)), (.ref b1), (.ref b1)])) _
    refine st49 _ ?_
    exact kt
  clear pre47 st49 Vn49 X48 e48 V46 K46 O46 N46
  obtain ⟨T51, X51, e51, st51⟩ := getS2 X49 hx hZ hown (host := "") (Or.inl (hw _ (List.mem_of_getElem? (i := 36) rfl))) Via.refl e49 (S_w_DRT.ext O49.2) (g := (mkF m 114 #[.val (.int p1), .val (.int p2), .val (.long q1), .second, .unset, .unset, .unset, .unset, .unset, .unset, .unset, .unset, .unset, .unset] [(.int (16 : Int32)), (.ref b1), (.ref b1)])) rfl (hb hby at_114)
  obtain ⟨T52, h52, lo52, X52, e52, O52, N52, K52, Vn52, st52⟩ := own_stR X51 hx hZ e51 O49 N49 K49 V49 Ov1 g_b1 (E_w_DRT.ext O49.2) (j := (16 : Int32)) (by decide) 16 rfl (Nat.le_of_ble_eq_true rfl) (g := (mkF m 117 #[.val (.int p1), .val (.int p2), .val (.long q1), .second, .unset, .unset, .unset, .unset, .unset, .unset, .unset, .unset, .unset, .unset] [(.ref w_DRT), (.int (16 : Int32)), (.ref b1), (.ref b1)])) rfl rfl (hb hby at_117)
  have V52 : Arv Z h52 b1 k1 (.object "com/example/riposte/riposte/packet/HeaderField") (45 : Int32) [(.ref w_CLIENT), (.ref w_VERSION), (.ref w_DOMAIN), (.ref w_HCO), (.ref w_EPG), (.ref w_MPG), (.ref w_LENGTH), (.ref w_CONTROL), (.ref w_NRS), (.ref w_APG), (.ref w_NSR), (.ref w_NER), (.ref w_NRT), (.ref w_MDG), (.ref w_CMG), (.ref w_STI), (.ref w_DRT), .null, .null, .null, .null, .null, .null, .null, .null, .null, .null, .null, .null, .null, .null, .null, .null, .null, .null, .null, .null, .null, .null, .null, .null, .null, .null, .null, .null] .null := Vn52
  have pre53 : ∀ t, Steps p.tables e below (T52.setTop (mkF m 118 #[.val (.int p1), .val (.int p2), .val (.long q1), .second, .unset, .unset, .unset, .unset, .unset, .unset, .unset, .unset, .unset, .unset] [(.ref b1)])) t → Steps p.tables e below (s₁.setTop (entryFrame m #[(.int p1), (.int p2), (.long q1)] maxLocals)) t := by
    intro t kt
    refine pre50 _ ?_
    show Steps p.tables e below (T49.setTop (mkF m 111 #[.val (.int p1), .val (.int p2), .val (.long q1), .second, .unset, .unset, .unset, .unset, .unset, .unset, .unset, .unset, .unset, .unset] [(.ref b1)])) _
    refine XS.dup X49.here hx rfl (hb hby at_111) rfl rfl ?_
    show Steps p.tables e below (T49.setTop (mkF m 112 #[.val (.int p1), .val (.int p2), .val (.long q1), .second, .unset, .unset, .unset, .unset, .unset, .unset, .unset, .unset, .unset, .unset] [(.ref b1), (.ref b1)])) _
    refine XS.bipush X49.here hx rfl (hb hby at_112) ?_
    show Steps p.tables e below (T49.setTop (mkF m 114 #[.val (.int p1), .val (.int p2), .val (.long q1), .second, .unset, .unset, .unset, .unset, .unset, .unset, .unset, .unset, .unset, .unset] [(.int (16 : Int32)), (.ref b1), (.ref b1)])) _
    refine st51 _ ?_
    show Steps p.tables e below (T51.setTop (mkF m 117 #[.val (.int p1), .val (.int p2), .val (.long q1), .second, .unset, .unset, .unset, .unset, .unset, .unset, .unset, .unset, .unset, .unset] [(.ref w_DRT), (.int (16 : Int32)), (.ref b1), (.ref b1)])) _
    refine st52 _ ?_
    exact kt
  clear pre50 st52 Vn52 X51 e51 V49 K49 O49 N49
  obtain ⟨T54, X54, e54, st54⟩ := getS2 X52 hx hZ hown (host := "") (Or.inl (hw _ (List.mem_of_getElem? (i := 38) rfl))) Via.refl e52 (S_w_RETRANSMIT_COUNT.ext O52.2) (g := (mkF m 121 #[.val (.int p1), .val (.int p2), .val (.long q1), .second, .unset, .unset, .unset, .unset, .unset, .unset, .unset, .unset, .unset, .unset] [(.int (17 : Int32)), (.ref b1), (.ref b1)])) rfl (hb hby at_121)
  obtain ⟨T55, h55, lo55, X55, e55, O55, N55, K55, Vn55, st55⟩ := own_stR X54 hx hZ e54 O52 N52 K52 V52 Ov1 g_b1 (E_w_RETRANSMIT_COUNT.ext O52.2) (j := (17 : Int32)) (by decide) 17 rfl (Nat.le_of_ble_eq_true rfl) (g := (mkF m 124 #[.val (.int p1), .val (.int p2), .val (.long q1), .second, .unset, .unset, .unset, .unset, .unset, .unset, .unset, .unset, .unset, .unset] [(.ref w_RETRANSMIT_COUNT), (.int (17 : Int32)), (.ref b1), (.ref b1)])) rfl rfl (hb hby at_124)
  have V55 : Arv Z h55 b1 k1 (.object "com/example/riposte/riposte/packet/HeaderField") (45 : Int32) [(.ref w_CLIENT), (.ref w_VERSION), (.ref w_DOMAIN), (.ref w_HCO), (.ref w_EPG), (.ref w_MPG), (.ref w_LENGTH), (.ref w_CONTROL), (.ref w_NRS), (.ref w_APG), (.ref w_NSR), (.ref w_NER), (.ref w_NRT), (.ref w_MDG), (.ref w_CMG), (.ref w_STI), (.ref w_DRT), (.ref w_RETRANSMIT_COUNT), .null, .null, .null, .null, .null, .null, .null, .null, .null, .null, .null, .null, .null, .null, .null, .null, .null, .null, .null, .null, .null, .null, .null, .null, .null, .null, .null] .null := Vn55
  have pre56 : ∀ t, Steps p.tables e below (T55.setTop (mkF m 125 #[.val (.int p1), .val (.int p2), .val (.long q1), .second, .unset, .unset, .unset, .unset, .unset, .unset, .unset, .unset, .unset, .unset] [(.ref b1)])) t → Steps p.tables e below (s₁.setTop (entryFrame m #[(.int p1), (.int p2), (.long q1)] maxLocals)) t := by
    intro t kt
    refine pre53 _ ?_
    show Steps p.tables e below (T52.setTop (mkF m 118 #[.val (.int p1), .val (.int p2), .val (.long q1), .second, .unset, .unset, .unset, .unset, .unset, .unset, .unset, .unset, .unset, .unset] [(.ref b1)])) _
    refine XS.dup X52.here hx rfl (hb hby at_118) rfl rfl ?_
    show Steps p.tables e below (T52.setTop (mkF m 119 #[.val (.int p1), .val (.int p2), .val (.long q1), .second, .unset, .unset, .unset, .unset, .unset, .unset, .unset, .unset, .unset, .unset] [(.ref b1), (.ref b1)])) _
    refine XS.bipush X52.here hx rfl (hb hby at_119) ?_
    show Steps p.tables e below (T52.setTop (mkF m 121 #[.val (.int p1), .val (.int p2), .val (.long q1), .second, .unset, .unset, .unset, .unset, .unset, .unset, .unset, .unset, .unset, .unset] [(.int (17 : Int32)), (.ref b1), (.ref b1)])) _
    refine st54 _ ?_
    show Steps p.tables e below (T54.setTop (mkF m 124 #[.val (.int p1), .val (.int p2), .val (.long q1), .second, .unset, .unset, .unset, .unset, .unset, .unset, .unset, .unset, .unset, .unset] [(.ref w_RETRANSMIT_COUNT), (.int (17 : Int32)), (.ref b1), (.ref b1)])) _
    refine st55 _ ?_
    exact kt
  clear pre53 st55 Vn55 X54 e54 V52 K52 O52 N52
  obtain ⟨T57, X57, e57, st57⟩ := getS2 X55 hx hZ hown (host := "") (Or.inl (hw _ (List.mem_of_getElem? (i := 40) rfl))) Via.refl e55 (S_w_FORWARD_COUNT.ext O55.2) (g := (mkF m 128 #[.val (.int p1), .val (.int p2), .val (.long q1), .second, .unset, .unset, .unset, .unset, .unset, .unset, .unset, .unset, .unset, .unset] [(.int (18 : Int32)), (.ref b1), (.ref b1)])) rfl (hb hby at_128)
  obtain ⟨T58, h58, lo58, X58, e58, O58, N58, K58, Vn58, st58⟩ := own_stR X57 hx hZ e57 O55 N55 K55 V55 Ov1 g_b1 (E_w_FORWARD_COUNT.ext O55.2) (j := (18 : Int32)) (by decide) 18 rfl (Nat.le_of_ble_eq_true rfl) (g := (mkF m 131 #[.val (.int p1), .val (.int p2), .val (.long q1), .second, .unset, .unset, .unset, .unset, .unset, .unset, .unset, .unset, .unset, .unset] [(.ref w_FORWARD_COUNT), (.int (18 : Int32)), (.ref b1), (.ref b1)])) rfl rfl (hb hby at_131)
  have V58 : Arv Z h58 b1 k1 (.object "com/example/riposte/riposte/packet/HeaderField") (45 : Int32) [(.ref w_CLIENT), (.ref w_VERSION), (.ref w_DOMAIN), (.ref w_HCO), (.ref w_EPG), (.ref w_MPG), (.ref w_LENGTH), (.ref w_CONTROL), (.ref w_NRS), (.ref w_APG), (.ref w_NSR), (.ref w_NER), (.ref w_NRT), (.ref w_MDG), (.ref w_CMG), (.ref w_STI), (.ref w_DRT), (.ref w_RETRANSMIT_COUNT), (.ref w_FORWARD_COUNT), .null, .null, .null, .null, .null, .null, .null, .null, .null, .null, .null, .null, .null, .null, .null, .null, .null, .null, .null, .null, .null, .null, .null, .null, .null, .null] .null := Vn58
  have pre59 : ∀ t, Steps p.tables e below (T58.setTop (mkF m 132 #[.val (.int p1), .val (.int p2), .val (.long q1), .second, .unset, .unset, .unset, .unset, .unset, .unset, .unset, .unset, .unset, .unset] [(.ref b1)])) t → Steps p.tables e below (s₁.setTop (entryFrame m #[(.int p1), (.int p2), (.long q1)] maxLocals)) t := by
    intro t kt
    refine pre56 _ ?_
    show Steps p.tables e below (T55.setTop (mkF m 125 #[.val (.int p1), .val (.int p2), .val (.long q1), .second, .unset, .unset, .unset, .unset, .unset, .unset, .unset, .unset, .unset, .unset] [(.ref b1)])) _
    refine XS.dup X55.here hx rfl (hb hby at_125) rfl rfl ?_
    show Steps p.tables e below (T55.setTop (mkF m 126 #[.val (.int p1), .val (.int p2), .val (.long q1), .second, .unset, .unset, .unset, .unset, .unset, .unset, .unset, .unset, .unset, .unset] [(.ref b1), (.ref b1)])) _
    refine XS.bipush X55.here hx rfl (hb hby at_126) ?_
    show Steps p.tables e below (T55.setTop (mkF m 128 #[.val (.int p1), .val (.int p2), .val (.long q1), .second, .unset, .unset, .unset, .unset, .unset, .unset, .unset, .unset, .unset, .unset] [(.int (18 : Int32)), (.ref b1), (.ref b1)])) _
    refine st57 _ ?_
    show Steps p.tables e below (T57.setTop (mkF m 131 #[.val (.int p1), .val (.int p2), .val (.long q1), .second, .unset, .unset, .unset, .unset, .unset, .unset, .unset, .unset, .unset, .unset] [(.ref w_FORWARD_COUNT), (.int (18 : Int32)), (.ref b1), (.ref b1)])) _
    refine st58 _ ?_
    exact kt
  clear pre56 st58 Vn58 X57 e57 V55 K55 O55 N55
  obtain ⟨T60, X60, e60, st60⟩ := getS2 X58 hx hZ hown (host := "") (Or.inl (hw _ (List.mem_of_getElem? (i := 42) rfl))) Via.refl e58 (S_w_INTER_PACKET_GAP.ext O58.2) (g := (mkF m 135 #[.val (.int p1), .val (.int p2), .val (.long q1), .second, .unset, .unset, .unset, .unset, .unset, .unset, .unset, .unset, .unset, .unset] [(.int (19 : Int32)), (.ref b1), (.ref b1)])) rfl (hb hby at_135)
  obtain ⟨T61, h61, lo61, X61, e61, O61, N61, K61, Vn61, st61⟩ := own_stR X60 hx hZ e60 O58 N58 K58 V58 Ov1 g_b1 (E_w_INTER_PACKET_GAP.ext O58.2) (j := (19 : Int32)) (by decide) 19 rfl (Nat.le_of_ble_eq_true rfl) (g := (mkF m 138 #[.val (.int p1), .val (.int p2), .val (.long q1), .second, .unset, .unset, .unset, .unset, .unset, .unset, .unset, .unset, .unset, .unset] [(.ref w_INTER_PACKET_GAP), (.int (19 : Int32)), (.ref b1), (.ref b1)])) rfl rfl (hb hby at_138)
  have V61 : Arv Z h61 b1 k1 (.object "com/example/riposte/riposte/packet/HeaderField") (45 : Int32) [(.ref w_CLIENT), (.ref w_VERSION), (.ref w_DOMAIN), (.ref w_HCO), (.ref w_EPG), (.ref w_MPG), (.ref w_LENGTH), (.ref w_CONTROL), (.ref w_NRS), (.ref w_APG), (.ref w_NSR), (.ref w_NER), (.ref w_NRT), (.ref w_MDG), (.ref w_CMG), (.ref w_STI), (.ref w_DRT), (.ref w_RETRANSMIT_COUNT), (.ref w_FORWARD_COUNT), (.ref w_INTER_PACKET_GAP), .null, .null, .null, .null, .null, .null, .null, .null, .null, .null, .null, .null, .null, .null, .null, .null, .null, .null, .null, .null, .null, .null, .null, .null, .null] .null := Vn61
  have pre62 : ∀ t, Steps p.tables e below (T61.setTop (mkF m 139 #[.val (.int p1), .val (.int p2), .val (.long q1), .second, .unset, .unset, .unset, .unset, .unset, .unset, .unset, .unset, .unset, .unset] [(.ref b1)])) t → Steps p.tables e below (s₁.setTop (entryFrame m #[(.int p1), (.int p2), (.long q1)] maxLocals)) t := by
    intro t kt
    refine pre59 _ ?_
    show Steps p.tables e below (T58.setTop (mkF m 132 #[.val (.int p1), .val (.int p2), .val (.long q1), .second, .unset, .unset, .unset, .unset, .unset, .unset, .unset, .unset, .unset, .unset] [(.ref b1)])) _
    refine XS.dup X58.here hx rfl (hb hby at_132) rfl rfl ?_
    show Steps p.tables e below (T58.setTop (mkF m 133 #[.val (.int p1), .val (.int p2), .val (.long q1), .second, .unset, .unset, .unset, .unset, .unset, .unset, .unset, .unset, .unset, .unset] [(.ref b1), (.ref b1)])) _
    refine XS.bipush X58.here hx rfl (hb hby at_133) ?_
    show Steps p.tables e below (T58.setTop (mkF m 135 #[.val (.int p1), .val (.int p2), .val (.long q1), .second, .unset, .unset, .unset, .unset, .unset, .unset, .unset, .unset, .unset, .unset] [(.int (19 : Int32)), (.ref b1), (.ref b1)])) _
    refine st60 _ ?_
    show Steps p.tables e below (T60.setTop (mkF m 138 #[.val (.int p1), .val (.int p2), .val (.long q1), .second, .unset, .unset, .unset, .unset, .unset, .unset, .unset, .unset, .unset, .unset] [(.ref w_INTER_PACKET_GAP), (.int (19 : Int32)), (.ref b1), (.ref b1)])) _
    refine st61 _ ?_
    exact kt
  clear pre59 st61 Vn61 X60 e60 V58 K58 O58 N58
  obtain ⟨T63, X63, e63, st63⟩ := getS2 X61 hx hZ hown (host := "") (Or.inl (hw _ (List.mem_of_getElem? (i := 44) rfl))) Via.refl e61 (S_w_PG_COUNT.ext O61.2) (g := (mkF m 142 #[.val (.int p1), .val (.int p2), .val (.long q1), .second, .unset, .unset, .unset, .unset, .unset, .unset, .unset, .unset, .unset, .unset] [(.int (20 : Int32)), (.ref b1), (.ref b1)])) rfl (hb hby at_142)
  obtain ⟨T64, h64, lo64, X64, e64, O64, N64, K64, Vn64, st64⟩ := own_stR X63 hx hZ e63 O61 N61 K61 V61 Ov1 g_b1 (E_w_PG_COUNT.ext O61.2) (j := (20 : Int32)) (by decide) 20 rfl (Nat.le_of_ble_eq_true rfl) (g := (mkF m 145 #[.val (.int p1), .val (.int p2), .val (.long q1), .second, .unset, .unset, .unset, .unset, .unset, .unset, .unset, .unset, .unset, .unset] [(.ref w_PG_COUNT), (.int (20 : Int32)), (.ref b1), (.ref b1)])) rfl rfl (hb hby at_145)
  have V64 : Arv Z h64 b1 k1 (.object "com/example/riposte/riposte/packet/HeaderField") (45 : Int32) [(.ref w_CLIENT), (.ref w_VERSION), (.ref w_DOMAIN), (.ref w_HCO), (.ref w_EPG), (.ref w_MPG), (.ref w_LENGTH), (.ref w_CONTROL), (.ref w_NRS), (.ref w_APG), (.ref w_NSR), (.ref w_NER), (.ref w_NRT), (.ref w_MDG), (.ref w_CMG), (.ref w_STI), (.ref w_DRT), (.ref w_RETRANSMIT_COUNT), (.ref w_FORWARD_COUNT), (.ref w_INTER_PACKET_GAP), (.ref w_PG_COUNT), .null, .null, .null, .null, .null, .null, .null, .null, .null, .null, .null, .null, .null, .null, .null, .null, .null, .null, .null, .null, .null, .null, .null, .null] .null := Vn64
  have pre65 : ∀ t, Steps p.tables e below (T64.setTop (mkF m 146 #[.val (.int p1), .val (.int p2), .val (.long q1), .second, .unset, .unset, .unset, .unset, .unset, .unset, .unset, .unset, .unset, .unset] [(.ref b1)])) t → Steps p.tables e below (s₁.setTop (entryFrame m #[(.int p1), (.int p2), (.long q1)] maxLocals)) t := by
    intro t kt
    refine pre62 _ ?_
    show Steps p.tables e below (T61.setTop (mkF m 139 #[.val (.int p1), .val (.int p2), .val (.long q1), .second, .unset, .unset, .unset, .unset, .unset, .unset, .unset, .unset, .unset, .unset] [(.ref b1)])) _
    refine XS.dup X61.here hx rfl (hb hby at_139) rfl rfl ?_
    show Steps p.tables e below (T61.setTop (mkF m 140 #[.val (.int p1), .val (.int p2), .val (.long q1), .second, .unset, .unset, .unset, .unset, .unset, .unset, .unset, .unset, .unset, .unset] [(.ref b1), (.ref b1)])) _
    refine XS.bipush X61.here hx rfl (hb hby at_140) ?_
    show Steps p.tables e below (T61.setTop (mkF m 142 #[.val (.int p1), .val (.int p2), .val (.long q1), .second, .unset, .unset, .unset, .unset, .unset, .unset, .unset, .unset, .unset, .unset] [(.int (20 : Int32)), (.ref b1), (.ref b1)])) _
    refine st63 _ ?_
    show Steps p.tables e below (T63.setTop (mkF m 145 #[.val (.int p1), .val (.int p2), .val (.long q1), .second, .unset, .unset, .unset, .unset, .unset, .unset, .unset, .unset, .unset, .unset] [(.ref w_PG_COUNT), (.int (20 : Int32)), (.ref b1), (.ref b1)])) _
    refine st64 _ ?_
    exact kt
  clear pre62 st64 Vn64 X63 e63 V61 K61 O61 N61
  obtain ⟨T66, X66, e66, st66⟩ := getS2 X64 hx hZ hown (host := "") (Or.inl (hw _ (List.mem_of_getElem? (i := 46) rfl))) Via.refl e64 (S_w_PRIORITY.ext O64.2) (g := (mkF m 149 #[.val (.int p1), .val (.int p2), .val (.long q1), .second, .unset, .unset, .unset, .unset, .unset, .unset, .unset, .unset, .unset, .unset] [(.int (21 : Int32)), (.ref b1), (.ref b1)])) rfl (hb hby at_149)
  obtain ⟨T67, h67, lo67, X67, e67, O67, N67, K67, Vn67, st67⟩ := own_stR X66 hx hZ e66 O64 N64 K64 V64 Ov1 g_b1 (E_w_PRIORITY.ext O64.2) (j := (21 : Int32)) (by decide) 21 rfl (Nat.le_of_ble_eq_true rfl) (g := (mkF m 152 #[.val (.int p1), .val (.int p2), .val (.long q1), .second, .unset, .unset, .unset, .unset, .unset, .unset, .unset, .unset, .unset, .unset] [(.ref w_PRIORITY), (.int (21 : Int32)), (.ref b1), (.ref b1)])) rfl rfl (hb hby at_152)
  have V67 : Arv Z h67 b1 k1 (.object "com/example/riposte/riposte/packet/HeaderField") (45 : Int32) [(.ref w_CLIENT), (.ref w_VERSION), (.ref w_DOMAIN), (.ref w_HCO), (.ref w_EPG), (.ref w_MPG), (.ref w_LENGTH), (.ref w_CONTROL), (.ref w_NRS), (.ref w_APG), (.ref w_NSR), (.ref w_NER), (.ref w_NRT), (.ref w_MDG), (.ref w_CMG), (.ref w_STI), (.ref w_DRT), (.ref w_RETRANSMIT_COUNT), (.ref w_FORWARD_COUNT), (.ref w_INTER_PACKET_GAP), (.ref w_PG_COUNT), (.ref w_PRIORITY), .null, .null, .null, .null, .null, .null, .null, .null, .null, .null, .null, .null, .null, .null, .null, .null, .null, .null, .null, .null, .null, .null, .null] .null := Vn67
  have pre68 : ∀ t, Steps p.tables e below (T67.setTop (mkF m 153 #[.val (.int p1), .val (.int p2), .val (.long q1), .second, .unset, .unset, .unset, .unset, .unset, .unset, .unset, .unset, .unset, .unset] [(.ref b1)])) t → Steps p.tables e below (s₁.setTop (entryFrame m #[(.int p1), (.int p2), (.long q1)] maxLocals)) t := by
    intro t kt
    refine pre65 _ ?_
    show Steps p.tables e below (T64.setTop (mkF m 146 #[.val (.int p1), .val (.int p2), .val (.long q1), .second, .unset, .unset, .unset, .unset, .unset, .unset, .unset, .unset, .unset, .unset] [(.ref b1)])) _
    refine XS.dup X64.here hx rfl (hb hby at_146) rfl rfl ?_
    show Steps p.tables e below (T64.setTop (mkF m 147 #[.val (.int p1), .val (.int p2), .val (.long q1), .second, .unset, .unset, .unset, .unset, .unset, .unset, .unset, .unset, .unset, .unset] [(.ref b1), (.ref b1)])) _
    refine XS.bipush X64.here hx rfl (hb hby at_147) ?_
    show Steps p.tables e below (T64.setTop (mkF m 149 #[.val (.int p1), .val (.int p2), .val (.long q1), .second, .unset, .unset, .unset, .unset, .unset, .unset, .unset, .unset, .unset, .unset] [(.int (21 : Int32)), (.ref b1), (.ref b1)])) _
    refine st66 _ ?_
    show Steps p.tables e below (T66.setTop (mkF m 152 #[.val (.int p1), .val (.int p2), .val (.long q1), .second, .unset, .unset, .unset, .unset, .unset, .unset, .unset, .unset, .unset, .unset] [(.ref w_PRIORITY), (.int (21 : Int32)), (.ref b1), (.ref b1)])) _
    refine st67 _ ?_
    exact kt
  clear pre65 st67 Vn67 X66 e66 V64 K64 O64 N64
  obtain ⟨T69, X69, e69, st69⟩ := getS2 X67 hx hZ hown (host := "") (Or.inl (hw _ (List.mem_of_getElem? (i := 48) rfl))) Via.refl e67 (S_w_FUNCTION_CODE.ext O67.2) (g := (mkF m 156 #[.val (.int p1), .val (.int p2), .val (.long q1), .second, .unset, .unset, .unset, .unset, .unset, .unset, .unset, .unset, .unset, .unset] [(.int (22 : Int32)), (.ref b1), (.ref b1)])) rfl (hb hby at_156)
  obtain ⟨T70, h70, lo70, X70, e70, O70, N70, K70, Vn70, st70⟩ := own_stR X69 hx hZ e69 O67 N67 K67 V67 Ov1 g_b1 (E_w_FUNCTION_CODE.ext O67.2) (j := (22 : Int32)) (by decide) 22 rfl (Nat.le_of_ble_eq_true rfl) (g := (mkF m 159 #[.val (.int p1), .val (.int p2), .val (.long q1), .second, .unset, .unset, .unset, .unset, .unset, .unset, .unset, .unset, .unset, .unset] [(.ref w_FUNCTION_CODE), (.int (22 : Int32)), (.ref b1), (.ref b1)])) rfl rfl (hb hby at_159)
  have V70 : Arv Z h70 b1 k1 (.object "com/example/riposte/riposte/packet/HeaderField") (45 : Int32) [(.ref w_CLIENT), (.ref w_VERSION), (.ref w_DOMAIN), (.ref w_HCO), (.ref w_EPG), (.ref w_MPG), (.ref w_LENGTH), (.ref w_CONTROL), (.ref w_NRS), (.ref w_APG), (.ref w_NSR), (.ref w_NER), (.ref w_NRT), (.ref w_MDG), (.ref w_CMG), (.ref w_STI), (.ref w_DRT), (.ref w_RETRANSMIT_COUNT), (.ref w_FORWARD_COUNT), (.ref w_INTER_PACKET_GAP), (.ref w_PG_COUNT), (.ref w_PRIORITY), (.ref w_FUNCTION_CODE), .null, .null, .null, .null, .null, .null, .null, .null, .null, .null, .null, .null, .null, .null, .null, .null, .null, .null, .null, .null, .null, .null] .null := Vn70
  have pre71 : ∀ t, Steps p.tables e below (T70.setTop (mkF m 160 #[.val (.int p1), .val (.int p2), .val (.long q1), .second, .unset, .unset, .unset, .unset, .unset, .unset, .unset, .unset, .unset, .unset] [(.ref b1)])) t → Steps p.tables e below (s₁.setTop (entryFrame m #[(.int p1), (.int p2), (.long q1)] maxLocals)) t := by
    intro t kt
    refine pre68 _ ?_
    show Steps p.tables e below (T67.setTop (mkF m 153 #[.val (.int p1), .val (.int p2), .val (.long q1), .second, .unset, .unset, .unset, .unset, .unset, .unset, .unset, .unset, .unset, .unset] [(.ref b1)])) _
    refine XS.dup X67.here hx rfl (hb hby at_153) rfl rfl ?_
    show Steps p.tables e below (T67.setTop (mkF m 154 #[.val (.int p1), .val (.int p2), .val (.long q1), .second, .unset, .unset, .unset, .unset, .unset, .unset, .unset, .unset, .unset, .unset] [(.ref b1), (.ref b1)])) _
    refine XS.bipush X67.here hx rfl (hb hby at_154) ?_
    show Steps p.tables e below (T67.setTop (mkF m 156 #[.val (.int p1), .val (.int p2), .val (.long q1), .second, .unset, .unset, .unset, .unset, .unset, .unset, .unset, .unset, .unset, .unset] [(.int (22 : Int32)), (.ref b1), (.ref b1)])) _
    refine st69 _ ?_
    show Steps p.tables e below (T69.setTop (mkF m 159 #[.val (.int p1), .val (.int p2), .val (.long q1), .second, .unset, .unset, .unset, .unset, .unset, .unset, .unset, .unset, .unset, .unset] [(.ref w_FUNCTION_CODE), (.int (22 : Int32)), (.ref b1), (.ref b1)])) _
    refine st70 _ ?_
    exact kt
  clear pre68 st70 Vn70 X69 e69 V67 K67 O67 N67
  obtain ⟨T72, X72, e72, st72⟩ := getS2 X70 hx hZ hown (host := "") (Or.inl (hw _ (List.mem_of_getElem? (i := 50) rfl))) Via.refl e70 (S_w_TRANSACTION.ext O70.2) (g := (mkF m 163 #[.val (.int p1), .val (.int p2), .val (.long q1), .second, .unset, .unset, .unset, .unset, .unset, .unset, .unset, .unset, .unset, .unset] [(.int (23 : Int32)), (.ref b1), (.ref b1)])) rfl (hb hby at_163)
  obtain ⟨T73, h73, lo73, X73, e73, O73, N73, K73, Vn73, st73⟩ := own_stR X72 hx hZ e72 O70 N70 K70 V70 Ov1 g_b1 (E_w_TRANSACTION.ext O70.2) (j := (23 : Int32)) (by decide) 23 rfl (Nat.le_of_ble_eq_true rfl) (g := (mkF m 166 #[.val (.int p1), .val (.int p2), .val (.long q1), .second, .unset, .unset, .unset, .unset, .unset, .unset, .unset, .unset, .unset, .unset] [(.ref w_TRANSACTION), (.int (23 : Int32)), (.ref b1), (.ref b1)])) rfl rfl (hb hby at_166)
  have V73 : Arv Z h73 b1 k1 (.object "com/example/riposte/riposte/packet/HeaderField") (45 : Int32) [(.ref w_CLIENT), (.ref w_VERSION), (.ref w_DOMAIN), (.ref w_HCO), (.ref w_EPG), (.ref w_MPG), (.ref w_LENGTH), (.ref w_CONTROL), (.ref w_NRS), (.ref w_APG), (.ref w_NSR), (.ref w_NER), (.ref w_NRT), (.ref w_MDG), (.ref w_CMG), (.ref w_STI), (.ref w_DRT), (.ref w_RETRANSMIT_COUNT), (.ref w_FORWARD_COUNT), (.ref w_INTER_PACKET_GAP), (.ref w_PG_COUNT), (.ref w_PRIORITY), (.ref w_FUNCTION_CODE), (.ref w_TRANSACTION), .null, .null, .null, .null, .null, .null, .null, .null, .null, .null, .null, .null, .null, .null, .null, .null, .null, .null, .null, .null, .null] .null := Vn73
  have pre74 : ∀ t, Steps p.tables e below (T73.setTop (mkF m 167 #[.val (.int p1), .val (.int p2), .val (.long q1), .second, .unset, .unset, .unset, .unset, .unset, .unset, .unset, .unset, .unset, .unset] [(.ref b1)])) t → Steps p.tables e below (s₁.setTop (entryFrame m #[(.int p1), (.int p2), (.long q1)] maxLocals)) t := by
    intro t kt
    refine pre71 _ ?_
    show Steps p.tables e below (T70.setTop (mkF m 160 #[.val (.int p1), .val (.int p2), .val (.long q1), .second, .unset, .unset, .unset, .unset, .unset, .unset, .unset, .unset, .unset, .unset] [(.ref b1)])) _
    refine XS.dup X70.here hx rfl (hb hby at_160) rfl rfl ?_
    show Steps p.tables e below (T70.setTop (mkF m 161 #[.val (.int p1), .val (.int p2), .val (.long q1), .second, .unset, .unset, .unset, .unset, .unset, .unset, .unset, .unset, .unset, .unset] [(.ref b1), (.ref b1)])) _
    refine XS.bipush X70.here hx rfl (hb hby at_161) ?_
    show Steps p.tables e below (T70.setTop (mkF m 163 #[.val (.int p1), .val (.int p2), .val (.long q1), .second, .unset, .unset, .unset, .unset, .unset, .unset, .unset, .unset, .unset, .unset] [(.int (23 : Int32)), (.ref b1), (.ref b1)])) _
    refine st72 _ ?_
    show Steps p.tables e below (T72.setTop (mkF m 166 #[.val (.int p1), .val (.int p2), .val (.long q1), .second, .unset, .unset, .unset, .unset, .unset, .unset, .unset, .unset, .unset, .unset] [(.ref w_TRANSACTION), (.int (23 : Int32)), (.ref b1), (.ref b1)])) _
    refine st73 _ ?_
    exact kt
  clear pre71 st73 Vn73 X72 e72 V70 K70 O70 N70
  obtain ⟨T75, X75, e75, st75⟩ := getS2 X73 hx hZ hown (host := "") (Or.inl (hw _ (List.mem_of_getElem? (i := 52) rfl))) Via.refl e73 (S_w_PACKET_DELIVERY.ext O73.2) (g := (mkF m 170 #[.val (.int p1), .val (.int p2), .val (.long q1), .second, .unset, .unset, .unset, .unset, .unset, .unset, .unset, .unset, .unset, .unset] [(.int (24 : Int32)), (.ref b1), (.ref b1)])) rfl (hb hby at_170)
  obtain ⟨T76, h76, lo76, X76, e76, O76, N76, K76, Vn76, st76⟩ := own_stR X75 hx hZ e75 O73 N73 K73 V73 Ov1 g_b1 (E_w_PACKET_DELIVERY.ext O73.2) (j := (24 : Int32)) (by decide) 24 rfl (Nat.le_of_ble_eq_true rfl) (g := (mkF m 173 #[.val (.int p1), .val (.int p2), .val (.long q1), .second, .unset, .unset, .unset, .unset, .unset, .unset, .unset, .unset, .unset, .unset] [(.ref w_PACKET_DELIVERY), (.int (24 : Int32)), (.ref b1), (.ref b1)])) rfl rfl (hb hby at_173)
  have V76 : Arv Z h76 b1 k1 (.object "com/example/riposte/riposte/packet/HeaderField") (45 : Int32) [(.ref w_CLIENT), (.ref w_VERSION), (.ref w_DOMAIN), (.ref w_HCO), (.ref w_EPG), (.ref w_MPG), (.ref w_LENGTH), (.ref w_CONTROL), (.ref w_NRS), (.ref w_APG), (.ref w_NSR), (.ref w_NER), (.ref w_NRT), (.ref w_MDG), (.ref w_CMG), (.ref w_STI), (.ref w_DRT), (.ref w_RETRANSMIT_COUNT), (.ref w_FORWARD_COUNT), (.ref w_INTER_PACKET_GAP), (.ref w_PG_COUNT), (.ref w_PRIORITY), (.ref w_FUNCTION_CODE), (.ref w_TRANSACTION), (.ref w_PACKET_DELIVERY), .null, .null, .null, .null, .null, .null, .null, .null, .null, .null, .null, .null, .null, .null, .null, .null, .null, .null, .null, .null] .null := Vn76
  have pre77 : ∀ t, Steps p.tables e below (T76.setTop (mkF m 174 #[.val (.int p1), .val (.int p2), .val (.long q1), .second, .unset, .unset, .unset, .unset, .unset, .unset, .unset, .unset, .unset, .unset] [(.ref b1)])) t → Steps p.tables e below (s₁.setTop (entryFrame m #[(.int p1), (.int p2), (.long q1)] maxLocals)) t := by
    intro t kt
    refine pre74 _ ?_
    show Steps p.tables e below (T73.setTop (mkF m 167 #[.val (.int p1), .val (.int p2), .val (.long q1), .second, .unset, .unset, .unset, .unset, .unset, .unset, .unset, .unset, .unset, .unset] [(.ref b1)])) _
    refine XS.dup X73.here hx rfl (hb hby at_167) rfl rfl ?_
    show Steps p.tables e below (T73.setTop (mkF m 168 #[.val (.int p1), .val (.int p2), .val (.long q1), .second, .unset, .unset, .unset, .unset, .unset, .unset, .unset, .unset, .unset, .unset] [(.ref b1), (.ref b1)])) _
    refine XS.bipush X73.here hx rfl (hb hby at_168) ?_
    show Steps p.tables e below (T73.setTop (mkF m 170 #[.val (.int p1), .val (.int p2), .val (.long q1), .second, .unset, .unset, .unset, .unset, .unset, .unset, .unset, .unset, .unset, .unset] [(.int (24 : Int32)), (.ref b1), (.ref b1)])) _
    refine st75 _ ?_
    show Steps p.tables e below (T75.setTop (mkF m 173 #[.val (.int p1), .val (.int p2), .val (.long q1), .second, .unset, .unset, .unset, .unset, .unset, .unset, .unset, .unset, .unset, .unset] [(.ref w_PACKET_DELIVERY), (.int (24 : Int32)), (.ref b1), (.ref b1)])) _
    refine st76 _ ?_
    exact kt
  clear pre74 st76 Vn76 X75 e75 V73 K73 O73 N73
  obtain ⟨T78, X78, e78, st78⟩ := getS2 X76 hx hZ hown (host := "") (Or.inl (hw _ (List.mem_of_getElem? (i := 54) rfl))) Via.refl e76 (S_w_SERVER.ext O76.2) (g := (mkF m 177 #[.val (.int p1), .val (.int p2), .val (.long q1), .second, .unset, .unset, .unset, .unset, .unset, .unset, .unset, .unset, .unset, .unset] [(.int (25 : Int32)), (.ref b1), (.ref b1)])) rfl (hb hby at_177)
  obtain ⟨T79, h79, lo79, X79, e79, O79, N79, K79, Vn79, st79⟩ := own_stR X78 hx hZ e78 O76 N76 K76 V76 Ov1 g_b1 (E_w_SERVER.ext O76.2) (j := (25 : Int32)) (by decide) 25 rfl (Nat.le_of_ble_eq_true rfl) (g := (mkF m 180 #[.val (.int p1), .val (.int p2), .val (.long q1), .second, .unset, .unset, .unset, .unset, .unset, .unset, .unset, .unset, .unset, .unset] [(.ref w_SERVER), (.int (25 : Int32)), (.ref b1), (.ref b1)])) rfl rfl (hb hby at_180)
  have V79 : Arv Z h79 b1 k1 (.object "com/example/riposte/riposte/packet/HeaderField") (45 : Int32) [(.ref w_CLIENT), (.ref w_VERSION), (.ref w_DOMAIN), (.ref w_HCO), (.ref w_EPG), (.ref w_MPG), (.ref w_LENGTH), (.ref w_CONTROL), (.ref w_NRS), (.ref w_APG), (.ref w_NSR), (.ref w_NER), (.ref w_NRT), (.ref w_MDG), (.ref w_CMG), (.ref w_STI), (.ref w_DRT), (.ref w_RETRANSMIT_COUNT), (.ref w_FORWARD_COUNT), (.ref w_INTER_PACKET_GAP), (.ref w_PG_COUNT), (.ref w_PRIORITY), (.ref w_FUNCTION_CODE), (.ref w_TRANSACTION), (.ref w_PACKET_DELIVERY), (.ref w_SERVER), .null, .null, .null, .null, .null, .null, .null, .null, .null, .null, .null, .null, .null, .null, .null, .null, .null, .null, .null] .null := Vn79
  have pre80 : ∀ t, Steps p.tables e below (T79.setTop (mkF m 181 #[.val (.int p1), .val (.int p2), .val (.long q1), .second, .unset, .unset, .unset, .unset, .unset, .unset, .unset, .unset, .unset, .unset] [(.ref b1)])) t → Steps p.tables e below (s₁.setTop (entryFrame m #[(.int p1), (.int p2), (.long q1)] maxLocals)) t := by
    intro t kt
    refine pre77 _ ?_
    show Steps p.tables e below (T76.setTop (mkF m 174 #[.val (.int p1), .val (.int p2), .val (.long q1), .second, .unset, .unset, .unset, .unset, .unset, .unset, .unset, .unset, .unset, .unset] [(.ref b1)])) _
    refine XS.dup X76.here hx rfl (hb hby at_174) rfl rfl ?_
    show Steps p.tables e below (T76.setTop (mkF m 175 #[.val (.int p1), .val (.int p2), .val (.long q1), .second, .unset, .unset, .unset, .unset, .unset, .unset, .unset, .unset, .unset, .unset] [(.ref b1), (.ref b1)])) _
    refine XS.bipush X76.here hx rfl (hb hby at_175) ?_
    show Steps p.tables e below (T76.setTop (mkF m 177 #[.val (.int p1), .val (.int p2), .val (.long q1), .second, .unset, .unset, .unset, .unset, .unset, .unset, .unset, .unset, .unset, .unset] [(.int (25 : Int32)), (.ref b1), (.ref b1)])) _
    refine st78 _ ?_
    show Steps p.tables e below (T78.setTop (mkF m 180 #[.val (.int p1), .val (.int p2), .val (.long q1), .second, .unset, .unset, .unset, .unset, .unset, .unset, .unset, .unset, .unset, .unset] [(.ref w_SERVER), (.int (25 : Int32)), (.ref b1), (.ref b1)])) _
    refine st79 _ ?_
    exact kt
  clear pre77 st79 Vn79 X78 e78 V76 K76 O76 N76
  obtain ⟨T81, X81, e81, st81⟩ := getS2 X79 hx hZ hown (host := "") (Or.inl (hw _ (List.mem_of_getElem? (i := 56) rfl))) Via.refl e79 (S_w_FLAGS_AND_CODE.ext O79.2) (g := (mkF m 184 #[.val (.int p1), .val (.int p2), .val (.long q1), .second, .unset, .unset, .unset, .unset, .unset, .unset, .unset, .unset, .unset, .unset] [(.int (26 : Int32)), (.ref b1), (.ref b1)])) rfl (hb hby at_184)
  obtain ⟨T82, h82, lo82, X82, e82, O82, N82, K82, Vn82, st82⟩ := own_stR X81 hx hZ e81 O79 N79 K79 V79 Ov1 g_b1 (E_w_FLAGS_AND_CODE.ext O79.2) (j := (26 : Int32)) (by decide) 26 rfl (Nat.le_of_ble_eq_true rfl) (g := (mkF m 187 #[.val (.int p1), .val (.int p2), .val (.long q1), .second, .unset, .unset, .unset, .unset, .unset, .unset, .unset, .unset, .unset, .unset] [(.ref w_FLAGS_AND_CODE), (.int (26 : Int32)), (.ref b1), (.ref b1)])) rfl rfl (hb hby at_187)
  have V82 : Arv Z h82 b1 k1 (.object "com/example/riposte/riposte/packet/HeaderField") (45 : Int32) [(.ref w_CLIENT), (.ref w_VERSION), (.ref w_DOMAIN), (.ref w_HCO), (.ref w_EPG), (.ref w_MPG), (.ref w_LENGTH), (.ref w_CONTROL), (.ref w_NRS), (.ref w_APG), (.ref w_NSR), (.ref w_NER), (.ref w_NRT), (.ref w_MDG), (.ref w_CMG), (.ref w_STI), (.ref w_DRT), (.ref w_RETRANSMIT_COUNT), (.ref w_FORWARD_COUNT), (.ref w_INTER_PACKET_GAP), (.ref w_PG_COUNT), (.ref w_PRIORITY), (.ref w_FUNCTION_CODE), (.ref w_TRANSACTION), (.ref w_PACKET_DELIVERY), (.ref w_SERVER), (.ref w_FLAGS_AND_CODE), .null, .null, .null, .null, .null, .null, .null, .null, .null, .null, .null, .null, .null, .null, .null, .null, .null, .null] .null := Vn82
  have pre83 : ∀ t, Steps p.tables e below (T82.setTop (mkF m 188 #[.val (.int p1), .val (.int p2), .val (.long q1), .second, .unset, .unset, .unset, .unset, .unset, .unset, .unset, .unset, .unset, .unset] [(.ref b1)])) t → Steps p.tables e below (s₁.setTop (entryFrame m #[(.int p1), (.int p2), (.long q1)] maxLocals)) t := by
    intro t kt
    refine pre80 _ ?_
    show Steps p.tables e below (T79.setTop (mkF m 181 #[.val (.int p1), .val (.int p2), .val (.long q1), .second, .unset, .unset, .unset, .unset, .unset, .unset, .unset, .unset, .unset, .unset] [(.ref b1)])) _
    refine XS.dup X79.here hx rfl (hb hby at_181) rfl rfl ?_
    show Steps p.tables e below (T79.setTop (mkF m 182 #[.val (.int p1), .val (.int p2), .val (.long q1), .second, .unset, .unset, .unset, .unset, .unset, .unset, .unset, .unset, .unset, .unset] [(.ref b1), (.ref b1)])) _
    refine XS.bipush X79.here hx rfl (hb hby at_182) ?_
    show Steps p.tables e below (T79.setTop (mkF m 184 #[.val (.int p1), .val (.int p2), .val (.long q1), .second, .unset, .unset, .unset, .unset, .unset, .unset, .unset, .unset, .unset, .unset] [(.int (26 : Int32)), (.ref b1), (.ref b1)])) _
    refine st81 _ ?_
    show Steps p.tables e below (T81.setTop (mkF m 187 #[.val (.int p1), .val (.int p2), .val (.long q1), .second, .unset, .unset, .unset, .unset, .unset, .unset, .unset, .unset, .unset, .unset] [(.ref w_FLAGS_AND_CODE), (.int (26 : Int32)), (.ref b1), (.ref b1)])) _
    refine st82 _ ?_
    exact kt
  clear pre80 st82 Vn82 X81 e81 V79 K79 O79 N79
  obtain ⟨T84, X84, e84, st84⟩ := getS2 X82 hx hZ hown (host := "") (Or.inl (hw _ (List.mem_of_getElem? (i := 58) rfl))) Via.refl e82 (S_w_CMD.ext O82.2) (g := (mkF m 191 #[.val (.int p1), .val (.int p2), .val (.long q1), .second, .unset, .unset, .unset, .unset, .unset, .unset, .unset, .unset, .unset, .unset] [(.int (27 : Int32)), (.ref b1), (.ref b1)])) rfl (hb hby at_191)
  obtain ⟨T85, h85, lo85, X85, e85, O85, N85, K85, Vn85, st85⟩ := own_stR X84 hx hZ e84 O82 N82 K82 V82 Ov1 g_b1 (E_w_CMD.ext O82.2) (j := (27 : Int32)) (by decide) 27 rfl (Nat.le_of_ble_eq_true rfl) (g := (mkF m 194 #[.val (.int p1), .val (.int p2), .val (.long q1), .second, .unset, .unset, .unset, .unset, .unset, .unset, .unset, .unset, .unset, .unset] [(.ref w_CMD), (.int (27 : Int32)), (.ref b1), (.ref b1)])) rfl rfl (hb hby at_194)
  have V85 : Arv Z h85 b1 k1 (.object "com/example/riposte/riposte/packet/HeaderField") (45 : Int32) [(.ref w_CLIENT), (.ref w_VERSION), (.ref w_DOMAIN), (.ref w_HCO), (.ref w_EPG), (.ref w_MPG), (.ref w_LENGTH), (.ref w_CONTROL), (.ref w_NRS), (.ref w_APG), (.ref w_NSR), (.ref w_NER), (.ref w_NRT), (.ref w_MDG), (.ref w_CMG), (.ref w_STI), (.ref w_DRT), (.ref w_RETRANSMIT_COUNT), (.ref w_FORWARD_COUNT), (.ref w_INTER_PACKET_GAP), (.ref w_PG_COUNT), (.ref w_PRIORITY), (.ref w_FUNCTION_CODE), (.ref w_TRANSACTION), (.ref w_PACKET_DELIVERY), (.ref w_SERVER), (.ref w_FLAGS_AND_CODE), (.ref w_CMD), .null, .null, .null, .null, .null, .null, .null, .null, .null, .null, .null, .null, .null, .null, .null, .null, .null] .null := Vn85
  have pre86 : ∀ t, Steps p.tables e below (T85.setTop (mkF m 195 #[.val (.int p1), .val (.int p2), .val (.long q1), .second, .unset, .unset, .unset, .unset, .unset, .unset, .unset, .unset, .unset, .unset] [(.ref b1)])) t → Steps p.tables e below (s₁.setTop (entryFrame m #[(.int p1), (.int p2), (.long q1)] maxLocals)) t := by
    intro t kt
    refine pre83 _ ?_
    show Steps p.tables e below (T82.setTop (mkF m 188 #[.val (.int p1), .val (.int p2), .val (.long q1), .second, .unset, .unset, .unset, .unset, .unset, .unset, .unset, .unset, .unset, .unset] [(.ref b1)])) _
    refine XS.dup X82.here hx rfl (hb hby at_188) rfl rfl ?_
    show Steps p.tables e below (T82.setTop (mkF m 189 #[.val (.int p1), .val (.int p2), .val (.long q1), .second, .unset, .unset, .unset, .unset, .unset, .unset, .unset, .unset, .unset, .unset] [(.ref b1), (.ref b1)])) _
    refine XS.bipush X82.here hx rfl (hb hby at_189) ?_
    show Steps p.tables e below (T82.setTop (mkF m 191 #[.val (.int p1), .val (.int p2), .val (.long q1), .second, .unset, .unset, .unset, .unset, .unset, .unset, .unset, .unset, .unset, .unset] [(.int (27 : Int32)), (.ref b1), (.ref b1)])) _
    refine st84 _ ?_
    show Steps p.tables e below (T84.setTop (mkF m 194 #[.val (.int p1), .val (.int p2), .val (.long q1), .second, .unset, .unset, .unset, .unset, .unset, .unset, .unset, .unset, .unset, .unset] [(.ref w_CMD), (.int (27 : Int32)), (.ref b1), (.ref b1)])) _
    refine st85 _ ?_
    exact kt
  clear pre83 st85 Vn85 X84 e84 V82 K82 O82 N82
  obtain ⟨T87, X87, e87, st87⟩ := getS2 X85 hx hZ hown (host := "") (Or.inl (hw _ (List.mem_of_getElem? (i := 60) rfl))) Via.refl e85 (S_w_DGM.ext O85.2) (g := (mkF m 198 #[.val (.int p1), .val (.int p2), .val (.long q1), .second, .unset, .unset, .unset, .unset, .unset, .unset, .unset, .unset, .unset, .unset] [(.int (28 : Int32)), (.ref b1), (.ref b1)])) rfl (hb hby at_198)
  obtain ⟨T88, h88, lo88, X88, e88, O88, N88, K88, Vn88, st88⟩ := own_stR X87 hx hZ e87 O85 N85 K85 V85 Ov1 g_b1 (E_w_DGM.ext O85.2) (j := (28 : Int32)) (by decide) 28 rfl (Nat.le_of_ble_eq_true rfl) (g := (mkF m 201 #[.val (.int p1), .val (.int p2), .val (.long q1), .second, .unset, .unset, .unset, .unset, .unset, .unset, .unset, .unset, .unset, .unset] [(.ref w_DGM), (.int (28 : Int32)), (.ref b1), (.ref b1)])) rfl rfl (hb hby at_201)
  have V88 : Arv Z h88 b1 k1 (.object "com/example/riposte/riposte/packet/HeaderField") (45 : Int32) [(.ref w_CLIENT), (.ref w_VERSION), (.ref w_DOMAIN), (.ref w_HCO), (.ref w_EPG), (.ref w_MPG), (.ref w_LENGTH), (.ref w_CONTROL), (.ref w_NRS), (.ref w_APG), (.ref w_NSR), (.ref w_NER), (.ref w_NRT), (.ref w_MDG), (.ref w_CMG), (.ref w_STI), (.ref w_DRT), (.ref w_RETRANSMIT_COUNT), (.ref w_FORWARD_COUNT), (.ref w_INTER_PACKET_GAP), (.ref w_PG_COUNT), (.ref w_PRIORITY), (.ref w_FUNCTION_CODE), (.ref w_TRANSACTION), (.ref w_PACKET_DELIVERY), (.ref w_SERVER), (.ref w_FLAGS_AND_CODE), (.ref w_CMD), (.ref w_DGM), .null, .null, .null, .null, .null, .null, .null, .null, .null, .null, .null, .null, .null, .null, .null, .null] .null := Vn88
  have pre89 : ∀ t, Steps p.tables e below (T88.setTop (mkF m 202 #[.val (.int p1), .val (.int p2), .val (.long q1), .second, .unset, .unset, .unset, .unset, .unset, .unset, .unset, .unset, .unset, .unset] [(.ref b1)])) t → Steps p.tables e below (s₁.setTop (entryFrame m #[(.int p1), (.int p2), (.long q1)] maxLocals)) t := by
    intro t kt
    refine pre86 _ ?_
    show Steps p.tables e below (T85.setTop (mkF m 195 #[.val (.int p1), .val (.int p2), .val (.long q1), .second, .unset, .unset, .unset, .unset, .unset, .unset, .unset, .unset, .unset, .unset] [(.ref b1)])) _
    refine XS.dup X85.here hx rfl (hb hby at_195) rfl rfl ?_
    show Steps p.tables e below (T85.setTop (mkF m 196 #[.val (.int p1), .val (.int p2), .val (.long q1), .second, .unset, .unset, .unset, .unset, .unset, .unset, .unset, .unset, .unset, .unset] [(.ref b1), (.ref b1)])) _
    refine XS.bipush X85.here hx rfl (hb hby at_196) ?_
    show Steps p.tables e below (T85.setTop (mkF m 198 #[.val (.int p1), .val (.int p2), .val (.long q1), .second, .unset, .unset, .unset, .unset, .unset, .unset, .unset, .unset, .unset, .unset] [(.int (28 : Int32)), (.ref b1), (.ref b1)])) _
    refine st87 _ ?_
    show Steps p.tables e below (T87.setTop (mkF m 201 #[.val (.int p1), .val (.int p2), .val (.long q1), .second, .unset, .unset, .unset, .unset, .unset, .unset, .unset, .unset, .unset, .unset] [(.ref w_DGM), (.int (28 : Int32)), (.ref b1), (.ref b1)])) _
    refine st88 _ ?_
    exact kt
  clear pre86 st88 Vn88 X87 e87 V85 K85 O85 N85
  obtain ⟨T90, X90, e90, st90⟩ := getS2 X88 hx hZ hown (host := "") (Or.inl (hw _ (List.mem_of_getElem? (i := 62) rfl))) Via.refl e88 (S_w_MDM.ext O88.2) (g := (mkF m 205 #[.val (.int p1), .val (.int p2), .val (.long q1), .second, .unset, .unset, .unset, .unset, .unset, .unset, .unset, .unset, .unset, .unset] [(.int (29 : Int32)), (.ref b1), (.ref b1)])) rfl (hb hby at_205)
  obtain ⟨T91, h91, lo91, X91, e91, O91, N91, K91, Vn91, st91⟩ := own_stR X90 hx hZ e90 O88 N88 K88 V88 Ov1 g_b1 (E_w_MDM.ext O88.2) (j := (29 : Int32)) (by decide) 29 rfl (Nat.le_of_ble_eq_true rfl) (g := (mkF m 208 #[.val (.int p1), .val (.int p2), .val (.long q1), .second, .unset, .unset, .unset, .unset, .unset, .unset, .unset, .unset, .unset, .unset] [(.ref w_MDM), (.int (29 : Int32)), (.ref b1), (.ref b1)])) rfl rfl (hb hby at_208)
  have V91 : Arv Z h91 b1 k1 (.object "com/example/riposte/riposte/packet/HeaderField") (45 : Int32) [(.ref w_CLIENT), (.ref w_VERSION), (.ref w_DOMAIN), (.ref w_HCO), (.ref w_EPG), (.ref w_MPG), (.ref w_LENGTH), (.ref w_CONTROL), (.ref w_NRS), (.ref w_APG), (.ref w_NSR), (.ref w_NER), (.ref w_NRT), (.ref w_MDG), (.ref w_CMG), (.ref w_STI), (.ref w_DRT), (.ref w_RETRANSMIT_COUNT), (.ref w_FORWARD_COUNT), (.ref w_INTER_PACKET_GAP), (.ref w_PG_COUNT), (.ref w_PRIORITY), (.ref w_FUNCTION_CODE), (.ref w_TRANSACTION), (.ref w_PACKET_DELIVERY), (.ref w_SERVER), (.ref w_FLAGS_AND_CODE), (.ref w_CMD), (.ref w_DGM), (.ref w_MDM), .null, .null, .null, .null, .null, .null, .null, .null, .null, .null, .null, .null, .null, .null, .null] .null := Vn91
  have pre92 : ∀ t, Steps p.tables e below (T91.setTop (mkF m 209 #[.val (.int p1), .val (.int p2), .val (.long q1), .second, .unset, .unset, .unset, .unset, .unset, .unset, .unset, .unset, .unset, .unset] [(.ref b1)])) t → Steps p.tables e below (s₁.setTop (entryFrame m #[(.int p1), (.int p2), (.long q1)] maxLocals)) t := by
    intro t kt
    refine pre89 _ ?_
    show Steps p.tables e below (T88.setTop (mkF m 202 #[.val (.int p1), .val (.int p2), .val (.long q1), .second, .unset, .unset, .unset, .unset, .unset, .unset, .unset, .unset, .unset, .unset] [(.ref b1)])) _
    refine XS.dup X88.here hx rfl (hb hby at_202) rfl rfl ?_
    show Steps p.tables e below (T88.setTop (mkF m 203 #[.val (.int p1), .val (.int p2), .val (.long q1), .second, .unset, .unset, .unset, .unset, .unset, .unset, .unset, .unset, .unset, .unset] [(.ref b1), (.ref b1)])) _
    refine XS.bipush X88.here hx rfl (hb hby at_203) ?_
    show Steps p.tables e below (T88.setTop (mkF m 205 #[.val (.int p1), .val (.int p2), .val (.long q1), .second, .unset, .unset, .unset, .unset, .unset, .unset, .unset, .unset, .unset, .unset] [(.int (29 : Int32)), (.ref b1), (.ref b1)])) _
    refine st90 _ ?_
    show Steps p.tables e below (T90.setTop (mkF m 208 #[.val (.int p1), .val (.int p2), .val (.long q1), .second, .unset, .unset, .unset, .unset, .unset, .unset, .unset, .unset, .unset, .unset] [(.ref w_MDM), (.int (29 : Int32)), (.ref b1), (.ref b1)])) _
    refine st91 _ ?_
    exact kt
  clear pre89 st91 Vn91 X90 e90 V88 K88 O88 N88
  obtain ⟨T93, X93, e93, st93⟩ := getS2 X91 hx hZ hown (host := "") (Or.inl (hw _ (List.mem_of_getElem? (i := 64) rfl))) Via.refl e91 (S_w_SDA.ext O91.2) (g := (mkF m 212 #[.val (.int p1), .val (.int p2), .val (.long q1), .second, .unset, .unset, .unset, .unset, .unset, .unset, .unset, .unset, .unset, .unset] [(.int (30 : Int32)), (.ref b1), (.ref b1)])) rfl (hb hby at_212)
  obtain ⟨T94, h94, lo94, X94, e94, O94, N94, K94, Vn94, st94⟩ := own_stR X93 hx hZ e93 O91 N91 K91 V91 Ov1 g_b1 (E_w_SDA.ext O91.2) (j := (30 : Int32)) (by decide) 30 rfl (Nat.le_of_ble_eq_true rfl) (g := (mkF m 215 #[.val (.int p1), .val (.int p2), .val (.long q1), .second, .unset, .unset, .unset, .unset, .unset, .unset, .unset, .unset, .unset, .unset] [(.ref w_SDA), (.int (30 : Int32)), (.ref b1), (.ref b1)])) rfl rfl (hb hby at_215)
  have V94 : Arv Z h94 b1 k1 (.object "com/example/riposte/riposte/packet/HeaderField") (45 : Int32) [(.ref w_CLIENT), (.ref w_VERSION), (.ref w_DOMAIN), (.ref w_HCO), (.ref w_EPG), (.ref w_MPG), (.ref w_LENGTH), (.ref w_CONTROL), (.ref w_NRS), (.ref w_APG), (.ref w_NSR), (.ref w_NER), (.ref w_NRT), (.ref w_MDG), (.ref w_CMG), (.ref w_STI), (.ref w_DRT), (.ref w_RETRANSMIT_COUNT), (.ref w_FORWARD_COUNT), (.ref w_INTER_PACKET_GAP), (.ref w_PG_COUNT), (.ref w_PRIORITY), (.ref w_FUNCTION_CODE), (.ref w_TRANSACTION), (.ref w_PACKET_DELIVERY), (.ref w_SERVER), (.ref w_FLAGS_AND_CODE), (.ref w_CMD), (.ref w_DGM), (.ref w_MDM), (.ref w_SDA), .null, .null, .null, .null, .null, .null, .null, .null, .null, .null, .null, .null, .null, .null] .null := Vn94
  have pre95 : ∀ t, Steps p.tables e below (T94.setTop (mkF m 216 #[.val (.int p1), .val (.int p2), .val (.long q1), .second, .unset, .unset, .unset, .unset, .unset, .unset, .unset, .unset, .unset, .unset] [(.ref b1)])) t → Steps p.tables e below (s₁.setTop (entryFrame m #[(.int p1), (.int p2), (.long q1)] maxLocals)) t := by
    intro t kt
    refine pre92 _ ?_
    show Steps p.tables e below (T91.setTop (mkF m 209 #[.val (.int p1), .val (.int p2), .val (.long q1), .second, .unset, .unset, .unset, .unset, .unset, .unset, .unset, .unset, .unset, .unset] [(.ref b1)])) _
    refine XS.dup X91.here hx rfl (hb hby at_209) rfl rfl ?_
    show Steps p.tables e below (T91.setTop (mkF m 210 #[.val (.int p1), .val (.int p2), .val (.long q1), .second, .unset, .unset, .unset, .unset, .unset, .unset, .unset, .unset, .unset, .unset] [(.ref b1), (.ref b1)])) _
    refine XS.bipush X91.here hx rfl (hb hby at_210) ?_
    show Steps p.tables e below (T91.setTop (mkF m 212 #[.val (.int p1), .val (.int p2), .val (.long q1), .second, .unset, .unset, .unset, .unset, .unset, .unset, .unset, .unset, .unset, .unset] [(.int (30 : Int32)), (.ref b1), (.ref b1)])) _
    refine st93 _ ?_
    show Steps p.tables e below (T93.setTop (mkF m 215 #[.val (.int p1), .val (.int p2), .val (.long q1), .second, .unset, .unset, .unset, .unset, .unset, .unset, .unset, .unset, .unset, .unset] [(.ref w_SDA), (.int (30 : Int32)), (.ref b1), (.ref b1)])) _
    refine st94 _ ?_
    exact kt
  clear pre92 st94 Vn94 X93 e93 V91 K91 O91 N91
  obtain ⟨T96, X96, e96, st96⟩ := getS2 X94 hx hZ hown (host := "") (Or.inl (hw _ (List.mem_of_getElem? (i := 66) rfl))) Via.refl e94 (S_w_CRE.ext O94.2) (g := (mkF m 219 #[.val (.int p1), .val (.int p2), .val (.long q1), .second, .unset, .unset, .unset, .unset, .unset, .unset, .unset, .unset, .unset, .unset] [(.int (31 : Int32)), (.ref b1), (.ref b1)])) rfl (hb hby at_219)
  obtain ⟨T97, h97, lo97, X97, e97, O97, N97, K97, Vn97, st97⟩ := own_stR X96 hx hZ e96 O94 N94 K94 V94 Ov1 g_b1 (E_w_CRE.ext O94.2) (j := (31 : Int32)) (by decide) 31 rfl (Nat.le_of_ble_eq_true rfl) (g := (mkF m 222 #[.val (.int p1), .val (.int p2), .val (.long q1), .second, .unset, .unset, .unset, .unset, .unset, .unset, .unset, .unset, .unset, .unset] [(.ref w_CRE), (.int (31 : Int32)), (.ref b1), (.ref b1)])) rfl rfl (hb hby at_222)
  have V97 : Arv Z h97 b1 k1 (.object "com/example/riposte/riposte/packet/HeaderField") (45 : Int32) [(.ref w_CLIENT), (.ref w_VERSION), (.ref w_DOMAIN), (.ref w_HCO), (.ref w_EPG), (.ref w_MPG), (.ref w_LENGTH), (.ref w_CONTROL), (.ref w_NRS), (.ref w_APG), (.ref w_NSR), (.ref w_NER), (.ref w_NRT), (.ref w_MDG), (.ref w_CMG), (.ref w_STI), (.ref w_DRT), (.ref w_RETRANSMIT_COUNT), (.ref w_FORWARD_COUNT), (.ref w_INTER_PACKET_GAP), (.ref w_PG_COUNT), (.ref w_PRIORITY), (.ref w_FUNCTION_CODE), (.ref w_TRANSACTION), (.ref w_PACKET_DELIVERY), (.ref w_SERVER), (.ref w_FLAGS_AND_CODE), (.ref w_CMD), (.ref w_DGM), (.ref w_MDM), (.ref w_SDA), (.ref w_CRE), .null, .null, .null, .null, .null, .null, .null, .null, .null, .null, .null, .null, .null] .null := Vn97
  have pre98 : ∀ t, Steps p.tables e below (T97.setTop (mkF m 223 #[.val (.int p1), .val (.int p2), .val (.long q1), .second, .unset, .unset, .unset, .unset, .unset, .unset, .unset, .unset, .unset, .unset] [(.ref b1)])) t → Steps p.tables e below (s₁.setTop (entryFrame m #[(.int p1), (.int p2), (.long q1)] maxLocals)) t := by
    intro t kt
    refine pre95 _ ?_
    show Steps p.tables e below (T94.setTop (mkF m 216 #[.val (.int p1), .val (.int p2), .val (.long q1), .second, .unset, .unset, .unset, .unset, .unset, .unset, .unset, .unset, .unset, .unset] [(.ref b1)])) _
    refine XS.dup X94.here hx rfl (hb hby at_216) rfl rfl ?_
    show Steps p.tables e below (T94.setTop (mkF m 217 #[.val (.int p1), .val (.int p2), .val (.long q1), .second, .unset, .unset, .unset, .unset, .unset, .unset, .unset, .unset, .unset, .unset] [(.ref b1), (.ref b1)])) _
    refine XS.bipush X94.here hx rfl (hb hby at_217) ?_
    show Steps p.tables e below (T94.setTop (mkF m 219 #[.val (.int p1), .val (.int p2), .val (.long q1), .second, .unset, .unset, .unset, .unset, .unset, .unset, .unset, .unset, .unset, .unset] [(.int (31 : Int32)), (.ref b1), (.ref b1)])) _
    refine st96 _ ?_
    show Steps p.tables e below (T96.setTop (mkF m 222 #[.val (.int p1), .val (.int p2), .val (.long q1), .second, .unset, .unset, .unset, .unset, .unset, .unset, .unset, .unset, .unset, .unset] [(.ref w_CRE), (.int (31 : Int32)), (.ref b1), (.ref b1)])) _
    refine st97 _ ?_
    exact kt
  clear pre95 st97 Vn97 X96 e96 V94 K94 O94 N94
  obtain ⟨T99, X99, e99, st99⟩ := getS2 X97 hx hZ hown (host := "") (Or.inl (hw _ (List.mem_of_getElem? (i := 68) rfl))) Via.refl e97 (S_w_MRD.ext O97.2) (g := (mkF m 226 #[.val (.int p1), .val (.int p2), .val (.long q1), .second, .unset, .unset, .unset, .unset, .unset, .unset, .unset, .unset, .unset, .unset] [(.int (32 : Int32)), (.ref b1), (.ref b1)])) rfl (hb hby at_226)
  obtain ⟨T100, h100, lo100, X100, e100, O100, N100, K100, Vn100, st100⟩ := own_stR X99 hx hZ e99 O97 N97 K97 V97 Ov1 g_b1 (E_w_MRD.ext O97.2) (j := (32 : Int32)) (by decide) 32 rfl (Nat.le_of_ble_eq_true rfl) (g := (mkF m 229 #[.val (.int p1), .val (.int p2), .val (.long q1), .second, .unset, .unset, .unset, .unset, .unset, .unset, .unset, .unset, .unset, .unset] [(.ref w_MRD), (.int (32 : Int32)), (.ref b1), (.ref b1)])) rfl rfl (hb hby at_229)
  have V100 : Arv Z h100 b1 k1 (.object "com/example/riposte/riposte/packet/HeaderField") (45 : Int32) [(.ref w_CLIENT), (.ref w_VERSION), (.ref w_DOMAIN), (.ref w_HCO), (.ref w_EPG), (.ref w_MPG), (.ref w_LENGTH), (.ref w_CONTROL), (.ref w_NRS), (.ref w_APG), (.ref w_NSR), (.ref w_NER), (.ref w_NRT), (.ref w_MDG), (.ref w_CMG), (.ref w_STI), (.ref w_DRT), (.ref w_RETRANSMIT_COUNT), (.ref w_FORWARD_COUNT), (.ref w_INTER_PACKET_GAP), (.ref w_PG_COUNT), (.ref w_PRIORITY), (.ref w_FUNCTION_CODE), (.ref w_TRANSACTION), (.ref w_PACKET_DELIVERY), (.ref w_SERVER), (.ref w_FLAGS_AND_CODE), (.ref w_CMD), (.ref w_DGM), (.ref w_MDM), (.ref w_SDA), (.ref w_CRE), (.ref w_MRD), .null, .null, .null, .null, .null, .null, .null, .null, .null, .null, .null, .null] .null := Vn100
  have pre101 : ∀ t, Steps p.tables e below (T100.setTop (mkF m 230 #[.val (.int p1), .val (.int p2), .val (.long q1), .second, .unset, .unset, .unset, .unset, .unset, .unset, .unset, .unset, .unset, .unset] [(.ref b1)])) t → Steps p.tables e below (s₁.setTop (entryFrame m #[(.int p1), (.int p2), (.long q1)] maxLocals)) t := by
    intro t kt
    refine pre98 _ ?_
    show Steps p.tables e below (T97.setTop (mkF m 223 #[.val (.int p1), .val (.int p2), .val (.long q1), .second, .unset, .unset, .unset, .unset, .unset, .unset, .unset, .unset, .unset, .unset] [(.ref b1)])) _
    refine XS.dup X97.here hx rfl (hb hby at_223) rfl rfl ?_
    show Steps p.tables e below (T97.setTop (mkF m 224 #[.val (.int p1), .val (.int p2), .val (.long q1), .second, .unset, .unset, .unset, .unset, .unset, .unset, .unset, .unset, .unset, .unset] [(.ref b1), (.ref b1)])) _
    refine XS.bipush X97.here hx rfl (hb hby at_224) ?_
    show Steps p.tables e below (T97.setTop (mkF m 226 #[.val (.int p1), .val (.int p2), .val (.long q1), .second, .unset, .unset, .unset, .unset, .unset, .unset, .unset, .unset, .unset, .unset] [(.int (32 : Int32)), (.ref b1), (.ref b1)])) _
    refine st99 _ ?_
    show Steps p.tables e below (T99.setTop (mkF m 229 #[.val (.int p1), .val (.int p2), .val (.long q1), .second, .unset, .unset, .unset, .unset, .unset, .unset, .unset, .unset, .unset, .unset] [(.ref w_MRD), (.int (32 : Int32)), (.ref b1), (.ref b1)])) _
    refine st100 _ ?_
    exact kt
  clear pre98 st100 Vn100 X99 e99 V97 K97 O97 N97
  obtain ⟨T102, X102, e102, st102⟩ := getS2 X100 hx hZ hown (host := "") (Or.inl (hw _ (List.mem_of_getElem? (i := 70) rfl))) Via.refl e100 (S_w_PIC.ext O100.2) (g := (mkF m 233 #[.val (.int p1), .val (.int p2), .val (.long q1), .second, .unset, .unset, .unset, .unset, .unset, .unset, .unset, .unset, .unset, .unset] [(.int (33 : Int32)), (.ref b1), (.ref b1)])) rfl (hb hby at_233)
  obtain ⟨T103, h103, lo103, X103, e103, O103, N103, K103, Vn103, st103⟩ := own_stR X102 hx hZ e102 O100 N100 K100 V100 Ov1 g_b1 (E_w_PIC.ext O100.2) (j := (33 : Int32)) (by decide) 33 rfl (Nat.le_of_ble_eq_true rfl) (g := (mkF m 236 #[.val (.int p1), .val (.int p2), .val (.long q1), .second, .unset, .unset, .unset, .unset, .unset, .unset, .unset, .unset, .unset, .unset] [(.ref w_PIC), (.int (33 : Int32)), (.ref b1), (.ref b1)])) rfl rfl (hb hby at_236)
  have V103 : Arv Z h103 b1 k1 (.object "com/example/riposte/riposte/packet/HeaderField") (45 : Int32) [(.ref w_CLIENT), (.ref w_VERSION), (.ref w_DOMAIN), (.ref w_HCO), (.ref w_EPG), (.ref w_MPG), (.ref w_LENGTH), (.ref w_CONTROL), (.ref w_NRS), (.ref w_APG), (.ref w_NSR), (.ref w_NER), (.ref w_NRT), (.ref w_MDG), (.ref w_CMG), (.ref w_STI), (.ref w_DRT), (.ref w_RETRANSMIT_COUNT), (.ref w_FORWARD_COUNT), (.ref w_INTER_PACKET_GAP), (.ref w_PG_COUNT), (.ref w_PRIORITY), (.ref w_FUNCTION_CODE), (.ref w_TRANSACTION), (.ref w_PACKET_DELIVERY), (.ref w_SERVER), (.ref w_FLAGS_AND_CODE), (.ref w_CMD), (.ref w_DGM), (.ref w_MDM), (.ref w_SDA), (.ref w_CRE), (.ref w_MRD), (.ref w_PIC), .null, .null, .null, .null, .null, .null, .null, .null, .null, .null, .null] .null := Vn103
  have pre104 : ∀ t, Steps p.tables e below (T103.setTop (mkF m 237 #[.val (.int p1), .val (.int p2), .val (.long q1), .second, .unset, .unset, .unset, .unset, .unset, .unset, .unset, .unset, .unset, .unset] [(.ref b1)])) t → Steps p.tables e below (s₁.setTop (entryFrame m #[(.int p1), (.int p2), (.long q1)] maxLocals)) t := by
    intro t kt
    refine pre101 _ ?_
    show Steps p.tables e below (T100.setTop (mkF m 230 #[.val (.int p1), .val (.int p2), .val (.long q1), .second, .unset, .unset, .unset, .unset, .unset, .unset, .unset, .unset, .unset, .unset] [(.ref b1)])) _
    refine XS.dup X100.here hx rfl (hb hby at_230) rfl rfl ?_
    show Steps p.tables e below (T100.setTop (mkF m 231 #[.val (.int p1), .val (.int p2), .val (.long q1), .second, .unset, .unset, .unset, .unset, .unset, .unset, .unset, .unset, .unset, .unset] [(.ref b1), (.ref b1)])) _
    refine XS.bipush X100.here hx rfl (hb hby at_231) ?_
    show Steps p.tables e below (T100.setTop (mkF m 233 #[.val (.int p1), .val (.int p2), .val (.long q1), .second, .unset, .unset, .unset, .unset, .unset, .unset, .unset, .unset, .unset, .unset] [(.int (33 : Int32)), (.ref b1), (.ref b1)])) _
    refine st102 _ ?_
    show Steps p.tables e below (T102.setTop (mkF m 236 #[.val (.int p1), .val (.int p2), .val (.long q1), .second, .unset, .unset, .unset, .unset, .unset, .unset, .unset, .unset, .unset, .unset] [(.ref w_PIC), (.int (33 : Int32)), (.ref b1), (.ref b1)])) _
    refine st103 _ ?_
    exact kt
  clear pre101 st103 Vn103 X102 e102 V100 K100 O100 N100
  obtain ⟨T105, X105, e105, st105⟩ := getS2 X103 hx hZ hown (host := "") (Or.inl (hw _ (List.mem_of_getElem? (i := 72) rfl))) Via.refl e103 (S_w_CODE.ext O103.2) (g := (mkF m 240 #[.val (.int p1), .val (.int p2), .val (.long q1), .second, .unset, .unset, .unset, .unset, .unset, .unset, .unset, .unset, .unset, .unset] [(.int (34 : Int32)), (.ref b1), (.ref b1)])) rfl (hb hby at_240)
  obtain ⟨T106, h106, lo106, X106, e106, O106, N106, K106, Vn106, st106⟩ := own_stR X105 hx hZ e105 O103 N103 K103 V103 Ov1 g_b1 (E_w_CODE.ext O103.2) (j := (34 : Int32)) (by decide) 34 rfl (Nat.le_of_ble_eq_true rfl) (g := (mkF m 243 #[.val (.int p1), .val (.int p2), .val (.long q1), .second, .unset, .unset, .unset, .unset, .unset, .unset, .unset, .unset, .unset, .unset] [(.ref w_CODE), (.int (34 : Int32)), (.ref b1), (.ref b1)])) rfl rfl (hb hby at_243)
  have V106 : Arv Z h106 b1 k1 (.object "com/example/riposte/riposte/packet/HeaderField") (45 : Int32) [(.ref w_CLIENT), (.ref w_VERSION), (.ref w_DOMAIN), (.ref w_HCO), (.ref w_EPG), (.ref w_MPG), (.ref w_LENGTH), (.ref w_CONTROL), (.ref w_NRS), (.ref w_APG), (.ref w_NSR), (.ref w_NER), (.ref w_NRT), (.ref w_MDG), (.ref w_CMG), (.ref w_STI), (.ref w_DRT), (.ref w_RETRANSMIT_COUNT), (.ref w_FORWARD_COUNT), (.ref w_INTER_PACKET_GAP), (.ref w_PG_COUNT), (.ref w_PRIORITY), (.ref w_FUNCTION_CODE), (.ref w_TRANSACTION), (.ref w_PACKET_DELIVERY), (.ref w_SERVER), (.ref w_FLAGS_AND_CODE), (.ref w_CMD), (.ref w_DGM), (.ref w_MDM), (.ref w_SDA), (.ref w_CRE), (.ref w_MRD), (.ref w_PIC), (.ref w_CODE), .null, .null, .null, .null, .null, .null, .null, .null, .null, .null] .null := Vn106
  have pre107 : ∀ t, Steps p.tables e below (T106.setTop (mkF m 244 #[.val (.int p1), .val (.int p2), .val (.long q1), .second, .unset, .unset, .unset, .unset, .unset, .unset, .unset, .unset, .unset, .unset] [(.ref b1)])) t → Steps p.tables e below (s₁.setTop (entryFrame m #[(.int p1), (.int p2), (.long q1)] maxLocals)) t := by
    intro t kt
    refine pre104 _ ?_
    show Steps p.tables e below (T103.setTop (mkF m 237 #[.val (.int p1), .val (.int p2), .val (.long q1), .second, .unset, .unset, .unset, .unset, .unset, .unset, .unset, .unset, .unset, .unset] [(.ref b1)])) _
    refine XS.dup X103.here hx rfl (hb hby at_237) rfl rfl ?_
    show Steps p.tables e below (T103.setTop (mkF m 238 #[.val (.int p1), .val (.int p2), .val (.long q1), .second, .unset, .unset, .unset, .unset, .unset, .unset, .unset, .unset, .unset, .unset] [(.ref b1), (.ref b1)])) _
    refine XS.bipush X103.here hx rfl (hb hby at_238) ?_
    show Steps p.tables e below (T103.setTop (mkF m 240 #[.val (.int p1), .val (.int p2), .val (.long q1), .second, .unset, .unset, .unset, .unset, .unset, .unset, .unset, .unset, .unset, .unset] [(.int (34 : Int32)), (.ref b1), (.ref b1)])) _
    refine st105 _ ?_
    show Steps p.tables e below (T105.setTop (mkF m 243 #[.val (.int p1), .val (.int p2), .val (.long q1), .second, .unset, .unset, .unset, .unset, .unset, .unset, .unset, .unset, .unset, .unset] [(.ref w_CODE), (.int (34 : Int32)), (.ref b1), (.ref b1)])) _
    refine st106 _ ?_
    exact kt
  clear pre104 st106 Vn106 X105 e105 V103 K103 O103 N103
  obtain ⟨T108, X108, e108, st108⟩ := getS2 X106 hx hZ hown (host := "") (Or.inl (hw _ (List.mem_of_getElem? (i := 74) rfl))) Via.refl e106 (S_w_CO_RESIDENT_ENTITY.ext O106.2) (g := (mkF m 247 #[.val (.int p1), .val (.int p2), .val (.long q1), .second, .unset, .unset, .unset, .unset, .unset, .unset, .unset, .unset, .unset, .unset] [(.int (35 : Int32)), (.ref b1), (.ref b1)])) rfl (hb hby at_247)
  obtain ⟨T109, h109, lo109, X109, e109, O109, N109, K109, Vn109, st109⟩ := own_stR X108 hx hZ e108 O106 N106 K106 V106 Ov1 g_b1 (E_w_CO_RESIDENT_ENTITY.ext O106.2) (j := (35 : Int32)) (by decide) 35 rfl (Nat.le_of_ble_eq_true rfl) (g := (mkF m 250 #[.val (.int p1), .val (.int p2), .val (.long q1), .second, .unset, .unset, .unset, .unset, .unset, .unset, .unset, .unset, .unset, .unset] [(.ref w_CO_RESIDENT_ENTITY), (.int (35 : Int32)), (.ref b1), (.ref b1)])) rfl rfl (hb hby at_250)
  have V109 : Arv Z h109 b1 k1 (.object "com/example/riposte/riposte/packet/HeaderField") (45 : Int32) [(.ref w_CLIENT), (.ref w_VERSION), (.ref w_DOMAIN), (.ref w_HCO), (.ref w_EPG), (.ref w_MPG), (.ref w_LENGTH), (.ref w_CONTROL), (.ref w_NRS), (.ref w_APG), (.ref w_NSR), (.ref w_NER), (.ref w_NRT), (.ref w_MDG), (.ref w_CMG), (.ref w_STI), (.ref w_DRT), (.ref w_RETRANSMIT_COUNT), (.ref w_FORWARD_COUNT), (.ref w_INTER_PACKET_GAP), (.ref w_PG_COUNT), (.ref w_PRIORITY), (.ref w_FUNCTION_CODE), (.ref w_TRANSACTION), (.ref w_PACKET_DELIVERY), (.ref w_SERVER), (.ref w_FLAGS_AND_CODE), (.ref w_CMD), (.ref w_DGM), (.ref w_MDM), (.ref w_SDA), (.ref w_CRE), (.ref w_MRD), (.ref w_PIC), (.ref w_CODE), (.ref w_CO_RESIDENT_ENTITY), .null, .null, .null, .null, .null, .null, .null, .null, .null] .null := Vn109
  have pre110 : ∀ t, Steps p.tables e below (T109.setTop (mkF m 251 #[.val (.int p1), .val (.int p2), .val (.long q1), .second, .unset, .unset, .unset, .unset, .unset, .unset, .unset, .unset, .unset, .unset] [(.ref b1)])) t → Steps p.tables e below (s₁.setTop (entryFrame m #[(.int p1), (.int p2), (.long q1)] maxLocals)) t := by
    intro t kt
    refine pre107 _ ?_
    show Steps p.tables e below (T106.setTop (mkF m 244 #[.val (.int p1), .val (.int p2), .val (.long q1), .second, .unset, .unset, .unset, .unset, .unset, .unset, .unset, .unset, .unset, .unset] [(.ref b1)])) _
    refine XS.dup X106.here hx rfl (hb hby at_244) rfl rfl ?_
    show Steps p.tables e below (T106.setTop (mkF m 245 #[.val (.int p1), .val (.int p2), .val (.long q1), .second, .unset, .unset, .unset, .unset, .unset, .unset, .unset, .unset, .unset, .unset] [(.ref b1), (.ref b1)])) _
    refine XS.bipush X106.here hx rfl (hb hby at_245) ?_
    show Steps p.tables e below (T106.setTop (mkF m 247 #[.val (.int p1), .val (.int p2), .val (.long q1), .second, .unset, .unset, .unset, .unset, .unset, .unset, .unset, .unset, .unset, .unset] [(.int (35 : Int32)), (.ref b1), (.ref b1)])) _
    refine st108 _ ?_
    show Steps p.tables e below (T108.setTop (mkF m 250 #[.val (.int p1), .val (.int p2), .val (.long q1), .second, .unset, .unset, .unset, .unset, .unset, .unset, .unset, .unset, .unset, .unset] [(.ref w_CO_RESIDENT_ENTITY), (.int (35 : Int32)), (.ref b1), (.ref b1)])) _
    refine st109 _ ?_
    exact kt
  clear pre107 st109 Vn109 X108 e108 V106 K106 O106 N106
  obtain ⟨T111, X111, e111, st111⟩ := getS2 X109 hx hZ hown (host := "") (Or.inl (hw _ (List.mem_of_getElem? (i := 76) rfl))) Via.refl e109 (S_w_USER_DATA.ext O109.2) (g := (mkF m 254 #[.val (.int p1), .val (.int p2), .val (.long q1), .second, .unset, .unset, .unset, .unset, .unset, .unset, .unset, .unset, .unset, .unset] [(.int (36 : Int32)), (.ref b1), (.ref b1)])) rfl (hb hby at_254)
  obtain ⟨T112, h112, lo112, X112, e112, O112, N112, K112, Vn112, st112⟩ := own_stR X111 hx hZ e111 O109 N109 K109 V109 Ov1 g_b1 (E_w_USER_DATA.ext O109.2) (j := (36 : Int32)) (by decide) 36 rfl (Nat.le_of_ble_eq_true rfl) (g := (mkF m 257 #[.val (.int p1), .val (.int p2), .val (.long q1), .second, .unset, .unset, .unset, .unset, .unset, .unset, .unset, .unset, .unset, .unset] [(.ref w_USER_DATA), (.int (36 : Int32)), (.ref b1), (.ref b1)])) rfl rfl (hb hby at_257)
  have V112 : Arv Z h112 b1 k1 (.object "com/example/riposte/riposte/packet/HeaderField") (45 : Int32) [(.ref w_CLIENT), (.ref w_VERSION), (.ref w_DOMAIN), (.ref w_HCO), (.ref w_EPG), (.ref w_MPG), (.ref w_LENGTH), (.ref w_CONTROL), (.ref w_NRS), (.ref w_APG), (.ref w_NSR), (.ref w_NER), (.ref w_NRT), (.ref w_MDG), (.ref w_CMG), (.ref w_STI), (.ref w_DRT), (.ref w_RETRANSMIT_COUNT), (.ref w_FORWARD_COUNT), (.ref w_INTER_PACKET_GAP), (.ref w_PG_COUNT), (.ref w_PRIORITY), (.ref w_FUNCTION_CODE), (.ref w_TRANSACTION), (.ref w_PACKET_DELIVERY), (.ref w_SERVER), (.ref w_FLAGS_AND_CODE), (.ref w_CMD), (.ref w_DGM), (.ref w_MDM), (.ref w_SDA), (.ref w_CRE), (.ref w_MRD), (.ref w_PIC), (.ref w_CODE), (.ref w_CO_RESIDENT_ENTITY), (.ref w_USER_DATA), .null, .null, .null, .null, .null, .null, .null, .null] .null := Vn112
  have pre113 : ∀ t, Steps p.tables e below (T112.setTop (mkF m 258 #[.val (.int p1), .val (.int p2), .val (.long q1), .second, .unset, .unset, .unset, .unset, .unset, .unset, .unset, .unset, .unset, .unset] [(.ref b1)])) t → Steps p.tables e below (s₁.setTop (entryFrame m #[(.int p1), (.int p2), (.long q1)] maxLocals)) t := by
    intro t kt
    refine pre110 _ ?_
    show Steps p.tables e below (T109.setTop (mkF m 251 #[.val (.int p1), .val (.int p2), .val (.long q1), .second, .unset, .unset, .unset, .unset, .unset, .unset, .unset, .unset, .unset, .unset] [(.ref b1)])) _
    refine XS.dup X109.here hx rfl (hb hby at_251) rfl rfl ?_
    show Steps p.tables e below (T109.setTop (mkF m 252 #[.val (.int p1), .val (.int p2), .val (.long q1), .second, .unset, .unset, .unset, .unset, .unset, .unset, .unset, .unset, .unset, .unset] [(.ref b1), (.ref b1)])) _
    refine XS.bipush X109.here hx rfl (hb hby at_252) ?_
    show Steps p.tables e below (T109.setTop (mkF m 254 #[.val (.int p1), .val (.int p2), .val (.long q1), .second, .unset, .unset, .unset, .unset, .unset, .unset, .unset, .unset, .unset, .unset] [(.int (36 : Int32)), (.ref b1), (.ref b1)])) _
    refine st111 _ ?_
    show Steps p.tables e below (T111.setTop (mkF m 257 #[.val (.int p1), .val (.int p2), .val (.long q1), .second, .unset, .unset, .unset, .unset, .unset, .unset, .unset, .unset, .unset, .unset] [(.ref w_USER_DATA), (.int (36 : Int32)), (.ref b1), (.ref b1)])) _
    refine st112 _ ?_
    exact kt
  clear pre110 st112 Vn112 X111 e111 V109 K109 O109 N109
  obtain ⟨T114, X114, e114, st114⟩ := getS2 X112 hx hZ hown (host := "") (Or.inl (hw _ (List.mem_of_getElem? (i := 78) rfl))) Via.refl e112 (S_w_MSG_DELIVERY.ext O112.2) (g := (mkF m 261 #[.val (.int p1), .val (.int p2), .val (.long q1), .second, .unset, .unset, .unset, .unset, .unset, .unset, .unset, .unset, .unset, .unset] [(.int (37 : Int32)), (.ref b1), (.ref b1)])) rfl (hb hby at_261)
  obtain ⟨T115, h115, lo115, X115, e115, O115, N115, K115, Vn115, st115⟩ := own_stR X114 hx hZ e114 O112 N112 K112 V112 Ov1 g_b1 (E_w_MSG_DELIVERY.ext O112.2) (j := (37 : Int32)) (by decide) 37 rfl (Nat.le_of_ble_eq_true rfl) (g := (mkF m 264 #[.val (.int p1), .val (.int p2), .val (.long q1), .second, .unset, .unset, .unset, .unset, .unset, .unset, .unset, .unset, .unset, .unset] [(.ref w_MSG_DELIVERY), (.int (37 : Int32)), (.ref b1), (.ref b1)])) rfl rfl (hb hby at_264)
  have V115 : Arv Z h115 b1 k1 (.object "com/example/riposte/riposte/packet/HeaderField") (45 : Int32) [(.ref w_CLIENT), (.ref w_VERSION), (.ref w_DOMAIN), (.ref w_HCO), (.ref w_EPG), (.ref w_MPG), (.ref w_LENGTH), (.ref w_CONTROL), (.ref w_NRS), (.ref w_APG), (.ref w_NSR), (.ref w_NER), (.ref w_NRT), (.ref w_MDG), (.ref w_CMG), (.ref w_STI), (.ref w_DRT), (.ref w_RETRANSMIT_COUNT), (.ref w_FORWARD_COUNT), (.ref w_INTER_PACKET_GAP), (.ref w_PG_COUNT), (.ref w_PRIORITY), (.ref w_FUNCTION_CODE), (.ref w_TRANSACTION), (.ref w_PACKET_DELIVERY), (.ref w_SERVER), (.ref w_FLAGS_AND_CODE), (.ref w_CMD), (.ref w_DGM), (.ref w_MDM), (.ref w_SDA), (.ref w_CRE), (.ref w_MRD), (.ref w_PIC), (.ref w_CODE), (.ref w_CO_RESIDENT_ENTITY), (.ref w_USER_DATA), (.ref w_MSG_DELIVERY), .null, .null, .null, .null, .null, .null, .null] .null := Vn115
  have pre116 : ∀ t, Steps p.tables e below (T115.setTop (mkF m 265 #[.val (.int p1), .val (.int p2), .val (.long q1), .second, .unset, .unset, .unset, .unset, .unset, .unset, .unset, .unset, .unset, .unset] [(.ref b1)])) t → Steps p.tables e below (s₁.setTop (entryFrame m #[(.int p1), (.int p2), (.long q1)] maxLocals)) t := by
    intro t kt
    refine pre113 _ ?_
    show Steps p.tables e below (T112.setTop (mkF m 258 #[.val (.int p1), .val (.int p2), .val (.long q1), .second, .unset, .unset, .unset, .unset, .unset, .unset, .unset, .unset, .unset, .unset] [(.ref b1)])) _
    refine XS.dup X112.here hx rfl (hb hby at_258) rfl rfl ?_
    show Steps p.tables e below (T112.setTop (mkF m 259 #[.val (.int p1), .val (.int p2), .val (.long q1), .second, .unset, .unset, .unset, .unset, .unset, .unset, .unset, .unset, .unset, .unset] [(.ref b1), (.ref b1)])) _
    refine XS.bipush X112.here hx rfl (hb hby at_259) ?_
    show Steps p.tables e below (T112.setTop (mkF m 261 #[.val (.int p1), .val (.int p2), .val (.long q1), .second, .unset, .unset, .unset, .unset, .unset, .unset, .unset, .unset, .unset, .unset] [(.int (37 : Int32)), (.ref b1), (.ref b1)])) _
    refine st114 _ ?_
    show Steps p.tables e below (T114.setTop (mkF m 264 #[.val (.int p1), .val (.int p2), .val (.long q1), .second, .unset, .unset, .unset, .unset, .unset, .unset, .unset, .unset, .unset, .unset] [(.ref w_MSG_DELIVERY), (.int (37 : Int32)), (.ref b1), (.ref b1)])) _
    refine st115 _ ?_
    exact kt
  clear pre113 st115 Vn115 X114 e114 V112 K112 O112 N112
  obtain ⟨T117, X117, e117, st117⟩ := getS2 X115 hx hZ hown (host := "") (Or.inl (hw _ (List.mem_of_getElem? (i := 80) rfl))) Via.refl e115 (S_w_SEGMENT_SIZE.ext O115.2) (g := (mkF m 268 #[.val (.int p1), .val (.int p2), .val (.long q1), .second, .unset, .unset, .unset, .unset, .unset, .unset, .unset, .unset, .unset, .unset] [(.int (38 : Int32)), (.ref b1), (.ref b1)])) rfl (hb hby at_268)
  obtain ⟨T118, h118, lo118, X118, e118, O118, N118, K118, Vn118, st118⟩ := own_stR X117 hx hZ e117 O115 N115 K115 V115 Ov1 g_b1 (E_w_SEGMENT_SIZE.ext O115.2) (j := (38 : Int32)) (by decide) 38 rfl (Nat.le_of_ble_eq_true rfl) (g := (mkF m 271 #[.val (.int p1), .val (.int p2), .val (.long q1), .second, .unset, .unset, .unset, .unset, .unset, .unset, .unset, .unset, .unset, .unset] [(.ref w_SEGMENT_SIZE), (.int (38 : Int32)), (.ref b1), (.ref b1)])) rfl rfl (hb hby at_271)
  have V118 : Arv Z h118 b1 k1 (.object "com/example/riposte/riposte/packet/HeaderField") (45 : Int32) [(.ref w_CLIENT), (.ref w_VERSION), (.ref w_DOMAIN), (.ref w_HCO), (.ref w_EPG), (.ref w_MPG), (.ref w_LENGTH), (.ref w_CONTROL), (.ref w_NRS), (.ref w_APG), (.ref w_NSR), (.ref w_NER), (.ref w_NRT), (.ref w_MDG), (.ref w_CMG), (.ref w_STI), (.ref w_DRT), (.ref w_RETRANSMIT_COUNT), (.ref w_FORWARD_COUNT), (.ref w_INTER_PACKET_GAP), (.ref w_PG_COUNT), (.ref w_PRIORITY), (.ref w_FUNCTION_CODE), (.ref w_TRANSACTION), (.ref w_PACKET_DELIVERY), (.ref w_SERVER), (.ref w_FLAGS_AND_CODE), (.ref w_CMD), (.ref w_DGM), (.ref w_MDM), (.ref w_SDA), (.ref w_CRE), (.ref w_MRD), (.ref w_PIC), (.ref w_CODE), (.ref w_CO_RESIDENT_ENTITY), (.ref w_USER_DATA), (.ref w_MSG_DELIVERY), (.ref w_SEGMENT_SIZE), .null, .null, .null, .null, .null, .null] .null := Vn118
  have pre119 : ∀ t, Steps p.tables e below (T118.setTop (mkF m 272 #[.val (.int p1), .val (.int p2), .val (.long q1), .second, .unset, .unset, .unset, .unset, .unset, .unset, .unset, .unset, .unset, .unset] [(.ref b1)])) t → Steps p.tables e below (s₁.setTop (entryFrame m #[(.int p1), (.int p2), (.long q1)] maxLocals)) t := by
    intro t kt
    refine pre116 _ ?_
    show Steps p.tables e below (T115.setTop (mkF m 265 #[.val (.int p1), .val (.int p2), .val (.long q1), .second, .unset, .unset, .unset, .unset, .unset, .unset, .unset, .unset, .unset, .unset] [(.ref b1)])) _
    refine XS.dup X115.here hx rfl (hb hby at_265) rfl rfl ?_
    show Steps p.tables e below (T115.setTop (mkF m 266 #[.val (.int p1), .val (.int p2), .val (.long q1), .second, .unset, .unset, .unset, .unset, .unset, .unset, .unset, .unset, .unset, .unset] [(.ref b1), (.ref b1)])) _
    refine XS.bipush X115.here hx rfl (hb hby at_266) ?_
    show Steps p.tables e below (T115.setTop (mkF m 268 #[.val (.int p1), .val (.int p2), .val (.long q1), .second, .unset, .unset, .unset, .unset, .unset, .unset, .unset, .unset, .unset, .unset] [(.int (38 : Int32)), (.ref b1), (.ref b1)])) _
    refine st117 _ ?_
    show Steps p.tables e below (T117.setTop (mkF m 271 #[.val (.int p1), .val (.int p2), .val (.long q1), .second, .unset, .unset, .unset, .unset, .unset, .unset, .unset, .unset, .unset, .unset] [(.ref w_SEGMENT_SIZE), (.int (38 : Int32)), (.ref b1), (.ref b1)])) _
    refine st118 _ ?_
    exact kt
  clear pre116 st118 Vn118 X117 e117 V115 K115 O115 N115
  obtain ⟨T120, X120, e120, st120⟩ := getS2 X118 hx hZ hown (host := "") (Or.inl (hw _ (List.mem_of_getElem? (i := 82) rfl))) Via.refl e118 (S_w_NOTIFY_CONTROL.ext O118.2) (g := (mkF m 275 #[.val (.int p1), .val (.int p2), .val (.long q1), .second, .unset, .unset, .unset, .unset, .unset, .unset, .unset, .unset, .unset, .unset] [(.int (39 : Int32)), (.ref b1), (.ref b1)])) rfl (hb hby at_275)
  obtain ⟨T121, h121, lo121, X121, e121, O121, N121, K121, Vn121, st121⟩ := own_stR X120 hx hZ e120 O118 N118 K118 V118 Ov1 g_b1 (E_w_NOTIFY_CONTROL.ext O118.2) (j := (39 : Int32)) (by decide) 39 rfl (Nat.le_of_ble_eq_true rfl) (g := (mkF m 278 #[.val (.int p1), .val (.int p2), .val (.long q1), .second, .unset, .unset, .unset, .unset, .unset, .unset, .unset, .unset, .unset, .unset] [(.ref w_NOTIFY_CONTROL), (.int (39 : Int32)), (.ref b1), (.ref b1)])) rfl rfl (hb hby at_278)
  have V121 : Arv Z h121 b1 k1 (.object "com/example/riposte/riposte/packet/HeaderField") (45 : Int32) [(.ref w_CLIENT), (.ref w_VERSION), (.ref w_DOMAIN), (.ref w_HCO), (.ref w_EPG), (.ref w_MPG), (.ref w_LENGTH), (.ref w_CONTROL), (.ref w_NRS), (.ref w_APG), (.ref w_NSR), (.ref w_NER), (.ref w_NRT), (.ref w_MDG), (.ref w_CMG), (.ref w_STI), (.ref w_DRT), (.ref w_RETRANSMIT_COUNT), (.ref w_FORWARD_COUNT), (.ref w_INTER_PACKET_GAP), (.ref w_PG_COUNT), (.ref w_PRIORITY), (.ref w_FUNCTION_CODE), (.ref w_TRANSACTION), (.ref w_PACKET_DELIVERY), (.ref w_SERVER), (.ref w_FLAGS_AND_CODE), (.ref w_CMD), (.ref w_DGM), (.ref w_MDM), (.ref w_SDA), (.ref w_CRE), (.ref w_MRD), (.ref w_PIC), (.ref w_CODE), (.ref w_CO_RESIDENT_ENTITY), (.ref w_USER_DATA), (.ref w_MSG_DELIVERY), (.ref w_SEGMENT_SIZE), (.ref w_NOTIFY_CONTROL), .null, .null, .null, .null, .null] .null := Vn121
  have pre122 : ∀ t, Steps p.tables e below (T121.setTop (mkF m 279 #[.val (.int p1), .val (.int p2), .val (.long q1), .second, .unset, .unset, .unset, .unset, .unset, .unset, .unset, .unset, .unset, .unset] [(.ref b1)])) t → Steps p.tables e below (s₁.setTop (entryFrame m #[(.int p1), (.int p2), (.long q1)] maxLocals)) t := by
    intro t kt
    refine pre119 _ ?_
    show Steps p.tables e below (T118.setTop (mkF m 272 #[.val (.int p1), .val (.int p2), .val (.long q1), .second, .unset, .unset, .unset, .unset, .unset, .unset, .unset, .unset, .unset, .unset] [(.ref b1)])) _
    refine XS.dup X118.here hx rfl (hb hby at_272) rfl rfl ?_
    show Steps p.tables e below (T118.setTop (mkF m 273 #[.val (.int p1), .val (.int p2), .val (.long q1), .second, .unset, .unset, .unset, .unset, .unset, .unset, .unset, .unset, .unset, .unset] [(.ref b1), (.ref b1)])) _
    refine XS.bipush X118.here hx rfl (hb hby at_273) ?_
    show Steps p.tables e below (T118.setTop (mkF m 275 #[.val (.int p1), .val (.int p2), .val (.long q1), .second, .unset, .unset, .unset, .unset, .unset, .unset, .unset, .unset, .unset, .unset] [(.int (39 : Int32)), (.ref b1), (.ref b1)])) _
    refine st120 _ ?_
    show Steps p.tables e below (T120.setTop (mkF m 278 #[.val (.int p1), .val (.int p2), .val (.long q1), .second, .unset, .unset, .unset, .unset, .unset, .unset, .unset, .unset, .unset, .unset] [(.ref w_NOTIFY_CONTROL), (.int (39 : Int32)), (.ref b1), (.ref b1)])) _
    refine st121 _ ?_
    exact kt
  clear pre119 st121 Vn121 X120 e120 V118 K118 O118 N118
  obtain ⟨T123, X123, e123, st123⟩ := getS2 X121 hx hZ hown (host := "") (Or.inl (hw _ (List.mem_of_getElem? (i := 84) rfl))) Via.refl e121 (S_w_NOTIFY_RECEIVE_SEQUENCE.ext O121.2) (g := (mkF m 282 #[.val (.int p1), .val (.int p2), .val (.long q1), .second, .unset, .unset, .unset, .unset, .unset, .unset, .unset, .unset, .unset, .unset] [(.int (40 : Int32)), (.ref b1), (.ref b1)])) rfl (hb hby at_282)
  obtain ⟨T124, h124, lo124, X124, e124, O124, N124, K124, Vn124, st124⟩ := own_stR X123 hx hZ e123 O121 N121 K121 V121 Ov1 g_b1 (E_w_NOTIFY_RECEIVE_SEQUENCE.ext O121.2) (j := (40 : Int32)) (by decide) 40 rfl (Nat.le_of_ble_eq_true rfl) (g := (mkF m 285 #[.val (.int p1), .val (.int p2), .val (.long q1), .second, .unset, .unset, .unset, .unset, .unset, .unset, .unset, .unset, .unset, .unset] [(.ref w_NOTIFY_RECEIVE_SEQUENCE), (.int (40 : Int32)), (.ref b1), (.ref b1)])) rfl rfl (hb hby at_285)
  have V124 : Arv Z h124 b1 k1 (.object "com/example/riposte/riposte/packet/HeaderField") (45 : Int32) [(.ref w_CLIENT), (.ref w_VERSION), (.ref w_DOMAIN), (.ref w_HCO), (.ref w_EPG), (.ref w_MPG), (.ref w_LENGTH), (.ref w_CONTROL), (.ref w_NRS), (.ref w_APG), (.ref w_NSR), (.ref w_NER), (.ref w_NRT), (.ref w_MDG), (.ref w_CMG), (.ref w_STI), (.ref w_DRT), (.ref w_RETRANSMIT_COUNT), (.ref w_FORWARD_COUNT), (.ref w_INTER_PACKET_GAP), (.ref w_PG_COUNT), (.ref w_PRIORITY), (.ref w_FUNCTION_CODE), (.ref w_TRANSACTION), (.ref w_PACKET_DELIVERY), (.ref w_SERVER), (.ref w_FLAGS_AND_CODE), (.ref w_CMD), (.ref w_DGM), (.ref w_MDM), (.ref w_SDA), (.ref w_CRE), (.ref w_MRD), (.ref w_PIC), (.ref w_CODE), (.ref w_CO_RESIDENT_ENTITY), (.ref w_USER_DATA), (.ref w_MSG_DELIVERY), (.ref w_SEGMENT_SIZE), (.ref w_NOTIFY_CONTROL), (.ref w_NOTIFY_RECEIVE_SEQUENCE), .null, .null, .null, .null] .null := Vn124
  have pre125 : ∀ t, Steps p.tables e below (T124.setTop (mkF m 286 #[.val (.int p1), .val (.int p2), .val (.long q1), .second, .unset, .unset, .unset, .unset, .unset, .unset, .unset, .unset, .unset, .unset] [(.ref b1)])) t → Steps p.tables e below (s₁.setTop (entryFrame m #[(.int p1), (.int p2), (.long q1)] maxLocals)) t := by
    intro t kt
    refine pre122 _ ?_
    show Steps p.tables e below (T121.setTop (mkF m 279 #[.val (.int p1), .val (.int p2), .val (.long q1), .second, .unset, .unset, .unset, .unset, .unset, .unset, .unset, .unset, .unset, .unset] [(.ref b1)])) _
    refine XS.dup X121.here hx rfl (hb hby at_279) rfl rfl ?_
    show Steps p.tables e below (T121.setTop (mkF m 280 #[.val (.int p1), .val (.int p2), .val (.long q1), .second, .unset, .unset, .unset, .unset, .unset, .unset, .unset, .unset, .unset, .unset] [(.ref b1), (.ref b1)])) _
    refine XS.bipush X121.here hx rfl (hb hby at_280) ?_
    show Steps p.tables e below (T121.setTop (mkF m 282 #[.val (.int p1), .val (.int p2), .val (.long q1), .second, .unset, .unset, .unset, .unset, .unset, .unset, .unset, .unset, .unset, .unset] [(.int (40 : Int32)), (.ref b1), (.ref b1)])) _
    refine st123 _ ?_
    show Steps p.tables e below (T123.setTop (mkF m 285 #[.val (.int p1), .val (.int p2), .val (.long q1), .second, .unset, .unset, .unset, .unset, .unset, .unset, .unset, .unset, .unset, .unset] [(.ref w_NOTIFY_RECEIVE_SEQUENCE), (.int (40 : Int32)), (.ref b1), (.ref b1)])) _
    refine st124 _ ?_
    exact kt
  clear pre122 st124 Vn124 X123 e123 V121 K121 O121 N121
  obtain ⟨T126, X126, e126, st126⟩ := getS2 X124 hx hZ hown (host := "") (Or.inl (hw _ (List.mem_of_getElem? (i := 86) rfl))) Via.refl e124 (S_w_NOTIFY_CLIENT.ext O124.2) (g := (mkF m 289 #[.val (.int p1), .val (.int p2), .val (.long q1), .second, .unset, .unset, .unset, .unset, .unset, .unset, .unset, .unset, .unset, .unset] [(.int (41 : Int32)), (.ref b1), (.ref b1)])) rfl (hb hby at_289)
  obtain ⟨T127, h127, lo127, X127, e127, O127, N127, K127, Vn127, st127⟩ := own_stR X126 hx hZ e126 O124 N124 K124 V124 Ov1 g_b1 (E_w_NOTIFY_CLIENT.ext O124.2) (j := (41 : Int32)) (by decide) 41 rfl (Nat.le_of_ble_eq_true rfl) (g := (mkF m 292 #[.val (.int p1), .val (.int p2), .val (.long q1), .second, .unset, .unset, .unset, .unset, .unset, .unset, .unset, .unset, .unset, .unset] [(.ref w_NOTIFY_CLIENT), (.int (41 : Int32)), (.ref b1), (.ref b1)])) rfl rfl (hb hby at_292)
  have V127 : Arv Z h127 b1 k1 (.object "com/example/riposte/riposte/packet/HeaderField") (45 : Int32) [(.ref w_CLIENT), (.ref w_VERSION), (.ref w_DOMAIN), (.ref w_HCO), (.ref w_EPG), (.ref w_MPG), (.ref w_LENGTH), (.ref w_CONTROL), (.ref w_NRS), (.ref w_APG), (.ref w_NSR), (.ref w_NER), (.ref w_NRT), (.ref w_MDG), (.ref w_CMG), (.ref w_STI), (.ref w_DRT), (.ref w_RETRANSMIT_COUNT), (.ref w_FORWARD_COUNT), (.ref w_INTER_PACKET_GAP), (.ref w_PG_COUNT), (.ref w_PRIORITY), (.ref w_FUNCTION_CODE), (.ref w_TRANSACTION), (.ref w_PACKET_DELIVERY), (.ref w_SERVER), (.ref w_FLAGS_AND_CODE), (.ref w_CMD), (.ref w_DGM), (.ref w_MDM), (.ref w_SDA), (.ref w_CRE), (.ref w_MRD), (.ref w_PIC), (.ref w_CODE), (.ref w_CO_RESIDENT_ENTITY), (.ref w_USER_DATA), (.ref w_MSG_DELIVERY), (.ref w_SEGMENT_SIZE), (.ref w_NOTIFY_CONTROL), (.ref w_NOTIFY_RECEIVE_SEQUENCE), (.ref w_NOTIFY_CLIENT), .null, .null, .null] .null := Vn127
  have pre128 : ∀ t, Steps p.tables e below (T127.setTop (mkF m 293 #[.val (.int p1), .val (.int p2), .val (.long q1), .second, .unset, .unset, .unset, .unset, .unset, .unset, .unset, .unset, .unset, .unset] [(.ref b1)])) t → Steps p.tables e below (s₁.setTop (entryFrame m #[(.int p1), (.int p2), (.long q1)] maxLocals)) t := by
    intro t kt
    refine pre125 _ ?_
    show Steps p.tables e below (T124.setTop (mkF m 286 #[.val (.int p1), .val (.int p2), .val (.long q1), .second, .unset, .unset, .unset, .unset, .unset, .unset, .unset, .unset, .unset, .unset] [(.ref b1)])) _
    refine XS.dup X124.here hx rfl (hb hby at_286) rfl rfl ?_
    show Steps p.tables e below (T124.setTop (mkF m 287 #[.val (.int p1), .val (.int p2), .val (.long q1), .second, .unset, .unset, .unset, .unset, .unset, .unset, .unset, .unset, .unset, .unset] [(.ref b1), (.ref b1)])) _
    refine XS.bipush X124.here hx rfl (hb hby at_287) ?_
    show Steps p.tables e below (T124.setTop (mkF m 289 #[.val (.int p1), .val (.int p2), .val (.long q1), .second, .unset, .unset, .unset, .unset, .unset, .unset, .unset, .unset, .unset, .unset] [(.int (41 : Int32)), (.ref b1), (.ref b1)])) _
    refine st126 _ ?_
    show Steps p.tables e below (T126.setTop (mkF m 292 #[.val (.int p1), .val (.int p2), .val (.long q1), .second, .unset, .unset, .unset, .unset, .unset, .unset, .unset, .unset, .unset, .unset] [(.ref w_NOTIFY_CLIENT), (.int (41 : Int32)), (.ref b1), (.ref b1)])) _
    refine st127 _ ?_
    exact kt
  clear pre125 st127 Vn127 X126 e126 V124 K124 O124 N124
  obtain ⟨T129, X129, e129, st129⟩ := getS2 X127 hx hZ hown (host := "") (Or.inl (hw _ (List.mem_of_getElem? (i := 88) rfl))) Via.refl e127 (S_w_NOTIFY_TRANSACTION.ext O127.2) (g := (mkF m 296 #[.val (.int p1), .val (.int p2), .val (.long q1), .second, .unset, .unset, .unset, .unset, .unset, .unset, .unset, .unset, .unset, .unset] [(.int (42 : Int32)), (.ref b1), (.ref b1)])) rfl (hb hby at_296)
  obtain ⟨T130, h130, lo130, X130, e130, O130, N130, K130, Vn130, st130⟩ := own_stR X129 hx hZ e129 O127 N127 K127 V127 Ov1 g_b1 (E_w_NOTIFY_TRANSACTION.ext O127.2) (j := (42 : Int32)) (by decide) 42 rfl (Nat.le_of_ble_eq_true rfl) (g := (mkF m 299 #[.val (.int p1), .val (.int p2), .val (.long q1), .second, .unset, .unset, .unset, .unset, .unset, .unset, .unset, .unset, .unset, .unset] [(.ref w_NOTIFY_TRANSACTION), (.int (42 : Int32)), (.ref b1), (.ref b1)])) rfl rfl (hb hby at_299)
  have V130 : Arv Z h130 b1 k1 (.object "com/example/riposte/riposte/packet/HeaderField") (45 : Int32) [(.ref w_CLIENT), (.ref w_VERSION), (.ref w_DOMAIN), (.ref w_HCO), (.ref w_EPG), (.ref w_MPG), (.ref w_LENGTH), (.ref w_CONTROL), (.ref w_NRS), (.ref w_APG), (.ref w_NSR), (.ref w_NER), (.ref w_NRT), (.ref w_MDG), (.ref w_CMG), (.ref w_STI), (.ref w_DRT), (.ref w_RETRANSMIT_COUNT), (.ref w_FORWARD_COUNT), (.ref w_INTER_PACKET_GAP), (.ref w_PG_COUNT), (.ref w_PRIORITY), (.ref w_FUNCTION_CODE), (.ref w_TRANSACTION), (.ref w_PACKET_DELIVERY), (.ref w_SERVER), (.ref w_FLAGS_AND_CODE), (.ref w_CMD), (.ref w_DGM), (.ref w_MDM), (.ref w_SDA), (.ref w_CRE), (.ref w_MRD), (.ref w_PIC), (.ref w_CODE), (.ref w_CO_RESIDENT_ENTITY), (.ref w_USER_DATA), (.ref w_MSG_DELIVERY), (.ref w_SEGMENT_SIZE), (.ref w_NOTIFY_CONTROL), (.ref w_NOTIFY_RECEIVE_SEQUENCE), (.ref w_NOTIFY_CLIENT), (.ref w_NOTIFY_TRANSACTION), .null, .null] .null := Vn130
  have pre131 : ∀ t, Steps p.tables e below (T130.setTop (mkF m 300 #[.val (.int p1), .val (.int p2), .val (.long q1), .second, .unset, .unset, .unset, .unset, .unset, .unset, .unset, .unset, .unset, .unset] [(.ref b1)])) t → Steps p.tables e below (s₁.setTop (entryFrame m #[(.int p1), (.int p2), (.long q1)] maxLocals)) t := by
    intro t kt
    refine pre128 _ ?_
    show Steps p.tables e below (T127.setTop (mkF m 293 #[.val (.int p1), .val (.int p2), .val (.long q1), .second, .unset, .unset, .unset, .unset, .unset, .unset, .unset, .unset, .unset, .unset] [(.ref b1)])) _
    refine XS.dup X127.here hx rfl (hb hby at_293) rfl rfl ?_
    show Steps p.tables e below (T127.setTop (mkF m 294 #[.val (.int p1), .val (.int p2), .val (.long q1), .second, .unset, .unset, .unset, .unset, .unset, .unset, .unset, .unset, .unset, .unset] [(.ref b1), (.ref b1)])) _
    refine XS.bipush X127.here hx rfl (hb hby at_294) ?_
    show Steps p.tables e below (T127.setTop (mkF m 296 #[.val (.int p1), .val (.int p2), .val (.long q1), .second, .unset, .unset, .unset, .unset, .unset, .unset, .unset, .unset, .unset, .unset] [(.int (42 : Int32)), (.ref b1), (.ref b1)])) _
    refine st129 _ ?_
    show Steps p.tables e below (T129.setTop (mkF m 299 #[.val (.int p1), .val (.int p2), .val (.long q1), .second, .unset, .unset, .unset, .unset, .unset, .unset, .unset, .unset, .unset, .unset] [(.ref w_NOTIFY_TRANSACTION), (.int (42 : Int32)), (.ref b1), (.ref b1)])) _
    refine st130 _ ?_
    exact kt
  clear pre128 st130 Vn130 X129 e129 V127 K127 O127 N127
  obtain ⟨T132, X132, e132, st132⟩ := getS2 X130 hx hZ hown (host := "") (Or.inl (hw _ (List.mem_of_getElem? (i := 90) rfl))) Via.refl e130 (S_w_NOTIFY_DELIVERY.ext O130.2) (g := (mkF m 303 #[.val (.int p1), .val (.int p2), .val (.long q1), .second, .unset, .unset, .unset, .unset, .unset, .unset, .unset, .unset, .unset, .unset] [(.int (43 : Int32)), (.ref b1), (.ref b1)])) rfl (hb hby at_303)
  obtain ⟨T133, h133, lo133, X133, e133, O133, N133, K133, Vn133, st133⟩ := own_stR X132 hx hZ e132 O130 N130 K130 V130 Ov1 g_b1 (E_w_NOTIFY_DELIVERY.ext O130.2) (j := (43 : Int32)) (by decide) 43 rfl (Nat.le_of_ble_eq_true rfl) (g := (mkF m 306 #[.val (.int p1), .val (.int p2), .val (.long q1), .second, .unset, .unset, .unset, .unset, .unset, .unset, .unset, .unset, .unset, .unset] [(.ref w_NOTIFY_DELIVERY), (.int (43 : Int32)), (.ref b1), (.ref b1)])) rfl rfl (hb hby at_306)
  have V133 : Arv Z h133 b1 k1 (.object "com/example/riposte/riposte/packet/HeaderField") (45 : Int32) [(.ref w_CLIENT), (.ref w_VERSION), (.ref w_DOMAIN), (.ref w_HCO), (.ref w_EPG), (.ref w_MPG), (.ref w_LENGTH), (.ref w_CONTROL), (.ref w_NRS), (.ref w_APG), (.ref w_NSR), (.ref w_NER), (.ref w_NRT), (.ref w_MDG), (.ref w_CMG), (.ref w_STI), (.ref w_DRT), (.ref w_RETRANSMIT_COUNT), (.ref w_FORWARD_COUNT), (.ref w_INTER_PACKET_GAP), (.ref w_PG_COUNT), (.ref w_PRIORITY), (.ref w_FUNCTION_CODE), (.ref w_TRANSACTION), (.ref w_PACKET_DELIVERY), (.ref w_SERVER), (.ref w_FLAGS_AND_CODE), (.ref w_CMD), (.ref w_DGM), (.ref w_MDM), (.ref w_SDA), (.ref w_CRE), (.ref w_MRD), (.ref w_PIC), (.ref w_CODE), (.ref w_CO_RESIDENT_ENTITY), (.ref w_USER_DATA), (.ref w_MSG_DELIVERY), (.ref w_SEGMENT_SIZE), (.ref w_NOTIFY_CONTROL), (.ref w_NOTIFY_RECEIVE_SEQUENCE), (.ref w_NOTIFY_CLIENT), (.ref w_NOTIFY_TRANSACTION), (.ref w_NOTIFY_DELIVERY), .null] .null := Vn133
  have pre134 : ∀ t, Steps p.tables e below (T133.setTop (mkF m 307 #[.val (.int p1), .val (.int p2), .val (.long q1), .second, .unset, .unset, .unset, .unset, .unset, .unset, .unset, .unset, .unset, .unset] [(.ref b1)])) t → Steps p.tables e below (s₁.setTop (entryFrame m #[(.int p1), (.int p2), (.long q1)] maxLocals)) t := by
    intro t kt
    refine pre131 _ ?_
    show Steps p.tables e below (T130.setTop (mkF m 300 #[.val (.int p1), .val (.int p2), .val (.long q1), .second, .unset, .unset, .unset, .unset, .unset, .unset, .unset, .unset, .unset, .unset] [(.ref b1)])) _
    refine XS.dup X130.here hx rfl (hb hby at_300) rfl rfl ?_
    show Steps p.tables e below (T130.setTop (mkF m 301 #[.val (.int p1), .val (.int p2), .val (.long q1), .second, .unset, .unset, .unset, .unset, .unset, .unset, .unset, .unset, .unset, .unset] [(.ref b1), (.ref b1)])) _
    refine XS.bipush X130.here hx rfl (hb hby at_301) ?_
    show Steps p.tables e below (T130.setTop (mkF m 303 #[.val (.int p1), .val (.int p2), .val (.long q1), .second, .unset, .unset, .unset, .unset, .unset, .unset, .unset, .unset, .unset, .unset] [(.int (43 : Int32)), (.ref b1), (.ref b1)])) _
    refine st132 _ ?_
    show Steps p.tables e below (T132.setTop (mkF m 306 #[.val (.int p1), .val (.int p2), .val (.long q1), .second, .unset, .unset, .unset, .unset, .unset, .unset, .unset, .unset, .unset, .unset] [(.ref w_NOTIFY_DELIVERY), (.int (43 : Int32)), (.ref b1), (.ref b1)])) _
    refine st133 _ ?_
    exact kt
  clear pre131 st133 Vn133 X132 e132 V130 K130 O130 N130
  obtain ⟨T135, X135, e135, st135⟩ := getS2 X133 hx hZ hown (host := "") (Or.inl (hw _ (List.mem_of_getElem? (i := 92) rfl))) Via.refl e133 (S_w_NOTIFY_CODE.ext O133.2) (g := (mkF m 310 #[.val (.int p1), .val (.int p2), .val (.long q1), .second, .unset, .unset, .unset, .unset, .unset, .unset, .unset, .unset, .unset, .unset] [(.int (44 : Int32)), (.ref b1), (.ref b1)])) rfl (hb hby at_310)
  obtain ⟨T136, h136, lo136, X136, e136, O136, N136, K136, Vn136, st136⟩ := own_stR X135 hx hZ e135 O133 N133 K133 V133 Ov1 g_b1 (E_w_NOTIFY_CODE.ext O133.2) (j := (44 : Int32)) (by decide) 44 rfl (Nat.le_of_ble_eq_true rfl) (g := (mkF m 313 #[.val (.int p1), .val (.int p2), .val (.long q1), .second, .unset, .unset, .unset, .unset, .unset, .unset, .unset, .unset, .unset, .unset] [(.ref w_NOTIFY_CODE), (.int (44 : Int32)), (.ref b1), (.ref b1)])) rfl rfl (hb hby at_313)
  have V136 : Arv Z h136 b1 k1 (.object "com/example/riposte/riposte/packet/HeaderField") (45 : Int32) [(.ref w_CLIENT), (.ref w_VERSION), (.ref w_DOMAIN), (.ref w_HCO), (.ref w_EPG), (.ref w_MPG), (.ref w_LENGTH), (.ref w_CONTROL), (.ref w_NRS), (.ref w_APG), (.ref w_NSR), (.ref w_NER), (.ref w_NRT), (.ref w_MDG), (.ref w_CMG), (.ref w_STI), (.ref w_DRT), (.ref w_RETRANSMIT_COUNT), (.ref w_FORWARD_COUNT), (.ref w_INTER_PACKET_GAP), (.ref w_PG_COUNT), (.ref w_PRIORITY), (.ref w_FUNCTION_CODE), (.ref w_TRANSACTION), (.ref w_PACKET_DELIVERY), (.ref w_SERVER), (.ref w_FLAGS_AND_CODE), (.ref w_CMD), (.ref w_DGM), (.ref w_MDM), (.ref w_SDA), (.ref w_CRE), (.ref w_MRD), (.ref w_PIC), (.ref w_CODE), (.ref w_CO_RESIDENT_ENTITY), (.ref w_USER_DATA), (.ref w_MSG_DELIVERY), (.ref w_SEGMENT_SIZE), (.ref w_NOTIFY_CONTROL), (.ref w_NOTIFY_RECEIVE_SEQUENCE), (.ref w_NOTIFY_CLIENT), (.ref w_NOTIFY_TRANSACTION), (.ref w_NOTIFY_DELIVERY), (.ref w_NOTIFY_CODE)] .null := Vn136
  have pre137 : ∀ t, Steps p.tables e below (T136.setTop (mkF m 314 #[.val (.int p1), .val (.int p2), .val (.long q1), .second, .unset, .unset, .unset, .unset, .unset, .unset, .unset, .unset, .unset, .unset] [(.ref b1)])) t → Steps p.tables e below (s₁.setTop (entryFrame m #[(.int p1), (.int p2), (.long q1)] maxLocals)) t := by
    intro t kt
    refine pre134 _ ?_
    show Steps p.tables e below (T133.setTop (mkF m 307 #[.val (.int p1), .val (.int p2), .val (.long q1), .second, .unset, .unset, .unset, .unset, .unset, .unset, .unset, .unset, .unset, .unset] [(.ref b1)])) _
    refine XS.dup X133.here hx rfl (hb hby at_307) rfl rfl ?_
    show Steps p.tables e below (T133.setTop (mkF m 308 #[.val (.int p1), .val (.int p2), .val (.long q1), .second, .unset, .unset, .unset, .unset, .unset, .unset, .unset, .unset, .unset, .unset] [(.ref b1), (.ref b1)])) _
    refine XS.bipush X133.here hx rfl (hb hby at_308) ?_
    show Steps p.tables e below (T133.setTop (mkF m 310 #[.val (.int p1), .val (.int p2), .val (.long q1), .second, .unset, .unset, .unset, .unset, .unset, .unset, .unset, .unset, .unset, .unset] [(.int (44 : Int32)), (.ref b1), (.ref b1)])) _
    refine st135 _ ?_
    show Steps p.tables e below (T135.setTop (mkF m 313 #[.val (.int p1), .val (.int p2), .val (.long q1), .second, .unset, .unset, .unset, .unset, .unset, .unset, .unset, .unset, .unset, .unset] [(.ref w_NOTIFY_CODE), (.int (44 : Int32)), (.ref b1), (.ref b1)])) _
    refine st136 _ ?_
    exact kt
  clear pre134 st136 Vn136 X135 e135 V133 K133 O133 N133
  obtain ⟨T138, h138, k138, X138, e138, E138, A138, st138⟩ := newP X136 hx hZ (hw _ (List.mem_of_getElem? (i := 94) rfl)) e136 (g := (mkF m 318 #[.val (.int p1), .val (.int p2), .val (.long q1), .second, .val (.ref b1), .unset, .unset, .unset, .unset, .unset, .unset, .unset, .unset, .unset] [(.int (45 : Int32))])) rfl (hb hby at_318) rfl (by decide) (cap := 45) (by decide) (by decide) (by decide) (by decide)
  obtain ⟨b138, g138⟩ : ∃ z, z = h136.size := ⟨_, rfl⟩
  rw [← g138] at A138 st138
  have ne_b1_b138 : b1 ≠ b138 := Nat.ne_of_lt (Nat.lt_of_lt_of_le V136.lt (Nat.le_of_eq g138.symm))
  have g_b138 : n0 ≤ b138 := Nat.le_trans (own_le O136) (Nat.le_of_eq g138.symm)
  have O138 := O136.ext E138
  have V138 : Arv Z h138 b138 k138 .long (45 : Int32) [(.long (0 : Int64)), (.long (0 : Int64)), (.long (0 : Int64)), (.long (0 : Int64)), (.long (0 : Int64)), (.long (0 : Int64)), (.long (0 : Int64)), (.long (0 : Int64)), (.long (0 : Int64)), (.long (0 : Int64)), (.long (0 : Int64)), (.long (0 : Int64)), (.long (0 : Int64)), (.long (0 : Int64)), (.long (0 : Int64)), (.long (0 : Int64)), (.long (0 : Int64)), (.long (0 : Int64)), (.long (0 : Int64)), (.long (0 : Int64)), (.long (0 : Int64)), (.long (0 : Int64)), (.long (0 : Int64)), (.long (0 : Int64)), (.long (0 : Int64)), (.long (0 : Int64)), (.long (0 : Int64)), (.long (0 : Int64)), (.long (0 : Int64)), (.long (0 : Int64)), (.long (0 : Int64)), (.long (0 : Int64)), (.long (0 : Int64)), (.long (0 : Int64)), (.long (0 : Int64)), (.long (0 : Int64)), (.long (0 : Int64)), (.long (0 : Int64)), (.long (0 : Int64)), (.long (0 : Int64)), (.long (0 : Int64)), (.long (0 : Int64)), (.long (0 : Int64)), (.long (0 : Int64)), (.long (0 : Int64))] (.long (0 : Int64)) := (Arv.new A138 (by decide)).pad (pad_rep [] (.long (0 : Int64)) 45)
  have V139 := V138
  have K139 := Keep.refl h138 [b138]
  obtain ⟨T140, h140, lo140, X140, e140, O140, N140, K140, Vn140, st140⟩ := own_stJ X138 hx hZ e138 O138 N136 K139 V139 g_b138 (j := (0 : Int32)) (by decide) 0 rfl (Nat.le_of_ble_eq_true rfl) (g := (mkF m 325 #[.val (.int p1), .val (.int p2), .val (.long q1), .second, .val (.ref b1), .unset, .unset, .unset, .unset, .unset, .unset, .unset, .unset, .unset] [(.long (-1 : Int64)), (.int (0 : Int32)), (.ref b138), (.ref b138)])) rfl rfl (hb hby at_325)
  have V140 : Arv Z h140 b138 k138 .long (45 : Int32) [(.long (-1 : Int64)), (.long (0 : Int64)), (.long (0 : Int64)), (.long (0 : Int64)), (.long (0 : Int64)), (.long (0 : Int64)), (.long (0 : Int64)), (.long (0 : Int64)), (.long (0 : Int64)), (.long (0 : Int64)), (.long (0 : Int64)), (.long (0 : Int64)), (.long (0 : Int64)), (.long (0 : Int64)), (.long (0 : Int64)), (.long (0 : Int64)), (.long (0 : Int64)), (.long (0 : Int64)), (.long (0 : Int64)), (.long (0 : Int64)), (.long (0 : Int64)), (.long (0 : Int64)), (.long (0 : Int64)), (.long (0 : Int64)), (.long (0 : Int64)), (.long (0 : Int64)), (.long (0 : Int64)), (.long (0 : Int64)), (.long (0 : Int64)), (.long (0 : Int64)), (.long (0 : Int64)), (.long (0 : Int64)), (.long (0 : Int64)), (.long (0 : Int64)), (.long (0 : Int64)), (.long (0 : Int64)), (.long (0 : Int64)), (.long (0 : Int64)), (.long (0 : Int64)), (.long (0 : Int64)), (.long (0 : Int64)), (.long (0 : Int64)), (.long (0 : Int64)), (.long (0 : Int64)), (.long (0 : Int64))] (.long (0 : Int64)) := Vn140
  have pre141 : ∀ t, Steps p.tables e below (T140.setTop (mkF m 326 #[.val (.int p1), .val (.int p2), .val (.long q1), .second, .val (.ref b1), .unset, .unset, .unset, .unset, .unset, .unset, .unset, .unset, .unset] [(.ref b138)])) t → Steps p.tables e below (s₁.setTop (entryFrame m #[(.int p1), (.int p2), (.long q1)] maxLocals)) t := by
    intro t kt
    refine pre137 _ ?_
    show Steps p.tables e below (T136.setTop (mkF m 314 #[.val (.int p1), .val (.int p2), .val (.long q1), .second, .unset, .unset, .unset, .unset, .unset, .unset, .unset, .unset, .unset, .unset] [(.ref b1)])) _
    refine XS.astore X136.here hx rfl (hb hby at_314) rfl rfl (l' := #[.val (.int p1), .val (.int p2), .val (.long q1), .second, .val (.ref b1), .unset, .unset, .unset, .unset, .unset, .unset, .unset, .unset, .unset]) rfl ?_
    show Steps p.tables e below (T136.setTop (mkF m 316 #[.val (.int p1), .val (.int p2), .val (.long q1), .second, .val (.ref b1), .unset, .unset, .unset, .unset, .unset, .unset, .unset, .unset, .unset] [])) _
    refine XS.bipush X136.here hx rfl (hb hby at_316) ?_
    show Steps p.tables e below (T136.setTop (mkF m 318 #[.val (.int p1), .val (.int p2), .val (.long q1), .second, .val (.ref b1), .unset, .unset, .unset, .unset, .unset, .unset, .unset, .unset, .unset] [(.int (45 : Int32))])) _
    refine st138 _ ?_
    show Steps p.tables e below (T138.setTop (mkF m 320 #[.val (.int p1), .val (.int p2), .val (.long q1), .second, .val (.ref b1), .unset, .unset, .unset, .unset, .unset, .unset, .unset, .unset, .unset] [(.ref b138)])) _
    refine XS.dup X138.here hx rfl (hb hby at_320) rfl rfl ?_
    show Steps p.tables e below (T138.setTop (mkF m 321 #[.val (.int p1), .val (.int p2), .val (.long q1), .second, .val (.ref b1), .unset, .unset, .unset, .unset, .unset, .unset, .unset, .unset, .unset] [(.ref b138), (.ref b138)])) _
    refine XS.iconst X138.here hx rfl (hb hby at_321) ?_
    show Steps p.tables e below (T138.setTop (mkF m 322 #[.val (.int p1), .val (.int p2), .val (.long q1), .second, .val (.ref b1), .unset, .unset, .unset, .unset, .unset, .unset, .unset, .unset, .unset] [(.int (0 : Int32)), (.ref b138), (.ref b138)])) _
    refine X138.ldc2Long hx hown (mvT hZ (hw _ (List.mem_of_getElem? (i := 95) rfl))) (g := (mkF m 322 #[.val (.int p1), .val (.int p2), .val (.long q1), .second, .val (.ref b1), .unset, .unset, .unset, .unset, .unset, .unset, .unset, .unset, .unset] [(.int (0 : Int32)), (.ref b138), (.ref b138)])) rfl (hb hby at_322) _ ?_
    show Steps p.tables e below (T138.setTop (mkF m 325 #[.val (.int p1), .val (.int p2), .val (.long q1), .second, .val (.ref b1), .unset, .unset, .unset, .unset, .unset, .unset, .unset, .unset, .unset] [(.long (-1 : Int64)), (.int (0 : Int32)), (.ref b138), (.ref b138)])) _
    refine st140 _ ?_
    exact kt
  obtain ⟨T142, h142, lo142, X142, e142, O142, N142, K142, Vn142, st142⟩ := own_stJ X140 hx hZ e140 O140 N140 K140 V140 g_b138 (j := (1 : Int32)) (by decide) 1 rfl (Nat.le_of_ble_eq_true rfl) (g := (mkF m 331 #[.val (.int p1), .val (.int p2), .val (.long q1), .second, .val (.ref b1), .unset, .unset, .unset, .unset, .unset, .unset, .unset, .unset, .unset] [(.long (7 : Int64)), (.int (1 : Int32)), (.ref b138), (.ref b138)])) rfl rfl (hb hby at_331)
  have V142 : Arv Z h142 b138 k138 .long (45 : Int32) [(.long (-1 : Int64)), (.long (7 : Int64)), (.long (0 : Int64)), (.long (0 : Int64)), (.long (0 : Int64)), (.long (0 : Int64)), (.long (0 : Int64)), (.long (0 : Int64)), (.long (0 : Int64)), (.long (0 : Int64)), (.long (0 : Int64)), (.long (0 : Int64)), (.long (0 : Int64)), (.long (0 : Int64)), (.long (0 : Int64)), (.long (0 : Int64)), (.long (0 : Int64)), (.long (0 : Int64)), (.long (0 : Int64)), (.long (0 : Int64)), (.long (0 : Int64)), (.long (0 : Int64)), (.long (0 : Int64)), (.long (0 : Int64)), (.long (0 : Int64)), (.long (0 : Int64)), (.long (0 : Int64)), (.long (0 : Int64)), (.long (0 : Int64)), (.long (0 : Int64)), (.long (0 : Int64)), (.long (0 : Int64)), (.long (0 : Int64)), (.long (0 : Int64)), (.long (0 : Int64)), (.long (0 : Int64)), (.long (0 : Int64)), (.long (0 : Int64)), (.long (0 : Int64)), (.long (0 : Int64)), (.long (0 : Int64)), (.long (0 : Int64)), (.long (0 : Int64)), (.long (0 : Int64)), (.long (0 : Int64))] (.long (0 : Int64)) := Vn142
  have pre143 : ∀ t, Steps p.tables e below (T142.setTop (mkF m 332 #[.val (.int p1), .val (.int p2), .val (.long q1), .second, .val (.ref b1), .unset, .unset, .unset, .unset, .unset, .unset, .unset, .unset, .unset] [(.ref b138)])) t → Steps p.tables e below (s₁.setTop (entryFrame m #[(.int p1), (.int p2), (.long q1)] maxLocals)) t := by
    intro t kt
    refine pre141 _ ?_
    show Steps p.tables e below (T140.setTop (mkF m 326 #[.val (.int p1), .val (.int p2), .val (.long q1), .second, .val (.ref b1), .unset, .unset, .unset, .unset, .unset, .unset, .unset, .unset, .unset] [(.ref b138)])) _
    refine XS.dup X140.here hx rfl (hb hby at_326) rfl rfl ?_
    show Steps p.tables e below (T140.setTop (mkF m 327 #[.val (.int p1), .val (.int p2), .val (.long q1), .second, .val (.ref b1), .unset, .unset, .unset, .unset, .unset, .unset, .unset, .unset, .unset] [(.ref b138), (.ref b138)])) _
    refine XS.iconst X140.here hx rfl (hb hby at_327) ?_
    show Steps p.tables e below (T140.setTop (mkF m 328 #[.val (.int p1), .val (.int p2), .val (.long q1), .second, .val (.ref b1), .unset, .unset, .unset, .unset, .unset, .unset, .unset, .unset, .unset] [(.int (1 : Int32)), (.ref b138), (.ref b138)])) _
    refine X140.ldc2Long hx hown (mvT hZ (hw _ (List.mem_of_getElem? (i := 96) rfl))) (g := (mkF m 328 #[.val (.int p1), .val (.int p2), .val (.long q1), .second, .val (.ref b1), .unset, .unset, .unset, .unset, .unset, .unset, .unset, .unset, .unset] [(.int (1 : Int32)), (.ref b138), (.ref b138)])) rfl (hb hby at_328) _ ?_
    show Steps p.tables e below (T140.setTop (mkF m 331 #[.val (.int p1), .val (.int p2), .val (.long q1), .second, .val (.ref b1), .unset, .unset, .unset, .unset, .unset, .unset, .unset, .unset, .unset] [(.long (7 : Int64)), (.int (1 : Int32)), (.ref b138), (.ref b138)])) _
    refine st142 _ ?_
    exact kt
  clear pre141 st142 Vn142 X140 e140 V140 K140 O140 N140
  obtain ⟨T144, h144, lo144, X144, e144, O144, N144, K144, Vn144, st144⟩ := own_stJ X142 hx hZ e142 O142 N142 K142 V142 g_b138 (j := (2 : Int32)) (by decide) 2 rfl (Nat.le_of_ble_eq_true rfl) (g := (mkF m 337 #[.val (.int p1), .val (.int p2), .val (.long q1), .second, .val (.ref b1), .unset, .unset, .unset, .unset, .unset, .unset, .unset, .unset, .unset] [(.long (8191 : Int64)), (.int (2 : Int32)), (.ref b138), (.ref b138)])) rfl rfl (hb hby at_337)
  have V144 : Arv Z h144 b138 k138 .long (45 : Int32) [(.long (-1 : Int64)), (.long (7 : Int64)), (.long (8191 : Int64)), (.long (0 : Int64)), (.long (0 : Int64)), (.long (0 : Int64)), (.long (0 : Int64)), (.long (0 : Int64)), (.long (0 : Int64)), (.long (0 : Int64)), (.long (0 : Int64)), (.long (0 : Int64)), (.long (0 : Int64)), (.long (0 : Int64)), (.long (0 : Int64)), (.long (0 : Int64)), (.long (0 : Int64)), (.long (0 : Int64)), (.long (0 : Int64)), (.long (0 : Int64)), (.long (0 : Int64)), (.long (0 : Int64)), (.long (0 : Int64)), (.long (0 : Int64)), (.long (0 : Int64)), (.long (0 : Int64)), (.long (0 : Int64)), (.long (0 : Int64)), (.long (0 : Int64)), (.long (0 : Int64)), (.long (0 : Int64)), (.long (0 : Int64)), (.long (0 : Int64)), (.long (0 : Int64)), (.long (0 : Int64)), (.long (0 : Int64)), (.long (0 : Int64)), (.long (0 : Int64)), (.long (0 : Int64)), (.long (0 : Int64)), (.long (0 : Int64)), (.long (0 : Int64)), (.long (0 : Int64)), (.long (0 : Int64)), (.long (0 : Int64))] (.long (0 : Int64)) := Vn144
  have pre145 : ∀ t, Steps p.tables e below (T144.setTop (mkF m 338 #[.val (.int p1), .val (.int p2), .val (.long q1), .second, .val (.ref b1), .unset, .unset, .unset, .unset, .unset, .unset, .unset, .unset, .unset] [(.ref b138)])) t → Steps p.tables e below (s₁.setTop (entryFrame m #[(.int p1), (.int p2), (.long q1)] maxLocals)) t := by
    intro t kt
    refine pre143 _ ?_
    show Steps p.tables e below (T142.setTop (mkF m 332 #[.val (.int p1), .val (.int p2), .val (.long q1), .second, .val (.ref b1), .unset, .unset, .unset, .unset, .unset, .unset, .unset, .unset, .unset] [(.ref b138)])) _
    refine XS.dup X142.here hx rfl (hb hby at_332) rfl rfl ?_
    show Steps p.tables e below (T142.setTop (mkF m 333 #[.val (.int p1), .val (.int p2), .val (.long q1), .second, .val (.ref b1), .unset, .unset, .unset, .unset, .unset, .unset, .unset, .unset, .unset] [(.ref b138), (.ref b138)])) _
    refine XS.iconst X142.here hx rfl (hb hby at_333) ?_
    show Steps p.tables e below (T142.setTop (mkF m 334 #[.val (.int p1), .val (.int p2), .val (.long q1), .second, .val (.ref b1), .unset, .unset, .unset, .unset, .unset, .unset, .unset, .unset, .unset] [(.int (2 : Int32)), (.ref b138), (.ref b138)])) _
    refine X142.ldc2Long hx hown (mvT hZ (hw _ (List.mem_of_getElem? (i := 97) rfl))) (g := (mkF m 334 #[.val (.int p1), .val (.int p2), .val (.long q1), .second, .val (.ref b1), .unset, .unset, .unset, .unset, .unset, .unset, .unset, .unset, .unset] [(.int (2 : Int32)), (.ref b138), (.ref b138)])) rfl (hb hby at_334) _ ?_
    show Steps p.tables e below (T142.setTop (mkF m 337 #[.val (.int p1), .val (.int p2), .val (.long q1), .second, .val (.ref b1), .unset, .unset, .unset, .unset, .unset, .unset, .unset, .unset, .unset] [(.long (8191 : Int64)), (.int (2 : Int32)), (.ref b138), (.ref b138)])) _
    refine st144 _ ?_
    exact kt
  clear pre143 st144 Vn144 X142 e142 V142 K142 O142 N142
  obtain ⟨T146, h146, lo146, X146, e146, O146, N146, K146, Vn146, st146⟩ := own_stJ X144 hx hZ e144 O144 N144 K144 V144 g_b138 (j := (3 : Int32)) (by decide) 3 rfl (Nat.le_of_ble_eq_true rfl) (g := (mkF m 341 #[.val (.int p1), .val (.int p2), .val (.long q1), .second, .val (.ref b1), .unset, .unset, .unset, .unset, .unset, .unset, .unset, .unset, .unset] [(.long (1 : Int64)), (.int (3 : Int32)), (.ref b138), (.ref b138)])) rfl rfl (hb hby at_341)
  have V146 : Arv Z h146 b138 k138 .long (45 : Int32) [(.long (-1 : Int64)), (.long (7 : Int64)), (.long (8191 : Int64)), (.long (1 : Int64)), (.long (0 : Int64)), (.long (0 : Int64)), (.long (0 : Int64)), (.long (0 : Int64)), (.long (0 : Int64)), (.long (0 : Int64)), (.long (0 : Int64)), (.long (0 : Int64)), (.long (0 : Int64)), (.long (0 : Int64)), (.long (0 : Int64)), (.long (0 : Int64)), (.long (0 : Int64)), (.long (0 : Int64)), (.long (0 : Int64)), (.long (0 : Int64)), (.long (0 : Int64)), (.long (0 : Int64)), (.long (0 : Int64)), (.long (0 : Int64)), (.long (0 : Int64)), (.long (0 : Int64)), (.long (0 : Int64)), (.long (0 : Int64)), (.long (0 : Int64)), (.long (0 : Int64)), (.long (0 : Int64)), (.long (0 : Int64)), (.long (0 : Int64)), (.long (0 : Int64)), (.long (0 : Int64)), (.long (0 : Int64)), (.long (0 : Int64)), (.long (0 : Int64)), (.long (0 : Int64)), (.long (0 : Int64)), (.long (0 : Int64)), (.long (0 : Int64)), (.long (0 : Int64)), (.long (0 : Int64)), (.long (0 : Int64))] (.long (0 : Int64)) := Vn146
  have pre147 : ∀ t, Steps p.tables e below (T146.setTop (mkF m 342 #[.val (.int p1), .val (.int p2), .val (.long q1), .second, .val (.ref b1), .unset, .unset, .unset, .unset, .unset, .unset, .unset, .unset, .unset] [(.ref b138)])) t → Steps p.tables e below (s₁.setTop (entryFrame m #[(.int p1), (.int p2), (.long q1)] maxLocals)) t := by
    intro t kt
    refine pre145 _ ?_
    show Steps p.tables e below (T144.setTop (mkF m 338 #[.val (.int p1), .val (.int p2), .val (.long q1), .second, .val (.ref b1), .unset, .unset, .unset, .unset, .unset, .unset, .unset, .unset, .unset] [(.ref b138)])) _
    refine XS.dup X144.here hx rfl (hb hby at_338) rfl rfl ?_
    show Steps p.tables e below (T144.setTop (mkF m 339 #[.val (.int p1), .val (.int p2), .val (.long q1), .second, .val (.ref b1), .unset, .unset, .unset, .unset, .unset, .unset, .unset, .unset, .unset] [(.ref b138), (.ref b138)])) _
    refine XS.iconst X144.here hx rfl (hb hby at_339) ?_
    show Steps p.tables e below (T144.setTop (mkF m 340 #[.val (.int p1), .val (.int p2), .val (.long q1), .second, .val (.ref b1), .unset, .unset, .unset, .unset, .unset, .unset, .unset, .unset, .unset] [(.int (3 : Int32)), (.ref b138), (.ref b138)])) _
    refine XS.lconst X144.here hx rfl (hb hby at_340) ?_
    show Steps p.tables e below (T144.setTop (mkF m 341 #[.val (.int p1), .val (.int p2), .val (.long q1), .second, .val (.ref b1), .unset, .unset, .unset, .unset, .unset, .unset, .unset, .unset, .unset] [(.long (1 : Int64)), (.int (3 : Int32)), (.ref b138), (.ref b138)])) _
    refine st146 _ ?_
    exact kt
  clear pre145 st146 Vn146 X144 e144 V144 K144 O144 N144
  obtain ⟨T148, h148, lo148, X148, e148, O148, N148, K148, Vn148, st148⟩ := own_stJ X146 hx hZ e146 O146 N146 K146 V146 g_b138 (j := (4 : Int32)) (by decide) 4 rfl (Nat.le_of_ble_eq_true rfl) (g := (mkF m 345 #[.val (.int p1), .val (.int p2), .val (.long q1), .second, .val (.ref b1), .unset, .unset, .unset, .unset, .unset, .unset, .unset, .unset, .unset] [(.long (1 : Int64)), (.int (4 : Int32)), (.ref b138), (.ref b138)])) rfl rfl (hb hby at_345)
  have V148 : Arv Z h148 b138 k138 .long (45 : Int32) [(.long (-1 : Int64)), (.long (7 : Int64)), (.long (8191 : Int64)), (.long (1 : Int64)), (.long (1 : Int64)), (.long (0 : Int64)), (.long (0 : Int64)), (.long (0 : Int64)), (.long (0 : Int64)), (.long (0 : Int64)), (.long (0 : Int64)), (.long (0 : Int64)), (.long (0 : Int64)), (.long (0 : Int64)), (.long (0 : Int64)), (.long (0 : Int64)), (.long (0 : Int64)), (.long (0 : Int64)), (.long (0 : Int64)), (.long (0 : Int64)), (.long (0 : Int64)), (.long (0 : Int64)), (.long (0 : Int64)), (.long (0 : Int64)), (.long (0 : Int64)), (.long (0 : Int64)), (.long (0 : Int64)), (.long (0 : Int64)), (.long (0 : Int64)), (.long (0 : Int64)), (.long (0 : Int64)), (.long (0 : Int64)), (.long (0 : Int64)), (.long (0 : Int64)), (.long (0 : Int64)), (.long (0 : Int64)), (.long (0 : Int64)), (.long (0 : Int64)), (.long (0 : Int64)), (.long (0 : Int64)), (.long (0 : Int64)), (.long (0 : Int64)), (.long (0 : Int64)), (.long (0 : Int64)), (.long (0 : Int64))] (.long (0 : Int64)) := Vn148
  have pre149 : ∀ t, Steps p.tables e below (T148.setTop (mkF m 346 #[.val (.int p1), .val (.int p2), .val (.long q1), .second, .val (.ref b1), .unset, .unset, .unset, .unset, .unset, .unset, .unset, .unset, .unset] [(.ref b138)])) t → Steps p.tables e below (s₁.setTop (entryFrame m #[(.int p1), (.int p2), (.long q1)] maxLocals)) t := by
    intro t kt
    refine pre147 _ ?_
    show Steps p.tables e below (T146.setTop (mkF m 342 #[.val (.int p1), .val (.int p2), .val (.long q1), .second, .val (.ref b1), .unset, .unset, .unset, .unset, .unset, .unset, .unset, .unset, .unset] [(.ref b138)])) _
    refine XS.dup X146.here hx rfl (hb hby at_342) rfl rfl ?_
    show Steps p.tables e below (T146.setTop (mkF m 343 #[.val (.int p1), .val (.int p2), .val (.long q1), .second, .val (.ref b1), .unset, .unset, .unset, .unset, .unset, .unset, .unset, .unset, .unset] [(.ref b138), (.ref b138)])) _
    refine XS.iconst X146.here hx rfl (hb hby at_343) ?_
    show Steps p.tables e below (T146.setTop (mkF m 344 #[.val (.int p1), .val (.int p2), .val (.long q1), .second, .val (.ref b1), .unset, .unset, .unset, .unset, .unset, .unset, .unset, .unset, .unset] [(.int (4 : Int32)), (.ref b138), (.ref b138)])) _
    refine XS.lconst X146.here hx rfl (hb hby at_344) ?_
    show Steps p.tables e below (T146.setTop (mkF m 345 #[.val (.int p1), .val (.int p2), .val (.long q1), .second, .val (.ref b1), .unset, .unset, .unset, .unset, .unset, .unset, .unset, .unset, .unset] [(.long (1 : Int64)), (.int (4 : Int32)), (.ref b138), (.ref b138)])) _
    refine st148 _ ?_
    exact kt
  clear pre147 st148 Vn148 X146 e146 V146 K146 O146 N146
  obtain ⟨T150, h150, lo150, X150, e150, O150, N150, K150, Vn150, st150⟩ := own_stJ X148 hx hZ e148 O148 N148 K148 V148 g_b138 (j := (5 : Int32)) (by decide) 5 rfl (Nat.le_of_ble_eq_true rfl) (g := (mkF m 349 #[.val (.int p1), .val (.int p2), .val (.long q1), .second, .val (.ref b1), .unset, .unset, .unset, .unset, .unset, .unset, .unset, .unset, .unset] [(.long (1 : Int64)), (.int (5 : Int32)), (.ref b138), (.ref b138)])) rfl rfl (hb hby at_349)
  have V150 : Arv Z h150 b138 k138 .long (45 : Int32) [(.long (-1 : Int64)), (.long (7 : Int64)), (.long (8191 : Int64)), (.long (1 : Int64)), (.long (1 : Int64)), (.long (1 : Int64)), (.long (0 : Int64)), (.long (0 : Int64)), (.long (0 : Int64)), (.long (0 : Int64)), (.long (0 : Int64)), (.long (0 : Int64)), (.long (0 : Int64)), (.long (0 : Int64)), (.long (0 : Int64)), (.long (0 : Int64)), (.long (0 : Int64)), (.long (0 : Int64)), (.long (0 : Int64)), (.long (0 : Int64)), (.long (0 : Int64)), (.long (0 : Int64)), (.long (0 : Int64)), (.long (0 : Int64)), (.long (0 : Int64)), (.long (0 : Int64)), (.long (0 : Int64)), (.long (0 : Int64)), (.long (0 : Int64)), (.long (0 : Int64)), (.long (0 : Int64)), (.long (0 : Int64)), (.long (0 : Int64)), (.long (0 : Int64)), (.long (0 : Int64)), (.long (0 : Int64)), (.long (0 : Int64)), (.long (0 : Int64)), (.long (0 : Int64)), (.long (0 : Int64)), (.long (0 : Int64)), (.long (0 : Int64)), (.long (0 : Int64)), (.long (0 : Int64)), (.long (0 : Int64))] (.long (0 : Int64)) := Vn150
  have pre151 : ∀ t, Steps p.tables e below (T150.setTop (mkF m 350 #[.val (.int p1), .val (.int p2), .val (.long q1), .second, .val (.ref b1), .unset, .unset, .unset, .unset, .unset, .unset, .unset, .unset, .unset] [(.ref b138)])) t → Steps p.tables e below (s₁.setTop (entryFrame m #[(.int p1), (.int p2), (.long q1)] maxLocals)) t := by
    intro t kt
    refine pre149 _ ?_
    show Steps p.tables e below (T148.setTop (mkF m 346 #[.val (.int p1), .val (.int p2), .val (.long q1), .second, .val (.ref b1), .unset, .unset, .unset, .unset, .unset, .unset, .unset, .unset, .unset] [(.ref b138)])) _
    refine XS.dup X148.here hx rfl (hb hby at_346) rfl rfl ?_
    show Steps p.tables e below (T148.setTop (mkF m 347 #[.val (.int p1), .val (.int p2), .val (.long q1), .second, .val (.ref b1), .unset, .unset, .unset, .unset, .unset, .unset, .unset, .unset, .unset] [(.ref b138), (.ref b138)])) _
    refine XS.iconst X148.here hx rfl (hb hby at_347) ?_
    show Steps p.tables e below (T148.setTop (mkF m 348 #[.val (.int p1), .val (.int p2), .val (.long q1), .second, .val (.ref b1), .unset, .unset, .unset, .unset, .unset, .unset, .unset, .unset, .unset] [(.int (5 : Int32)), (.ref b138), (.ref b138)])) _
    refine XS.lconst X148.here hx rfl (hb hby at_348) ?_
    show Steps p.tables e below (T148.setTop (mkF m 349 #[.val (.int p1), .val (.int p2), .val (.long q1), .second, .val (.ref b1), .unset, .unset, .unset, .unset, .unset, .unset, .unset, .unset, .unset] [(.long (1 : Int64)), (.int (5 : Int32)), (.ref b138), (.ref b138)])) _
    refine st150 _ ?_
    exact kt
  clear pre149 st150 Vn150 X148 e148 V148 K148 O148 N148
  obtain ⟨T152, h152, lo152, X152, e152, O152, N152, K152, Vn152, st152⟩ := own_stJ X150 hx hZ e150 O150 N150 K150 V150 g_b138 (j := (6 : Int32)) (by decide) 6 rfl (Nat.le_of_ble_eq_true rfl) (g := (mkF m 356 #[.val (.int p1), .val (.int p2), .val (.long q1), .second, .val (.ref b1), .unset, .unset, .unset, .unset, .unset, .unset, .unset, .unset, .unset] [(.long (8191 : Int64)), (.int (6 : Int32)), (.ref b138), (.ref b138)])) rfl rfl (hb hby at_356)
  have V152 : Arv Z h152 b138 k138 .long (45 : Int32) [(.long (-1 : Int64)), (.long (7 : Int64)), (.long (8191 : Int64)), (.long (1 : Int64)), (.long (1 : Int64)), (.long (1 : Int64)), (.long (8191 : Int64)), (.long (0 : Int64)), (.long (0 : Int64)), (.long (0 : Int64)), (.long (0 : Int64)), (.long (0 : Int64)), (.long (0 : Int64)), (.long (0 : Int64)), (.long (0 : Int64)), (.long (0 : Int64)), (.long (0 : Int64)), (.long (0 : Int64)), (.long (0 : Int64)), (.long (0 : Int64)), (.long (0 : Int64)), (.long (0 : Int64)), (.long (0 : Int64)), (.long (0 : Int64)), (.long (0 : Int64)), (.long (0 : Int64)), (.long (0 : Int64)), (.long (0 : Int64)), (.long (0 : Int64)), (.long (0 : Int64)), (.long (0 : Int64)), (.long (0 : Int64)), (.long (0 : Int64)), (.long (0 : Int64)), (.long (0 : Int64)), (.long (0 : Int64)), (.long (0 : Int64)), (.long (0 : Int64)), (.long (0 : Int64)), (.long (0 : Int64)), (.long (0 : Int64)), (.long (0 : Int64)), (.long (0 : Int64)), (.long (0 : Int64)), (.long (0 : Int64))] (.long (0 : Int64)) := Vn152
  have pre153 : ∀ t, Steps p.tables e below (T152.setTop (mkF m 357 #[.val (.int p1), .val (.int p2), .val (.long q1), .second, .val (.ref b1), .unset, .unset, .unset, .unset, .unset, .unset, .unset, .unset, .unset] [(.ref b138)])) t → Steps p.tables e below (s₁.setTop (entryFrame m #[(.int p1), (.int p2), (.long q1)] maxLocals)) t := by
    intro t kt
    refine pre151 _ ?_
    show Steps p.tables e below (T150.setTop (mkF m 350 #[.val (.int p1), .val (.int p2), .val (.long q1), .second, .val (.ref b1), .unset, .unset, .unset, .unset, .unset, .unset, .unset, .unset, .unset] [(.ref b138)])) _
    refine XS.dup X150.here hx rfl (hb hby at_350) rfl rfl ?_
    show Steps p.tables e below (T150.setTop (mkF m 351 #[.val (.int p1), .val (.int p2), .val (.long q1), .second, .val (.ref b1), .unset, .unset, .unset, .unset, .unset, .unset, .unset, .unset, .unset] [(.ref b138), (.ref b138)])) _
    refine XS.bipush X150.here hx rfl (hb hby at_351) ?_
    show Steps p.tables e below (T150.setTop (mkF m 353 #[.val (.int p1), .val (.int p2), .val (.long q1), .second, .val (.ref b1), .unset, .unset, .unset, .unset, .unset, .unset, .unset, .unset, .unset] [(.int (6 : Int32)), (.ref b138), (.ref b138)])) _
    refine X150.ldc2Long hx hown (mvT hZ (hw _ (List.mem_of_getElem? (i := 97) rfl))) (g := (mkF m 353 #[.val (.int p1), .val (.int p2), .val (.long q1), .second, .val (.ref b1), .unset, .unset, .unset, .unset, .unset, .unset, .unset, .unset, .unset] [(.int (6 : Int32)), (.ref b138), (.ref b138)])) rfl (hb hby at_353) _ ?_
    show Steps p.tables e below (T150.setTop (mkF m 356 #[.val (.int p1), .val (.int p2), .val (.long q1), .second, .val (.ref b1), .unset, .unset, .unset, .unset, .unset, .unset, .unset, .unset, .unset] [(.long (8191 : Int64)), (.int (6 : Int32)), (.ref b138), (.ref b138)])) _
    refine st152 _ ?_
    exact kt
  clear pre151 st152 Vn152 X150 e150 V150 K150 O150 N150
  obtain ⟨T154, h154, lo154, X154, e154, O154, N154, K154, Vn154, st154⟩ := own_stJ X152 hx hZ e152 O152 N152 K152 V152 g_b138 (j := (7 : Int32)) (by decide) 7 rfl (Nat.le_of_ble_eq_true rfl) (g := (mkF m 363 #[.val (.int p1), .val (.int p2), .val (.long q1), .second, .val (.ref b1), .unset, .unset, .unset, .unset, .unset, .unset, .unset, .unset, .unset] [(.long (4294967295 : Int64)), (.int (7 : Int32)), (.ref b138), (.ref b138)])) rfl rfl (hb hby at_363)
  have V154 : Arv Z h154 b138 k138 .long (45 : Int32) [(.long (-1 : Int64)), (.long (7 : Int64)), (.long (8191 : Int64)), (.long (1 : Int64)), (.long (1 : Int64)), (.long (1 : Int64)), (.long (8191 : Int64)), (.long (4294967295 : Int64)), (.long (0 : Int64)), (.long (0 : Int64)), (.long (0 : Int64)), (.long (0 : Int64)), (.long (0 : Int64)), (.long (0 : Int64)), (.long (0 : Int64)), (.long (0 : Int64)), (.long (0 : Int64)), (.long (0 : Int64)), (.long (0 : Int64)), (.long (0 : Int64)), (.long (0 : Int64)), (.long (0 : Int64)), (.long (0 : Int64)), (.long (0 : Int64)), (.long (0 : Int64)), (.long (0 : Int64)), (.long (0 : Int64)), (.long (0 : Int64)), (.long (0 : Int64)), (.long (0 : Int64)), (.long (0 : Int64)), (.long (0 : Int64)), (.long (0 : Int64)), (.long (0 : Int64)), (.long (0 : Int64)), (.long (0 : Int64)), (.long (0 : Int64)), (.long (0 : Int64)), (.long (0 : Int64)), (.long (0 : Int64)), (.long (0 : Int64)), (.long (0 : Int64)), (.long (0 : Int64)), (.long (0 : Int64)), (.long (0 : Int64))] (.long (0 : Int64)) := Vn154
  have pre155 : ∀ t, Steps p.tables e below (T154.setTop (mkF m 364 #[.val (.int p1), .val (.int p2), .val (.long q1), .second, .val (.ref b1), .unset, .unset, .unset, .unset, .unset, .unset, .unset, .unset, .unset] [(.ref b138)])) t → Steps p.tables e below (s₁.setTop (entryFrame m #[(.int p1), (.int p2), (.long q1)] maxLocals)) t := by
    intro t kt
    refine pre153 _ ?_
    show Steps p.tables e below (T152.setTop (mkF m 357 #[.val (.int p1), .val (.int p2), .val (.long q1), .second, .val (.ref b1), .unset, .unset, .unset, .unset, .unset, .unset, .unset, .unset, .unset] [(.ref b138)])) _
    refine XS.dup X152.here hx rfl (hb hby at_357) rfl rfl ?_
    show Steps p.tables e below (T152.setTop (mkF m 358 #[.val (.int p1), .val (.int p2), .val (.long q1), .second, .val (.ref b1), .unset, .unset, .unset, .unset, .unset, .unset, .unset, .unset, .unset] [(.ref b138), (.ref b138)])) _
    refine XS.bipush X152.here hx rfl (hb hby at_358) ?_
    show Steps p.tables e below (T152.setTop (mkF m 360 #[.val (.int p1), .val (.int p2), .val (.long q1), .second, .val (.ref b1), .unset, .unset, .unset, .unset, .unset, .unset, .unset, .unset, .unset] [(.int (7 : Int32)), (.ref b138), (.ref b138)])) _
    refine X152.ldc2Long hx hown (mvT hZ (hw _ (List.mem_of_getElem? (i := 98) rfl))) (g := (mkF m 360 #[.val (.int p1), .val (.int p2), .val (.long q1), .second, .val (.ref b1), .unset, .unset, .unset, .unset, .unset, .unset, .unset, .unset, .unset] [(.int (7 : Int32)), (.ref b138), (.ref b138)])) rfl (hb hby at_360) _ ?_
    show Steps p.tables e below (T152.setTop (mkF m 363 #[.val (.int p1), .val (.int p2), .val (.long q1), .second, .val (.ref b1), .unset, .unset, .unset, .unset, .unset, .unset, .unset, .unset, .unset] [(.long (4294967295 : Int64)), (.int (7 : Int32)), (.ref b138), (.ref b138)])) _
    refine st154 _ ?_
    exact kt
  clear pre153 st154 Vn154 X152 e152 V152 K152 O152 N152
  obtain ⟨T156, h156, lo156, X156, e156, O156, N156, K156, Vn156, st156⟩ := own_stJ X154 hx hZ e154 O154 N154 K154 V154 g_b138 (j := (8 : Int32)) (by decide) 8 rfl (Nat.le_of_ble_eq_true rfl) (g := (mkF m 368 #[.val (.int p1), .val (.int p2), .val (.long q1), .second, .val (.ref b1), .unset, .unset, .unset, .unset, .unset, .unset, .unset, .unset, .unset] [(.long (1 : Int64)), (.int (8 : Int32)), (.ref b138), (.ref b138)])) rfl rfl (hb hby at_368)
  have V156 : Arv Z h156 b138 k138 .long (45 : Int32) [(.long (-1 : Int64)), (.long (7 : Int64)), (.long (8191 : Int64)), (.long (1 : Int64)), (.long (1 : Int64)), (.long (1 : Int64)), (.long (8191 : Int64)), (.long (4294967295 : Int64)), (.long (1 : Int64)), (.long (0 : Int64)), (.long (0 : Int64)), (.long (0 : Int64)), (.long (0 : Int64)), (.long (0 : Int64)), (.long (0 : Int64)), (.long (0 : Int64)), (.long (0 : Int64)), (.long (0 : Int64)), (.long (0 : Int64)), (.long (0 : Int64)), (.long (0 : Int64)), (.long (0 : Int64)), (.long (0 : Int64)), (.long (0 : Int64)), (.long (0 : Int64)), (.long (0 : Int64)), (.long (0 : Int64)), (.long (0 : Int64)), (.long (0 : Int64)), (.long (0 : Int64)), (.long (0 : Int64)), (.long (0 : Int64)), (.long (0 : Int64)), (.long (0 : Int64)), (.long (0 : Int64)), (.long (0 : Int64)), (.long (0 : Int64)), (.long (0 : Int64)), (.long (0 : Int64)), (.long (0 : Int64)), (.long (0 : Int64)), (.long (0 : Int64)), (.long (0 : Int64)), (.long (0 : Int64)), (.long (0 : Int64))] (.long (0 : Int64)) := Vn156
  have pre157 : ∀ t, Steps p.tables e below (T156.setTop (mkF m 369 #[.val (.int p1), .val (.int p2), .val (.long q1), .second, .val (.ref b1), .unset, .unset, .unset, .unset, .unset, .unset, .unset, .unset, .unset] [(.ref b138)])) t → Steps p.tables e below (s₁.setTop (entryFrame m #[(.int p1), (.int p2), (.long q1)] maxLocals)) t := by
    intro t kt
    refine pre155 _ ?_
    show Steps p.tables e below (T154.setTop (mkF m 364 #[.val (.int p1), .val (.int p2), .val (.long q1), .second, .val (.ref b1), .unset, .unset, .unset, .unset, .unset, .unset, .unset, .unset, .unset] [(.ref b138)])) _
    refine XS.dup X154.here hx rfl (hb hby at_364) rfl rfl ?_
    show Steps p.tables e below (T154.setTop (mkF m 365 #[.val (.int p1), .val (.int p2), .val (.long q1), .second, .val (.ref b1), .unset, .unset, .unset, .unset, .unset, .unset, .unset, .unset, .unset] [(.ref b138), (.ref b138)])) _
    refine XS.bipush X154.here hx rfl (hb hby at_365) ?_
    show Steps p.tables e below (T154.setTop (mkF m 367 #[.val (.int p1), .val (.int p2), .val (.long q1), .second, .val (.ref b1), .unset, .unset, .unset, .unset, .unset, .unset, .unset, .unset, .unset] [(.int (8 : Int32)), (.ref b138), (.ref b138)])) _
    refine XS.lconst X154.here hx rfl (hb hby at_367) ?_
    show Steps p.tables e below (T154.setTop (mkF m 368 #[.val (.int p1), .val (.int p2), .val (.long q1), .second, .val (.ref b1), .unset, .unset, .unset, .unset, .unset, .unset, .unset, .unset, .unset] [(.long (1 : Int64)), (.int (8 : Int32)), (.ref b138), (.ref b138)])) _
    refine st156 _ ?_
    exact kt
  clear pre155 st156 Vn156 X154 e154 V154 K154 O154 N154
  obtain ⟨T158, h158, lo158, X158, e158, O158, N158, K158, Vn158, st158⟩ := own_stJ X156 hx hZ e156 O156 N156 K156 V156 g_b138 (j := (9 : Int32)) (by decide) 9 rfl (Nat.le_of_ble_eq_true rfl) (g := (mkF m 373 #[.val (.int p1), .val (.int p2), .val (.long q1), .second, .val (.ref b1), .unset, .unset, .unset, .unset, .unset, .unset, .unset, .unset, .unset] [(.long (1 : Int64)), (.int (9 : Int32)), (.ref b138), (.ref b138)])) rfl rfl (hb hby at_373)
  have V158 : Arv Z h158 b138 k138 .long (45 : Int32) [(.long (-1 : Int64)), (.long (7 : Int64)), (.long (8191 : Int64)), (.long (1 : Int64)), (.long (1 : Int64)), (.long (1 : Int64)), (.long (8191 : Int64)), (.long (4294967295 : Int64)), (.long (1 : Int64)), (.long (1 : Int64)), (.long (0 : Int64)), (.long (0 : Int64)), (.long (0 : Int64)), (.long (0 : Int64)), (.long (0 : Int64)), (.long (0 : Int64)), (.long (0 : Int64)), (.long (0 : Int64)), (.long (0 : Int64)), (.long (0 : Int64)), (.long (0 : Int64)), (.long (0 : Int64)), (.long (0 : Int64)), (.long (0 : Int64)), (.long (0 : Int64)), (.long (0 : Int64)), (.long (0 : Int64)), (.long (0 : Int64)), (.long (0 : Int64)), (.long (0 : Int64)), (.long (0 : Int64)), (.long (0 : Int64)), (.long (0 : Int64)), (.long (0 : Int64)), (.long (0 : Int64)), (.long (0 : Int64)), (.long (0 : Int64)), (.long (0 : Int64)), (.long (0 : Int64)), (.long (0 : Int64)), (.long (0 : Int64)), (.long (0 : Int64)), (.long (0 : Int64)), (.long (0 : Int64)), (.long (0 : Int64))] (.long (0 : Int64)) := Vn158
  have pre159 : ∀ t, Steps p.tables e below (T158.setTop (mkF m 374 #[.val (.int p1), .val (.int p2), .val (.long q1), .second, .val (.ref b1), .unset, .unset, .unset, .unset, .unset, .unset, .unset, .unset, .unset] [(.ref b138)])) t → Steps p.tables e below (s₁.setTop (entryFrame m #[(.int p1), (.int p2), (.long q1)] maxLocals)) t := by
    intro t kt
    refine pre157 _ ?_
    show Steps p.tables e below (T156.setTop (mkF m 369 #[.val (.int p1), .val (.int p2), .val (.long q1), .second, .val (.ref b1), .unset, .unset, .unset, .unset, .unset, .unset, .unset, .unset, .unset] [(.ref b138)])) _
    refine XS.dup X156.here hx rfl (hb hby at_369) rfl rfl ?_
    show Steps p.tables e below (T156.setTop (mkF m 370 #[.val (.int p1), .val (.int p2), .val (.long q1), .second, .val (.ref b1), .unset, .unset, .unset, .unset, .unset, .unset, .unset, .unset, .unset] [(.ref b138), (.ref b138)])) _
    refine XS.bipush X156.here hx rfl (hb hby at_370) ?_
    show Steps p.tables e below (T156.setTop (mkF m 372 #[.val (.int p1), .val (.int p2), .val (.long q1), .second, .val (.ref b1), .unset, .unset, .unset, .unset, .unset, .unset, .unset, .unset, .unset] [(.int (9 : Int32)), (.ref b138), (.ref b138)])) _
    refine XS.lconst X156.here hx rfl (hb hby at_372) ?_
    show Steps p.tables e below (T156.setTop (mkF m 373 #[.val (.int p1), .val (.int p2), .val (.long q1), .second, .val (.ref b1), .unset, .unset, .unset, .unset, .unset, .unset, .unset, .unset, .unset] [(.long (1 : Int64)), (.int (9 : Int32)), (.ref b138), (.ref b138)])) _
    refine st158 _ ?_
    exact kt
  clear pre157 st158 Vn158 X156 e156 V156 K156 O156 N156
  obtain ⟨T160, h160, lo160, X160, e160, O160, N160, K160, Vn160, st160⟩ := own_stJ X158 hx hZ e158 O158 N158 K158 V158 g_b138 (j := (10 : Int32)) (by decide) 10 rfl (Nat.le_of_ble_eq_true rfl) (g := (mkF m 378 #[.val (.int p1), .val (.int p2), .val (.long q1), .second, .val (.ref b1), .unset, .unset, .unset, .unset, .unset, .unset, .unset, .unset, .unset] [(.long (1 : Int64)), (.int (10 : Int32)), (.ref b138), (.ref b138)])) rfl rfl (hb hby at_378)
  have V160 : Arv Z h160 b138 k138 .long (45 : Int32) [(.long (-1 : Int64)), (.long (7 : Int64)), (.long (8191 : Int64)), (.long (1 : Int64)), (.long (1 : Int64)), (.long (1 : Int64)), (.long (8191 : Int64)), (.long (4294967295 : Int64)), (.long (1 : Int64)), (.long (1 : Int64)), (.long (1 : Int64)), (.long (0 : Int64)), (.long (0 : Int64)), (.long (0 : Int64)), (.long (0 : Int64)), (.long (0 : Int64)), (.long (0 : Int64)), (.long (0 : Int64)), (.long (0 : Int64)), (.long (0 : Int64)), (.long (0 : Int64)), (.long (0 : Int64)), (.long (0 : Int64)), (.long (0 : Int64)), (.long (0 : Int64)), (.long (0 : Int64)), (.long (0 : Int64)), (.long (0 : Int64)), (.long (0 : Int64)), (.long (0 : Int64)), (.long (0 : Int64)), (.long (0 : Int64)), (.long (0 : Int64)), (.long (0 : Int64)), (.long (0 : Int64)), (.long (0 : Int64)), (.long (0 : Int64)), (.long (0 : Int64)), (.long (0 : Int64)), (.long (0 : Int64)), (.long (0 : Int64)), (.long (0 : Int64)), (.long (0 : Int64)), (.long (0 : Int64)), (.long (0 : Int64))] (.long (0 : Int64)) := Vn160
  have pre161 : ∀ t, Steps p.tables e below (T160.setTop (mkF m 379 #[.val (.int p1), .val (.int p2), .val (.long q1), .second, .val (.ref b1), .unset, .unset, .unset, .unset, .unset, .unset, .unset, .unset, .unset] [(.ref b138)])) t → Steps p.tables e below (s₁.setTop (entryFrame m #[(.int p1), (.int p2), (.long q1)] maxLocals)) t := by
    intro t kt
    refine pre159 _ ?_
    show Steps p.tables e below (T158.setTop (mkF m 374 #[.val (.int p1), .val (.int p2), .val (.long q1), .second, .val (.ref b1), .unset, .unset, .unset, .unset, .unset, .unset, .unset, .unset, .unset] [(.ref b138)])) _
    refine XS.dup X158.here hx rfl (hb hby at_374) rfl rfl ?_
    show Steps p.tables e below (T158.setTop (mkF m 375 #[.val (.int p1), .val (.int p2), .val (.long q1), .second, .val (.ref b1), .unset, .unset, .unset, .unset, .unset, .unset, .unset, .unset, .unset] [(.ref b138), (.ref b138)])) _
    refine XS.bipush X158.here hx rfl (hb hby at_375) ?_
    show Steps p.tables e below (T158.setTop (mkF m 377 #[.val (.int p1), .val (.int p2), .val (.long q1), .second, .val (.ref b1), .unset, .unset, .unset, .unset, .unset, .unset, .unset, .unset, .unset] [(.int (10 : Int32)), (.ref b138), (.ref b138)])) _
    refine XS.lconst X158.here hx rfl (hb hby at_377) ?_
    show Steps p.tables e below (T158.setTop (mkF m 378 #[.val (.int p1), .val (.int p2), .val (.long q1), .second, .val (.ref b1), .unset, .unset, .unset, .unset, .unset, .unset, .unset, .unset, .unset] [(.long (1 : Int64)), (.int (10 : Int32)), (.ref b138), (.ref b138)])) _
    refine st160 _ ?_
    exact kt
  clear pre159 st160 Vn160 X158 e158 V158 K158 O158 N158
  obtain ⟨T162, h162, lo162, X162, e162, O162, N162, K162, Vn162, st162⟩ := own_stJ X160 hx hZ e160 O160 N160 K160 V160 g_b138 (j := (11 : Int32)) (by decide) 11 rfl (Nat.le_of_ble_eq_true rfl) (g := (mkF m 383 #[.val (.int p1), .val (.int p2), .val (.long q1), .second, .val (.ref b1), .unset, .unset, .unset, .unset, .unset, .unset, .unset, .unset, .unset] [(.long (1 : Int64)), (.int (11 : Int32)), (.ref b138), (.ref b138)])) rfl rfl (hb hby at_383)
  have V162 : Arv Z h162 b138 k138 .long (45 : Int32) [(.long (-1 : Int64)), (.long (7 : Int64)), (.long (8191 : Int64)), (.long (1 : Int64)), (.long (1 : Int64)), (.long (1 : Int64)), (.long (8191 : Int64)), (.long (4294967295 : Int64)), (.long (1 : Int64)), (.long (1 : Int64)), (.long (1 : Int64)), (.long (1 : Int64)), (.long (0 : Int64)), (.long (0 : Int64)), (.long (0 : Int64)), (.long (0 : Int64)), (.long (0 : Int64)), (.long (0 : Int64)), (.long (0 : Int64)), (.long (0 : Int64)), (.long (0 : Int64)), (.long (0 : Int64)), (.long (0 : Int64)), (.long (0 : Int64)), (.long (0 : Int64)), (.long (0 : Int64)), (.long (0 : Int64)), (.long (0 : Int64)), (.long (0 : Int64)), (.long (0 : Int64)), (.long (0 : Int64)), (.long (0 : Int64)), (.long (0 : Int64)), (.long (0 : Int64)), (.long (0 : Int64)), (.long (0 : Int64)), (.long (0 : Int64)), (.long (0 : Int64)), (.long (0 : Int64)), (.long (0 : Int64)), (.long (0 : Int64)), (.long (0 : Int64)), (.long (0 : Int64)), (.long (0 : Int64)), (.long (0 : Int64))] (.long (0 : Int64)) := Vn162
  have pre163 : ∀ t, Steps p.tables e below (T162.setTop (mkF m 384 #[.val (.int p1), .val (.int p2), .val (.long q1), .second, .val (.ref b1), .unset, .unset, .unset, .unset, .unset, .unset, .unset, .unset, .unset] [(.ref b138)])) t → Steps p.tables e below (s₁.setTop (entryFrame m #[(.int p1), (.int p2), (.long q1)] maxLocals)) t := by
    intro t kt
    refine pre161 _ ?_
    show Steps p.tables e below (T160.setTop (mkF m 379 #[.val (.int p1), .val (.int p2), .val (.long q1), .second, .val (.ref b1), .unset, .unset, .unset, .unset, .unset, .unset, .unset, .unset, .unset] [(.ref b138)])) _
    refine XS.dup X160.here hx rfl (hb hby at_379) rfl rfl ?_
    show Steps p.tables e below (T160.setTop (mkF m 380 #[.val (.int p1), .val (.int p2), .val (.long q1), .second, .val (.ref b1), .unset, .unset, .unset, .unset, .unset, .unset, .unset, .unset, .unset] [(.ref b138), (.ref b138)])) _
    refine XS.bipush X160.here hx rfl (hb hby at_380) ?_
    show Steps p.tables e below (T160.setTop (mkF m 382 #[.val (.int p1), .val (.int p2), .val (.long q1), .second, .val (.ref b1), .unset, .unset, .unset, .unset, .unset, .unset, .unset, .unset, .unset] [(.int (11 : Int32)), (.ref b138), (.ref b138)])) _
    refine XS.lconst X160.here hx rfl (hb hby at_382) ?_
    show Steps p.tables e below (T160.setTop (mkF m 383 #[.val (.int p1), .val (.int p2), .val (.long q1), .second, .val (.ref b1), .unset, .unset, .unset, .unset, .unset, .unset, .unset, .unset, .unset] [(.long (1 : Int64)), (.int (11 : Int32)), (.ref b138), (.ref b138)])) _
    refine st162 _ ?_
    exact kt
  clear pre161 st162 Vn162 X160 e160 V160 K160 O160 N160
  obtain ⟨T164, h164, lo164, X164, e164, O164, N164, K164, Vn164, st164⟩ := own_stJ X162 hx hZ e162 O162 N162 K162 V162 g_b138 (j := (12 : Int32)) (by decide) 12 rfl (Nat.le_of_ble_eq_true rfl) (g := (mkF m 388 #[.val (.int p1), .val (.int p2), .val (.long q1), .second, .val (.ref b1), .unset, .unset, .unset, .unset, .unset, .unset, .unset, .unset, .unset] [(.long (1 : Int64)), (.int (12 : Int32)), (.ref b138), (.ref b138)])) rfl rfl (hb hby at_388)
  have V164 : Arv Z h164 b138 k138 .long (45 : Int32) [(.long (-1 : Int64)), (.long (7 : Int64)), (.long (8191 : Int64)), (.long (1 : Int64)), (.long (1 : Int64)), (.long (1 : Int64)), (.long (8191 : Int64)), (.long (4294967295 : Int64)), (.long (1 : Int64)), (.long (1 : Int64)), (.long (1 : Int64)), (.long (1 : Int64)), (.long (1 : Int64)), (.long (0 : Int64)), (.long (0 : Int64)), (.long (0 : Int64)), (.long (0 : Int64)), (.long (0 : Int64)), (.long (0 : Int64)), (.long (0 : Int64)), (.long (0 : Int64)), (.long (0 : Int64)), (.long (0 : Int64)), (.long (0 : Int64)), (.long (0 : Int64)), (.long (0 : Int64)), (.long (0 : Int64)), (.long (0 : Int64)), (.long (0 : Int64)), (.long (0 : Int64)), (.long (0 : Int64)), (.long (0 : Int64)), (.long (0 : Int64)), (.long (0 : Int64)), (.long (0 : Int64)), (.long (0 : Int64)), (.long (0 : Int64)), (.long (0 : Int64)), (.long (0 : Int64)), (.long (0 : Int64)), (.long (0 : Int64)), (.long (0 : Int64)), (.long (0 : Int64)), (.long (0 : Int64)), (.long (0 : Int64))] (.long (0 : Int64)) := Vn164
  have pre165 : ∀ t, Steps p.tables e below (T164.setTop (mkF m 389 #[.val (.int p1), .val (.int p2), .val (.long q1), .second, .val (.ref b1), .unset, .unset, .unset, .unset, .unset, .unset, .unset, .unset, .unset] [(.ref b138)])) t → Steps p.tables e below (s₁.setTop (entryFrame m #[(.int p1), (.int p2), (.long q1)] maxLocals)) t := by
    intro t kt
    refine pre163 _ ?_
    show Steps p.tables e below (T162.setTop (mkF m 384 #[.val (.int p1), .val (.int p2), .val (.long q1), .second, .val (.ref b1), .unset, .unset, .unset, .unset, .unset, .unset, .unset, .unset, .unset] [(.ref b138)])) _
    refine XS.dup X162.here hx rfl (hb hby at_384) rfl rfl ?_
    show Steps p.tables e below (T162.setTop (mkF m 385 #[.val (.int p1), .val (.int p2), .val (.long q1), .second, .val (.ref b1), .unset, .unset, .unset, .unset, .unset, .unset, .unset, .unset, .unset] [(.ref b138), (.ref b138)])) _
    refine XS.bipush X162.here hx rfl (hb hby at_385) ?_
    show Steps p.tables e below (T162.setTop (mkF m 387 #[.val (.int p1), .val (.int p2), .val (.long q1), .second, .val (.ref b1), .unset, .unset, .unset, .unset, .unset, .unset, .unset, .unset, .unset] [(.int (12 : Int32)), (.ref b138), (.ref b138)])) _
    refine XS.lconst X162.here hx rfl (hb hby at_387) ?_
    show Steps p.tables e below (T162.setTop (mkF m 388 #[.val (.int p1), .val (.int p2), .val (.long q1), .second, .val (.ref b1), .unset, .unset, .unset, .unset, .unset, .unset, .unset, .unset, .unset] [(.long (1 : Int64)), (.int (12 : Int32)), (.ref b138), (.ref b138)])) _
    refine st164 _ ?_
    exact kt
  clear pre163 st164 Vn164 X162 e162 V162 K162 O162 N162
  obtain ⟨T166, h166, lo166, X166, e166, O166, N166, K166, Vn166, st166⟩ := own_stJ X164 hx hZ e164 O164 N164 K164 V164 g_b138 (j := (13 : Int32)) (by decide) 13 rfl (Nat.le_of_ble_eq_true rfl) (g := (mkF m 393 #[.val (.int p1), .val (.int p2), .val (.long q1), .second, .val (.ref b1), .unset, .unset, .unset, .unset, .unset, .unset, .unset, .unset, .unset] [(.long (1 : Int64)), (.int (13 : Int32)), (.ref b138), (.ref b138)])) rfl rfl (hb hby at_393)
  have V166 : Arv Z h166 b138 k138 .long (45 : Int32) [(.long (-1 : Int64)), (.long (7 : Int64)), (.long (8191 : Int64)), (.long (1 : Int64)), (.long (1 : Int64)), (.long (1 : Int64)), (.long (8191 : Int64)), (.long (4294967295 : Int64)), (.long (1 : Int64)), (.long (1 : Int64)), (.long (1 : Int64)), (.long (1 : Int64)), (.long (1 : Int64)), (.long (1 : Int64)), (.long (0 : Int64)), (.long (0 : Int64)), (.long (0 : Int64)), (.long (0 : Int64)), (.long (0 : Int64)), (.long (0 : Int64)), (.long (0 : Int64)), (.long (0 : Int64)), (.long (0 : Int64)), (.long (0 : Int64)), (.long (0 : Int64)), (.long (0 : Int64)), (.long (0 : Int64)), (.long (0 : Int64)), (.long (0 : Int64)), (.long (0 : Int64)), (.long (0 : Int64)), (.long (0 : Int64)), (.long (0 : Int64)), (.long (0 : Int64)), (.long (0 : Int64)), (.long (0 : Int64)), (.long (0 : Int64)), (.long (0 : Int64)), (.long (0 : Int64)), (.long (0 : Int64)), (.long (0 : Int64)), (.long (0 : Int64)), (.long (0 : Int64)), (.long (0 : Int64)), (.long (0 : Int64))] (.long (0 : Int64)) := Vn166
  have pre167 : ∀ t, Steps p.tables e below (T166.setTop (mkF m 394 #[.val (.int p1), .val (.int p2), .val (.long q1), .second, .val (.ref b1), .unset, .unset, .unset, .unset, .unset, .unset, .unset, .unset, .unset] [(.ref b138)])) t → Steps p.tables e below (s₁.setTop (entryFrame m #[(.int p1), (.int p2), (.long q1)] maxLocals)) t := by
    intro t kt
    refine pre165 _ ?_
    show Steps p.tables e below (T164.setTop (mkF m 389 #[.val (.int p1), .val (.int p2), .val (.long q1), .second, .val (.ref b1), .unset, .unset, .unset, .unset, .unset, .unset, .unset, .unset, .unset] [(.ref b138)])) _
    refine XS.dup X164.here hx rfl (hb hby at_389) rfl rfl ?_
    show Steps p.tables e below (T164.setTop (mkF m 390 #[.val (.int p1), .val (.int p2), .val (.long q1), .second, .val (.ref b1), .unset, .unset, .unset, .unset, .unset, .unset, .unset, .unset, .unset] [(.ref b138), (.ref b138)])) _
    refine XS.bipush X164.here hx rfl (hb hby at_390) ?_
    show Steps p.tables e below (T164.setTop (mkF m 392 #[.val (.int p1), .val (.int p2), .val (.long q1), .second, .val (.ref b1), .unset, .unset, .unset, .unset, .unset, .unset, .unset, .unset, .unset] [(.int (13 : Int32)), (.ref b138), (.ref b138)])) _
    refine XS.lconst X164.here hx rfl (hb hby at_392) ?_
    show Steps p.tables e below (T164.setTop (mkF m 393 #[.val (.int p1), .val (.int p2), .val (.long q1), .second, .val (.ref b1), .unset, .unset, .unset, .unset, .unset, .unset, .unset, .unset, .unset] [(.long (1 : Int64)), (.int (13 : Int32)), (.ref b138), (.ref b138)])) _
    refine st166 _ ?_
    exact kt
  clear pre165 st166 Vn166 X164 e164 V164 K164 O164 N164
  obtain ⟨T168, h168, lo168, X168, e168, O168, N168, K168, Vn168, st168⟩ := own_stJ X166 hx hZ e166 O166 N166 K166 V166 g_b138 (j := (14 : Int32)) (by decide) 14 rfl (Nat.le_of_ble_eq_true rfl) (g := (mkF m 398 #[.val (.int p1), .val (.int p2), .val (.long q1), .second, .val (.ref b1), .unset, .unset, .unset, .unset, .unset, .unset, .unset, .unset, .unset] [(.long (1 : Int64)), (.int (14 : Int32)), (.ref b138), (.ref b138)])) rfl rfl (hb hby at_398)
  have V168 : Arv Z h168 b138 k138 .long (45 : Int32) [(.long (-1 : Int64)), (.long (7 : Int64)), (.long (8191 : Int64)), (.long (1 : Int64)), (.long (1 : Int64)), (.long (1 : Int64)), (.long (8191 : Int64)), (.long (4294967295 : Int64)), (.long (1 : Int64)), (.long (1 : Int64)), (.long (1 : Int64)), (.long (1 : Int64)), (.long (1 : Int64)), (.long (1 : Int64)), (.long (1 : Int64)), (.long (0 : Int64)), (.long (0 : Int64)), (.long (0 : Int64)), (.long (0 : Int64)), (.long (0 : Int64)), (.long (0 : Int64)), (.long (0 : Int64)), (.long (0 : Int64)), (.long (0 : Int64)), (.long (0 : Int64)), (.long (0 : Int64)), (.long (0 : Int64)), (.long (0 : Int64)), (.long (0 : Int64)), (.long (0 : Int64)), (.long (0 : Int64)), (.long (0 : Int64)), (.long (0 : Int64)), (.long (0 : Int64)), (.long (0 : Int64)), (.long (0 : Int64)), (.long (0 : Int64)), (.long (0 : Int64)), (.long (0 : Int64)), (.long (0 : Int64)), (.long (0 : Int64)), (.long (0 : Int64)), (.long (0 : Int64)), (.long (0 : Int64)), (.long (0 : Int64))] (.long (0 : Int64)) := Vn168
  have pre169 : ∀ t, Steps p.tables e below (T168.setTop (mkF m 399 #[.val (.int p1), .val (.int p2), .val (.long q1), .second, .val (.ref b1), .unset, .unset, .unset, .unset, .unset, .unset, .unset, .unset, .unset] [(.ref b138)])) t → Steps p.tables e below (s₁.setTop (entryFrame m #[(.int p1), (.int p2), (.long q1)] maxLocals)) t := by
    intro t kt
    refine pre167 _ ?_
    show Steps p.tables e below (T166.setTop (mkF m 394 #[.val (.int p1), .val (.int p2), .val (.long q1), .second, .val (.ref b1), .unset, .unset, .unset, .unset, .unset, .unset, .unset, .unset, .unset] [(.ref b138)])) _
    refine XS.dup X166.here hx rfl (hb hby at_394) rfl rfl ?_
    show Steps p.tables e below (T166.setTop (mkF m 395 #[.val (.int p1), .val (.int p2), .val (.long q1), .second, .val (.ref b1), .unset, .unset, .unset, .unset, .unset, .unset, .unset, .unset, .unset] [(.ref b138), (.ref b138)])) _
    refine XS.bipush X166.here hx rfl (hb hby at_395) ?_
    show Steps p.tables e below (T166.setTop (mkF m 397 #[.val (.int p1), .val (.int p2), .val (.long q1), .second, .val (.ref b1), .unset, .unset, .unset, .unset, .unset, .unset, .unset, .unset, .unset] [(.int (14 : Int32)), (.ref b138), (.ref b138)])) _
    refine XS.lconst X166.here hx rfl (hb hby at_397) ?_
    show Steps p.tables e below (T166.setTop (mkF m 398 #[.val (.int p1), .val (.int p2), .val (.long q1), .second, .val (.ref b1), .unset, .unset, .unset, .unset, .unset, .unset, .unset, .unset, .unset] [(.long (1 : Int64)), (.int (14 : Int32)), (.ref b138), (.ref b138)])) _
    refine st168 _ ?_
    exact kt
  clear pre167 st168 Vn168 X166 e166 V166 K166 O166 N166
  obtain ⟨T170, h170, lo170, X170, e170, O170, N170, K170, Vn170, st170⟩ := own_stJ X168 hx hZ e168 O168 N168 K168 V168 g_b138 (j := (15 : Int32)) (by decide) 15 rfl (Nat.le_of_ble_eq_true rfl) (g := (mkF m 403 #[.val (.int p1), .val (.int p2), .val (.long q1), .second, .val (.ref b1), .unset, .unset, .unset, .unset, .unset, .unset, .unset, .unset, .unset] [(.long (1 : Int64)), (.int (15 : Int32)), (.ref b138), (.ref b138)])) rfl rfl (hb hby at_403)
  have V170 : Arv Z h170 b138 k138 .long (45 : Int32) [(.long (-1 : Int64)), (.long (7 : Int64)), (.long (8191 : Int64)), (.long (1 : Int64)), (.long (1 : Int64)), (.long (1 : Int64)), (.long (8191 : Int64)), (.long (4294967295 : Int64)), (.long (1 : Int64)), (.long (1 : Int64)), (.long (1 : Int64)), (.long (1 : Int64)), (.long (1 : Int64)), (.long (1 : Int64)), (.long (1 : Int64)), (.long (1 : Int64)), (.long (0 : Int64)), (.long (0 : Int64)), (.long (0 : Int64)), (.long (0 : Int64)), (.long (0 : Int64)), (.long (0 : Int64)), (.long (0 : Int64)), (.long (0 : Int64)), (.long (0 : Int64)), (.long (0 : Int64)), (.long (0 : Int64)), (.long (0 : Int64)), (.long (0 : Int64)), (.long (0 : Int64)), (.long (0 : Int64)), (.long (0 : Int64)), (.long (0 : Int64)), (.long (0 : Int64)), (.long (0 : Int64)), (.long (0 : Int64)), (.long (0 : Int64)), (.long (0 : Int64)), (.long (0 : Int64)), (.long (0 : Int64)), (.long (0 : Int64)), (.long (0 : Int64)), (.long (0 : Int64)), (.long (0 : Int64)), (.long (0 : Int64))] (.long (0 : Int64)) := Vn170
  have pre171 : ∀ t, Steps p.tables e below (T170.setTop (mkF m 404 #[.val (.int p1), .val (.int p2), .val (.long q1), .second, .val (.ref b1), .unset, .unset, .unset, .unset, .unset, .unset, .unset, .unset, .unset] [(.ref b138)])) t → Steps p.tables e below (s₁.setTop (entryFrame m #[(.int p1), (.int p2), (.long q1)] maxLocals)) t := by
    intro t kt
    refine pre169 _ ?_
    show Steps p.tables e below (T168.setTop (mkF m 399 #[.val (.int p1), .val (.int p2), .val (.long q1), .second, .val (.ref b1), .unset, .unset, .unset, .unset, .unset, .unset, .unset, .unset, .unset] [(.ref b138)])) _
    refine XS.dup X168.here hx rfl (hb hby at_399) rfl rfl ?_
    show Steps p.tables e below (T168.setTop (mkF m 400 #[.val (.int p1), .val (.int p2), .val (.long q1), .second, .val (.ref b1), .unset, .unset, .unset, .unset, .unset, .unset, .unset, .unset, .unset] [(.ref b138), (.ref b138)])) _
    refine XS.bipush X168.here hx rfl (hb hby at_400) ?_
    show Steps p.tables e below (T168.setTop (mkF m 402 #[.val (.int p1), .val (.int p2), .val (.long q1), .second, .val (.ref b1), .unset, .unset, .unset, .unset, .unset, .unset, .unset, .unset, .unset] [(.int (15 : Int32)), (.ref b138), (.ref b138)])) _
    refine XS.lconst X168.here hx rfl (hb hby at_402) ?_
    show Steps p.tables e below (T168.setTop (mkF m 403 #[.val (.int p1), .val (.int p2), .val (.long q1), .second, .val (.ref b1), .unset, .unset, .unset, .unset, .unset, .unset, .unset, .unset, .unset] [(.long (1 : Int64)), (.int (15 : Int32)), (.ref b138), (.ref b138)])) _
    refine st170 _ ?_
    exact kt
  clear pre169 st170 Vn170 X168 e168 V168 K168 O168 N168
  obtain ⟨T172, h172, lo172, X172, e172, O172, N172, K172, Vn172, st172⟩ := own_stJ X170 hx hZ e170 O170 N170 K170 V170 g_b138 (j := (16 : Int32)) (by decide) 16 rfl (Nat.le_of_ble_eq_true rfl) (g := (mkF m 408 #[.val (.int p1), .val (.int p2), .val (.long q1), .second, .val (.ref b1), .unset, .unset, .unset, .unset, .unset, .unset, .unset, .unset, .unset] [(.long (1 : Int64)), (.int (16 : Int32)), (.ref b138), (.ref b138)])) rfl rfl (hb hby at_408)
  have V172 : Arv Z h172 b138 k138 .long (45 : Int32) [(.long (-1 : Int64)), (.long (7 : Int64)), (.long (8191 : Int64)), (.long (1 : Int64)), (.long (1 : Int64)), (.long (1 : Int64)), (.long (8191 : Int64)), (.long (4294967295 : Int64)), (.long (1 : Int64)), (.long (1 : Int64)), (.long (1 : Int64)), (.long (1 : Int64)), (.long (1 : Int64)), (.long (1 : Int64)), (.long (1 : Int64)), (.long (1 : Int64)), (.long (1 : Int64)), (.long (0 : Int64)), (.long (0 : Int64)), (.long (0 : Int64)), (.long (0 : Int64)), (.long (0 : Int64)), (.long (0 : Int64)), (.long (0 : Int64)), (.long (0 : Int64)), (.long (0 : Int64)), (.long (0 : Int64)), (.long (0 : Int64)), (.long (0 : Int64)), (.long (0 : Int64)), (.long (0 : Int64)), (.long (0 : Int64)), (.long (0 : Int64)), (.long (0 : Int64)), (.long (0 : Int64)), (.long (0 : Int64)), (.long (0 : Int64)), (.long (0 : Int64)), (.long (0 : Int64)), (.long (0 : Int64)), (.long (0 : Int64)), (.long (0 : Int64)), (.long (0 : Int64)), (.long (0 : Int64)), (.long (0 : Int64))] (.long (0 : Int64)) := Vn172
  have pre173 : ∀ t, Steps p.tables e below (T172.setTop (mkF m 409 #[.val (.int p1), .val (.int p2), .val (.long q1), .second, .val (.ref b1), .unset, .unset, .unset, .unset, .unset, .unset, .unset, .unset, .unset] [(.ref b138)])) t → Steps p.tables e below (s₁.setTop (entryFrame m #[(.int p1), (.int p2), (.long q1)] maxLocals)) t := by
    intro t kt
    refine pre171 _ ?_
    show Steps p.tables e below (T170.setTop (mkF m 404 #[.val (.int p1), .val (.int p2), .val (.long q1), .second, .val (.ref b1), .unset, .unset, .unset, .unset, .unset, .unset, .unset, .unset, .unset] [(.ref b138)])) _
    refine XS.dup X170.here hx rfl (hb hby at_404) rfl rfl ?_
    show Steps p.tables e below (T170.setTop (mkF m 405 #[.val (.int p1), .val (.int p2), .val (.long q1), .second, .val (.ref b1), .unset, .unset, .unset, .unset, .unset, .unset, .unset, .unset, .unset] [(.ref b138), (.ref b138)])) _
    refine XS.bipush X170.here hx rfl (hb hby at_405) ?_
    show Steps p.tables e below (T170.setTop (mkF m 407 #[.val (.int p1), .val (.int p2), .val (.long q1), .second, .val (.ref b1), .unset, .unset, .unset, .unset, .unset, .unset, .unset, .unset, .unset] [(.int (16 : Int32)), (.ref b138), (.ref b138)])) _
    refine XS.lconst X170.here hx rfl (hb hby at_407) ?_
    show Steps p.tables e below (T170.setTop (mkF m 408 #[.val (.int p1), .val (.int p2), .val (.long q1), .second, .val (.ref b1), .unset, .unset, .unset, .unset, .unset, .unset, .unset, .unset, .unset] [(.long (1 : Int64)), (.int (16 : Int32)), (.ref b138), (.ref b138)])) _
    refine st172 _ ?_
    exact kt
  clear pre171 st172 Vn172 X170 e170 V170 K170 O170 N170
  obtain ⟨T174, h174, lo174, X174, e174, O174, N174, K174, Vn174, st174⟩ := own_stJ X172 hx hZ e172 O172 N172 K172 V172 g_b138 (j := (17 : Int32)) (by decide) 17 rfl (Nat.le_of_ble_eq_true rfl) (g := (mkF m 415 #[.val (.int p1), .val (.int p2), .val (.long q1), .second, .val (.ref b1), .unset, .unset, .unset, .unset, .unset, .unset, .unset, .unset, .unset] [(.long (7 : Int64)), (.int (17 : Int32)), (.ref b138), (.ref b138)])) rfl rfl (hb hby at_415)
  have V174 : Arv Z h174 b138 k138 .long (45 : Int32) [(.long (-1 : Int64)), (.long (7 : Int64)), (.long (8191 : Int64)), (.long (1 : Int64)), (.long (1 : Int64)), (.long (1 : Int64)), (.long (8191 : Int64)), (.long (4294967295 : Int64)), (.long (1 : Int64)), (.long (1 : Int64)), (.long (1 : Int64)), (.long (1 : Int64)), (.long (1 : Int64)), (.long (1 : Int64)), (.long (1 : Int64)), (.long (1 : Int64)), (.long (1 : Int64)), (.long (7 : Int64)), (.long (0 : Int64)), (.long (0 : Int64)), (.long (0 : Int64)), (.long (0 : Int64)), (.long (0 : Int64)), (.long (0 : Int64)), (.long (0 : Int64)), (.long (0 : Int64)), (.long (0 : Int64)), (.long (0 : Int64)), (.long (0 : Int64)), (.long (0 : Int64)), (.long (0 : Int64)), (.long (0 : Int64)), (.long (0 : Int64)), (.long (0 : Int64)), (.long (0 : Int64)), (.long (0 : Int64)), (.long (0 : Int64)), (.long (0 : Int64)), (.long (0 : Int64)), (.long (0 : Int64)), (.long (0 : Int64)), (.long (0 : Int64)), (.long (0 : Int64)), (.long (0 : Int64)), (.long (0 : Int64))] (.long (0 : Int64)) := Vn174
  have pre175 : ∀ t, Steps p.tables e below (T174.setTop (mkF m 416 #[.val (.int p1), .val (.int p2), .val (.long q1), .second, .val (.ref b1), .unset, .unset, .unset, .unset, .unset, .unset, .unset, .unset, .unset] [(.ref b138)])) t → Steps p.tables e below (s₁.setTop (entryFrame m #[(.int p1), (.int p2), (.long q1)] maxLocals)) t := by
    intro t kt
    refine pre173 _ ?_
    show Steps p.tables e below (T172.setTop (mkF m 409 #[.val (.int p1), .val (.int p2), .val (.long q1), .second, .val (.ref b1), .unset, .unset, .unset, .unset, .unset, .unset, .unset, .unset, .unset] [(.ref b138)])) _
    refine XS.dup X172.here hx rfl (hb hby at_409) rfl rfl ?_
    show Steps p.tables e below (T172.setTop (mkF m 410 #[.val (.int p1), .val (.int p2), .val (.long q1), .second, .val (.ref b1), .unset, .unset, .unset, .unset, .unset, .unset, .unset, .unset, .unset] [(.ref b138), (.ref b138)])) _
    refine XS.bipush X172.here hx rfl (hb hby at_410) ?_
    show Steps p.tables e below (T172.setTop (mkF m 412 #[.val (.int p1), .val (.int p2), .val (.long q1), .second, .val (.ref b1), .unset, .unset, .unset, .unset, .unset, .unset, .unset, .unset, .unset] [(.int (17 : Int32)), (.ref b138), (.ref b138)])) _
    refine X172.ldc2Long hx hown (mvT hZ (hw _ (List.mem_of_getElem? (i := 96) rfl))) (g := (mkF m 412 #[.val (.int p1), .val (.int p2), .val (.long q1), .second, .val (.ref b1), .unset, .unset, .unset, .unset, .unset, .unset, .unset, .unset, .unset] [(.int (17 : Int32)), (.ref b138), (.ref b138)])) rfl (hb hby at_412) _ ?_
    show Steps p.tables e below (T172.setTop (mkF m 415 #[.val (.int p1), .val (.int p2), .val (.long q1), .second, .val (.ref b1), .unset, .unset, .unset, .unset, .unset, .unset, .unset, .unset, .unset] [(.long (7 : Int64)), (.int (17 : Int32)), (.ref b138), (.ref b138)])) _
    refine st174 _ ?_
    exact kt
  clear pre173 st174 Vn174 X172 e172 V172 K172 O172 N172
  obtain ⟨T176, h176, lo176, X176, e176, O176, N176, K176, Vn176, st176⟩ := own_stJ X174 hx hZ e174 O174 N174 K174 V174 g_b138 (j := (18 : Int32)) (by decide) 18 rfl (Nat.le_of_ble_eq_true rfl) (g := (mkF m 422 #[.val (.int p1), .val (.int p2), .val (.long q1), .second, .val (.ref b1), .unset, .unset, .unset, .unset, .unset, .unset, .unset, .unset, .unset] [(.long (15 : Int64)), (.int (18 : Int32)), (.ref b138), (.ref b138)])) rfl rfl (hb hby at_422)
  have V176 : Arv Z h176 b138 k138 .long (45 : Int32) [(.long (-1 : Int64)), (.long (7 : Int64)), (.long (8191 : Int64)), (.long (1 : Int64)), (.long (1 : Int64)), (.long (1 : Int64)), (.long (8191 : Int64)), (.long (4294967295 : Int64)), (.long (1 : Int64)), (.long (1 : Int64)), (.long (1 : Int64)), (.long (1 : Int64)), (.long (1 : Int64)), (.long (1 : Int64)), (.long (1 : Int64)), (.long (1 : Int64)), (.long (1 : Int64)), (.long (7 : Int64)), (.long (15 : Int64)), (.long (0 : Int64)), (.long (0 : Int64)), (.long (0 : Int64)), (.long (0 : Int64)), (.long (0 : Int64)), (.long (0 : Int64)), (.long (0 : Int64)), (.long (0 : Int64)), (.long (0 : Int64)), (.long (0 : Int64)), (.long (0 : Int64)), (.long (0 : Int64)), (.long (0 : Int64)), (.long (0 : Int64)), (.long (0 : Int64)), (.long (0 : Int64)), (.long (0 : Int64)), (.long (0 : Int64)), (.long (0 : Int64)), (.long (0 : Int64)), (.long (0 : Int64)), (.long (0 : Int64)), (.long (0 : Int64)), (.long (0 : Int64)), (.long (0 : Int64)), (.long (0 : Int64))] (.long (0 : Int64)) := Vn176
  have pre177 : ∀ t, Steps p.tables e below (T176.setTop (mkF m 423 #[.val (.int p1), .val (.int p2), .val (.long q1), .second, .val (.ref b1), .unset, .unset, .unset, .unset, .unset, .unset, .unset, .unset, .unset] [(.ref b138)])) t → Steps p.tables e below (s₁.setTop (entryFrame m #[(.int p1), (.int p2), (.long q1)] maxLocals)) t := by
    intro t kt
    refine pre175 _ ?_
    show Steps p.tables e below (T174.setTop (mkF m 416 #[.val (.int p1), .val (.int p2), .val (.long q1), .second, .val (.ref b1), .unset, .unset, .unset, .unset, .unset, .unset, .unset, .unset, .unset] [(.ref b138)])) _
    refine XS.dup X174.here hx rfl (hb hby at_416) rfl rfl ?_
    show Steps p.tables e below (T174.setTop (mkF m 417 #[.val (.int p1), .val (.int p2), .val (.long q1), .second, .val (.ref b1), .unset, .unset, .unset, .unset, .unset, .unset, .unset, .unset, .unset] [(.ref b138), (.ref b138)])) _
    refine XS.bipush X174.here hx rfl (hb hby at_417) ?_
    show Steps p.tables e below (T174.setTop (mkF m 419 #[.val (.int p1), .val (.int p2), .val (.long q1), .second, .val (.ref b1), .unset, .unset, .unset, .unset, .unset, .unset, .unset, .unset, .unset] [(.int (18 : Int32)), (.ref b138), (.ref b138)])) _
    refine X174.ldc2Long hx hown (mvT hZ (hw _ (List.mem_of_getElem? (i := 99) rfl))) (g := (mkF m 419 #[.val (.int p1), .val (.int p2), .val (.long q1), .second, .val (.ref b1), .unset, .unset, .unset, .unset, .unset, .unset, .unset, .unset, .unset] [(.int (18 : Int32)), (.ref b138), (.ref b138)])) rfl (hb hby at_419) _ ?_
    show Steps p.tables e below (T174.setTop (mkF m 422 #[.val (.int p1), .val (.int p2), .val (.long q1), .second, .val (.ref b1), .unset, .unset, .unset, .unset, .unset, .unset, .unset, .unset, .unset] [(.long (15 : Int64)), (.int (18 : Int32)), (.ref b138), (.ref b138)])) _
    refine st176 _ ?_
    exact kt
  clear pre175 st176 Vn176 X174 e174 V174 K174 O174 N174
  obtain ⟨T178, h178, lo178, X178, e178, O178, N178, K178, Vn178, st178⟩ := own_stJ X176 hx hZ e176 O176 N176 K176 V176 g_b138 (j := (19 : Int32)) (by decide) 19 rfl (Nat.le_of_ble_eq_true rfl) (g := (mkF m 429 #[.val (.int p1), .val (.int p2), .val (.long q1), .second, .val (.ref b1), .unset, .unset, .unset, .unset, .unset, .unset, .unset, .unset, .unset] [(.long (255 : Int64)), (.int (19 : Int32)), (.ref b138), (.ref b138)])) rfl rfl (hb hby at_429)
  have V178 : Arv Z h178 b138 k138 .long (45 : Int32) [(.long (-1 : Int64)), (.long (7 : Int64)), (.long (8191 : Int64)), (.long (1 : Int64)), (.long (1 : Int64)), (.long (1 : Int64)), (.long (8191 : Int64)), (.long (4294967295 : Int64)), (.long (1 : Int64)), (.long (1 : Int64)), (.long (1 : Int64)), (.long (1 : Int64)), (.long (1 : Int64)), (.long (1 : Int64)), (.long (1 : Int64)), (.long (1 : Int64)), (.long (1 : Int64)), (.long (7 : Int64)), (.long (15 : Int64)), (.long (255 : Int64)), (.long (0 : Int64)), (.long (0 : Int64)), (.long (0 : Int64)), (.long (0 : Int64)), (.long (0 : Int64)), (.long (0 : Int64)), (.long (0 : Int64)), (.long (0 : Int64)), (.long (0 : Int64)), (.long (0 : Int64)), (.long (0 : Int64)), (.long (0 : Int64)), (.long (0 : Int64)), (.long (0 : Int64)), (.long (0 : Int64)), (.long (0 : Int64)), (.long (0 : Int64)), (.long (0 : Int64)), (.long (0 : Int64)), (.long (0 : Int64)), (.long (0 : Int64)), (.long (0 : Int64)), (.long (0 : Int64)), (.long (0 : Int64)), (.long (0 : Int64))] (.long (0 : Int64)) := Vn178
  have pre179 : ∀ t, Steps p.tables e below (T178.setTop (mkF m 430 #[.val (.int p1), .val (.int p2), .val (.long q1), .second, .val (.ref b1), .unset, .unset, .unset, .unset, .unset, .unset, .unset, .unset, .unset] [(.ref b138)])) t → Steps p.tables e below (s₁.setTop (entryFrame m #[(.int p1), (.int p2), (.long q1)] maxLocals)) t := by
    intro t kt
    refine pre177 _ ?_
    show Steps p.tables e below (T176.setTop (mkF m 423 #[.val (.int p1), .val (.int p2), .val (.long q1), .second, .val (.ref b1), .unset, .unset, .unset, .unset, .unset, .unset, .unset, .unset, .unset] [(.ref b138)])) _
    refine XS.dup X176.here hx rfl (hb hby at_423) rfl rfl ?_
    show Steps p.tables e below (T176.setTop (mkF m 424 #[.val (.int p1), .val (.int p2), .val (.long q1), .second, .val (.ref b1), .unset, .unset, .unset, .unset, .unset, .unset, .unset, .unset, .unset] [(.ref b138), (.ref b138)])) _
    refine XS.bipush X176.here hx rfl (hb hby at_424) ?_
    show Steps p.tables e below (T176.setTop (mkF m 426 #[.val (.int p1), .val (.int p2), .val (.long q1), .second, .val (.ref b1), .unset, .unset, .unset, .unset, .unset, .unset, .unset, .unset, .unset] [(.int (19 : Int32)), (.ref b138), (.ref b138)])) _
    refine X176.ldc2Long hx hown (mvT hZ (hw _ (List.mem_of_getElem? (i := 100) rfl))) (g := (mkF m 426 #[.val (.int p1), .val (.int p2), .val (.long q1), .second, .val (.ref b1), .unset, .unset, .unset, .unset, .unset, .unset, .unset, .unset, .unset] [(.int (19 : Int32)), (.ref b138), (.ref b138)])) rfl (hb hby at_426) _ ?_
    show Steps p.tables e below (T176.setTop (mkF m 429 #[.val (.int p1), .val (.int p2), .val (.long q1), .second, .val (.ref b1), .unset, .unset, .unset, .unset, .unset, .unset, .unset, .unset, .unset] [(.long (255 : Int64)), (.int (19 : Int32)), (.ref b138), (.ref b138)])) _
    refine st178 _ ?_
    exact kt
  clear pre177 st178 Vn178 X176 e176 V176 K176 O176 N176
  obtain ⟨T180, h180, lo180, X180, e180, O180, N180, K180, Vn180, st180⟩ := own_stJ X178 hx hZ e178 O178 N178 K178 V178 g_b138 (j := (20 : Int32)) (by decide) 20 rfl (Nat.le_of_ble_eq_true rfl) (g := (mkF m 436 #[.val (.int p1), .val (.int p2), .val (.long q1), .second, .val (.ref b1), .unset, .unset, .unset, .unset, .unset, .unset, .unset, .unset, .unset] [(.long (255 : Int64)), (.int (20 : Int32)), (.ref b138), (.ref b138)])) rfl rfl (hb hby at_436)
  have V180 : Arv Z h180 b138 k138 .long (45 : Int32) [(.long (-1 : Int64)), (.long (7 : Int64)), (.long (8191 : Int64)), (.long (1 : Int64)), (.long (1 : Int64)), (.long (1 : Int64)), (.long (8191 : Int64)), (.long (4294967295 : Int64)), (.long (1 : Int64)), (.long (1 : Int64)), (.long (1 : Int64)), (.long (1 : Int64)), (.long (1 : Int64)), (.long (1 : Int64)), (.long (1 : Int64)), (.long (1 : Int64)), (.long (1 : Int64)), (.long (7 : Int64)), (.long (15 : Int64)), (.long (255 : Int64)), (.long (255 : Int64)), (.long (0 : Int64)), (.long (0 : Int64)), (.long (0 : Int64)), (.long (0 : Int64)), (.long (0 : Int64)), (.long (0 : Int64)), (.long (0 : Int64)), (.long (0 : Int64)), (.long (0 : Int64)), (.long (0 : Int64)), (.long (0 : Int64)), (.long (0 : Int64)), (.long (0 : Int64)), (.long (0 : Int64)), (.long (0 : Int64)), (.long (0 : Int64)), (.long (0 : Int64)), (.long (0 : Int64)), (.long (0 : Int64)), (.long (0 : Int64)), (.long (0 : Int64)), (.long (0 : Int64)), (.long (0 : Int64)), (.long (0 : Int64))] (.long (0 : Int64)) := Vn180
  have pre181 : ∀ t, Steps p.tables e below (T180.setTop (mkF m 437 #[.val (.int p1), .val (.int p2), .val (.long q1), .second, .val (.ref b1), .unset, .unset, .unset, .unset, .unset, .unset, .unset, .unset, .unset] [(.ref b138)])) t → Steps p.tables e below (s₁.setTop (entryFrame m #[(.int p1), (.int p2), (.long q1)] maxLocals)) t := by
    intro t kt
    refine pre179 _ ?_
    show Steps p.tables e below (T178.setTop (mkF m 430 #[.val (.int p1), .val (.int p2), .val (.long q1), .second, .val (.ref b1), .unset, .unset, .unset, .unset, .unset, .unset, .unset, .unset, .unset] [(.ref b138)])) _
    refine XS.dup X178.here hx rfl (hb hby at_430) rfl rfl ?_
    show Steps p.tables e below (T178.setTop (mkF m 431 #[.val (.int p1), .val (.int p2), .val (.long q1), .second, .val (.ref b1), .unset, .unset, .unset, .unset, .unset, .unset, .unset, .unset, .unset] [(.ref b138), (.ref b138)])) _
    refine XS.bipush X178.here hx rfl (hb hby at_431) ?_
    show Steps p.tables e below (T178.setTop (mkF m 433 #[.val (.int p1), .val (.int p2), .val (.long q1), .second, .val (.ref b1), .unset, .unset, .unset, .unset, .unset, .unset, .unset, .unset, .unset] [(.int (20 : Int32)), (.ref b138), (.ref b138)])) _
    refine X178.ldc2Long hx hown (mvT hZ (hw _ (List.mem_of_getElem? (i := 100) rfl))) (g := (mkF m 433 #[.val (.int p1), .val (.int p2), .val (.long q1), .second, .val (.ref b1), .unset, .unset, .unset, .unset, .unset, .unset, .unset, .unset, .unset] [(.int (20 : Int32)), (.ref b138), (.ref b138)])) rfl (hb hby at_433) _ ?_
    show Steps p.tables e below (T178.setTop (mkF m 436 #[.val (.int p1), .val (.int p2), .val (.long q1), .second, .val (.ref b1), .unset, .unset, .unset, .unset, .unset, .unset, .unset, .unset, .unset] [(.long (255 : Int64)), (.int (20 : Int32)), (.ref b138), (.ref b138)])) _
    refine st180 _ ?_
    exact kt
  clear pre179 st180 Vn180 X178 e178 V178 K178 O178 N178
  obtain ⟨T182, h182, lo182, X182, e182, O182, N182, K182, Vn182, st182⟩ := own_stJ X180 hx hZ e180 O180 N180 K180 V180 g_b138 (j := (21 : Int32)) (by decide) 21 rfl (Nat.le_of_ble_eq_true rfl) (g := (mkF m 443 #[.val (.int p1), .val (.int p2), .val (.long q1), .second, .val (.ref b1), .unset, .unset, .unset, .unset, .unset, .unset, .unset, .unset, .unset] [(.long (15 : Int64)), (.int (21 : Int32)), (.ref b138), (.ref b138)])) rfl rfl (hb hby at_443)
  have V182 : Arv Z h182 b138 k138 .long (45 : Int32) [(.long (-1 : Int64)), (.long (7 : Int64)), (.long (8191 : Int64)), (.long (1 : Int64)), (.long (1 : Int64)), (.long (1 : Int64)), (.long (8191 : Int64)), (.long (4294967295 : Int64)), (.long (1 : Int64)), (.long (1 : Int64)), (.long (1 : Int64)), (.long (1 : Int64)), (.long (1 : Int64)), (.long (1 : Int64)), (.long (1 : Int64)), (.long (1 : Int64)), (.long (1 : Int64)), (.long (7 : Int64)), (.long (15 : Int64)), (.long (255 : Int64)), (.long (255 : Int64)), (.long (15 : Int64)), (.long (0 : Int64)), (.long (0 : Int64)), (.long (0 : Int64)), (.long (0 : Int64)), (.long (0 : Int64)), (.long (0 : Int64)), (.long (0 : Int64)), (.long (0 : Int64)), (.long (0 : Int64)), (.long (0 : Int64)), (.long (0 : Int64)), (.long (0 : Int64)), (.long (0 : Int64)), (.long (0 : Int64)), (.long (0 : Int64)), (.long (0 : Int64)), (.long (0 : Int64)), (.long (0 : Int64)), (.long (0 : Int64)), (.long (0 : Int64)), (.long (0 : Int64)), (.long (0 : Int64)), (.long (0 : Int64))] (.long (0 : Int64)) := Vn182
  have pre183 : ∀ t, Steps p.tables e below (T182.setTop (mkF m 444 #[.val (.int p1), .val (.int p2), .val (.long q1), .second, .val (.ref b1), .unset, .unset, .unset, .unset, .unset, .unset, .unset, .unset, .unset] [(.ref b138)])) t → Steps p.tables e below (s₁.setTop (entryFrame m #[(.int p1), (.int p2), (.long q1)] maxLocals)) t := by
    intro t kt
    refine pre181 _ ?_
    show Steps p.tables e below (T180.setTop (mkF m 437 #[.val (.int p1), .val (.int p2), .val (.long q1), .second, .val (.ref b1), .unset, .unset, .unset, .unset, .unset, .unset, .unset, .unset, .unset] [(.ref b138)])) _
    refine XS.dup X180.here hx rfl (hb hby at_437) rfl rfl ?_
    show Steps p.tables e below (T180.setTop (mkF m 438 #[.val (.int p1), .val (.int p2), .val (.long q1), .second, .val (.ref b1), .unset, .unset, .unset, .unset, .unset, .unset, .unset, .unset, .unset] [(.ref b138), (.ref b138)])) _
    refine XS.bipush X180.here hx rfl (hb hby at_438) ?_
    show Steps p.tables e below (T180.setTop (mkF m 440 #[.val (.int p1), .val (.int p2), .val (.long q1), .second, .val (.ref b1), .unset, .unset, .unset, .unset, .unset, .unset, .unset, .unset, .unset] [(.int (21 : Int32)), (.ref b138), (.ref b138)])) _
    refine X180.ldc2Long hx hown (mvT hZ (hw _ (List.mem_of_getElem? (i := 99) rfl))) (g := (mkF m 440 #[.val (.int p1), .val (.int p2), .val (.long q1), .second, .val (.ref b1), .unset, .unset, .unset, .unset, .unset, .unset, .unset, .unset, .unset] [(.int (21 : Int32)), (.ref b138), (.ref b138)])) rfl (hb hby at_440) _ ?_
    show Steps p.tables e below (T180.setTop (mkF m 443 #[.val (.int p1), .val (.int p2), .val (.long q1), .second, .val (.ref b1), .unset, .unset, .unset, .unset, .unset, .unset, .unset, .unset, .unset] [(.long (15 : Int64)), (.int (21 : Int32)), (.ref b138), (.ref b138)])) _
    refine st182 _ ?_
    exact kt
  clear pre181 st182 Vn182 X180 e180 V180 K180 O180 N180
  obtain ⟨T184, h184, lo184, X184, e184, O184, N184, K184, Vn184, st184⟩ := own_stJ X182 hx hZ e182 O182 N182 K182 V182 g_b138 (j := (22 : Int32)) (by decide) 22 rfl (Nat.le_of_ble_eq_true rfl) (g := (mkF m 448 #[.val (.int p1), .val (.int p2), .val (.long q1), .second, .val (.ref b1), .unset, .unset, .unset, .unset, .unset, .unset, .unset, .unset, .unset] [(.long (1 : Int64)), (.int (22 : Int32)), (.ref b138), (.ref b138)])) rfl rfl (hb hby at_448)
  have V184 : Arv Z h184 b138 k138 .long (45 : Int32) [(.long (-1 : Int64)), (.long (7 : Int64)), (.long (8191 : Int64)), (.long (1 : Int64)), (.long (1 : Int64)), (.long (1 : Int64)), (.long (8191 : Int64)), (.long (4294967295 : Int64)), (.long (1 : Int64)), (.long (1 : Int64)), (.long (1 : Int64)), (.long (1 : Int64)), (.long (1 : Int64)), (.long (1 : Int64)), (.long (1 : Int64)), (.long (1 : Int64)), (.long (1 : Int64)), (.long (7 : Int64)), (.long (15 : Int64)), (.long (255 : Int64)), (.long (255 : Int64)), (.long (15 : Int64)), (.long (1 : Int64)), (.long (0 : Int64)), (.long (0 : Int64)), (.long (0 : Int64)), (.long (0 : Int64)), (.long (0 : Int64)), (.long (0 : Int64)), (.long (0 : Int64)), (.long (0 : Int64)), (.long (0 : Int64)), (.long (0 : Int64)), (.long (0 : Int64)), (.long (0 : Int64)), (.long (0 : Int64)), (.long (0 : Int64)), (.long (0 : Int64)), (.long (0 : Int64)), (.long (0 : Int64)), (.long (0 : Int64)), (.long (0 : Int64)), (.long (0 : Int64)), (.long (0 : Int64)), (.long (0 : Int64))] (.long (0 : Int64)) := Vn184
  have pre185 : ∀ t, Steps p.tables e below (T184.setTop (mkF m 449 #[.val (.int p1), .val (.int p2), .val (.long q1), .second, .val (.ref b1), .unset, .unset, .unset, .unset, .unset, .unset, .unset, .unset, .unset] [(.ref b138)])) t → Steps p.tables e below (s₁.setTop (entryFrame m #[(.int p1), (.int p2), (.long q1)] maxLocals)) t := by
    intro t kt
    refine pre183 _ ?_
    show Steps p.tables e below (T182.setTop (mkF m 444 #[.val (.int p1), .val (.int p2), .val (.long q1), .second, .val (.ref b1), .unset, .unset, .unset, .unset, .unset, .unset, .unset, .unset, .unset] [(.ref b138)])) _
    refine XS.dup X182.here hx rfl (hb hby at_444) rfl rfl ?_
    show Steps p.tables e below (T182.setTop (mkF m 445 #[.val (.int p1), .val (.int p2), .val (.long q1), .second, .val (.ref b1), .unset, .unset, .unset, .unset, .unset, .unset, .unset, .unset, .unset] [(.ref b138), (.ref b138)])) _
    refine XS.bipush X182.here hx rfl (hb hby at_445) ?_
    show Steps p.tables e below (T182.setTop (mkF m 447 #[.val (.int p1), .val (.int p2), .val (.long q1), .second, .val (.ref b1), .unset, .unset, .unset, .unset, .unset, .unset, .unset, .unset, .unset] [(.int (22 : Int32)), (.ref b138), (.ref b138)])) _
    refine XS.lconst X182.here hx rfl (hb hby at_447) ?_
    show Steps p.tables e below (T182.setTop (mkF m 448 #[.val (.int p1), .val (.int p2), .val (.long q1), .second, .val (.ref b1), .unset, .unset, .unset, .unset, .unset, .unset, .unset, .unset, .unset] [(.long (1 : Int64)), (.int (22 : Int32)), (.ref b138), (.ref b138)])) _
    refine st184 _ ?_
    exact kt
  clear pre183 st184 Vn184 X182 e182 V182 K182 O182 N182
  obtain ⟨T186, h186, lo186, X186, e186, O186, N186, K186, Vn186, st186⟩ := own_stJ X184 hx hZ e184 O184 N184 K184 V184 g_b138 (j := (23 : Int32)) (by decide) 23 rfl (Nat.le_of_ble_eq_true rfl) (g := (mkF m 455 #[.val (.int p1), .val (.int p2), .val (.long q1), .second, .val (.ref b1), .unset, .unset, .unset, .unset, .unset, .unset, .unset, .unset, .unset] [(.long (4294967295 : Int64)), (.int (23 : Int32)), (.ref b138), (.ref b138)])) rfl rfl (hb hby at_455)
  have V186 : Arv Z h186 b138 k138 .long (45 : Int32) [(.long (-1 : Int64)), (.long (7 : Int64)), (.long (8191 : Int64)), (.long (1 : Int64)), (.long (1 : Int64)), (.long (1 : Int64)), (.long (8191 : Int64)), (.long (4294967295 : Int64)), (.long (1 : Int64)), (.long (1 : Int64)), (.long (1 : Int64)), (.long (1 : Int64)), (.long (1 : Int64)), (.long (1 : Int64)), (.long (1 : Int64)), (.long (1 : Int64)), (.long (1 : Int64)), (.long (7 : Int64)), (.long (15 : Int64)), (.long (255 : Int64)), (.long (255 : Int64)), (.long (15 : Int64)), (.long (1 : Int64)), (.long (4294967295 : Int64)), (.long (0 : Int64)), (.long (0 : Int64)), (.long (0 : Int64)), (.long (0 : Int64)), (.long (0 : Int64)), (.long (0 : Int64)), (.long (0 : Int64)), (.long (0 : Int64)), (.long (0 : Int64)), (.long (0 : Int64)), (.long (0 : Int64)), (.long (0 : Int64)), (.long (0 : Int64)), (.long (0 : Int64)), (.long (0 : Int64)), (.long (0 : Int64)), (.long (0 : Int64)), (.long (0 : Int64)), (.long (0 : Int64)), (.long (0 : Int64)), (.long (0 : Int64))] (.long (0 : Int64)) := Vn186
  have pre187 : ∀ t, Steps p.tables e below (T186.setTop (mkF m 456 #[.val (.int p1), .val (.int p2), .val (.long q1), .second, .val (.ref b1), .unset, .unset, .unset, .unset, .unset, .unset, .unset, .unset, .unset] [(.ref b138)])) t → Steps p.tables e below (s₁.setTop (entryFrame m #[(.int p1), (.int p2), (.long q1)] maxLocals)) t := by
    intro t kt
    refine pre185 _ ?_
    show Steps p.tables e below (T184.setTop (mkF m 449 #[.val (.int p1), .val (.int p2), .val (.long q1), .second, .val (.ref b1), .unset, .unset, .unset, .unset, .unset, .unset, .unset, .unset, .unset] [(.ref b138)])) _
    refine XS.dup X184.here hx rfl (hb hby at_449) rfl rfl ?_
    show Steps p.tables e below (T184.setTop (mkF m 450 #[.val (.int p1), .val (.int p2), .val (.long q1), .second, .val (.ref b1), .unset, .unset, .unset, .unset, .unset, .unset, .unset, .unset, .unset] [(.ref b138), (.ref b138)])) _
    refine XS.bipush X184.here hx rfl (hb hby at_450) ?_
    show Steps p.tables e below (T184.setTop (mkF m 452 #[.val (.int p1), .val (.int p2), .val (.long q1), .second, .val (.ref b1), .unset, .unset, .unset, .unset, .unset, .unset, .unset, .unset, .unset] [(.int (23 : Int32)), (.ref b138), (.ref b138)])) _
    refine X184.ldc2Long hx hown (mvT hZ (hw _ (List.mem_of_getElem? (i := 98) rfl))) (g := (mkF m 452 #[.val (.int p1), .val (.int p2), .val (.long q1), .second, .val (.ref b1), .unset, .unset, .unset, .unset, .unset, .unset, .unset, .unset, .unset] [(.int (23 : Int32)), (.ref b138), (.ref b138)])) rfl (hb hby at_452) _ ?_
    show Steps p.tables e below (T184.setTop (mkF m 455 #[.val (.int p1), .val (.int p2), .val (.long q1), .second, .val (.ref b1), .unset, .unset, .unset, .unset, .unset, .unset, .unset, .unset, .unset] [(.long (4294967295 : Int64)), (.int (23 : Int32)), (.ref b138), (.ref b138)])) _
    refine st186 _ ?_
    exact kt
  clear pre185 st186 Vn186 X184 e184 V184 K184 O184 N184
  obtain ⟨T188, h188, lo188, X188, e188, O188, N188, K188, Vn188, st188⟩ := own_stJ X186 hx hZ e186 O186 N186 K186 V186 g_b138 (j := (24 : Int32)) (by decide) 24 rfl (Nat.le_of_ble_eq_true rfl) (g := (mkF m 462 #[.val (.int p1), .val (.int p2), .val (.long q1), .second, .val (.ref b1), .unset, .unset, .unset, .unset, .unset, .unset, .unset, .unset, .unset] [(.long (4294967295 : Int64)), (.int (24 : Int32)), (.ref b138), (.ref b138)])) rfl rfl (hb hby at_462)
  have V188 : Arv Z h188 b138 k138 .long (45 : Int32) [(.long (-1 : Int64)), (.long (7 : Int64)), (.long (8191 : Int64)), (.long (1 : Int64)), (.long (1 : Int64)), (.long (1 : Int64)), (.long (8191 : Int64)), (.long (4294967295 : Int64)), (.long (1 : Int64)), (.long (1 : Int64)), (.long (1 : Int64)), (.long (1 : Int64)), (.long (1 : Int64)), (.long (1 : Int64)), (.long (1 : Int64)), (.long (1 : Int64)), (.long (1 : Int64)), (.long (7 : Int64)), (.long (15 : Int64)), (.long (255 : Int64)), (.long (255 : Int64)), (.long (15 : Int64)), (.long (1 : Int64)), (.long (4294967295 : Int64)), (.long (4294967295 : Int64)), (.long (0 : Int64)), (.long (0 : Int64)), (.long (0 : Int64)), (.long (0 : Int64)), (.long (0 : Int64)), (.long (0 : Int64)), (.long (0 : Int64)), (.long (0 : Int64)), (.long (0 : Int64)), (.long (0 : Int64)), (.long (0 : Int64)), (.long (0 : Int64)), (.long (0 : Int64)), (.long (0 : Int64)), (.long (0 : Int64)), (.long (0 : Int64)), (.long (0 : Int64)), (.long (0 : Int64)), (.long (0 : Int64)), (.long (0 : Int64))] (.long (0 : Int64)) := Vn188
  have pre189 : ∀ t, Steps p.tables e below (T188.setTop (mkF m 463 #[.val (.int p1), .val (.int p2), .val (.long q1), .second, .val (.ref b1), .unset, .unset, .unset, .unset, .unset, .unset, .unset, .unset, .unset] [(.ref b138)])) t → Steps p.tables e below (s₁.setTop (entryFrame m #[(.int p1), (.int p2), (.long q1)] maxLocals)) t := by
    intro t kt
    refine pre187 _ ?_
    show Steps p.tables e below (T186.setTop (mkF m 456 #[.val (.int p1), .val (.int p2), .val (.long q1), .second, .val (.ref b1), .unset, .unset, .unset, .unset, .unset, .unset, .unset, .unset, .unset] [(.ref b138)])) _
    refine XS.dup X186.here hx rfl (hb hby at_456) rfl rfl ?_
    show Steps p.tables e below (T186.setTop (mkF m 457 #[.val (.int p1), .val (.int p2), .val (.long q1), .second, .val (.ref b1), .unset, .unset, .unset, .unset, .unset, .unset, .unset, .unset, .unset] [(.ref b138), (.ref b138)])) _
    refine XS.bipush X186.here hx rfl (hb hby at_457) ?_
    show Steps p.tables e below (T186.setTop (mkF m 459 #[.val (.int p1), .val (.int p2), .val (.long q1), .second, .val (.ref b1), .unset, .unset, .unset, .unset, .unset, .unset, .unset, .unset, .unset] [(.int (24 : Int32)), (.ref b138), (.ref b138)])) _
    refine X186.ldc2Long hx hown (mvT hZ (hw _ (List.mem_of_getElem? (i := 98) rfl))) (g := (mkF m 459 #[.val (.int p1), .val (.int p2), .val (.long q1), .second, .val (.ref b1), .unset, .unset, .unset, .unset, .unset, .unset, .unset, .unset, .unset] [(.int (24 : Int32)), (.ref b138), (.ref b138)])) rfl (hb hby at_459) _ ?_
    show Steps p.tables e below (T186.setTop (mkF m 462 #[.val (.int p1), .val (.int p2), .val (.long q1), .second, .val (.ref b1), .unset, .unset, .unset, .unset, .unset, .unset, .unset, .unset, .unset] [(.long (4294967295 : Int64)), (.int (24 : Int32)), (.ref b138), (.ref b138)])) _
    refine st188 _ ?_
    exact kt
  clear pre187 st188 Vn188 X186 e186 V186 K186 O186 N186
  obtain ⟨T190, h190, lo190, X190, e190, O190, N190, K190, Vn190, st190⟩ := own_stJ X188 hx hZ e188 O188 N188 K188 V188 g_b138 (j := (25 : Int32)) (by decide) 25 rfl (Nat.le_of_ble_eq_true rfl) (g := (mkF m 469 #[.val (.int p1), .val (.int p2), .val (.long q1), .second, .val (.ref b1), .unset, .unset, .unset, .unset, .unset, .unset, .unset, .unset, .unset] [(.long (-1 : Int64)), (.int (25 : Int32)), (.ref b138), (.ref b138)])) rfl rfl (hb hby at_469)
  have V190 : Arv Z h190 b138 k138 .long (45 : Int32) [(.long (-1 : Int64)), (.long (7 : Int64)), (.long (8191 : Int64)), (.long (1 : Int64)), (.long (1 : Int64)), (.long (1 : Int64)), (.long (8191 : Int64)), (.long (4294967295 : Int64)), (.long (1 : Int64)), (.long (1 : Int64)), (.long (1 : Int64)), (.long (1 : Int64)), (.long (1 : Int64)), (.long (1 : Int64)), (.long (1 : Int64)), (.long (1 : Int64)), (.long (1 : Int64)), (.long (7 : Int64)), (.long (15 : Int64)), (.long (255 : Int64)), (.long (255 : Int64)), (.long (15 : Int64)), (.long (1 : Int64)), (.long (4294967295 : Int64)), (.long (4294967295 : Int64)), (.long (-1 : Int64)), (.long (0 : Int64)), (.long (0 : Int64)), (.long (0 : Int64)), (.long (0 : Int64)), (.long (0 : Int64)), (.long (0 : Int64)), (.long (0 : Int64)), (.long (0 : Int64)), (.long (0 : Int64)), (.long (0 : Int64)), (.long (0 : Int64)), (.long (0 : Int64)), (.long (0 : Int64)), (.long (0 : Int64)), (.long (0 : Int64)), (.long (0 : Int64)), (.long (0 : Int64)), (.long (0 : Int64)), (.long (0 : Int64))] (.long (0 : Int64)) := Vn190
  have pre191 : ∀ t, Steps p.tables e below (T190.setTop (mkF m 470 #[.val (.int p1), .val (.int p2), .val (.long q1), .second, .val (.ref b1), .unset, .unset, .unset, .unset, .unset, .unset, .unset, .unset, .unset] [(.ref b138)])) t → Steps p.tables e below (s₁.setTop (entryFrame m #[(.int p1), (.int p2), (.long q1)] maxLocals)) t := by
    intro t kt
    refine pre189 _ ?_
    show Steps p.tables e below (T188.setTop (mkF m 463 #[.val (.int p1), .val (.int p2), .val (.long q1), .second, .val (.ref b1), .unset, .unset, .unset, .unset, .unset, .unset, .unset, .unset, .unset] [(.ref b138)])) _
    refine XS.dup X188.here hx rfl (hb hby at_463) rfl rfl ?_
    show Steps p.tables e below (T188.setTop (mkF m 464 #[.val (.int p1), .val (.int p2), .val (.long q1), .second, .val (.ref b1), .unset, .unset, .unset, .unset, .unset, .unset, .unset, .unset, .unset] [(.ref b138), (.ref b138)])) _
    refine XS.bipush X188.here hx rfl (hb hby at_464) ?_
    show Steps p.tables e below (T188.setTop (mkF m 466 #[.val (.int p1), .val (.int p2), .val (.long q1), .second, .val (.ref b1), .unset, .unset, .unset, .unset, .unset, .unset, .unset, .unset, .unset] [(.int (25 : Int32)), (.ref b138), (.ref b138)])) _
    refine X188.ldc2Long hx hown (mvT hZ (hw _ (List.mem_of_getElem? (i := 95) rfl))) (g := (mkF m 466 #[.val (.int p1), .val (.int p2), .val (.long q1), .second, .val (.ref b1), .unset, .unset, .unset, .unset, .unset, .unset, .unset, .unset, .unset] [(.int (25 : Int32)), (.ref b138), (.ref b138)])) rfl (hb hby at_466) _ ?_
    show Steps p.tables e below (T188.setTop (mkF m 469 #[.val (.int p1), .val (.int p2), .val (.long q1), .second, .val (.ref b1), .unset, .unset, .unset, .unset, .unset, .unset, .unset, .unset, .unset] [(.long (-1 : Int64)), (.int (25 : Int32)), (.ref b138), (.ref b138)])) _
    refine st190 _ ?_
    exact kt
  clear pre189 st190 Vn190 X188 e188 V188 K188 O188 N188
  obtain ⟨T192, h192, lo192, X192, e192, O192, N192, K192, Vn192, st192⟩ := own_stJ X190 hx hZ e190 O190 N190 K190 V190 g_b138 (j := (26 : Int32)) (by decide) 26 rfl (Nat.le_of_ble_eq_true rfl) (g := (mkF m 476 #[.val (.int p1), .val (.int p2), .val (.long q1), .second, .val (.ref b1), .unset, .unset, .unset, .unset, .unset, .unset, .unset, .unset, .unset] [(.long (4294967295 : Int64)), (.int (26 : Int32)), (.ref b138), (.ref b138)])) rfl rfl (hb hby at_476)
  have V192 : Arv Z h192 b138 k138 .long (45 : Int32) [(.long (-1 : Int64)), (.long (7 : Int64)), (.long (8191 : Int64)), (.long (1 : Int64)), (.long (1 : Int64)), (.long (1 : Int64)), (.long (8191 : Int64)), (.long (4294967295 : Int64)), (.long (1 : Int64)), (.long (1 : Int64)), (.long (1 : Int64)), (.long (1 : Int64)), (.long (1 : Int64)), (.long (1 : Int64)), (.long (1 : Int64)), (.long (1 : Int64)), (.long (1 : Int64)), (.long (7 : Int64)), (.long (15 : Int64)), (.long (255 : Int64)), (.long (255 : Int64)), (.long (15 : Int64)), (.long (1 : Int64)), (.long (4294967295 : Int64)), (.long (4294967295 : Int64)), (.long (-1 : Int64)), (.long (4294967295 : Int64)), (.long (0 : Int64)), (.long (0 : Int64)), (.long (0 : Int64)), (.long (0 : Int64)), (.long (0 : Int64)), (.long (0 : Int64)), (.long (0 : Int64)), (.long (0 : Int64)), (.long (0 : Int64)), (.long (0 : Int64)), (.long (0 : Int64)), (.long (0 : Int64)), (.long (0 : Int64)), (.long (0 : Int64)), (.long (0 : Int64)), (.long (0 : Int64)), (.long (0 : Int64)), (.long (0 : Int64))] (.long (0 : Int64)) := Vn192
  have pre193 : ∀ t, Steps p.tables e below (T192.setTop (mkF m 477 #[.val (.int p1), .val (.int p2), .val (.long q1), .second, .val (.ref b1), .unset, .unset, .unset, .unset, .unset, .unset, .unset, .unset, .unset] [(.ref b138)])) t → Steps p.tables e below (s₁.setTop (entryFrame m #[(.int p1), (.int p2), (.long q1)] maxLocals)) t := by
    intro t kt
    refine pre191 _ ?_
    show Steps p.tables e below (T190.setTop (mkF m 470 #[.val (.int p1), .val (.int p2), .val (.long q1), .second, .val (.ref b1), .unset, .unset, .unset, .unset, .unset, .unset, .unset, .unset, .unset] [(.ref b138)])) _
    refine XS.dup X190.here hx rfl (hb hby at_470) rfl rfl ?_
    show Steps p.tables e below (T190.setTop (mkF m 471 #[.val (.int p1), .val (.int p2), .val (.long q1), .second, .val (.ref b1), .unset, .unset, .unset, .unset, .unset, .unset, .unset, .unset, .unset] [(.ref b138), (.ref b138)])) _
    refine XS.bipush X190.here hx rfl (hb hby at_471) ?_
    show Steps p.tables e below (T190.setTop (mkF m 473 #[.val (.int p1), .val (.int p2), .val (.long q1), .second, .val (.ref b1), .unset, .unset, .unset, .unset, .unset, .unset, .unset, .unset, .unset] [(.int (26 : Int32)), (.ref b138), (.ref b138)])) _
    refine X190.ldc2Long hx hown (mvT hZ (hw _ (List.mem_of_getElem? (i := 98) rfl))) (g := (mkF m 473 #[.val (.int p1), .val (.int p2), .val (.long q1), .second, .val (.ref b1), .unset, .unset, .unset, .unset, .unset, .unset, .unset, .unset, .unset] [(.int (26 : Int32)), (.ref b138), (.ref b138)])) rfl (hb hby at_473) _ ?_
    show Steps p.tables e below (T190.setTop (mkF m 476 #[.val (.int p1), .val (.int p2), .val (.long q1), .second, .val (.ref b1), .unset, .unset, .unset, .unset, .unset, .unset, .unset, .unset, .unset] [(.long (4294967295 : Int64)), (.int (26 : Int32)), (.ref b138), (.ref b138)])) _
    refine st192 _ ?_
    exact kt
  clear pre191 st192 Vn192 X190 e190 V190 K190 O190 N190
  obtain ⟨T194, h194, lo194, X194, e194, O194, N194, K194, Vn194, st194⟩ := own_stJ X192 hx hZ e192 O192 N192 K192 V192 g_b138 (j := (27 : Int32)) (by decide) 27 rfl (Nat.le_of_ble_eq_true rfl) (g := (mkF m 481 #[.val (.int p1), .val (.int p2), .val (.long q1), .second, .val (.ref b1), .unset, .unset, .unset, .unset, .unset, .unset, .unset, .unset, .unset] [(.long (1 : Int64)), (.int (27 : Int32)), (.ref b138), (.ref b138)])) rfl rfl (hb hby at_481)
  have V194 : Arv Z h194 b138 k138 .long (45 : Int32) [(.long (-1 : Int64)), (.long (7 : Int64)), (.long (8191 : Int64)), (.long (1 : Int64)), (.long (1 : Int64)), (.long (1 : Int64)), (.long (8191 : Int64)), (.long (4294967295 : Int64)), (.long (1 : Int64)), (.long (1 : Int64)), (.long (1 : Int64)), (.long (1 : Int64)), (.long (1 : Int64)), (.long (1 : Int64)), (.long (1 : Int64)), (.long (1 : Int64)), (.long (1 : Int64)), (.long (7 : Int64)), (.long (15 : Int64)), (.long (255 : Int64)), (.long (255 : Int64)), (.long (15 : Int64)), (.long (1 : Int64)), (.long (4294967295 : Int64)), (.long (4294967295 : Int64)), (.long (-1 : Int64)), (.long (4294967295 : Int64)), (.long (1 : Int64)), (.long (0 : Int64)), (.long (0 : Int64)), (.long (0 : Int64)), (.long (0 : Int64)), (.long (0 : Int64)), (.long (0 : Int64)), (.long (0 : Int64)), (.long (0 : Int64)), (.long (0 : Int64)), (.long (0 : Int64)), (.long (0 : Int64)), (.long (0 : Int64)), (.long (0 : Int64)), (.long (0 : Int64)), (.long (0 : Int64)), (.long (0 : Int64)), (.long (0 : Int64))] (.long (0 : Int64)) := Vn194
  have pre195 : ∀ t, Steps p.tables e below (T194.setTop (mkF m 482 #[.val (.int p1), .val (.int p2), .val (.long q1), .second, .val (.ref b1), .unset, .unset, .unset, .unset, .unset, .unset, .unset, .unset, .unset] [(.ref b138)])) t → Steps p.tables e below (s₁.setTop (entryFrame m #[(.int p1), (.int p2), (.long q1)] maxLocals)) t := by
    intro t kt
    refine pre193 _ ?_
    show Steps p.tables e below (T192.setTop (mkF m 477 #[.val (.int p1), .val (.int p2), .val (.long q1), .second, .val (.ref b1), .unset, .unset, .unset, .unset, .unset, .unset, .unset, .unset, .unset] [(.ref b138)])) _
    refine XS.dup X192.here hx rfl (hb hby at_477) rfl rfl ?_
    show Steps p.tables e below (T192.setTop (mkF m 478 #[.val (.int p1), .val (.int p2), .val (.long q1), .second, .val (.ref b1), .unset, .unset, .unset, .unset, .unset, .unset, .unset, .unset, .unset] [(.ref b138), (.ref b138)])) _
    refine XS.bipush X192.here hx rfl (hb hby at_478) ?_
    show Steps p.tables e below (T192.setTop (mkF m 480 #[.val (.int p1), .val (.int p2), .val (.long q1), .second, .val (.ref b1), .unset, .unset, .unset, .unset, .unset, .unset, .unset, .unset, .unset] [(.int (27 : Int32)), (.ref b138), (.ref b138)])) _
    refine XS.lconst X192.here hx rfl (hb hby at_480) ?_
    show Steps p.tables e below (T192.setTop (mkF m 481 #[.val (.int p1), .val (.int p2), .val (.long q1), .second, .val (.ref b1), .unset, .unset, .unset, .unset, .unset, .unset, .unset, .unset, .unset] [(.long (1 : Int64)), (.int (27 : Int32)), (.ref b138), (.ref b138)])) _
    refine st194 _ ?_
    exact kt
  clear pre193 st194 Vn194 X192 e192 V192 K192 O192 N192
  obtain ⟨T196, h196, lo196, X196, e196, O196, N196, K196, Vn196, st196⟩ := own_stJ X194 hx hZ e194 O194 N194 K194 V194 g_b138 (j := (28 : Int32)) (by decide) 28 rfl (Nat.le_of_ble_eq_true rfl) (g := (mkF m 486 #[.val (.int p1), .val (.int p2), .val (.long q1), .second, .val (.ref b1), .unset, .unset, .unset, .unset, .unset, .unset, .unset, .unset, .unset] [(.long (1 : Int64)), (.int (28 : Int32)), (.ref b138), (.ref b138)])) rfl rfl (hb hby at_486)
  have V196 : Arv Z h196 b138 k138 .long (45 : Int32) [(.long (-1 : Int64)), (.long (7 : Int64)), (.long (8191 : Int64)), (.long (1 : Int64)), (.long (1 : Int64)), (.long (1 : Int64)), (.long (8191 : Int64)), (.long (4294967295 : Int64)), (.long (1 : Int64)), (.long (1 : Int64)), (.long (1 : Int64)), (.long (1 : Int64)), (.long (1 : Int64)), (.long (1 : Int64)), (.long (1 : Int64)), (.long (1 : Int64)), (.long (1 : Int64)), (.long (7 : Int64)), (.long (15 : Int64)), (.long (255 : Int64)), (.long (255 : Int64)), (.long (15 : Int64)), (.long (1 : Int64)), (.long (4294967295 : Int64)), (.long (4294967295 : Int64)), (.long (-1 : Int64)), (.long (4294967295 : Int64)), (.long (1 : Int64)), (.long (1 : Int64)), (.long (0 : Int64)), (.long (0 : Int64)), (.long (0 : Int64)), (.long (0 : Int64)), (.long (0 : Int64)), (.long (0 : Int64)), (.long (0 : Int64)), (.long (0 : Int64)), (.long (0 : Int64)), (.long (0 : Int64)), (.long (0 : Int64)), (.long (0 : Int64)), (.long (0 : Int64)), (.long (0 : Int64)), (.long (0 : Int64)), (.long (0 : Int64))] (.long (0 : Int64)) := Vn196
  have pre197 : ∀ t, Steps p.tables e below (T196.setTop (mkF m 487 #[.val (.int p1), .val (.int p2), .val (.long q1), .second, .val (.ref b1), .unset, .unset, .unset, .unset, .unset, .unset, .unset, .unset, .unset] [(.ref b138)])) t → Steps p.tables e below (s₁.setTop (entryFrame m #[(.int p1), (.int p2), (.long q1)] maxLocals)) t := by
    intro t kt
    refine pre195 _ ?_
    show Steps p.tables e below (T194.setTop (mkF m 482 #[.val (.int p1), .val (.int p2), .val (.long q1), .second, .val (.ref b1), .unset, .unset, .unset, .unset, .unset, .unset, .unset, .unset, .unset] [(.ref b138)])) _
    refine XS.dup X194.here hx rfl (hb hby at_482) rfl rfl ?_
    show Steps p.tables e below (T194.setTop (mkF m 483 #[.val (.int p1), .val (.int p2), .val (.long q1), .second, .val (.ref b1), .unset, .unset, .unset, .unset, .unset, .unset, .unset, .unset, .unset] [(.ref b138), (.ref b138)])) _
    refine XS.bipush X194.here hx rfl (hb hby at_483) ?_
    show Steps p.tables e below (T194.setTop (mkF m 485 #[.val (.int p1), .val (.int p2), .val (.long q1), .second, .val (.ref b1), .unset, .unset, .unset, .unset, .unset, .unset, .unset, .unset, .unset] [(.int (28 : Int32)), (.ref b138), (.ref b138)])) _
    refine XS.lconst X194.here hx rfl (hb hby at_485) ?_
    show Steps p.tables e below (T194.setTop (mkF m 486 #[.val (.int p1), .val (.int p2), .val (.long q1), .second, .val (.ref b1), .unset, .unset, .unset, .unset, .unset, .unset, .unset, .unset, .unset] [(.long (1 : Int64)), (.int (28 : Int32)), (.ref b138), (.ref b138)])) _
    refine st196 _ ?_
    exact kt
  clear pre195 st196 Vn196 X194 e194 V194 K194 O194 N194
  obtain ⟨T198, h198, lo198, X198, e198, O198, N198, K198, Vn198, st198⟩ := own_stJ X196 hx hZ e196 O196 N196 K196 V196 g_b138 (j := (29 : Int32)) (by decide) 29 rfl (Nat.le_of_ble_eq_true rfl) (g := (mkF m 491 #[.val (.int p1), .val (.int p2), .val (.long q1), .second, .val (.ref b1), .unset, .unset, .unset, .unset, .unset, .unset, .unset, .unset, .unset] [(.long (1 : Int64)), (.int (29 : Int32)), (.ref b138), (.ref b138)])) rfl rfl (hb hby at_491)
  have V198 : Arv Z h198 b138 k138 .long (45 : Int32) [(.long (-1 : Int64)), (.long (7 : Int64)), (.long (8191 : Int64)), (.long (1 : Int64)), (.long (1 : Int64)), (.long (1 : Int64)), (.long (8191 : Int64)), (.long (4294967295 : Int64)), (.long (1 : Int64)), (.long (1 : Int64)), (.long (1 : Int64)), (.long (1 : Int64)), (.long (1 : Int64)), (.long (1 : Int64)), (.long (1 : Int64)), (.long (1 : Int64)), (.long (1 : Int64)), (.long (7 : Int64)), (.long (15 : Int64)), (.long (255 : Int64)), (.long (255 : Int64)), (.long (15 : Int64)), (.long (1 : Int64)), (.long (4294967295 : Int64)), (.long (4294967295 : Int64)), (.long (-1 : Int64)), (.long (4294967295 : Int64)), (.long (1 : Int64)), (.long (1 : Int64)), (.long (1 : Int64)), (.long (0 : Int64)), (.long (0 : Int64)), (.long (0 : Int64)), (.long (0 : Int64)), (.long (0 : Int64)), (.long (0 : Int64)), (.long (0 : Int64)), (.long (0 : Int64)), (.long (0 : Int64)), (.long (0 : Int64)), (.long (0 : Int64)), (.long (0 : Int64)), (.long (0 : Int64)), (.long (0 : Int64)), (.long (0 : Int64))] (.long (0 : Int64)) := Vn198
  have pre199 : ∀ t, Steps p.tables e below (T198.setTop (mkF m 492 #[.val (.int p1), .val (.int p2), .val (.long q1), .second, .val (.ref b1), .unset, .unset, .unset, .unset, .unset, .unset, .unset, .unset, .unset] [(.ref b138)])) t → Steps p.tables e below (s₁.setTop (entryFrame m #[(.int p1), (.int p2), (.long q1)] maxLocals)) t := by
    intro t kt
    refine pre197 _ ?_
    show Steps p.tables e below (T196.setTop (mkF m 487 #[.val (.int p1), .val (.int p2), .val (.long q1), .second, .val (.ref b1), .unset, .unset, .unset, .unset, .unset, .unset, .unset, .unset, .unset] [(.ref b138)])) _
    refine XS.dup X196.here hx rfl (hb hby at_487) rfl rfl ?_
    show Steps p.tables e below (T196.setTop (mkF m 488 #[.val (.int p1), .val (.int p2), .val (.long q1), .second, .val (.ref b1), .unset, .unset, .unset, .unset, .unset, .unset, .unset, .unset, .unset] [(.ref b138), (.ref b138)])) _
    refine XS.bipush X196.here hx rfl (hb hby at_488) ?_
    show Steps p.tables e below (T196.setTop (mkF m 490 #[.val (.int p1), .val (.int p2), .val (.long q1), .second, .val (.ref b1), .unset, .unset, .unset, .unset, .unset, .unset, .unset, .unset, .unset] [(.int (29 : Int32)), (.ref b138), (.ref b138)])) _
    refine XS.lconst X196.here hx rfl (hb hby at_490) ?_
    show Steps p.tables e below (T196.setTop (mkF m 491 #[.val (.int p1), .val (.int p2), .val (.long q1), .second, .val (.ref b1), .unset, .unset, .unset, .unset, .unset, .unset, .unset, .unset, .unset] [(.long (1 : Int64)), (.int (29 : Int32)), (.ref b138), (.ref b138)])) _
    refine st198 _ ?_
    exact kt
  clear pre197 st198 Vn198 X196 e196 V196 K196 O196 N196
  obtain ⟨T200, h200, lo200, X200, e200, O200, N200, K200, Vn200, st200⟩ := own_stJ X198 hx hZ e198 O198 N198 K198 V198 g_b138 (j := (30 : Int32)) (by decide) 30 rfl (Nat.le_of_ble_eq_true rfl) (g := (mkF m 496 #[.val (.int p1), .val (.int p2), .val (.long q1), .second, .val (.ref b1), .unset, .unset, .unset, .unset, .unset, .unset, .unset, .unset, .unset] [(.long (1 : Int64)), (.int (30 : Int32)), (.ref b138), (.ref b138)])) rfl rfl (hb hby at_496)
  have V200 : Arv Z h200 b138 k138 .long (45 : Int32) [(.long (-1 : Int64)), (.long (7 : Int64)), (.long (8191 : Int64)), (.long (1 : Int64)), (.long (1 : Int64)), (.long (1 : Int64)), (.long (8191 : Int64)), (.long (4294967295 : Int64)), (.long (1 : Int64)), (.long (1 : Int64)), (.long (1 : Int64)), (.long (1 : Int64)), (.long (1 : Int64)), (.long (1 : Int64)), (.long (1 : Int64)), (.long (1 : Int64)), (.long (1 : Int64)), (.long (7 : Int64)), (.long (15 : Int64)), (.long (255 : Int64)), (.long (255 : Int64)), (.long (15 : Int64)), (.long (1 : Int64)), (.long (4294967295 : Int64)), (.long (4294967295 : Int64)), (.long (-1 : Int64)), (.long (4294967295 : Int64)), (.long (1 : Int64)), (.long (1 : Int64)), (.long (1 : Int64)), (.long (1 : Int64)), (.long (0 : Int64)), (.long (0 : Int64)), (.long (0 : Int64)), (.long (0 : Int64)), (.long (0 : Int64)), (.long (0 : Int64)), (.long (0 : Int64)), (.long (0 : Int64)), (.long (0 : Int64)), (.long (0 : Int64)), (.long (0 : Int64)), (.long (0 : Int64)), (.long (0 : Int64)), (.long (0 : Int64))] (.long (0 : Int64)) := Vn200
  have pre201 : ∀ t, Steps p.tables e below (T200.setTop (mkF m 497 #[.val (.int p1), .val (.int p2), .val (.long q1), .second, .val (.ref b1), .unset, .unset, .unset, .unset, .unset, .unset, .unset, .unset, .unset] [(.ref b138)])) t → Steps p.tables e below (s₁.setTop (entryFrame m #[(.int p1), (.int p2), (.long q1)] maxLocals)) t := by
    intro t kt
    refine pre199 _ ?_
    show Steps p.tables e below (T198.setTop (mkF m 492 #[.val (.int p1), .val (.int p2), .val (.long q1), .second, .val (.ref b1), .unset, .unset, .unset, .unset, .unset, .unset, .unset, .unset, .unset] [(.ref b138)])) _
    refine XS.dup X198.here hx rfl (hb hby at_492) rfl rfl ?_
    show Steps p.tables e below (T198.setTop (mkF m 493 #[.val (.int p1), .val (.int p2), .val (.long q1), .second, .val (.ref b1), .unset, .unset, .unset, .unset, .unset, .unset, .unset, .unset, .unset] [(.ref b138), (.ref b138)])) _
    refine XS.bipush X198.here hx rfl (hb hby at_493) ?_
    show Steps p.tables e below (T198.setTop (mkF m 495 #[.val (.int p1), .val (.int p2), .val (.long q1), .second, .val (.ref b1), .unset, .unset, .unset, .unset, .unset, .unset, .unset, .unset, .unset] [(.int (30 : Int32)), (.ref b138), (.ref b138)])) _
    refine XS.lconst X198.here hx rfl (hb hby at_495) ?_
    show Steps p.tables e below (T198.setTop (mkF m 496 #[.val (.int p1), .val (.int p2), .val (.long q1), .second, .val (.ref b1), .unset, .unset, .unset, .unset, .unset, .unset, .unset, .unset, .unset] [(.long (1 : Int64)), (.int (30 : Int32)), (.ref b138), (.ref b138)])) _
    refine st200 _ ?_
    exact kt
  clear pre199 st200 Vn200 X198 e198 V198 K198 O198 N198
  obtain ⟨T202, h202, lo202, X202, e202, O202, N202, K202, Vn202, st202⟩ := own_stJ X200 hx hZ e200 O200 N200 K200 V200 g_b138 (j := (31 : Int32)) (by decide) 31 rfl (Nat.le_of_ble_eq_true rfl) (g := (mkF m 501 #[.val (.int p1), .val (.int p2), .val (.long q1), .second, .val (.ref b1), .unset, .unset, .unset, .unset, .unset, .unset, .unset, .unset, .unset] [(.long (1 : Int64)), (.int (31 : Int32)), (.ref b138), (.ref b138)])) rfl rfl (hb hby at_501)
  have V202 : Arv Z h202 b138 k138 .long (45 : Int32) [(.long (-1 : Int64)), (.long (7 : Int64)), (.long (8191 : Int64)), (.long (1 : Int64)), (.long (1 : Int64)), (.long (1 : Int64)), (.long (8191 : Int64)), (.long (4294967295 : Int64)), (.long (1 : Int64)), (.long (1 : Int64)), (.long (1 : Int64)), (.long (1 : Int64)), (.long (1 : Int64)), (.long (1 : Int64)), (.long (1 : Int64)), (.long (1 : Int64)), (.long (1 : Int64)), (.long (7 : Int64)), (.long (15 : Int64)), (.long (255 : Int64)), (.long (255 : Int64)), (.long (15 : Int64)), (.long (1 : Int64)), (.long (4294967295 : Int64)), (.long (4294967295 : Int64)), (.long (-1 : Int64)), (.long (4294967295 : Int64)), (.long (1 : Int64)), (.long (1 : Int64)), (.long (1 : Int64)), (.long (1 : Int64)), (.long (1 : Int64)), (.long (0 : Int64)), (.long (0 : Int64)), (.long (0 : Int64)), (.long (0 : Int64)), (.long (0 : Int64)), (.long (0 : Int64)), (.long (0 : Int64)), (.long (0 : Int64)), (.long (0 : Int64)), (.long (0 : Int64)), (.long (0 : Int64)), (.long (0 : Int64)), (.long (0 : Int64))] (.long (0 : Int64)) := Vn202
  have pre203 : ∀ t, Steps p.tables e below (T202.setTop (mkF m 502 #[.val (.int p1), .val (.int p2), .val (.long q1), .second, .val (.ref b1), .unset, .unset, .unset, .unset, .unset, .unset, .unset, .unset, .unset] [(.ref b138)])) t → Steps p.tables e below (s₁.setTop (entryFrame m #[(.int p1), (.int p2), (.long q1)] maxLocals)) t := by
    intro t kt
    refine pre201 _ ?_
    show Steps p.tables e below (T200.setTop (mkF m 497 #[.val (.int p1), .val (.int p2), .val (.long q1), .second, .val (.ref b1), .unset, .unset, .unset, .unset, .unset, .unset, .unset, .unset, .unset] [(.ref b138)])) _
    refine XS.dup X200.here hx rfl (hb hby at_497) rfl rfl ?_
    show Steps p.tables e below (T200.setTop (mkF m 498 #[.val (.int p1), .val (.int p2), .val (.long q1), .second, .val (.ref b1), .unset, .unset, .unset, .unset, .unset, .unset, .unset, .unset, .unset] [(.ref b138), (.ref b138)])) _
    refine XS.bipush X200.here hx rfl (hb hby at_498) ?_
    show Steps p.tables e below (T200.setTop (mkF m 500 #[.val (.int p1), .val (.int p2), .val (.long q1), .second, .val (.ref b1), .unset, .unset, .unset, .unset, .unset, .unset, .unset, .unset, .unset] [(.int (31 : Int32)), (.ref b138), (.ref b138)])) _
    refine XS.lconst X200.here hx rfl (hb hby at_500) ?_
    show Steps p.tables e below (T200.setTop (mkF m 501 #[.val (.int p1), .val (.int p2), .val (.long q1), .second, .val (.ref b1), .unset, .unset, .unset, .unset, .unset, .unset, .unset, .unset, .unset] [(.long (1 : Int64)), (.int (31 : Int32)), (.ref b138), (.ref b138)])) _
    refine st202 _ ?_
    exact kt
  clear pre201 st202 Vn202 X200 e200 V200 K200 O200 N200
  obtain ⟨T204, h204, lo204, X204, e204, O204, N204, K204, Vn204, st204⟩ := own_stJ X202 hx hZ e202 O202 N202 K202 V202 g_b138 (j := (32 : Int32)) (by decide) 32 rfl (Nat.le_of_ble_eq_true rfl) (g := (mkF m 506 #[.val (.int p1), .val (.int p2), .val (.long q1), .second, .val (.ref b1), .unset, .unset, .unset, .unset, .unset, .unset, .unset, .unset, .unset] [(.long (1 : Int64)), (.int (32 : Int32)), (.ref b138), (.ref b138)])) rfl rfl (hb hby at_506)
  have V204 : Arv Z h204 b138 k138 .long (45 : Int32) [(.long (-1 : Int64)), (.long (7 : Int64)), (.long (8191 : Int64)), (.long (1 : Int64)), (.long (1 : Int64)), (.long (1 : Int64)), (.long (8191 : Int64)), (.long (4294967295 : Int64)), (.long (1 : Int64)), (.long (1 : Int64)), (.long (1 : Int64)), (.long (1 : Int64)), (.long (1 : Int64)), (.long (1 : Int64)), (.long (1 : Int64)), (.long (1 : Int64)), (.long (1 : Int64)), (.long (7 : Int64)), (.long (15 : Int64)), (.long (255 : Int64)), (.long (255 : Int64)), (.long (15 : Int64)), (.long (1 : Int64)), (.long (4294967295 : Int64)), (.long (4294967295 : Int64)), (.long (-1 : Int64)), (.long (4294967295 : Int64)), (.long (1 : Int64)), (.long (1 : Int64)), (.long (1 : Int64)), (.long (1 : Int64)), (.long (1 : Int64)), (.long (1 : Int64)), (.long (0 : Int64)), (.long (0 : Int64)), (.long (0 : Int64)), (.long (0 : Int64)), (.long (0 : Int64)), (.long (0 : Int64)), (.long (0 : Int64)), (.long (0 : Int64)), (.long (0 : Int64)), (.long (0 : Int64)), (.long (0 : Int64)), (.long (0 : Int64))] (.long (0 : Int64)) := Vn204
  have pre205 : ∀ t, Steps p.tables e below (T204.setTop (mkF m 507 #[.val (.int p1), .val (.int p2), .val (.long q1), .second, .val (.ref b1), .unset, .unset, .unset, .unset, .unset, .unset, .unset, .unset, .unset] [(.ref b138)])) t → Steps p.tables e below (s₁.setTop (entryFrame m #[(.int p1), (.int p2), (.long q1)] maxLocals)) t := by
    intro t kt
    refine pre203 _ ?_
    show Steps p.tables e below (T202.setTop (mkF m 502 #[.val (.int p1), .val (.int p2), .val (.long q1), .second, .val (.ref b1), .unset, .unset, .unset, .unset, .unset, .unset, .unset, .unset, .unset] [(.ref b138)])) _
    refine XS.dup X202.here hx rfl (hb hby at_502) rfl rfl ?_
    show Steps p.tables e below (T202.setTop (mkF m 503 #[.val (.int p1), .val (.int p2), .val (.long q1), .second, .val (.ref b1), .unset, .unset, .unset, .unset, .unset, .unset, .unset, .unset, .unset] [(.ref b138), (.ref b138)])) _
    refine XS.bipush X202.here hx rfl (hb hby at_503) ?_
    show Steps p.tables e below (T202.setTop (mkF m 505 #[.val (.int p1), .val (.int p2), .val (.long q1), .second, .val (.ref b1), .unset, .unset, .unset, .unset, .unset, .unset, .unset, .unset, .unset] [(.int (32 : Int32)), (.ref b138), (.ref b138)])) _
    refine XS.lconst X202.here hx rfl (hb hby at_505) ?_
    show Steps p.tables e below (T202.setTop (mkF m 506 #[.val (.int p1), .val (.int p2), .val (.long q1), .second, .val (.ref b1), .unset, .unset, .unset, .unset, .unset, .unset, .unset, .unset, .unset] [(.long (1 : Int64)), (.int (32 : Int32)), (.ref b138), (.ref b138)])) _
    refine st204 _ ?_
    exact kt
  clear pre203 st204 Vn204 X202 e202 V202 K202 O202 N202
  obtain ⟨T206, h206, lo206, X206, e206, O206, N206, K206, Vn206, st206⟩ := own_stJ X204 hx hZ e204 O204 N204 K204 V204 g_b138 (j := (33 : Int32)) (by decide) 33 rfl (Nat.le_of_ble_eq_true rfl) (g := (mkF m 511 #[.val (.int p1), .val (.int p2), .val (.long q1), .second, .val (.ref b1), .unset, .unset, .unset, .unset, .unset, .unset, .unset, .unset, .unset] [(.long (1 : Int64)), (.int (33 : Int32)), (.ref b138), (.ref b138)])) rfl rfl (hb hby at_511)
  have V206 : Arv Z h206 b138 k138 .long (45 : Int32) [(.long (-1 : Int64)), (.long (7 : Int64)), (.long (8191 : Int64)), (.long (1 : Int64)), (.long (1 : Int64)), (.long (1 : Int64)), (.long (8191 : Int64)), (.long (4294967295 : Int64)), (.long (1 : Int64)), (.long (1 : Int64)), (.long (1 : Int64)), (.long (1 : Int64)), (.long (1 : Int64)), (.long (1 : Int64)), (.long (1 : Int64)), (.long (1 : Int64)), (.long (1 : Int64)), (.long (7 : Int64)), (.long (15 : Int64)), (.long (255 : Int64)), (.long (255 : Int64)), (.long (15 : Int64)), (.long (1 : Int64)), (.long (4294967295 : Int64)), (.long (4294967295 : Int64)), (.long (-1 : Int64)), (.long (4294967295 : Int64)), (.long (1 : Int64)), (.long (1 : Int64)), (.long (1 : Int64)), (.long (1 : Int64)), (.long (1 : Int64)), (.long (1 : Int64)), (.long (1 : Int64)), (.long (0 : Int64)), (.long (0 : Int64)), (.long (0 : Int64)), (.long (0 : Int64)), (.long (0 : Int64)), (.long (0 : Int64)), (.long (0 : Int64)), (.long (0 : Int64)), (.long (0 : Int64)), (.long (0 : Int64)), (.long (0 : Int64))] (.long (0 : Int64)) := Vn206
  have pre207 : ∀ t, Steps p.tables e below (T206.setTop (mkF m 512 #[.val (.int p1), .val (.int p2), .val (.long q1), .second, .val (.ref b1), .unset, .unset, .unset, .unset, .unset, .unset, .unset, .unset, .unset] [(.ref b138)])) t → Steps p.tables e below (s₁.setTop (entryFrame m #[(.int p1), (.int p2), (.long q1)] maxLocals)) t := by
    intro t kt
    refine pre205 _ ?_
    show Steps p.tables e below (T204.setTop (mkF m 507 #[.val (.int p1), .val (.int p2), .val (.long q1), .second, .val (.ref b1), .unset, .unset, .unset, .unset, .unset, .unset, .unset, .unset, .unset] [(.ref b138)])) _
    refine XS.dup X204.here hx rfl (hb hby at_507) rfl rfl ?_
    show Steps p.tables e below (T204.setTop (mkF m 508 #[.val (.int p1), .val (.int p2), .val (.long q1), .second, .val (.ref b1), .unset, .unset, .unset, .unset, .unset, .unset, .unset, .unset, .unset] [(.ref b138), (.ref b138)])) _
    refine XS.bipush X204.here hx rfl (hb hby at_508) ?_
    show Steps p.tables e below (T204.setTop (mkF m 510 #[.val (.int p1), .val (.int p2), .val (.long q1), .second, .val (.ref b1), .unset, .unset, .unset, .unset, .unset, .unset, .unset, .unset, .unset] [(.int (33 : Int32)), (.ref b138), (.ref b138)])) _
    refine XS.lconst X204.here hx rfl (hb hby at_510) ?_
    show Steps p.tables e below (T204.setTop (mkF m 511 #[.val (.int p1), .val (.int p2), .val (.long q1), .second, .val (.ref b1), .unset, .unset, .unset, .unset, .unset, .unset, .unset, .unset, .unset] [(.long (1 : Int64)), (.int (33 : Int32)), (.ref b138), (.ref b138)])) _
    refine st206 _ ?_
    exact kt
  clear pre205 st206 Vn206 X204 e204 V204 K204 O204 N204
  obtain ⟨T208, h208, lo208, X208, e208, O208, N208, K208, Vn208, st208⟩ := own_stJ X206 hx hZ e206 O206 N206 K206 V206 g_b138 (j := (34 : Int32)) (by decide) 34 rfl (Nat.le_of_ble_eq_true rfl) (g := (mkF m 518 #[.val (.int p1), .val (.int p2), .val (.long q1), .second, .val (.ref b1), .unset, .unset, .unset, .unset, .unset, .unset, .unset, .unset, .unset] [(.long (16777215 : Int64)), (.int (34 : Int32)), (.ref b138), (.ref b138)])) rfl rfl (hb hby at_518)
  have V208 : Arv Z h208 b138 k138 .long (45 : Int32) [(.long (-1 : Int64)), (.long (7 : Int64)), (.long (8191 : Int64)), (.long (1 : Int64)), (.long (1 : Int64)), (.long (1 : Int64)), (.long (8191 : Int64)), (.long (4294967295 : Int64)), (.long (1 : Int64)), (.long (1 : Int64)), (.long (1 : Int64)), (.long (1 : Int64)), (.long (1 : Int64)), (.long (1 : Int64)), (.long (1 : Int64)), (.long (1 : Int64)), (.long (1 : Int64)), (.long (7 : Int64)), (.long (15 : Int64)), (.long (255 : Int64)), (.long (255 : Int64)), (.long (15 : Int64)), (.long (1 : Int64)), (.long (4294967295 : Int64)), (.long (4294967295 : Int64)), (.long (-1 : Int64)), (.long (4294967295 : Int64)), (.long (1 : Int64)), (.long (1 : Int64)), (.long (1 : Int64)), (.long (1 : Int64)), (.long (1 : Int64)), (.long (1 : Int64)), (.long (1 : Int64)), (.long (16777215 : Int64)), (.long (0 : Int64)), (.long (0 : Int64)), (.long (0 : Int64)), (.long (0 : Int64)), (.long (0 : Int64)), (.long (0 : Int64)), (.long (0 : Int64)), (.long (0 : Int64)), (.long (0 : Int64)), (.long (0 : Int64))] (.long (0 : Int64)) := Vn208
  have pre209 : ∀ t, Steps p.tables e below (T208.setTop (mkF m 519 #[.val (.int p1), .val (.int p2), .val (.long q1), .second, .val (.ref b1), .unset, .unset, .unset, .unset, .unset, .unset, .unset, .unset, .unset] [(.ref b138)])) t → Steps p.tables e below (s₁.setTop (entryFrame m #[(.int p1), (.int p2), (.long q1)] maxLocals)) t := by
    intro t kt
    refine pre207 _ ?_
    show Steps p.tables e below (T206.setTop (mkF m 512 #[.val (.int p1), .val (.int p2), .val (.long q1), .second, .val (.ref b1), .unset, .unset, .unset, .unset, .unset, .unset, .unset, .unset, .unset] [(.ref b138)])) _
    refine XS.dup X206.here hx rfl (hb hby at_512) rfl rfl ?_
    show Steps p.tables e below (T206.setTop (mkF m 513 #[.val (.int p1), .val (.int p2), .val (.long q1), .second, .val (.ref b1), .unset, .unset, .unset, .unset, .unset, .unset, .unset, .unset, .unset] [(.ref b138), (.ref b138)])) _
    refine XS.bipush X206.here hx rfl (hb hby at_513) ?_
    show Steps p.tables e below (T206.setTop (mkF m 515 #[.val (.int p1), .val (.int p2), .val (.long q1), .second, .val (.ref b1), .unset, .unset, .unset, .unset, .unset, .unset, .unset, .unset, .unset] [(.int (34 : Int32)), (.ref b138), (.ref b138)])) _
    refine X206.ldc2Long hx hown (mvT hZ (hw _ (List.mem_of_getElem? (i := 101) rfl))) (g := (mkF m 515 #[.val (.int p1), .val (.int p2), .val (.long q1), .second, .val (.ref b1), .unset, .unset, .unset, .unset, .unset, .unset, .unset, .unset, .unset] [(.int (34 : Int32)), (.ref b138), (.ref b138)])) rfl (hb hby at_515) _ ?_
    show Steps p.tables e below (T206.setTop (mkF m 518 #[.val (.int p1), .val (.int p2), .val (.long q1), .second, .val (.ref b1), .unset, .unset, .unset, .unset, .unset, .unset, .unset, .unset, .unset] [(.long (16777215 : Int64)), (.int (34 : Int32)), (.ref b138), (.ref b138)])) _
    refine st208 _ ?_
    exact kt
  clear pre207 st208 Vn208 X206 e206 V206 K206 O206 N206
  obtain ⟨T210, h210, lo210, X210, e210, O210, N210, K210, Vn210, st210⟩ := own_stJ X208 hx hZ e208 O208 N208 K208 V208 g_b138 (j := (35 : Int32)) (by decide) 35 rfl (Nat.le_of_ble_eq_true rfl) (g := (mkF m 525 #[.val (.int p1), .val (.int p2), .val (.long q1), .second, .val (.ref b1), .unset, .unset, .unset, .unset, .unset, .unset, .unset, .unset, .unset] [(.long (-1 : Int64)), (.int (35 : Int32)), (.ref b138), (.ref b138)])) rfl rfl (hb hby at_525)
  have V210 : Arv Z h210 b138 k138 .long (45 : Int32) [(.long (-1 : Int64)), (.long (7 : Int64)), (.long (8191 : Int64)), (.long (1 : Int64)), (.long (1 : Int64)), (.long (1 : Int64)), (.long (8191 : Int64)), (.long (4294967295 : Int64)), (.long (1 : Int64)), (.long (1 : Int64)), (.long (1 : Int64)), (.long (1 : Int64)), (.long (1 : Int64)), (.long (1 : Int64)), (.long (1 : Int64)), (.long (1 : Int64)), (.long (1 : Int64)), (.long (7 : Int64)), (.long (15 : Int64)), (.long (255 : Int64)), (.long (255 : Int64)), (.long (15 : Int64)), (.long (1 : Int64)), (.long (4294967295 : Int64)), (.long (4294967295 : Int64)), (.long (-1 : Int64)), (.long (4294967295 : Int64)), (.long (1 : Int64)), (.long (1 : Int64)), (.long (1 : Int64)), (.long (1 : Int64)), (.long (1 : Int64)), (.long (1 : Int64)), (.long (1 : Int64)), (.long (16777215 : Int64)), (.long (-1 : Int64)), (.long (0 : Int64)), (.long (0 : Int64)), (.long (0 : Int64)), (.long (0 : Int64)), (.long (0 : Int64)), (.long (0 : Int64)), (.long (0 : Int64)), (.long (0 : Int64)), (.long (0 : Int64))] (.long (0 : Int64)) := Vn210
  have pre211 : ∀ t, Steps p.tables e below (T210.setTop (mkF m 526 #[.val (.int p1), .val (.int p2), .val (.long q1), .second, .val (.ref b1), .unset, .unset, .unset, .unset, .unset, .unset, .unset, .unset, .unset] [(.ref b138)])) t → Steps p.tables e below (s₁.setTop (entryFrame m #[(.int p1), (.int p2), (.long q1)] maxLocals)) t := by
    intro t kt
    refine pre209 _ ?_
    show Steps p.tables e below (T208.setTop (mkF m 519 #[.val (.int p1), .val (.int p2), .val (.long q1), .second, .val (.ref b1), .unset, .unset, .unset, .unset, .unset, .unset, .unset, .unset, .unset] [(.ref b138)])) _
    refine XS.dup X208.here hx rfl (hb hby at_519) rfl rfl ?_
    show Steps p.tables e below (T208.setTop (mkF m 520 #[.val (.int p1), .val (.int p2), .val (.long q1), .second, .val (.ref b1), .unset, .unset, .unset, .unset, .unset, .unset, .unset, .unset, .unset] [(.ref b138), (.ref b138)])) _
    refine XS.bipush X208.here hx rfl (hb hby at_520) ?_
    show Steps p.tables e below (T208.setTop (mkF m 522 #[.val (.int p1), .val (.int p2), .val (.long q1), .second, .val (.ref b1), .unset, .unset, .unset, .unset, .unset, .unset, .unset, .unset, .unset] [(.int (35 : Int32)), (.ref b138), (.ref b138)])) _
    refine X208.ldc2Long hx hown (mvT hZ (hw _ (List.mem_of_getElem? (i := 95) rfl))) (g := (mkF m 522 #[.val (.int p1), .val (.int p2), .val (.long q1), .second, .val (.ref b1), .unset, .unset, .unset, .unset, .unset, .unset, .unset, .unset, .unset] [(.int (35 : Int32)), (.ref b138), (.ref b138)])) rfl (hb hby at_522) _ ?_
    show Steps p.tables e below (T208.setTop (mkF m 525 #[.val (.int p1), .val (.int p2), .val (.long q1), .second, .val (.ref b1), .unset, .unset, .unset, .unset, .unset, .unset, .unset, .unset, .unset] [(.long (-1 : Int64)), (.int (35 : Int32)), (.ref b138), (.ref b138)])) _
    refine st210 _ ?_
    exact kt
  clear pre209 st210 Vn210 X208 e208 V208 K208 O208 N208
  obtain ⟨T212, h212, lo212, X212, e212, O212, N212, K212, Vn212, st212⟩ := own_stJ X210 hx hZ e210 O210 N210 K210 V210 g_b138 (j := (36 : Int32)) (by decide) 36 rfl (Nat.le_of_ble_eq_true rfl) (g := (mkF m 532 #[.val (.int p1), .val (.int p2), .val (.long q1), .second, .val (.ref b1), .unset, .unset, .unset, .unset, .unset, .unset, .unset, .unset, .unset] [(.long (-1 : Int64)), (.int (36 : Int32)), (.ref b138), (.ref b138)])) rfl rfl (hb hby at_532)
  have V212 : Arv Z h212 b138 k138 .long (45 : Int32) [(.long (-1 : Int64)), (.long (7 : Int64)), (.long (8191 : Int64)), (.long (1 : Int64)), (.long (1 : Int64)), (.long (1 : Int64)), (.long (8191 : Int64)), (.long (4294967295 : Int64)), (.long (1 : Int64)), (.long (1 : Int64)), (.long (1 : Int64)), (.long (1 : Int64)), (.long (1 : Int64)), (.long (1 : Int64)), (.long (1 : Int64)), (.long (1 : Int64)), (.long (1 : Int64)), (.long (7 : Int64)), (.long (15 : Int64)), (.long (255 : Int64)), (.long (255 : Int64)), (.long (15 : Int64)), (.long (1 : Int64)), (.long (4294967295 : Int64)), (.long (4294967295 : Int64)), (.long (-1 : Int64)), (.long (4294967295 : Int64)), (.long (1 : Int64)), (.long (1 : Int64)), (.long (1 : Int64)), (.long (1 : Int64)), (.long (1 : Int64)), (.long (1 : Int64)), (.long (1 : Int64)), (.long (16777215 : Int64)), (.long (-1 : Int64)), (.long (-1 : Int64)), (.long (0 : Int64)), (.long (0 : Int64)), (.long (0 : Int64)), (.long (0 : Int64)), (.long (0 : Int64)), (.long (0 : Int64)), (.long (0 : Int64)), (.long (0 : Int64))] (.long (0 : Int64)) := Vn212
  have pre213 : ∀ t, Steps p.tables e below (T212.setTop (mkF m 533 #[.val (.int p1), .val (.int p2), .val (.long q1), .second, .val (.ref b1), .unset, .unset, .unset, .unset, .unset, .unset, .unset, .unset, .unset] [(.ref b138)])) t → Steps p.tables e below (s₁.setTop (entryFrame m #[(.int p1), (.int p2), (.long q1)] maxLocals)) t := by
    intro t kt
    refine pre211 _ ?_
    show Steps p.tables e below (T210.setTop (mkF m 526 #[.val (.int p1), .val (.int p2), .val (.long q1), .second, .val (.ref b1), .unset, .unset, .unset, .unset, .unset, .unset, .unset, .unset, .unset] [(.ref b138)])) _
    refine XS.dup X210.here hx rfl (hb hby at_526) rfl rfl ?_
    show Steps p.tables e below (T210.setTop (mkF m 527 #[.val (.int p1), .val (.int p2), .val (.long q1), .second, .val (.ref b1), .unset, .unset, .unset, .unset, .unset, .unset, .unset, .unset, .unset] [(.ref b138), (.ref b138)])) _
    refine XS.bipush X210.here hx rfl (hb hby at_527) ?_
    show Steps p.tables e below (T210.setTop (mkF m 529 #[.val (.int p1), .val (.int p2), .val (.long q1), .second, .val (.ref b1), .unset, .unset, .unset, .unset, .unset, .unset, .unset, .unset, .unset] [(.int (36 : Int32)), (.ref b138), (.ref b138)])) _
    refine X210.ldc2Long hx hown (mvT hZ (hw _ (List.mem_of_getElem? (i := 95) rfl))) (g := (mkF m 529 #[.val (.int p1), .val (.int p2), .val (.long q1), .second, .val (.ref b1), .unset, .unset, .unset, .unset, .unset, .unset, .unset, .unset, .unset] [(.int (36 : Int32)), (.ref b138), (.ref b138)])) rfl (hb hby at_529) _ ?_
    show Steps p.tables e below (T210.setTop (mkF m 532 #[.val (.int p1), .val (.int p2), .val (.long q1), .second, .val (.ref b1), .unset, .unset, .unset, .unset, .unset, .unset, .unset, .unset, .unset] [(.long (-1 : Int64)), (.int (36 : Int32)), (.ref b138), (.ref b138)])) _
    refine st212 _ ?_
    exact kt
  clear pre211 st212 Vn212 X210 e210 V210 K210 O210 N210
  obtain ⟨T214, h214, lo214, X214, e214, O214, N214, K214, Vn214, st214⟩ := own_stJ X212 hx hZ e212 O212 N212 K212 V212 g_b138 (j := (37 : Int32)) (by decide) 37 rfl (Nat.le_of_ble_eq_true rfl) (g := (mkF m 539 #[.val (.int p1), .val (.int p2), .val (.long q1), .second, .val (.ref b1), .unset, .unset, .unset, .unset, .unset, .unset, .unset, .unset, .unset] [(.long (4294967295 : Int64)), (.int (37 : Int32)), (.ref b138), (.ref b138)])) rfl rfl (hb hby at_539)
  have V214 : Arv Z h214 b138 k138 .long (45 : Int32) [(.long (-1 : Int64)), (.long (7 : Int64)), (.long (8191 : Int64)), (.long (1 : Int64)), (.long (1 : Int64)), (.long (1 : Int64)), (.long (8191 : Int64)), (.long (4294967295 : Int64)), (.long (1 : Int64)), (.long (1 : Int64)), (.long (1 : Int64)), (.long (1 : Int64)), (.long (1 : Int64)), (.long (1 : Int64)), (.long (1 : Int64)), (.long (1 : Int64)), (.long (1 : Int64)), (.long (7 : Int64)), (.long (15 : Int64)), (.long (255 : Int64)), (.long (255 : Int64)), (.long (15 : Int64)), (.long (1 : Int64)), (.long (4294967295 : Int64)), (.long (4294967295 : Int64)), (.long (-1 : Int64)), (.long (4294967295 : Int64)), (.long (1 : Int64)), (.long (1 : Int64)), (.long (1 : Int64)), (.long (1 : Int64)), (.long (1 : Int64)), (.long (1 : Int64)), (.long (1 : Int64)), (.long (16777215 : Int64)), (.long (-1 : Int64)), (.long (-1 : Int64)), (.long (4294967295 : Int64)), (.long (0 : Int64)), (.long (0 : Int64)), (.long (0 : Int64)), (.long (0 : Int64)), (.long (0 : Int64)), (.long (0 : Int64)), (.long (0 : Int64))] (.long (0 : Int64)) := Vn214
  have pre215 : ∀ t, Steps p.tables e below (T214.setTop (mkF m 540 #[.val (.int p1), .val (.int p2), .val (.long q1), .second, .val (.ref b1), .unset, .unset, .unset, .unset, .unset, .unset, .unset, .unset, .unset] [(.ref b138)])) t → Steps p.tables e below (s₁.setTop (entryFrame m #[(.int p1), (.int p2), (.long q1)] maxLocals)) t := by
    intro t kt
    refine pre213 _ ?_
    show Steps p.tables e below (T212.setTop (mkF m 533 #[.val (.int p1), .val (.int p2), .val (.long q1), .second, .val (.ref b1), .unset, .unset, .unset, .unset, .unset, .unset, .unset, .unset, .unset] [(.ref b138)])) _
    refine XS.dup X212.here hx rfl (hb hby at_533) rfl rfl ?_
    show Steps p.tables e below (T212.setTop (mkF m 534 #[.val (.int p1), .val (.int p2), .val (.long q1), .second, .val (.ref b1), .unset, .unset, .unset, .unset, .unset, .unset, .unset, .unset, .unset] [(.ref b138), (.ref b138)])) _
    refine XS.bipush X212.here hx rfl (hb hby at_534) ?_
    show Steps p.tables e below (T212.setTop (mkF m 536 #[.val (.int p1), .val (.int p2), .val (.long q1), .second, .val (.ref b1), .unset, .unset, .unset, .unset, .unset, .unset, .unset, .unset, .unset] [(.int (37 : Int32)), (.ref b138), (.ref b138)])) _
    refine X212.ldc2Long hx hown (mvT hZ (hw _ (List.mem_of_getElem? (i := 98) rfl))) (g := (mkF m 536 #[.val (.int p1), .val (.int p2), .val (.long q1), .second, .val (.ref b1), .unset, .unset, .unset, .unset, .unset, .unset, .unset, .unset, .unset] [(.int (37 : Int32)), (.ref b138), (.ref b138)])) rfl (hb hby at_536) _ ?_
    show Steps p.tables e below (T212.setTop (mkF m 539 #[.val (.int p1), .val (.int p2), .val (.long q1), .second, .val (.ref b1), .unset, .unset, .unset, .unset, .unset, .unset, .unset, .unset, .unset] [(.long (4294967295 : Int64)), (.int (37 : Int32)), (.ref b138), (.ref b138)])) _
    refine st214 _ ?_
    exact kt
  clear pre213 st214 Vn214 X212 e212 V212 K212 O212 N212
  obtain ⟨T216, h216, lo216, X216, e216, O216, N216, K216, Vn216, st216⟩ := own_stJ X214 hx hZ e214 O214 N214 K214 V214 g_b138 (j := (38 : Int32)) (by decide) 38 rfl (Nat.le_of_ble_eq_true rfl) (g := (mkF m 546 #[.val (.int p1), .val (.int p2), .val (.long q1), .second, .val (.ref b1), .unset, .unset, .unset, .unset, .unset, .unset, .unset, .unset, .unset] [(.long (4294967295 : Int64)), (.int (38 : Int32)), (.ref b138), (.ref b138)])) rfl rfl (hb hby at_546)
  have V216 : Arv Z h216 b138 k138 .long (45 : Int32) [(.long (-1 : Int64)), (.long (7 : Int64)), (.long (8191 : Int64)), (.long (1 : Int64)), (.long (1 : Int64)), (.long (1 : Int64)), (.long (8191 : Int64)), (.long (4294967295 : Int64)), (.long (1 : Int64)), (.long (1 : Int64)), (.long (1 : Int64)), (.long (1 : Int64)), (.long (1 : Int64)), (.long (1 : Int64)), (.long (1 : Int64)), (.long (1 : Int64)), (.long (1 : Int64)), (.long (7 : Int64)), (.long (15 : Int64)), (.long (255 : Int64)), (.long (255 : Int64)), (.long (15 : Int64)), (.long (1 : Int64)), (.long (4294967295 : Int64)), (.long (4294967295 : Int64)), (.long (-1 : Int64)), (.long (4294967295 : Int64)), (.long (1 : Int64)), (.long (1 : Int64)), (.long (1 : Int64)), (.long (1 : Int64)), (.long (1 : Int64)), (.long (1 : Int64)), (.long (1 : Int64)), (.long (16777215 : Int64)), (.long (-1 : Int64)), (.long (-1 : Int64)), (.long (4294967295 : Int64)), (.long (4294967295 : Int64)), (.long (0 : Int64)), (.long (0 : Int64)), (.long (0 : Int64)), (.long (0 : Int64)), (.long (0 : Int64)), (.long (0 : Int64))] (.long (0 : Int64)) := Vn216
  have pre217 : ∀ t, Steps p.tables e below (T216.setTop (mkF m 547 #[.val (.int p1), .val (.int p2), .val (.long q1), .second, .val (.ref b1), .unset, .unset, .unset, .unset, .unset, .unset, .unset, .unset, .unset] [(.ref b138)])) t → Steps p.tables e below (s₁.setTop (entryFrame m #[(.int p1), (.int p2), (.long q1)] maxLocals)) t := by
    intro t kt
    refine pre215 _ ?_
    show Steps p.tables e below (T214.setTop (mkF m 540 #[.val (.int p1), .val (.int p2), .val (.long q1), .second, .val (.ref b1), .unset, .unset, .unset, .unset, .unset, .unset, .unset, .unset, .unset] [(.ref b138)])) _
    refine XS.dup X214.here hx rfl (hb hby at_540) rfl rfl ?_
    show Steps p.tables e below (T214.setTop (mkF m 541 #[.val (.int p1), .val (.int p2), .val (.long q1), .second, .val (.ref b1), .unset, .unset, .unset, .unset, .unset, .unset, .unset, .unset, .unset] [(.ref b138), (.ref b138)])) _
    refine XS.bipush X214.here hx rfl (hb hby at_541) ?_
    show Steps p.tables e below (T214.setTop (mkF m 543 #[.val (.int p1), .val (.int p2), .val (.long q1), .second, .val (.ref b1), .unset, .unset, .unset, .unset, .unset, .unset, .unset, .unset, .unset] [(.int (38 : Int32)), (.ref b138), (.ref b138)])) _
    refine X214.ldc2Long hx hown (mvT hZ (hw _ (List.mem_of_getElem? (i := 98) rfl))) (g := (mkF m 543 #[.val (.int p1), .val (.int p2), .val (.long q1), .second, .val (.ref b1), .unset, .unset, .unset, .unset, .unset, .unset, .unset, .unset, .unset] [(.int (38 : Int32)), (.ref b138), (.ref b138)])) rfl (hb hby at_543) _ ?_
    show Steps p.tables e below (T214.setTop (mkF m 546 #[.val (.int p1), .val (.int p2), .val (.long q1), .second, .val (.ref b1), .unset, .unset, .unset, .unset, .unset, .unset, .unset, .unset, .unset] [(.long (4294967295 : Int64)), (.int (38 : Int32)), (.ref b138), (.ref b138)])) _
    refine st216 _ ?_
    exact kt
  clear pre215 st216 Vn216 X214 e214 V214 K214 O214 N214
  obtain ⟨T218, h218, lo218, X218, e218, O218, N218, K218, Vn218, st218⟩ := own_stJ X216 hx hZ e216 O216 N216 K216 V216 g_b138 (j := (39 : Int32)) (by decide) 39 rfl (Nat.le_of_ble_eq_true rfl) (g := (mkF m 553 #[.val (.int p1), .val (.int p2), .val (.long q1), .second, .val (.ref b1), .unset, .unset, .unset, .unset, .unset, .unset, .unset, .unset, .unset] [(.long (4294967295 : Int64)), (.int (39 : Int32)), (.ref b138), (.ref b138)])) rfl rfl (hb hby at_553)
  have V218 : Arv Z h218 b138 k138 .long (45 : Int32) [(.long (-1 : Int64)), (.long (7 : Int64)), (.long (8191 : Int64)), (.long (1 : Int64)), (.long (1 : Int64)), (.long (1 : Int64)), (.long (8191 : Int64)), (.long (4294967295 : Int64)), (.long (1 : Int64)), (.long (1 : Int64)), (.long (1 : Int64)), (.long (1 : Int64)), (.long (1 : Int64)), (.long (1 : Int64)), (.long (1 : Int64)), (.long (1 : Int64)), (.long (1 : Int64)), (.long (7 : Int64)), (.long (15 : Int64)), (.long (255 : Int64)), (.long (255 : Int64)), (.long (15 : Int64)), (.long (1 : Int64)), (.long (4294967295 : Int64)), (.long (4294967295 : Int64)), (.long (-1 : Int64)), (.long (4294967295 : Int64)), (.long (1 : Int64)), (.long (1 : Int64)), (.long (1 : Int64)), (.long (1 : Int64)), (.long (1 : Int64)), (.long (1 : Int64)), (.long (1 : Int64)), (.long (16777215 : Int64)), (.long (-1 : Int64)), (.long (-1 : Int64)), (.long (4294967295 : Int64)), (.long (4294967295 : Int64)), (.long (4294967295 : Int64)), (.long (0 : Int64)), (.long (0 : Int64)), (.long (0 : Int64)), (.long (0 : Int64)), (.long (0 : Int64))] (.long (0 : Int64)) := Vn218
  have pre219 : ∀ t, Steps p.tables e below (T218.setTop (mkF m 554 #[.val (.int p1), .val (.int p2), .val (.long q1), .second, .val (.ref b1), .unset, .unset, .unset, .unset, .unset, .unset, .unset, .unset, .unset] [(.ref b138)])) t → Steps p.tables e below (s₁.setTop (entryFrame m #[(.int p1), (.int p2), (.long q1)] maxLocals)) t := by
    intro t kt
    refine pre217 _ ?_
    show Steps p.tables e below (T216.setTop (mkF m 547 #[.val (.int p1), .val (.int p2), .val (.long q1), .second, .val (.ref b1), .unset, .unset, .unset, .unset, .unset, .unset, .unset, .unset, .unset] [(.ref b138)])) _
    refine XS.dup X216.here hx rfl (hb hby at_547) rfl rfl ?_
    show Steps p.tables e below (T216.setTop (mkF m 548 #[.val (.int p1), .val (.int p2), .val (.long q1), .second, .val (.ref b1), .unset, .unset, .unset, .unset, .unset, .unset, .unset, .unset, .unset] [(.ref b138), (.ref b138)])) _
    refine XS.bipush X216.here hx rfl (hb hby at_548) ?_
    show Steps p.tables e below (T216.setTop (mkF m 550 #[.val (.int p1), .val (.int p2), .val (.long q1), .second, .val (.ref b1), .unset, .unset, .unset, .unset, .unset, .unset, .unset, .unset, .unset] [(.int (39 : Int32)), (.ref b138), (.ref b138)])) _
    refine X216.ldc2Long hx hown (mvT hZ (hw _ (List.mem_of_getElem? (i := 98) rfl))) (g := (mkF m 550 #[.val (.int p1), .val (.int p2), .val (.long q1), .second, .val (.ref b1), .unset, .unset, .unset, .unset, .unset, .unset, .unset, .unset, .unset] [(.int (39 : Int32)), (.ref b138), (.ref b138)])) rfl (hb hby at_550) _ ?_
    show Steps p.tables e below (T216.setTop (mkF m 553 #[.val (.int p1), .val (.int p2), .val (.long q1), .second, .val (.ref b1), .unset, .unset, .unset, .unset, .unset, .unset, .unset, .unset, .unset] [(.long (4294967295 : Int64)), (.int (39 : Int32)), (.ref b138), (.ref b138)])) _
    refine st218 _ ?_
    exact kt
  clear pre217 st218 Vn218 X216 e216 V216 K216 O216 N216
  obtain ⟨T220, h220, lo220, X220, e220, O220, N220, K220, Vn220, st220⟩ := own_stJ X218 hx hZ e218 O218 N218 K218 V218 g_b138 (j := (40 : Int32)) (by decide) 40 rfl (Nat.le_of_ble_eq_true rfl) (g := (mkF m 560 #[.val (.int p1), .val (.int p2), .val (.long q1), .second, .val (.ref b1), .unset, .unset, .unset, .unset, .unset, .unset, .unset, .unset, .unset] [(.long (4294967295 : Int64)), (.int (40 : Int32)), (.ref b138), (.ref b138)])) rfl rfl (hb hby at_560)
  have V220 : Arv Z h220 b138 k138 .long (45 : Int32) [(.long (-1 : Int64)), (.long (7 : Int64)), (.long (8191 : Int64)), (.long (1 : Int64)), (.long (1 : Int64)), (.long (1 : Int64)), (.long (8191 : Int64)), (.long (4294967295 : Int64)), (.long (1 : Int64)), (.long (1 : Int64)), (.long (1 : Int64)), (.long (1 : Int64)), (.long (1 : Int64)), (.long (1 : Int64)), (.long (1 : Int64)), (.long (1 : Int64)), (.long (1 : Int64)), (.long (7 : Int64)), (.long (15 : Int64)), (.long (255 : Int64)), (.long (255 : Int64)), (.long (15 : Int64)), (.long (1 : Int64)), (.long (4294967295 : Int64)), (.long (4294967295 : Int64)), (.long (-1 : Int64)), (.long (4294967295 : Int64)), (.long (1 : Int64)), (.long (1 : Int64)), (.long (1 : Int64)), (.long (1 : Int64)), (.long (1 : Int64)), (.long (1 : Int64)), (.long (1 : Int64)), (.long (16777215 : Int64)), (.long (-1 : Int64)), (.long (-1 : Int64)), (.long (4294967295 : Int64)), (.long (4294967295 : Int64)), (.long (4294967295 : Int64)), (.long (4294967295 : Int64)), (.long (0 : Int64)), (.long (0 : Int64)), (.long (0 : Int64)), (.long (0 : Int64))] (.long (0 : Int64)) := Vn220
  have pre221 : ∀ t, Steps p.tables e below (T220.setTop (mkF m 561 #[.val (.int p1), .val (.int p2), .val (.long q1), .second, .val (.ref b1), .unset, .unset, .unset, .unset, .unset, .unset, .unset, .unset, .unset] [(.ref b138)])) t → Steps p.tables e below (s₁.setTop (entryFrame m #[(.int p1), (.int p2), (.long q1)] maxLocals)) t := by
    intro t kt
    refine pre219 _ ?_
    show Steps p.tables e below (T218.setTop (mkF m 554 #[.val (.int p1), .val (.int p2), .val (.long q1), .second, .val (.ref b1), .unset, .unset, .unset, .unset, .unset, .unset, .unset, .unset, .unset] [(.ref b138)])) _
    refine XS.dup X218.here hx rfl (hb hby at_554) rfl rfl ?_
    show Steps p.tables e below (T218.setTop (mkF m 555 #[.val (.int p1), .val (.int p2), .val (.long q1), .second, .val (.ref b1), .unset, .unset, .unset, .unset, .unset, .unset, .unset, .unset, .unset] [(.ref b138), (.ref b138)])) _
    refine XS.bipush X218.here hx rfl (hb hby at_555) ?_
    show Steps p.tables e below (T218.setTop (mkF m 557 #[.val (.int p1), .val (.int p2), .val (.long q1), .second, .val (.ref b1), .unset, .unset, .unset, .unset, .unset, .unset, .unset, .unset, .unset] [(.int (40 : Int32)), (.ref b138), (.ref b138)])) _
    refine X218.ldc2Long hx hown (mvT hZ (hw _ (List.mem_of_getElem? (i := 98) rfl))) (g := (mkF m 557 #[.val (.int p1), .val (.int p2), .val (.long q1), .second, .val (.ref b1), .unset, .unset, .unset, .unset, .unset, .unset, .unset, .unset, .unset] [(.int (40 : Int32)), (.ref b138), (.ref b138)])) rfl (hb hby at_557) _ ?_
    show Steps p.tables e below (T218.setTop (mkF m 560 #[.val (.int p1), .val (.int p2), .val (.long q1), .second, .val (.ref b1), .unset, .unset, .unset, .unset, .unset, .unset, .unset, .unset, .unset] [(.long (4294967295 : Int64)), (.int (40 : Int32)), (.ref b138), (.ref b138)])) _
    refine st220 _ ?_
    exact kt
  clear pre219 st220 Vn220 X218 e218 V218 K218 O218 N218
  obtain ⟨T222, h222, lo222, X222, e222, O222, N222, K222, Vn222, st222⟩ := own_stJ X220 hx hZ e220 O220 N220 K220 V220 g_b138 (j := (41 : Int32)) (by decide) 41 rfl (Nat.le_of_ble_eq_true rfl) (g := (mkF m 567 #[.val (.int p1), .val (.int p2), .val (.long q1), .second, .val (.ref b1), .unset, .unset, .unset, .unset, .unset, .unset, .unset, .unset, .unset] [(.long (-1 : Int64)), (.int (41 : Int32)), (.ref b138), (.ref b138)])) rfl rfl (hb hby at_567)
  have V222 : Arv Z h222 b138 k138 .long (45 : Int32) [(.long (-1 : Int64)), (.long (7 : Int64)), (.long (8191 : Int64)), (.long (1 : Int64)), (.long (1 : Int64)), (.long (1 : Int64)), (.long (8191 : Int64)), (.long (4294967295 : Int64)), (.long (1 : Int64)), (.long (1 : Int64)), (.long (1 : Int64)), (.long (1 : Int64)), (.long (1 : Int64)), (.long (1 : Int64)), (.long (1 : Int64)), (.long (1 : Int64)), (.long (1 : Int64)), (.long (7 : Int64)), (.long (15 : Int64)), (.long (255 : Int64)), (.long (255 : Int64)), (.long (15 : Int64)), (.long (1 : Int64)), (.long (4294967295 : Int64)), (.long (4294967295 : Int64)), (.long (-1 : Int64)), (.long (4294967295 : Int64)), (.long (1 : Int64)), (.long (1 : Int64)), (.long (1 : Int64)), (.long (1 : Int64)), (.long (1 : Int64)), (.long (1 : Int64)), (.long (1 : Int64)), (.long (16777215 : Int64)), (.long (-1 : Int64)), (.long (-1 : Int64)), (.long (4294967295 : Int64)), (.long (4294967295 : Int64)), (.long (4294967295 : Int64)), (.long (4294967295 : Int64)), (.long (-1 : Int64)), (.long (0 : Int64)), (.long (0 : Int64)), (.long (0 : Int64))] (.long (0 : Int64)) := Vn222
  have pre223 : ∀ t, Steps p.tables e below (T222.setTop (mkF m 568 #[.val (.int p1), .val (.int p2), .val (.long q1), .second, .val (.ref b1), .unset, .unset, .unset, .unset, .unset, .unset, .unset, .unset, .unset] [(.ref b138)])) t → Steps p.tables e below (s₁.setTop (entryFrame m #[(.int p1), (.int p2), (.long q1)] maxLocals)) t := by
    intro t kt
    refine pre221 _ ?_
    show Steps p.tables e below (T220.setTop (mkF m 561 #[.val (.int p1), .val (.int p2), .val (.long q1), .second, .val (.ref b1), .unset, .unset, .unset, .unset, .unset, .unset, .unset, .unset, .unset] [(.ref b138)])) _
    refine XS.dup X220.here hx rfl (hb hby at_561) rfl rfl ?_
    show Steps p.tables e below (T220.setTop (mkF m 562 #[.val (.int p1), .val (.int p2), .val (.long q1), .second, .val (.ref b1), .unset, .unset, .unset, .unset, .unset, .unset, .unset, .unset, .unset] [(.ref b138), (.ref b138)])) _
    refine XS.bipush X220.here hx rfl (hb hby at_562) ?_
    show Steps p.tables e below (T220.setTop (mkF m 564 #[.val (.int p1), .val (.int p2), .val (.long q1), .second, .val (.ref b1), .unset, .unset, .unset, .unset, .unset, .unset, .unset, .unset, .unset] [(.int (41 : Int32)), (.ref b138), (.ref b138)])) _
    refine X220.ldc2Long hx hown (mvT hZ (hw _ (List.mem_of_getElem? (i := 95) rfl))) (g := (mkF m 564 #[.val (.int p1), .val (.int p2), .val (.long q1), .second, .val (.ref b1), .unset, .unset, .unset, .unset, .unset, .unset, .unset, .unset, .unset] [(.int (41 : Int32)), (.ref b138), (.ref b138)])) rfl (hb hby at_564) _ ?_
    show Steps p.tables e below (T220.setTop (mkF m 567 #[.val (.int p1), .val (.int p2), .val (.long q1), .second, .val (.ref b1), .unset, .unset, .unset, .unset, .unset, .unset, .unset, .unset, .unset] [(.long (-1 : Int64)), (.int (41 : Int32)), (.ref b138), (.ref b138)])) _
    refine st222 _ ?_
    exact kt
  clear pre221 st222 Vn222 X220 e220 V220 K220 O220 N220
  obtain ⟨T224, h224, lo224, X224, e224, O224, N224, K224, Vn224, st224⟩ := own_stJ X222 hx hZ e222 O222 N222 K222 V222 g_b138 (j := (42 : Int32)) (by decide) 42 rfl (Nat.le_of_ble_eq_true rfl) (g := (mkF m 574 #[.val (.int p1), .val (.int p2), .val (.long q1), .second, .val (.ref b1), .unset, .unset, .unset, .unset, .unset, .unset, .unset, .unset, .unset] [(.long (4294967295 : Int64)), (.int (42 : Int32)), (.ref b138), (.ref b138)])) rfl rfl (hb hby at_574)
  have V224 : Arv Z h224 b138 k138 .long (45 : Int32) [(.long (-1 : Int64)), (.long (7 : Int64)), (.long (8191 : Int64)), (.long (1 : Int64)), (.long (1 : Int64)), (.long (1 : Int64)), (.long (8191 : Int64)), (.long (4294967295 : Int64)), (.long (1 : Int64)), (.long (1 : Int64)), (.long (1 : Int64)), (.long (1 : Int64)), (.long (1 : Int64)), (.long (1 : Int64)), (.long (1 : Int64)), (.long (1 : Int64)), (.long (1 : Int64)), (.long (7 : Int64)), (.long (15 : Int64)), (.long (255 : Int64)), (.long (255 : Int64)), (.long (15 : Int64)), (.long (1 : Int64)), (.long (4294967295 : Int64)), (.long (4294967295 : Int64)), (.long (-1 : Int64)), (.long (4294967295 : Int64)), (.long (1 : Int64)), (.long (1 : Int64)), (.long (1 : Int64)), (.long (1 : Int64)), (.long (1 : Int64)), (.long (1 : Int64)), (.long (1 : Int64)), (.long (16777215 : Int64)), (.long (-1 : Int64)), (.long (-1 : Int64)), (.long (4294967295 : Int64)), (.long (4294967295 : Int64)), (.long (4294967295 : Int64)), (.long (4294967295 : Int64)), (.long (-1 : Int64)), (.long (4294967295 : Int64)), (.long (0 : Int64)), (.long (0 : Int64))] (.long (0 : Int64)) := Vn224
  have pre225 : ∀ t, Steps p.tables e below (T224.setTop (mkF m 575 #[.val (.int p1), .val (.int p2), .val (.long q1), .second, .val (.ref b1), .unset, .unset, .unset, .unset, .unset, .unset, .unset, .unset, .unset] [(.ref b138)])) t → Steps p.tables e below (s₁.setTop (entryFrame m #[(.int p1), (.int p2), (.long q1)] maxLocals)) t := by
    intro t kt
    refine pre223 _ ?_
    show Steps p.tables e below (T222.setTop (mkF m 568 #[.val (.int p1), .val (.int p2), .val (.long q1), .second, .val (.ref b1), .unset, .unset, .unset, .unset, .unset, .unset, .unset, .unset, .unset] [(.ref b138)])) _
    refine XS.dup X222.here hx rfl (hb hby at_568) rfl rfl ?_
    show Steps p.tables e below (T222.setTop (mkF m 569 #[.val (.int p1), .val (.int p2), .val (.long q1), .second, .val (.ref b1), .unset, .unset, .unset, .unset, .unset, .unset, .unset, .unset, .unset] [(.ref b138), (.ref b138)])) _
    refine XS.bipush X222.here hx rfl (hb hby at_569) ?_
    show Steps p.tables e below (T222.setTop (mkF m 571 #[.val (.int p1), .val (.int p2), .val (.long q1), .second, .val (.ref b1), .unset, .unset, .unset, .unset, .unset, .unset, .unset, .unset, .unset] [(.int (42 : Int32)), (.ref b138), (.ref b138)])) _
    refine X222.ldc2Long hx hown (mvT hZ (hw _ (List.mem_of_getElem? (i := 98) rfl))) (g := (mkF m 571 #[.val (.int p1), .val (.int p2), .val (.long q1), .second, .val (.ref b1), .unset, .unset, .unset, .unset, .unset, .unset, .unset, .unset, .unset] [(.int (42 : Int32)), (.ref b138), (.ref b138)])) rfl (hb hby at_571) _ ?_
    show Steps p.tables e below (T222.setTop (mkF m 574 #[.val (.int p1), .val (.int p2), .val (.long q1), .second, .val (.ref b1), .unset, .unset, .unset, .unset, .unset, .unset, .unset, .unset, .unset] [(.long (4294967295 : Int64)), (.int (42 : Int32)), (.ref b138), (.ref b138)])) _
    refine st224 _ ?_
    exact kt
  clear pre223 st224 Vn224 X222 e222 V222 K222 O222 N222
  obtain ⟨T226, h226, lo226, X226, e226, O226, N226, K226, Vn226, st226⟩ := own_stJ X224 hx hZ e224 O224 N224 K224 V224 g_b138 (j := (43 : Int32)) (by decide) 43 rfl (Nat.le_of_ble_eq_true rfl) (g := (mkF m 581 #[.val (.int p1), .val (.int p2), .val (.long q1), .second, .val (.ref b1), .unset, .unset, .unset, .unset, .unset, .unset, .unset, .unset, .unset] [(.long (4294967295 : Int64)), (.int (43 : Int32)), (.ref b138), (.ref b138)])) rfl rfl (hb hby at_581)
  have V226 : Arv Z h226 b138 k138 .long (45 : Int32) [(.long (-1 : Int64)), (.long (7 : Int64)), (.long (8191 : Int64)), (.long (1 : Int64)), (.long (1 : Int64)), (.long (1 : Int64)), (.long (8191 : Int64)), (.long (4294967295 : Int64)), (.long (1 : Int64)), (.long (1 : Int64)), (.long (1 : Int64)), (.long (1 : Int64)), (.long (1 : Int64)), (.long (1 : Int64)), (.long (1 : Int64)), (.long (1 : Int64)), (.long (1 : Int64)), (.long (7 : Int64)), (.long (15 : Int64)), (.long (255 : Int64)), (.long (255 : Int64)), (.long (15 : Int64)), (.long (1 : Int64)), (.long (4294967295 : Int64)), (.long (4294967295 : Int64)), (.long (-1 : Int64)), (.long (4294967295 : Int64)), (.long (1 : Int64)), (.long (1 : Int64)), (.long (1 : Int64)), (.long (1 : Int64)), (.long (1 : Int64)), (.long (1 : Int64)), (.long (1 : Int64)), (.long (16777215 : Int64)), (.long (-1 : Int64)), (.long (-1 : Int64)), (.long (4294967295 : Int64)), (.long (4294967295 : Int64)), (.long (4294967295 : Int64)), (.long (4294967295 : Int64)), (.long (-1 : Int64)), (.long (4294967295 : Int64)), (.long (4294967295 : Int64)), (.long (0 : Int64))] (.long (0 : Int64)) := Vn226
  have pre227 : ∀ t, Steps p.tables e below (T226.setTop (mkF m 582 #[.val (.int p1), .val (.int p2), .val (.long q1), .second, .val (.ref b1), .unset, .unset, .unset, .unset, .unset, .unset, .unset, .unset, .unset] [(.ref b138)])) t → Steps p.tables e below (s₁.setTop (entryFrame m #[(.int p1), (.int p2), (.long q1)] maxLocals)) t := by
    intro t kt
    refine pre225 _ ?_
    show Steps p.tables e below (T224.setTop (mkF m 575 #[.val (.int p1), .val (.int p2), .val (.long q1), .second, .val (.ref b1), .unset, .unset, .unset, .unset, .unset, .unset, .unset, .unset, .unset] [(.ref b138)])) _
    refine XS.dup X224.here hx rfl (hb hby at_575) rfl rfl ?_
    show Steps p.tables e below (T224.setTop (mkF m 576 #[.val (.int p1), .val (.int p2), .val (.long q1), .second, .val (.ref b1), .unset, .unset, .unset, .unset, .unset, .unset, .unset, .unset, .unset] [(.ref b138), (.ref b138)])) _
    refine XS.bipush X224.here hx rfl (hb hby at_576) ?_
    show Steps p.tables e below (T224.setTop (mkF m 578 #[.val (.int p1), .val (.int p2), .val (.long q1), .second, .val (.ref b1), .unset, .unset, .unset, .unset, .unset, .unset, .unset, .unset, .unset] [(.int (43 : Int32)), (.ref b138), (.ref b138)])) _
    refine X224.ldc2Long hx hown (mvT hZ (hw _ (List.mem_of_getElem? (i := 98) rfl))) (g := (mkF m 578 #[.val (.int p1), .val (.int p2), .val (.long q1), .second, .val (.ref b1), .unset, .unset, .unset, .unset, .unset, .unset, .unset, .unset, .unset] [(.int (43 : Int32)), (.ref b138), (.ref b138)])) rfl (hb hby at_578) _ ?_
    show Steps p.tables e below (T224.setTop (mkF m 581 #[.val (.int p1), .val (.int p2), .val (.long q1), .second, .val (.ref b1), .unset, .unset, .unset, .unset, .unset, .unset, .unset, .unset, .unset] [(.long (4294967295 : Int64)), (.int (43 : Int32)), (.ref b138), (.ref b138)])) _
    refine st226 _ ?_
    exact kt
  clear pre225 st226 Vn226 X224 e224 V224 K224 O224 N224
  obtain ⟨T228, h228, lo228, X228, e228, O228, N228, K228, Vn228, st228⟩ := own_stJ X226 hx hZ e226 O226 N226 K226 V226 g_b138 (j := (44 : Int32)) (by decide) 44 rfl (Nat.le_of_ble_eq_true rfl) (g := (mkF m 588 #[.val (.int p1), .val (.int p2), .val (.long q1), .second, .val (.ref b1), .unset, .unset, .unset, .unset, .unset, .unset, .unset, .unset, .unset] [(.long (4294967295 : Int64)), (.int (44 : Int32)), (.ref b138), (.ref b138)])) rfl rfl (hb hby at_588)
  have V228 : Arv Z h228 b138 k138 .long (45 : Int32) [(.long (-1 : Int64)), (.long (7 : Int64)), (.long (8191 : Int64)), (.long (1 : Int64)), (.long (1 : Int64)), (.long (1 : Int64)), (.long (8191 : Int64)), (.long (4294967295 : Int64)), (.long (1 : Int64)), (.long (1 : Int64)), (.long (1 : Int64)), (.long (1 : Int64)), (.long (1 : Int64)), (.long (1 : Int64)), (.long (1 : Int64)), (.long (1 : Int64)), (.long (1 : Int64)), (.long (7 : Int64)), (.long (15 : Int64)), (.long (255 : Int64)), (.long (255 : Int64)), (.long (15 : Int64)), (.long (1 : Int64)), (.long (4294967295 : Int64)), (.long (4294967295 : Int64)), (.long (-1 : Int64)), (.long (4294967295 : Int64)), (.long (1 : Int64)), (.long (1 : Int64)), (.long (1 : Int64)), (.long (1 : Int64)), (.long (1 : Int64)), (.long (1 : Int64)), (.long (1 : Int64)), (.long (16777215 : Int64)), (.long (-1 : Int64)), (.long (-1 : Int64)), (.long (4294967295 : Int64)), (.long (4294967295 : Int64)), (.long (4294967295 : Int64)), (.long (4294967295 : Int64)), (.long (-1 : Int64)), (.long (4294967295 : Int64)), (.long (4294967295 : Int64)), (.long (4294967295 : Int64))] (.long (0 : Int64)) := Vn228
  have pre229 : ∀ t, Steps p.tables e below (T228.setTop (mkF m 589 #[.val (.int p1), .val (.int p2), .val (.long q1), .second, .val (.ref b1), .unset, .unset, .unset, .unset, .unset, .unset, .unset, .unset, .unset] [(.ref b138)])) t → Steps p.tables e below (s₁.setTop (entryFrame m #[(.int p1), (.int p2), (.long q1)] maxLocals)) t := by
    intro t kt
    refine pre227 _ ?_
    show Steps p.tables e below (T226.setTop (mkF m 582 #[.val (.int p1), .val (.int p2), .val (.long q1), .second, .val (.ref b1), .unset, .unset, .unset, .unset, .unset, .unset, .unset, .unset, .unset] [(.ref b138)])) _
    refine XS.dup X226.here hx rfl (hb hby at_582) rfl rfl ?_
    show Steps p.tables e below (T226.setTop (mkF m 583 #[.val (.int p1), .val (.int p2), .val (.long q1), .second, .val (.ref b1), .unset, .unset, .unset, .unset, .unset, .unset, .unset, .unset, .unset] [(.ref b138), (.ref b138)])) _
    refine XS.bipush X226.here hx rfl (hb hby at_583) ?_
    show Steps p.tables e below (T226.setTop (mkF m 585 #[.val (.int p1), .val (.int p2), .val (.long q1), .second, .val (.ref b1), .unset, .unset, .unset, .unset, .unset, .unset, .unset, .unset, .unset] [(.int (44 : Int32)), (.ref b138), (.ref b138)])) _
    refine X226.ldc2Long hx hown (mvT hZ (hw _ (List.mem_of_getElem? (i := 98) rfl))) (g := (mkF m 585 #[.val (.int p1), .val (.int p2), .val (.long q1), .second, .val (.ref b1), .unset, .unset, .unset, .unset, .unset, .unset, .unset, .unset, .unset] [(.int (44 : Int32)), (.ref b138), (.ref b138)])) rfl (hb hby at_585) _ ?_
    show Steps p.tables e below (T226.setTop (mkF m 588 #[.val (.int p1), .val (.int p2), .val (.long q1), .second, .val (.ref b1), .unset, .unset, .unset, .unset, .unset, .unset, .unset, .unset, .unset] [(.long (4294967295 : Int64)), (.int (44 : Int32)), (.ref b138), (.ref b138)])) _
    refine st228 _ ?_
    exact kt
  clear pre227 st228 Vn228 X226 e226 V226 K226 O226 N226
  have f231 := ((V136.ext E138).keep K228 (ninS ne_b1_b138 nin0))
  have Vc230 := f231
  obtain ⟨cl230, Ar230, qa230, Sz230, Nn230, Ha230, Ga230⟩ := Vc230
  have hin230 : ¬ (((p1 &&& (2147483647 : Int32)) % (45 : Int32)) < 0 ∨ cl230.slots.size ≤ (((p1 &&& (2147483647 : Int32)) % (45 : Int32))).toNatClampNeg) := inb_of Sz230 (own_b p1)
  obtain ⟨wf, wd, top, hwf, htop, Ewf, Fwf, hR⟩ : ∃ (wf : Addr) (wd : Int32) (top : Int64), ([(.ref w_CLIENT), (.ref w_VERSION), (.ref w_DOMAIN), (.ref w_HCO), (.ref w_EPG), (.ref w_MPG), (.ref w_LENGTH), (.ref w_CONTROL), (.ref w_NRS), (.ref w_APG), (.ref w_NSR), (.ref w_NER), (.ref w_NRT), (.ref w_MDG), (.ref w_CMG), (.ref w_STI), (.ref w_DRT), (.ref w_RETRANSMIT_COUNT), (.ref w_FORWARD_COUNT), (.ref w_INTER_PACKET_GAP), (.ref w_PG_COUNT), (.ref w_PRIORITY), (.ref w_FUNCTION_CODE), (.ref w_TRANSACTION), (.ref w_PACKET_DELIVERY), (.ref w_SERVER), (.ref w_FLAGS_AND_CODE), (.ref w_CMD), (.ref w_DGM), (.ref w_MDM), (.ref w_SDA), (.ref w_CRE), (.ref w_MRD), (.ref w_PIC), (.ref w_CODE), (.ref w_CO_RESIDENT_ENTITY), (.ref w_USER_DATA), (.ref w_MSG_DELIVERY), (.ref w_SEGMENT_SIZE), (.ref w_NOTIFY_CONTROL), (.ref w_NOTIFY_RECEIVE_SEQUENCE), (.ref w_NOTIFY_CLIENT), (.ref w_NOTIFY_TRANSACTION), (.ref w_NOTIFY_DELIVERY), (.ref w_NOTIFY_CODE)] : List Value).getD (((p1 &&& (2147483647 : Int32)) % (45 : Int32))).toNatClampNeg .null = .ref wf ∧ ([(.long (-1 : Int64)), (.long (7 : Int64)), (.long (8191 : Int64)), (.long (1 : Int64)), (.long (1 : Int64)), (.long (1 : Int64)), (.long (8191 : Int64)), (.long (4294967295 : Int64)), (.long (1 : Int64)), (.long (1 : Int64)), (.long (1 : Int64)), (.long (1 : Int64)), (.long (1 : Int64)), (.long (1 : Int64)), (.long (1 : Int64)), (.long (1 : Int64)), (.long (1 : Int64)), (.long (7 : Int64)), (.long (15 : Int64)), (.long (255 : Int64)), (.long (255 : Int64)), (.long (15 : Int64)), (.long (1 : Int64)), (.long (4294967295 : Int64)), (.long (4294967295 : Int64)), (.long (-1 : Int64)), (.long (4294967295 : Int64)), (.long (1 : Int64)), (.long (1 : Int64)), (.long (1 : Int64)), (.long (1 : Int64)), (.long (1 : Int64)), (.long (1 : Int64)), (.long (1 : Int64)), (.long (16777215 : Int64)), (.long (-1 : Int64)), (.long (-1 : Int64)), (.long (4294967295 : Int64)), (.long (4294967295 : Int64)), (.long (4294967295 : Int64)), (.long (4294967295 : Int64)), (.long (-1 : Int64)), (.long (4294967295 : Int64)), (.long (4294967295 : Int64)), (.long (4294967295 : Int64))] : List Value).getD (((p1 &&& (2147483647 : Int32)) % (45 : Int32))).toNatClampNeg (.long (0 : Int64)) = .long top ∧ Exa Z Z.heap wf "com/example/riposte/riposte/packet/HeaderField" ∧ Fld Z Z.heap wf "com/example/riposte/riposte/packet/HeaderField" "width" "I" (.int wd) ∧ own_rel wd top := by
    rcases own_k p1 with h | h | h | h | h | h | h | h | h | h | h | h | h | h | h | h | h | h | h | h | h | h | h | h | h | h | h | h | h | h | h | h | h | h | h | h | h | h | h | h | h | h | h | h | h
    · rw [h]; exact ⟨_, _, _, rfl, rfl, E_w_CLIENT, F_width_w_CLIENT, by unfold own_rel; decide⟩
    · rw [h]; exact ⟨_, _, _, rfl, rfl, E_w_VERSION, F_width_w_VERSION, by unfold own_rel; decide⟩
    · rw [h]; exact ⟨_, _, _, rfl, rfl, E_w_DOMAIN, F_width_w_DOMAIN, by unfold own_rel; decide⟩
    · rw [h]; exact ⟨_, _, _, rfl, rfl, E_w_HCO, F_width_w_HCO, by unfold own_rel; decide⟩
    · rw [h]; exact ⟨_, _, _, rfl, rfl, E_w_EPG, F_width_w_EPG, by unfold own_rel; decide⟩
    · rw [h]; exact ⟨_, _, _, rfl, rfl, E_w_MPG, F_width_w_MPG, by unfold own_rel; decide⟩
    · rw [h]; exact ⟨_, _, _, rfl, rfl, E_w_LENGTH, F_width_w_LENGTH, by unfold own_rel; decide⟩
    · rw [h]; exact ⟨_, _, _, rfl, rfl, E_w_CONTROL, F_width_w_CONTROL, by unfold own_rel; decide⟩
    · rw [h]; exact ⟨_, _, _, rfl, rfl, E_w_NRS, F_width_w_NRS, by unfold own_rel; decide⟩
    · rw [h]; exact ⟨_, _, _, rfl, rfl, E_w_APG, F_width_w_APG, by unfold own_rel; decide⟩
    · rw [h]; exact ⟨_, _, _, rfl, rfl, E_w_NSR, F_width_w_NSR, by unfold own_rel; decide⟩
    · rw [h]; exact ⟨_, _, _, rfl, rfl, E_w_NER, F_width_w_NER, by unfold own_rel; decide⟩
    · rw [h]; exact ⟨_, _, _, rfl, rfl, E_w_NRT, F_width_w_NRT, by unfold own_rel; decide⟩
    · rw [h]; exact ⟨_, _, _, rfl, rfl, E_w_MDG, F_width_w_MDG, by unfold own_rel; decide⟩
    · rw [h]; exact ⟨_, _, _, rfl, rfl, E_w_CMG, F_width_w_CMG, by unfold own_rel; decide⟩
    · rw [h]; exact ⟨_, _, _, rfl, rfl, E_w_STI, F_width_w_STI, by unfold own_rel; decide⟩
    · rw [h]; exact ⟨_, _, _, rfl, rfl, E_w_DRT, F_width_w_DRT, by unfold own_rel; decide⟩
    · rw [h]; exact ⟨_, _, _, rfl, rfl, E_w_RETRANSMIT_COUNT, F_width_w_RETRANSMIT_COUNT, by unfold own_rel; decide⟩
    · rw [h]; exact ⟨_, _, _, rfl, rfl, E_w_FORWARD_COUNT, F_width_w_FORWARD_COUNT, by unfold own_rel; decide⟩
    · rw [h]; exact ⟨_, _, _, rfl, rfl, E_w_INTER_PACKET_GAP, F_width_w_INTER_PACKET_GAP, by unfold own_rel; decide⟩
    · rw [h]; exact ⟨_, _, _, rfl, rfl, E_w_PG_COUNT, F_width_w_PG_COUNT, by unfold own_rel; decide⟩
    · rw [h]; exact ⟨_, _, _, rfl, rfl, E_w_PRIORITY, F_width_w_PRIORITY, by unfold own_rel; decide⟩
    · rw [h]; exact ⟨_, _, _, rfl, rfl, E_w_FUNCTION_CODE, F_width_w_FUNCTION_CODE, by unfold own_rel; decide⟩
    · rw [h]; exact ⟨_, _, _, rfl, rfl, E_w_TRANSACTION, F_width_w_TRANSACTION, by unfold own_rel; decide⟩
    · rw [h]; exact ⟨_, _, _, rfl, rfl, E_w_PACKET_DELIVERY, F_width_w_PACKET_DELIVERY, by unfold own_rel; decide⟩
    · rw [h]; exact ⟨_, _, _, rfl, rfl, E_w_SERVER, F_width_w_SERVER, by unfold own_rel; decide⟩
    · rw [h]; exact ⟨_, _, _, rfl, rfl, E_w_FLAGS_AND_CODE, F_width_w_FLAGS_AND_CODE, by unfold own_rel; decide⟩
    · rw [h]; exact ⟨_, _, _, rfl, rfl, E_w_CMD, F_width_w_CMD, by unfold own_rel; decide⟩
    · rw [h]; exact ⟨_, _, _, rfl, rfl, E_w_DGM, F_width_w_DGM, by unfold own_rel; decide⟩
    · rw [h]; exact ⟨_, _, _, rfl, rfl, E_w_MDM, F_width_w_MDM, by unfold own_rel; decide⟩
    · rw [h]; exact ⟨_, _, _, rfl, rfl, E_w_SDA, F_width_w_SDA, by unfold own_rel; decide⟩
    · rw [h]; exact ⟨_, _, _, rfl, rfl, E_w_CRE, F_width_w_CRE, by unfold own_rel; decide⟩
    · rw [h]; exact ⟨_, _, _, rfl, rfl, E_w_MRD, F_width_w_MRD, by unfold own_rel; decide⟩
    · rw [h]; exact ⟨_, _, _, rfl, rfl, E_w_PIC, F_width_w_PIC, by unfold own_rel; decide⟩
    · rw [h]; exact ⟨_, _, _, rfl, rfl, E_w_CODE, F_width_w_CODE, by unfold own_rel; decide⟩
    · rw [h]; exact ⟨_, _, _, rfl, rfl, E_w_CO_RESIDENT_ENTITY, F_width_w_CO_RESIDENT_ENTITY, by unfold own_rel; decide⟩
    · rw [h]; exact ⟨_, _, _, rfl, rfl, E_w_USER_DATA, F_width_w_USER_DATA, by unfold own_rel; decide⟩
    · rw [h]; exact ⟨_, _, _, rfl, rfl, E_w_MSG_DELIVERY, F_width_w_MSG_DELIVERY, by unfold own_rel; decide⟩
    · rw [h]; exact ⟨_, _, _, rfl, rfl, E_w_SEGMENT_SIZE, F_width_w_SEGMENT_SIZE, by unfold own_rel; decide⟩
    · rw [h]; exact ⟨_, _, _, rfl, rfl, E_w_NOTIFY_CONTROL, F_width_w_NOTIFY_CONTROL, by unfold own_rel; decide⟩
    · rw [h]; exact ⟨_, _, _, rfl, rfl, E_w_NOTIFY_RECEIVE_SEQUENCE, F_width_w_NOTIFY_RECEIVE_SEQUENCE, by unfold own_rel; decide⟩
    · rw [h]; exact ⟨_, _, _, rfl, rfl, E_w_NOTIFY_CLIENT, F_width_w_NOTIFY_CLIENT, by unfold own_rel; decide⟩
    · rw [h]; exact ⟨_, _, _, rfl, rfl, E_w_NOTIFY_TRANSACTION, F_width_w_NOTIFY_TRANSACTION, by unfold own_rel; decide⟩
    · rw [h]; exact ⟨_, _, _, rfl, rfl, E_w_NOTIFY_DELIVERY, F_width_w_NOTIFY_DELIVERY, by unfold own_rel; decide⟩
    · rw [h]; exact ⟨_, _, _, rfl, rfl, E_w_NOTIFY_CODE, F_width_w_NOTIFY_CODE, by unfold own_rel; decide⟩
  have hat230 := Has.at Ha230 hin230 hwf
  have Vc232 := V228
  obtain ⟨cl232, Ar232, qa232, Sz232, Nn232, Ha232, Ga232⟩ := Vc232
  have hin232 : ¬ (((p1 &&& (2147483647 : Int32)) % (45 : Int32)) < 0 ∨ cl232.slots.size ≤ (((p1 &&& (2147483647 : Int32)) % (45 : Int32))).toNatClampNeg) := inb_of Sz232 (own_b p1)
  have hat232 := Has.at Ha232 hin232 htop
  have pre233 : ∀ t, Steps p.tables e below (T228.setTop (mkF m 621 #[.val (.int p1), .val (.int p2), .val (.long q1), .second, .val (.ref b1), .val (.ref b138), .val (.int ((p1 &&& (2147483647 : Int32)) % (45 : Int32))), .val (.ref wf), .val (.long top), .second, .val (.int (p2 &&& (3 : Int32))), .unset, .unset, .unset] [(.int (p2 &&& (3 : Int32)))])) t → Steps p.tables e below (s₁.setTop (entryFrame m #[(.int p1), (.int p2), (.long q1)] maxLocals)) t := by
    intro t kt
    refine pre229 _ ?_
    show Steps p.tables e below (T228.setTop (mkF m 589 #[.val (.int p1), .val (.int p2), .val (.long q1), .second, .val (.ref b1), .unset, .unset, .unset, .unset, .unset, .unset, .unset, .unset, .unset] [(.ref b138)])) _
    refine XS.astore X228.here hx rfl (hb hby at_589) rfl rfl (l' := #[.val (.int p1), .val (.int p2), .val (.long q1), .second, .val (.ref b1), .val (.ref b138), .unset, .unset, .unset, .unset, .unset, .unset, .unset, .unset]) rfl ?_
    show Steps p.tables e below (T228.setTop (mkF m 591 #[.val (.int p1), .val (.int p2), .val (.long q1), .second, .val (.ref b1), .val (.ref b138), .unset, .unset, .unset, .unset, .unset, .unset, .unset, .unset] [])) _
    refine XS.iloadN X228.here hx rfl (hb hby at_591) rfl ?_
    show Steps p.tables e below (T228.setTop (mkF m 592 #[.val (.int p1), .val (.int p2), .val (.long q1), .second, .val (.ref b1), .val (.ref b138), .unset, .unset, .unset, .unset, .unset, .unset, .unset, .unset] [(.int p1)])) _
    refine X228.ldcInt hx hown (mvT hZ (hw _ (List.mem_of_getElem? (i := 102) rfl))) (g := (mkF m 592 #[.val (.int p1), .val (.int p2), .val (.long q1), .second, .val (.ref b1), .val (.ref b138), .unset, .unset, .unset, .unset, .unset, .unset, .unset, .unset] [(.int p1)])) rfl (hb hby at_592) _ ?_
    show Steps p.tables e below (T228.setTop (mkF m 594 #[.val (.int p1), .val (.int p2), .val (.long q1), .second, .val (.ref b1), .val (.ref b138), .unset, .unset, .unset, .unset, .unset, .unset, .unset, .unset] [(.int (2147483647 : Int32)), (.int p1)])) _
    refine XS.iand X228.here hx rfl (hb hby at_594) rfl ?_
    show Steps p.tables e below (T228.setTop (mkF m 595 #[.val (.int p1), .val (.int p2), .val (.long q1), .second, .val (.ref b1), .val (.ref b138), .unset, .unset, .unset, .unset, .unset, .unset, .unset, .unset] [(.int (p1 &&& (2147483647 : Int32)))])) _
    refine XS.bipush X228.here hx rfl (hb hby at_595) ?_
    show Steps p.tables e below (T228.setTop (mkF m 597 #[.val (.int p1), .val (.int p2), .val (.long q1), .second, .val (.ref b1), .val (.ref b138), .unset, .unset, .unset, .unset, .unset, .unset, .unset, .unset] [(.int (45 : Int32)), (.int (p1 &&& (2147483647 : Int32)))])) _
    refine iremM X228 hx (g := (mkF m 597 #[.val (.int p1), .val (.int p2), .val (.long q1), .second, .val (.ref b1), .val (.ref b138), .unset, .unset, .unset, .unset, .unset, .unset, .unset, .unset] [(.int (45 : Int32)), (.int (p1 &&& (2147483647 : Int32)))])) rfl (hb hby at_597) rfl (by decide) ?_
    show Steps p.tables e below (T228.setTop (mkF m 598 #[.val (.int p1), .val (.int p2), .val (.long q1), .second, .val (.ref b1), .val (.ref b138), .unset, .unset, .unset, .unset, .unset, .unset, .unset, .unset] [(.int ((p1 &&& (2147483647 : Int32)) % (45 : Int32)))])) _
    refine XS.istore X228.here hx rfl (hb hby at_598) rfl (l' := #[.val (.int p1), .val (.int p2), .val (.long q1), .second, .val (.ref b1), .val (.ref b138), .val (.int ((p1 &&& (2147483647 : Int32)) % (45 : Int32))), .unset, .unset, .unset, .unset, .unset, .unset, .unset]) rfl ?_
    show Steps p.tables e below (T228.setTop (mkF m 600 #[.val (.int p1), .val (.int p2), .val (.long q1), .second, .val (.ref b1), .val (.ref b138), .val (.int ((p1 &&& (2147483647 : Int32)) % (45 : Int32))), .unset, .unset, .unset, .unset, .unset, .unset, .unset] [])) _
    refine XS.aload X228.here hx rfl (hb hby at_600) rfl rfl ?_
    show Steps p.tables e below (T228.setTop (mkF m 602 #[.val (.int p1), .val (.int p2), .val (.long q1), .second, .val (.ref b1), .val (.ref b138), .val (.int ((p1 &&& (2147483647 : Int32)) % (45 : Int32))), .unset, .unset, .unset, .unset, .unset, .unset, .unset] [(.ref b1)])) _
    refine XS.iload X228.here hx rfl (hb hby at_602) rfl ?_
    show Steps p.tables e below (T228.setTop (mkF m 604 #[.val (.int p1), .val (.int p2), .val (.long q1), .second, .val (.ref b1), .val (.ref b138), .val (.int ((p1 &&& (2147483647 : Int32)) % (45 : Int32))), .unset, .unset, .unset, .unset, .unset, .unset, .unset] [(.int ((p1 &&& (2147483647 : Int32)) % (45 : Int32))), (.ref b1)])) _
    refine X228.aaload hx (j := ((p1 &&& (2147483647 : Int32)) % (45 : Int32))) (v := (.ref wf)) (by rw [e228]; exact Ar230.1) (State.isArrayOf_alike hZ.alike Ar230.2.1) rfl Ar230.2.2 hin230 hat230 (g := (mkF m 604 #[.val (.int p1), .val (.int p2), .val (.long q1), .second, .val (.ref b1), .val (.ref b138), .val (.int ((p1 &&& (2147483647 : Int32)) % (45 : Int32))), .unset, .unset, .unset, .unset, .unset, .unset, .unset] [(.int ((p1 &&& (2147483647 : Int32)) % (45 : Int32))), (.ref b1)])) rfl rfl (hb hby at_604) _ ?_
    show Steps p.tables e below (T228.setTop (mkF m 605 #[.val (.int p1), .val (.int p2), .val (.long q1), .second, .val (.ref b1), .val (.ref b138), .val (.int ((p1 &&& (2147483647 : Int32)) % (45 : Int32))), .unset, .unset, .unset, .unset, .unset, .unset, .unset] [(.ref wf)])) _
    refine XS.astore X228.here hx rfl (hb hby at_605) rfl rfl (l' := #[.val (.int p1), .val (.int p2), .val (.long q1), .second, .val (.ref b1), .val (.ref b138), .val (.int ((p1 &&& (2147483647 : Int32)) % (45 : Int32))), .val (.ref wf), .unset, .unset, .unset, .unset, .unset, .unset]) rfl ?_
    show Steps p.tables e below (T228.setTop (mkF m 607 #[.val (.int p1), .val (.int p2), .val (.long q1), .second, .val (.ref b1), .val (.ref b138), .val (.int ((p1 &&& (2147483647 : Int32)) % (45 : Int32))), .val (.ref wf), .unset, .unset, .unset, .unset, .unset, .unset] [])) _
    refine XS.aload X228.here hx rfl (hb hby at_607) rfl rfl ?_
    show Steps p.tables e below (T228.setTop (mkF m 609 #[.val (.int p1), .val (.int p2), .val (.long q1), .second, .val (.ref b1), .val (.ref b138), .val (.int ((p1 &&& (2147483647 : Int32)) % (45 : Int32))), .val (.ref wf), .unset, .unset, .unset, .unset, .unset, .unset] [(.ref b138)])) _
    refine XS.iload X228.here hx rfl (hb hby at_609) rfl ?_
    show Steps p.tables e below (T228.setTop (mkF m 611 #[.val (.int p1), .val (.int p2), .val (.long q1), .second, .val (.ref b1), .val (.ref b138), .val (.int ((p1 &&& (2147483647 : Int32)) % (45 : Int32))), .val (.ref wf), .unset, .unset, .unset, .unset, .unset, .unset] [(.int ((p1 &&& (2147483647 : Int32)) % (45 : Int32))), (.ref b138)])) _
    refine X228.laload hx (j := ((p1 &&& (2147483647 : Int32)) % (45 : Int32))) (v := (.long top)) (by rw [e228]; exact Ar232.1) (State.isArrayOf_alike hZ.alike Ar232.2.1) Ar232.2.2 hin232 hat232 (g := (mkF m 611 #[.val (.int p1), .val (.int p2), .val (.long q1), .second, .val (.ref b1), .val (.ref b138), .val (.int ((p1 &&& (2147483647 : Int32)) % (45 : Int32))), .val (.ref wf), .unset, .unset, .unset, .unset, .unset, .unset] [(.int ((p1 &&& (2147483647 : Int32)) % (45 : Int32))), (.ref b138)])) rfl rfl (hb hby at_611) _ ?_
    show Steps p.tables e below (T228.setTop (mkF m 612 #[.val (.int p1), .val (.int p2), .val (.long q1), .second, .val (.ref b1), .val (.ref b138), .val (.int ((p1 &&& (2147483647 : Int32)) % (45 : Int32))), .val (.ref wf), .unset, .unset, .unset, .unset, .unset, .unset] [(.long top)])) _
    refine XS.lstore X228.here hx rfl (hb hby at_612) rfl (l' := #[.val (.int p1), .val (.int p2), .val (.long q1), .second, .val (.ref b1), .val (.ref b138), .val (.int ((p1 &&& (2147483647 : Int32)) % (45 : Int32))), .val (.ref wf), .val (.long top), .second, .unset, .unset, .unset, .unset]) rfl ?_
    show Steps p.tables e below (T228.setTop (mkF m 614 #[.val (.int p1), .val (.int p2), .val (.long q1), .second, .val (.ref b1), .val (.ref b138), .val (.int ((p1 &&& (2147483647 : Int32)) % (45 : Int32))), .val (.ref wf), .val (.long top), .second, .unset, .unset, .unset, .unset] [])) _
    refine XS.iloadN X228.here hx rfl (hb hby at_614) rfl ?_
    show Steps p.tables e below (T228.setTop (mkF m 615 #[.val (.int p1), .val (.int p2), .val (.long q1), .second, .val (.ref b1), .val (.ref b138), .val (.int ((p1 &&& (2147483647 : Int32)) % (45 : Int32))), .val (.ref wf), .val (.long top), .second, .unset, .unset, .unset, .unset] [(.int p2)])) _
    refine XS.iconst X228.here hx rfl (hb hby at_615) ?_
    show Steps p.tables e below (T228.setTop (mkF m 616 #[.val (.int p1), .val (.int p2), .val (.long q1), .second, .val (.ref b1), .val (.ref b138), .val (.int ((p1 &&& (2147483647 : Int32)) % (45 : Int32))), .val (.ref wf), .val (.long top), .second, .unset, .unset, .unset, .unset] [(.int (3 : Int32)), (.int p2)])) _
    refine XS.iand X228.here hx rfl (hb hby at_616) rfl ?_
    show Steps p.tables e below (T228.setTop (mkF m 617 #[.val (.int p1), .val (.int p2), .val (.long q1), .second, .val (.ref b1), .val (.ref b138), .val (.int ((p1 &&& (2147483647 : Int32)) % (45 : Int32))), .val (.ref wf), .val (.long top), .second, .unset, .unset, .unset, .unset] [(.int (p2 &&& (3 : Int32)))])) _
    refine XS.istore X228.here hx rfl (hb hby at_617) rfl (l' := #[.val (.int p1), .val (.int p2), .val (.long q1), .second, .val (.ref b1), .val (.ref b138), .val (.int ((p1 &&& (2147483647 : Int32)) % (45 : Int32))), .val (.ref wf), .val (.long top), .second, .val (.int (p2 &&& (3 : Int32))), .unset, .unset, .unset]) rfl ?_
    show Steps p.tables e below (T228.setTop (mkF m 619 #[.val (.int p1), .val (.int p2), .val (.long q1), .second, .val (.ref b1), .val (.ref b138), .val (.int ((p1 &&& (2147483647 : Int32)) % (45 : Int32))), .val (.ref wf), .val (.long top), .second, .val (.int (p2 &&& (3 : Int32))), .unset, .unset, .unset] [])) _
    refine XS.iload X228.here hx rfl (hb hby at_619) rfl ?_
    exact kt
  by_cases hc621_233 : (p2 &&& (3 : Int32)) = (0 : Int32)
  · have pre234 : ∀ t, Steps p.tables e below (T228.setTop (mkF m 679 #[.val (.int p1), .val (.int p2), .val (.long q1), .second, .val (.ref b1), .val (.ref b138), .val (.int ((p1 &&& (2147483647 : Int32)) % (45 : Int32))), .val (.ref wf), .val (.long top), .second, .val (.int (p2 &&& (3 : Int32))), .val (.long q1), .second, .unset] [(.int (lcmpW top (-1 : Int64)))])) t → Steps p.tables e below (s₁.setTop (entryFrame m #[(.int p1), (.int p2), (.long q1)] maxLocals)) t := by
      intro t kt
      refine pre233 _ ?_
      show Steps p.tables e below (T228.setTop (mkF m 621 #[.val (.int p1), .val (.int p2), .val (.long q1), .second, .val (.ref b1), .val (.ref b138), .val (.int ((p1 &&& (2147483647 : Int32)) % (45 : Int32))), .val (.ref wf), .val (.long top), .second, .val (.int (p2 &&& (3 : Int32))), .unset, .unset, .unset] [(.int (p2 &&& (3 : Int32)))])) _
      refine XS.ifNo X228.here hx rfl (hb hby at_621) rfl ((if0 _ _).trans (teq hc621_233).2) ?_
      show Steps p.tables e below (T228.setTop (mkF m 624 #[.val (.int p1), .val (.int p2), .val (.long q1), .second, .val (.ref b1), .val (.ref b138), .val (.int ((p1 &&& (2147483647 : Int32)) % (45 : Int32))), .val (.ref wf), .val (.long top), .second, .val (.int (p2 &&& (3 : Int32))), .unset, .unset, .unset] [])) _
      refine XS.lloadN X228.here hx rfl (hb hby at_624) rfl ?_
      show Steps p.tables e below (T228.setTop (mkF m 625 #[.val (.int p1), .val (.int p2), .val (.long q1), .second, .val (.ref b1), .val (.ref b138), .val (.int ((p1 &&& (2147483647 : Int32)) % (45 : Int32))), .val (.ref wf), .val (.long top), .second, .val (.int (p2 &&& (3 : Int32))), .unset, .unset, .unset] [(.long q1)])) _
      refine XS.lstore X228.here hx rfl (hb hby at_625) rfl (l' := #[.val (.int p1), .val (.int p2), .val (.long q1), .second, .val (.ref b1), .val (.ref b138), .val (.int ((p1 &&& (2147483647 : Int32)) % (45 : Int32))), .val (.ref wf), .val (.long top), .second, .val (.int (p2 &&& (3 : Int32))), .val (.long q1), .second, .unset]) rfl ?_
      show Steps p.tables e below (T228.setTop (mkF m 627 #[.val (.int p1), .val (.int p2), .val (.long q1), .second, .val (.ref b1), .val (.ref b138), .val (.int ((p1 &&& (2147483647 : Int32)) % (45 : Int32))), .val (.ref wf), .val (.long top), .second, .val (.int (p2 &&& (3 : Int32))), .val (.long q1), .second, .unset] [])) _
      refine XS.goto X228.here hx rfl (pc0 := 627) (pc' := 673) rfl (hb hby at_627) (by decide) (by decide) ?_
      show Steps p.tables e below (T228.setTop (mkF m 673 #[.val (.int p1), .val (.int p2), .val (.long q1), .second, .val (.ref b1), .val (.ref b138), .val (.int ((p1 &&& (2147483647 : Int32)) % (45 : Int32))), .val (.ref wf), .val (.long top), .second, .val (.int (p2 &&& (3 : Int32))), .val (.long q1), .second, .unset] [])) _
      refine XS.lload X228.here hx rfl (hb hby at_673) rfl ?_
      show Steps p.tables e below (T228.setTop (mkF m 675 #[.val (.int p1), .val (.int p2), .val (.long q1), .second, .val (.ref b1), .val (.ref b138), .val (.int ((p1 &&& (2147483647 : Int32)) % (45 : Int32))), .val (.ref wf), .val (.long top), .second, .val (.int (p2 &&& (3 : Int32))), .val (.long q1), .second, .unset] [(.long top)])) _
      refine X228.ldc2Long hx hown (mvT hZ (hw _ (List.mem_of_getElem? (i := 95) rfl))) (g := (mkF m 675 #[.val (.int p1), .val (.int p2), .val (.long q1), .second, .val (.ref b1), .val (.ref b138), .val (.int ((p1 &&& (2147483647 : Int32)) % (45 : Int32))), .val (.ref wf), .val (.long top), .second, .val (.int (p2 &&& (3 : Int32))), .val (.long q1), .second, .unset] [(.long top)])) rfl (hb hby at_675) _ ?_
      show Steps p.tables e below (T228.setTop (mkF m 678 #[.val (.int p1), .val (.int p2), .val (.long q1), .second, .val (.ref b1), .val (.ref b138), .val (.int ((p1 &&& (2147483647 : Int32)) % (45 : Int32))), .val (.ref wf), .val (.long top), .second, .val (.int (p2 &&& (3 : Int32))), .val (.long q1), .second, .unset] [(.long (-1 : Int64)), (.long top)])) _
      refine XS.lcmp X228.here hx rfl (hb hby at_678) rfl ?_
      exact kt
    by_cases hc679_234 : (lcmpW top (-1 : Int64)) = (0 : Int32)
    · obtain ⟨cq235, kq235, q235a, q235b, q235c⟩ := isOf hZ e228 (Ewf.ext O228.2)
      obtain ⟨_, _, ⟨T235, L235, k235, n235⟩, -, X235, ⟨Lc235, hQ235, l235, y235, z235⟩, st235⟩ := X228.virtualBack hx (y := (⟨"com/example/riposte/riposte/packet/HeaderField", "holds", "(J)Z"⟩ : MethodName)) (z := (⟨"com/example/riposte/riposte/packet/HeaderField", "holds", "(J)Z"⟩ : MethodName)) hown (mvT hZ (hw _ (List.mem_of_getElem? (i := 104) rfl))) (mvT hZ (hw _ (List.mem_of_getElem? (i := 105) rfl))) (notFace_of_selects (args := #[]) (mvT hZ (hw _ (List.mem_of_getElem? (i := 107) rfl)))) (mvT hZ (hw _ (List.mem_of_getElem? (i := 107) rfl))) (mvT hZ (hw _ (List.mem_of_getElem? (i := 106) rfl))) (by decide) (backOf (W := 0) (hold l Z a0 hw [] wf q1 wd h228 n0 O228 (Fwf.ext O228.2)) hZ (hw _ (List.mem_of_getElem? (i := 108) rfl)) (hw _ (List.mem_of_getElem? (i := 3) rfl)) (by decide) (by decide)) q235a q235c (g := (mkF m 708 #[.val (.int p1), .val (.int p2), .val (.long q1), .second, .val (.ref b1), .val (.ref b138), .val (.int ((p1 &&& (2147483647 : Int32)) % (45 : Int32))), .val (.ref wf), .val (.long top), .second, .val (.int (p2 &&& (3 : Int32))), .val (.long q1), .second, .val (.int (1 : Int32))] [(.long q1), (.ref wf)])) rfl (by rw [hml]; rfl) (Steps.refl _) (argsL := [(.long q1)]) (rest := []) (lenOf pd__J_Z rfl) rfl (by show 2 * 0 + _ ≤ _; exact Nat.le_of_eq rfl) (hb hby at_708) (fun _ _ => ⟨rfl, e228, (by decide : 2 + 0 ≤ _), (by decide : 90 + 0 ≤ _)⟩)
      dsimp only [Pt.U, Pt.locs, Pt.cells, Pt.slots] at X235 l235 y235 z235 st235 hQ235
      subst l235 y235 z235
      obtain ⟨rfl, Nq235, eq235⟩ := hQ235
      have N235 := Fr.app N228 Nq235
      have hd236 : (own_holds wd q1) = (1 : Int32) := own_h1 hR hc679_234
      obtain ⟨fs, hr, hrun, hended, hW, hsame⟩ := X235.leave (v := some (.int (1 : Int32))) (fun h => by rw [Bd.returns] at h; cases h)
      refine ⟨_, _, pre234 _ ?_, hrun, hended, _, _, rfl, ?_, ⟨_, rfl⟩, hW, hsame.mono (by decide) (by decide)⟩
      · show Steps p.tables e below (T228.setTop (mkF m 679 #[.val (.int p1), .val (.int p2), .val (.long q1), .second, .val (.ref b1), .val (.ref b138), .val (.int ((p1 &&& (2147483647 : Int32)) % (45 : Int32))), .val (.ref wf), .val (.long top), .second, .val (.int (p2 &&& (3 : Int32))), .val (.long q1), .second, .unset] [(.int (lcmpW top (-1 : Int64)))])) _
        refine XS.ifYes X228.here hx rfl (pc0 := 679) (pc' := 697) rfl (hb hby at_679) rfl ((if0 _ _).trans (teq hc679_234).1) (by decide) (by decide) ?_
        show Steps p.tables e below (T228.setTop (mkF m 697 #[.val (.int p1), .val (.int p2), .val (.long q1), .second, .val (.ref b1), .val (.ref b138), .val (.int ((p1 &&& (2147483647 : Int32)) % (45 : Int32))), .val (.ref wf), .val (.long top), .second, .val (.int (p2 &&& (3 : Int32))), .val (.long q1), .second, .unset] [])) _
        refine XS.iconst X228.here hx rfl (hb hby at_697) ?_
        show Steps p.tables e below (T228.setTop (mkF m 698 #[.val (.int p1), .val (.int p2), .val (.long q1), .second, .val (.ref b1), .val (.ref b138), .val (.int ((p1 &&& (2147483647 : Int32)) % (45 : Int32))), .val (.ref wf), .val (.long top), .second, .val (.int (p2 &&& (3 : Int32))), .val (.long q1), .second, .unset] [(.int (1 : Int32))])) _
        refine XS.goto X228.here hx rfl (pc0 := 698) (pc' := 702) rfl (hb hby at_698) (by decide) (by decide) ?_
        show Steps p.tables e below (T228.setTop (mkF m 702 #[.val (.int p1), .val (.int p2), .val (.long q1), .second, .val (.ref b1), .val (.ref b138), .val (.int ((p1 &&& (2147483647 : Int32)) % (45 : Int32))), .val (.ref wf), .val (.long top), .second, .val (.int (p2 &&& (3 : Int32))), .val (.long q1), .second, .unset] [(.int (1 : Int32))])) _
        refine XS.istore X228.here hx rfl (hb hby at_702) rfl (l' := #[.val (.int p1), .val (.int p2), .val (.long q1), .second, .val (.ref b1), .val (.ref b138), .val (.int ((p1 &&& (2147483647 : Int32)) % (45 : Int32))), .val (.ref wf), .val (.long top), .second, .val (.int (p2 &&& (3 : Int32))), .val (.long q1), .second, .val (.int (1 : Int32))]) rfl ?_
        show Steps p.tables e below (T228.setTop (mkF m 704 #[.val (.int p1), .val (.int p2), .val (.long q1), .second, .val (.ref b1), .val (.ref b138), .val (.int ((p1 &&& (2147483647 : Int32)) % (45 : Int32))), .val (.ref wf), .val (.long top), .second, .val (.int (p2 &&& (3 : Int32))), .val (.long q1), .second, .val (.int (1 : Int32))] [])) _
        refine XS.aload X228.here hx rfl (hb hby at_704) rfl rfl ?_
        show Steps p.tables e below (T228.setTop (mkF m 706 #[.val (.int p1), .val (.int p2), .val (.long q1), .second, .val (.ref b1), .val (.ref b138), .val (.int ((p1 &&& (2147483647 : Int32)) % (45 : Int32))), .val (.ref wf), .val (.long top), .second, .val (.int (p2 &&& (3 : Int32))), .val (.long q1), .second, .val (.int (1 : Int32))] [(.ref wf)])) _
        refine XS.lload X228.here hx rfl (hb hby at_706) rfl ?_
        show Steps p.tables e below (T228.setTop (mkF m 708 #[.val (.int p1), .val (.int p2), .val (.long q1), .second, .val (.ref b1), .val (.ref b138), .val (.int ((p1 &&& (2147483647 : Int32)) % (45 : Int32))), .val (.ref wf), .val (.long top), .second, .val (.int (p2 &&& (3 : Int32))), .val (.long q1), .second, .val (.int (1 : Int32))] [(.long q1), (.ref wf)])) _
        refine st235.trans ?_
        show Steps p.tables e below (T235.setTop (mkF m 711 #[.val (.int p1), .val (.int p2), .val (.long q1), .second, .val (.ref b1), .val (.ref b138), .val (.int ((p1 &&& (2147483647 : Int32)) % (45 : Int32))), .val (.ref wf), .val (.long top), .second, .val (.int (p2 &&& (3 : Int32))), .val (.long q1), .second, .val (.int (1 : Int32))] [(.int (own_holds wd q1))])) _
        refine XS.iload X235.here hx rfl (hb hby at_711) rfl ?_
        show Steps p.tables e below (T235.setTop (mkF m 713 #[.val (.int p1), .val (.int p2), .val (.long q1), .second, .val (.ref b1), .val (.ref b138), .val (.int ((p1 &&& (2147483647 : Int32)) % (45 : Int32))), .val (.ref wf), .val (.long top), .second, .val (.int (p2 &&& (3 : Int32))), .val (.long q1), .second, .val (.int (1 : Int32))] [(.int (1 : Int32)), (.int (own_holds wd q1))])) _
        refine XS.icmpNo X235.here hx rfl (hb hby at_713) rfl (teq hd236).2 ?_
        show Steps p.tables e below (T235.setTop (mkF m 716 #[.val (.int p1), .val (.int p2), .val (.long q1), .second, .val (.ref b1), .val (.ref b138), .val (.int ((p1 &&& (2147483647 : Int32)) % (45 : Int32))), .val (.ref wf), .val (.long top), .second, .val (.int (p2 &&& (3 : Int32))), .val (.long q1), .second, .val (.int (1 : Int32))] [])) _
        refine XS.iconst X235.here hx rfl (hb hby at_716) ?_
        show Steps p.tables e below (T235.setTop (mkF m 717 #[.val (.int p1), .val (.int p2), .val (.long q1), .second, .val (.ref b1), .val (.ref b138), .val (.int ((p1 &&& (2147483647 : Int32)) % (45 : Int32))), .val (.ref wf), .val (.long top), .second, .val (.int (p2 &&& (3 : Int32))), .val (.long q1), .second, .val (.int (1 : Int32))] [(.int (1 : Int32))])) _
        refine XS.goto X235.here hx rfl (pc0 := 717) (pc' := 721) rfl (hb hby at_717) (by decide) (by decide) ?_
        show Steps p.tables e below (T235.setTop (mkF m 721 #[.val (.int p1), .val (.int p2), .val (.long q1), .second, .val (.ref b1), .val (.ref b138), .val (.int ((p1 &&& (2147483647 : Int32)) % (45 : Int32))), .val (.ref wf), .val (.long top), .second, .val (.int (p2 &&& (3 : Int32))), .val (.long q1), .second, .val (.int (1 : Int32))] [(.int (1 : Int32))])) _
        exact retN X235 hx (t := .boolean) Bd.returns (by simp) (hb hby at_721) hr
      · show Q_rm0 Z p1 p2 q1 w_CLIENT w_VERSION w_DOMAIN w_HCO w_EPG w_MPG w_LENGTH w_CONTROL w_NRS w_APG w_NSR w_NER w_NRT w_MDG w_CMG w_STI w_DRT w_RETRANSMIT_COUNT w_FORWARD_COUNT w_INTER_PACKET_GAP w_PG_COUNT w_PRIORITY w_FUNCTION_CODE w_TRANSACTION w_PACKET_DELIVERY w_SERVER w_FLAGS_AND_CODE w_CMD w_DGM w_MDM w_SDA w_CRE w_MRD w_PIC w_CODE w_CO_RESIDENT_ENTITY w_USER_DATA w_MSG_DELIVERY w_SEGMENT_SIZE w_NOTIFY_CONTROL w_NOTIFY_RECEIVE_SEQUENCE w_NOTIFY_CLIENT w_NOTIFY_TRANSACTION w_NOTIFY_DELIVERY w_NOTIFY_CODE h0 n0 _ T235.heap _
        rw [eq235]
        exact ⟨rfl, N235⟩
    · have pre237 : ∀ t, Steps p.tables e below (T228.setTop (mkF m 686 #[.val (.int p1), .val (.int p2), .val (.long q1), .second, .val (.ref b1), .val (.ref b138), .val (.int ((p1 &&& (2147483647 : Int32)) % (45 : Int32))), .val (.ref wf), .val (.long top), .second, .val (.int (p2 &&& (3 : Int32))), .val (.long q1), .second, .unset] [(.int (lcmpW q1 (0 : Int64)))])) t → Steps p.tables e below (s₁.setTop (entryFrame m #[(.int p1), (.int p2), (.long q1)] maxLocals)) t := by
        intro t kt
        refine pre234 _ ?_
        show Steps p.tables e below (T228.setTop (mkF m 679 #[.val (.int p1), .val (.int p2), .val (.long q1), .second, .val (.ref b1), .val (.ref b138), .val (.int ((p1 &&& (2147483647 : Int32)) % (45 : Int32))), .val (.ref wf), .val (.long top), .second, .val (.int (p2 &&& (3 : Int32))), .val (.long q1), .second, .unset] [(.int (lcmpW top (-1 : Int64)))])) _
        refine XS.ifNo X228.here hx rfl (hb hby at_679) rfl ((if0 _ _).trans (feq hc679_234).1) ?_
        show Steps p.tables e below (T228.setTop (mkF m 682 #[.val (.int p1), .val (.int p2), .val (.long q1), .second, .val (.ref b1), .val (.ref b138), .val (.int ((p1 &&& (2147483647 : Int32)) % (45 : Int32))), .val (.ref wf), .val (.long top), .second, .val (.int (p2 &&& (3 : Int32))), .val (.long q1), .second, .unset] [])) _
        refine XS.lload X228.here hx rfl (hb hby at_682) rfl ?_
        show Steps p.tables e below (T228.setTop (mkF m 684 #[.val (.int p1), .val (.int p2), .val (.long q1), .second, .val (.ref b1), .val (.ref b138), .val (.int ((p1 &&& (2147483647 : Int32)) % (45 : Int32))), .val (.ref wf), .val (.long top), .second, .val (.int (p2 &&& (3 : Int32))), .val (.long q1), .second, .unset] [(.long q1)])) _
        refine XS.lconst X228.here hx rfl (hb hby at_684) ?_
        show Steps p.tables e below (T228.setTop (mkF m 685 #[.val (.int p1), .val (.int p2), .val (.long q1), .second, .val (.ref b1), .val (.ref b138), .val (.int ((p1 &&& (2147483647 : Int32)) % (45 : Int32))), .val (.ref wf), .val (.long top), .second, .val (.int (p2 &&& (3 : Int32))), .val (.long q1), .second, .unset] [(.long (0 : Int64)), (.long q1)])) _
        refine XS.lcmp X228.here hx rfl (hb hby at_685) rfl ?_
        exact kt
      by_cases hc686_237 : (lcmpW q1 (0 : Int64)) < (0 : Int32)
      · obtain ⟨cq238, kq238, q238a, q238b, q238c⟩ := isOf hZ e228 (Ewf.ext O228.2)
        obtain ⟨_, _, ⟨T238, L238, k238, n238⟩, -, X238, ⟨Lc238, hQ238, l238, y238, z238⟩, st238⟩ := X228.virtualBack hx (y := (⟨"com/example/riposte/riposte/packet/HeaderField", "holds", "(J)Z"⟩ : MethodName)) (z := (⟨"com/example/riposte/riposte/packet/HeaderField", "holds", "(J)Z"⟩ : MethodName)) hown (mvT hZ (hw _ (List.mem_of_getElem? (i := 104) rfl))) (mvT hZ (hw _ (List.mem_of_getElem? (i := 105) rfl))) (notFace_of_selects (args := #[]) (mvT hZ (hw _ (List.mem_of_getElem? (i := 107) rfl)))) (mvT hZ (hw _ (List.mem_of_getElem? (i := 107) rfl))) (mvT hZ (hw _ (List.mem_of_getElem? (i := 106) rfl))) (by decide) (backOf (W := 0) (hold l Z a0 hw [] wf q1 wd h228 n0 O228 (Fwf.ext O228.2)) hZ (hw _ (List.mem_of_getElem? (i := 108) rfl)) (hw _ (List.mem_of_getElem? (i := 3) rfl)) (by decide) (by decide)) q238a q238c (g := (mkF m 708 #[.val (.int p1), .val (.int p2), .val (.long q1), .second, .val (.ref b1), .val (.ref b138), .val (.int ((p1 &&& (2147483647 : Int32)) % (45 : Int32))), .val (.ref wf), .val (.long top), .second, .val (.int (p2 &&& (3 : Int32))), .val (.long q1), .second, .val (.int (0 : Int32))] [(.long q1), (.ref wf)])) rfl (by rw [hml]; rfl) (Steps.refl _) (argsL := [(.long q1)]) (rest := []) (lenOf pd__J_Z rfl) rfl (by show 2 * 0 + _ ≤ _; exact Nat.le_of_eq rfl) (hb hby at_708) (fun _ _ => ⟨rfl, e228, (by decide : 2 + 0 ≤ _), (by decide : 90 + 0 ≤ _)⟩)
        dsimp only [Pt.U, Pt.locs, Pt.cells, Pt.slots] at X238 l238 y238 z238 st238 hQ238
        subst l238 y238 z238
        obtain ⟨rfl, Nq238, eq238⟩ := hQ238
        have N238 := Fr.app N228 Nq238
        have hd239 : (own_holds wd q1) = (0 : Int32) := own_h2 hR hc679_234 hc686_237
        obtain ⟨fs, hr, hrun, hended, hW, hsame⟩ := X238.leave (v := some (.int (1 : Int32))) (fun h => by rw [Bd.returns] at h; cases h)
        refine ⟨_, _, pre237 _ ?_, hrun, hended, _, _, rfl, ?_, ⟨_, rfl⟩, hW, hsame.mono (by decide) (by decide)⟩
        · show Steps p.tables e below (T228.setTop (mkF m 686 #[.val (.int p1), .val (.int p2), .val (.long q1), .second, .val (.ref b1), .val (.ref b138), .val (.int ((p1 &&& (2147483647 : Int32)) % (45 : Int32))), .val (.ref wf), .val (.long top), .second, .val (.int (p2 &&& (3 : Int32))), .val (.long q1), .second, .unset] [(.int (lcmpW q1 (0 : Int64)))])) _
          refine XS.ifYes X228.here hx rfl (pc0 := 686) (pc' := 701) rfl (hb hby at_686) rfl ((if0 _ _).trans (tlt hc686_237).1) (by decide) (by decide) ?_
          show Steps p.tables e below (T228.setTop (mkF m 701 #[.val (.int p1), .val (.int p2), .val (.long q1), .second, .val (.ref b1), .val (.ref b138), .val (.int ((p1 &&& (2147483647 : Int32)) % (45 : Int32))), .val (.ref wf), .val (.long top), .second, .val (.int (p2 &&& (3 : Int32))), .val (.long q1), .second, .unset] [])) _
          refine XS.iconst X228.here hx rfl (hb hby at_701) ?_
          show Steps p.tables e below (T228.setTop (mkF m 702 #[.val (.int p1), .val (.int p2), .val (.long q1), .second, .val (.ref b1), .val (.ref b138), .val (.int ((p1 &&& (2147483647 : Int32)) % (45 : Int32))), .val (.ref wf), .val (.long top), .second, .val (.int (p2 &&& (3 : Int32))), .val (.long q1), .second, .unset] [(.int (0 : Int32))])) _
          refine XS.istore X228.here hx rfl (hb hby at_702) rfl (l' := #[.val (.int p1), .val (.int p2), .val (.long q1), .second, .val (.ref b1), .val (.ref b138), .val (.int ((p1 &&& (2147483647 : Int32)) % (45 : Int32))), .val (.ref wf), .val (.long top), .second, .val (.int (p2 &&& (3 : Int32))), .val (.long q1), .second, .val (.int (0 : Int32))]) rfl ?_
          show Steps p.tables e below (T228.setTop (mkF m 704 #[.val (.int p1), .val (.int p2), .val (.long q1), .second, .val (.ref b1), .val (.ref b138), .val (.int ((p1 &&& (2147483647 : Int32)) % (45 : Int32))), .val (.ref wf), .val (.long top), .second, .val (.int (p2 &&& (3 : Int32))), .val (.long q1), .second, .val (.int (0 : Int32))] [])) _
          refine XS.aload X228.here hx rfl (hb hby at_704) rfl rfl ?_
          show Steps p.tables e below (T228.setTop (mkF m 706 #[.val (.int p1), .val (.int p2), .val (.long q1), .second, .val (.ref b1), .val (.ref b138), .val (.int ((p1 &&& (2147483647 : Int32)) % (45 : Int32))), .val (.ref wf), .val (.long top), .second, .val (.int (p2 &&& (3 : Int32))), .val (.long q1), .second, .val (.int (0 : Int32))] [(.ref wf)])) _
          refine XS.lload X228.here hx rfl (hb hby at_706) rfl ?_
          show Steps p.tables e below (T228.setTop (mkF m 708 #[.val (.int p1), .val (.int p2), .val (.long q1), .second, .val (.ref b1), .val (.ref b138), .val (.int ((p1 &&& (2147483647 : Int32)) % (45 : Int32))), .val (.ref wf), .val (.long top), .second, .val (.int (p2 &&& (3 : Int32))), .val (.long q1), .second, .val (.int (0 : Int32))] [(.long q1), (.ref wf)])) _
          refine st238.trans ?_
          show Steps p.tables e below (T238.setTop (mkF m 711 #[.val (.int p1), .val (.int p2), .val (.long q1), .second, .val (.ref b1), .val (.ref b138), .val (.int ((p1 &&& (2147483647 : Int32)) % (45 : Int32))), .val (.ref wf), .val (.long top), .second, .val (.int (p2 &&& (3 : Int32))), .val (.long q1), .second, .val (.int (0 : Int32))] [(.int (own_holds wd q1))])) _
          refine XS.iload X238.here hx rfl (hb hby at_711) rfl ?_
          show Steps p.tables e below (T238.setTop (mkF m 713 #[.val (.int p1), .val (.int p2), .val (.long q1), .second, .val (.ref b1), .val (.ref b138), .val (.int ((p1 &&& (2147483647 : Int32)) % (45 : Int32))), .val (.ref wf), .val (.long top), .second, .val (.int (p2 &&& (3 : Int32))), .val (.long q1), .second, .val (.int (0 : Int32))] [(.int (0 : Int32)), (.int (own_holds wd q1))])) _
          refine XS.icmpNo X238.here hx rfl (hb hby at_713) rfl (teq hd239).2 ?_
          show Steps p.tables e below (T238.setTop (mkF m 716 #[.val (.int p1), .val (.int p2), .val (.long q1), .second, .val (.ref b1), .val (.ref b138), .val (.int ((p1 &&& (2147483647 : Int32)) % (45 : Int32))), .val (.ref wf), .val (.long top), .second, .val (.int (p2 &&& (3 : Int32))), .val (.long q1), .second, .val (.int (0 : Int32))] [])) _
          refine XS.iconst X238.here hx rfl (hb hby at_716) ?_
          show Steps p.tables e below (T238.setTop (mkF m 717 #[.val (.int p1), .val (.int p2), .val (.long q1), .second, .val (.ref b1), .val (.ref b138), .val (.int ((p1 &&& (2147483647 : Int32)) % (45 : Int32))), .val (.ref wf), .val (.long top), .second, .val (.int (p2 &&& (3 : Int32))), .val (.long q1), .second, .val (.int (0 : Int32))] [(.int (1 : Int32))])) _
          refine XS.goto X238.here hx rfl (pc0 := 717) (pc' := 721) rfl (hb hby at_717) (by decide) (by decide) ?_
          show Steps p.tables e below (T238.setTop (mkF m 721 #[.val (.int p1), .val (.int p2), .val (.long q1), .second, .val (.ref b1), .val (.ref b138), .val (.int ((p1 &&& (2147483647 : Int32)) % (45 : Int32))), .val (.ref wf), .val (.long top), .second, .val (.int (p2 &&& (3 : Int32))), .val (.long q1), .second, .val (.int (0 : Int32))] [(.int (1 : Int32))])) _
          exact retN X238 hx (t := .boolean) Bd.returns (by simp) (hb hby at_721) hr
        · show Q_rm0 Z p1 p2 q1 w_CLIENT w_VERSION w_DOMAIN w_HCO w_EPG w_MPG w_LENGTH w_CONTROL w_NRS w_APG w_NSR w_NER w_NRT w_MDG w_CMG w_STI w_DRT w_RETRANSMIT_COUNT w_FORWARD_COUNT w_INTER_PACKET_GAP w_PG_COUNT w_PRIORITY w_FUNCTION_CODE w_TRANSACTION w_PACKET_DELIVERY w_SERVER w_FLAGS_AND_CODE w_CMD w_DGM w_MDM w_SDA w_CRE w_MRD w_PIC w_CODE w_CO_RESIDENT_ENTITY w_USER_DATA w_MSG_DELIVERY w_SEGMENT_SIZE w_NOTIFY_CONTROL w_NOTIFY_RECEIVE_SEQUENCE w_NOTIFY_CLIENT w_NOTIFY_TRANSACTION w_NOTIFY_DELIVERY w_NOTIFY_CODE h0 n0 _ T238.heap _
          rw [eq238]
          exact ⟨rfl, N238⟩
      · have pre240 : ∀ t, Steps p.tables e below (T228.setTop (mkF m 694 #[.val (.int p1), .val (.int p2), .val (.long q1), .second, .val (.ref b1), .val (.ref b138), .val (.int ((p1 &&& (2147483647 : Int32)) % (45 : Int32))), .val (.ref wf), .val (.long top), .second, .val (.int (p2 &&& (3 : Int32))), .val (.long q1), .second, .unset] [(.int (lcmpW q1 top))])) t → Steps p.tables e below (s₁.setTop (entryFrame m #[(.int p1), (.int p2), (.long q1)] maxLocals)) t := by
          intro t kt
          refine pre237 _ ?_
          show Steps p.tables e below (T228.setTop (mkF m 686 #[.val (.int p1), .val (.int p2), .val (.long q1), .second, .val (.ref b1), .val (.ref b138), .val (.int ((p1 &&& (2147483647 : Int32)) % (45 : Int32))), .val (.ref wf), .val (.long top), .second, .val (.int (p2 &&& (3 : Int32))), .val (.long q1), .second, .unset] [(.int (lcmpW q1 (0 : Int64)))])) _
          refine XS.ifNo X228.here hx rfl (hb hby at_686) rfl ((if0 _ _).trans (flt hc686_237).1) ?_
          show Steps p.tables e below (T228.setTop (mkF m 689 #[.val (.int p1), .val (.int p2), .val (.long q1), .second, .val (.ref b1), .val (.ref b138), .val (.int ((p1 &&& (2147483647 : Int32)) % (45 : Int32))), .val (.ref wf), .val (.long top), .second, .val (.int (p2 &&& (3 : Int32))), .val (.long q1), .second, .unset] [])) _
          refine XS.lload X228.here hx rfl (hb hby at_689) rfl ?_
          show Steps p.tables e below (T228.setTop (mkF m 691 #[.val (.int p1), .val (.int p2), .val (.long q1), .second, .val (.ref b1), .val (.ref b138), .val (.int ((p1 &&& (2147483647 : Int32)) % (45 : Int32))), .val (.ref wf), .val (.long top), .second, .val (.int (p2 &&& (3 : Int32))), .val (.long q1), .second, .unset] [(.long q1)])) _
          refine XS.lload X228.here hx rfl (hb hby at_691) rfl ?_
          show Steps p.tables e below (T228.setTop (mkF m 693 #[.val (.int p1), .val (.int p2), .val (.long q1), .second, .val (.ref b1), .val (.ref b138), .val (.int ((p1 &&& (2147483647 : Int32)) % (45 : Int32))), .val (.ref wf), .val (.long top), .second, .val (.int (p2 &&& (3 : Int32))), .val (.long q1), .second, .unset] [(.long top), (.long q1)])) _
          refine XS.lcmp X228.here hx rfl (hb hby at_693) rfl ?_
          exact kt
        by_cases hc694_240 : (0 : Int32) < (lcmpW q1 top)
        · obtain ⟨cq241, kq241, q241a, q241b, q241c⟩ := isOf hZ e228 (Ewf.ext O228.2)
          obtain ⟨_, _, ⟨T241, L241, k241, n241⟩, -, X241, ⟨Lc241, hQ241, l241, y241, z241⟩, st241⟩ := X228.virtualBack hx (y := (⟨"com/example/riposte/riposte/packet/HeaderField", "holds", "(J)Z"⟩ : MethodName)) (z := (⟨"com/example/riposte/riposte/packet/HeaderField", "holds", "(J)Z"⟩ : MethodName)) hown (mvT hZ (hw _ (List.mem_of_getElem? (i := 104) rfl))) (mvT hZ (hw _ (List.mem_of_getElem? (i := 105) rfl))) (notFace_of_selects (args := #[]) (mvT hZ (hw _ (List.mem_of_getElem? (i := 107) rfl)))) (mvT hZ (hw _ (List.mem_of_getElem? (i := 107) rfl))) (mvT hZ (hw _ (List.mem_of_getElem? (i := 106) rfl))) (by decide) (backOf (W := 0) (hold l Z a0 hw [] wf q1 wd h228 n0 O228 (Fwf.ext O228.2)) hZ (hw _ (List.mem_of_getElem? (i := 108) rfl)) (hw _ (List.mem_of_getElem? (i := 3) rfl)) (by decide) (by decide)) q241a q241c (g := (mkF m 708 #[.val (.int p1), .val (.int p2), .val (.long q1), .second, .val (.ref b1), .val (.ref b138), .val (.int ((p1 &&& (2147483647 : Int32)) % (45 : Int32))), .val (.ref wf), .val (.long top), .second, .val (.int (p2 &&& (3 : Int32))), .val (.long q1), .second, .val (.int (0 : Int32))] [(.long q1), (.ref wf)])) rfl (by rw [hml]; rfl) (Steps.refl _) (argsL := [(.long q1)]) (rest := []) (lenOf pd__J_Z rfl) rfl (by show 2 * 0 + _ ≤ _; exact Nat.le_of_eq rfl) (hb hby at_708) (fun _ _ => ⟨rfl, e228, (by decide : 2 + 0 ≤ _), (by decide : 90 + 0 ≤ _)⟩)
          dsimp only [Pt.U, Pt.locs, Pt.cells, Pt.slots] at X241 l241 y241 z241 st241 hQ241
          subst l241 y241 z241
          obtain ⟨rfl, Nq241, eq241⟩ := hQ241
          have N241 := Fr.app N228 Nq241
          have hd242 : (own_holds wd q1) = (0 : Int32) := own_h3 hR hc679_234 hc694_240
          obtain ⟨fs, hr, hrun, hended, hW, hsame⟩ := X241.leave (v := some (.int (1 : Int32))) (fun h => by rw [Bd.returns] at h; cases h)
          refine ⟨_, _, pre240 _ ?_, hrun, hended, _, _, rfl, ?_, ⟨_, rfl⟩, hW, hsame.mono (by decide) (by decide)⟩
          · show Steps p.tables e below (T228.setTop (mkF m 694 #[.val (.int p1), .val (.int p2), .val (.long q1), .second, .val (.ref b1), .val (.ref b138), .val (.int ((p1 &&& (2147483647 : Int32)) % (45 : Int32))), .val (.ref wf), .val (.long top), .second, .val (.int (p2 &&& (3 : Int32))), .val (.long q1), .second, .unset] [(.int (lcmpW q1 top))])) _
            refine XS.ifYes X228.here hx rfl (pc0 := 694) (pc' := 701) rfl (hb hby at_694) rfl ((if0 _ _).trans (tlt hc694_240).2.2.1) (by decide) (by decide) ?_
            show Steps p.tables e below (T228.setTop (mkF m 701 #[.val (.int p1), .val (.int p2), .val (.long q1), .second, .val (.ref b1), .val (.ref b138), .val (.int ((p1 &&& (2147483647 : Int32)) % (45 : Int32))), .val (.ref wf), .val (.long top), .second, .val (.int (p2 &&& (3 : Int32))), .val (.long q1), .second, .unset] [])) _
            refine XS.iconst X228.here hx rfl (hb hby at_701) ?_
            show Steps p.tables e below (T228.setTop (mkF m 702 #[.val (.int p1), .val (.int p2), .val (.long q1), .second, .val (.ref b1), .val (.ref b138), .val (.int ((p1 &&& (2147483647 : Int32)) % (45 : Int32))), .val (.ref wf), .val (.long top), .second, .val (.int (p2 &&& (3 : Int32))), .val (.long q1), .second, .unset] [(.int (0 : Int32))])) _
            refine XS.istore X228.here hx rfl (hb hby at_702) rfl (l' := #[.val (.int p1), .val (.int p2), .val (.long q1), .second, .val (.ref b1), .val (.ref b138), .val (.int ((p1 &&& (2147483647 : Int32)) % (45 : Int32))), .val (.ref wf), .val (.long top), .second, .val (.int (p2 &&& (3 : Int32))), .val (.long q1), .second, .val (.int (0 : Int32))]) rfl ?_
            show Steps p.tables e below (T228.setTop (mkF m 704 #[.val (.int p1), .val (.int p2), .val (.long q1), .second, .val (.ref b1), .val (.ref b138), .val (.int ((p1 &&& (2147483647 : Int32)) % (45 : Int32))), .val (.ref wf), .val (.long top), .second, .val (.int (p2 &&& (3 : Int32))), .val (.long q1), .second, .val (.int (0 : Int32))] [])) _
            refine XS.aload X228.here hx rfl (hb hby at_704) rfl rfl ?_
            show Steps p.tables e below (T228.setTop (mkF m 706 #[.val (.int p1), .val (.int p2), .val (.long q1), .second, .val (.ref b1), .val (.ref b138), .val (.int ((p1 &&& (2147483647 : Int32)) % (45 : Int32))), .val (.ref wf), .val (.long top), .second, .val (.int (p2 &&& (3 : Int32))), .val (.long q1), .second, .val (.int (0 : Int32))] [(.ref wf)])) _
            refine XS.lload X228.here hx rfl (hb hby at_706) rfl ?_
            show Steps p.tables e below (T228.setTop (mkF m 708 #[.val (.int p1), .val (.int p2), .val (.long q1), .second, .val (.ref b1), .val (.ref b138), .val (.int ((p1 &&& (2147483647 : Int32)) % (45 : Int32))), .val (.ref wf), .val (.long top), .second, .val (.int (p2 &&& (3 : Int32))), .val (.long q1), .second, .val (.int (0 : Int32))] [(.long q1), (.ref wf)])) _
            refine st241.trans ?_
            show Steps p.tables e below (T241.setTop (mkF m 711 #[.val (.int p1), .val (.int p2), .val (.long q1), .second, .val (.ref b1), .val (.ref b138), .val (.int ((p1 &&& (2147483647 : Int32)) % (45 : Int32))), .val (.ref wf), .val (.long top), .second, .val (.int (p2 &&& (3 : Int32))), .val (.long q1), .second, .val (.int (0 : Int32))] [(.int (own_holds wd q1))])) _
            refine XS.iload X241.here hx rfl (hb hby at_711) rfl ?_
            show Steps p.tables e below (T241.setTop (mkF m 713 #[.val (.int p1), .val (.int p2), .val (.long q1), .second, .val (.ref b1), .val (.ref b138), .val (.int ((p1 &&& (2147483647 : Int32)) % (45 : Int32))), .val (.ref wf), .val (.long top), .second, .val (.int (p2 &&& (3 : Int32))), .val (.long q1), .second, .val (.int (0 : Int32))] [(.int (0 : Int32)), (.int (own_holds wd q1))])) _
            refine XS.icmpNo X241.here hx rfl (hb hby at_713) rfl (teq hd242).2 ?_
            show Steps p.tables e below (T241.setTop (mkF m 716 #[.val (.int p1), .val (.int p2), .val (.long q1), .second, .val (.ref b1), .val (.ref b138), .val (.int ((p1 &&& (2147483647 : Int32)) % (45 : Int32))), .val (.ref wf), .val (.long top), .second, .val (.int (p2 &&& (3 : Int32))), .val (.long q1), .second, .val (.int (0 : Int32))] [])) _
            refine XS.iconst X241.here hx rfl (hb hby at_716) ?_
            show Steps p.tables e below (T241.setTop (mkF m 717 #[.val (.int p1), .val (.int p2), .val (.long q1), .second, .val (.ref b1), .val (.ref b138), .val (.int ((p1 &&& (2147483647 : Int32)) % (45 : Int32))), .val (.ref wf), .val (.long top), .second, .val (.int (p2 &&& (3 : Int32))), .val (.long q1), .second, .val (.int (0 : Int32))] [(.int (1 : Int32))])) _
            refine XS.goto X241.here hx rfl (pc0 := 717) (pc' := 721) rfl (hb hby at_717) (by decide) (by decide) ?_
            show Steps p.tables e below (T241.setTop (mkF m 721 #[.val (.int p1), .val (.int p2), .val (.long q1), .second, .val (.ref b1), .val (.ref b138), .val (.int ((p1 &&& (2147483647 : Int32)) % (45 : Int32))), .val (.ref wf), .val (.long top), .second, .val (.int (p2 &&& (3 : Int32))), .val (.long q1), .second, .val (.int (0 : Int32))] [(.int (1 : Int32))])) _
            exact retN X241 hx (t := .boolean) Bd.returns (by simp) (hb hby at_721) hr
          · show Q_rm0 Z p1 p2 q1 w_CLIENT w_VERSION w_DOMAIN w_HCO w_EPG w_MPG w_LENGTH w_CONTROL w_NRS w_APG w_NSR w_NER w_NRT w_MDG w_CMG w_STI w_DRT w_RETRANSMIT_COUNT w_FORWARD_COUNT w_INTER_PACKET_GAP w_PG_COUNT w_PRIORITY w_FUNCTION_CODE w_TRANSACTION w_PACKET_DELIVERY w_SERVER w_FLAGS_AND_CODE w_CMD w_DGM w_MDM w_SDA w_CRE w_MRD w_PIC w_CODE w_CO_RESIDENT_ENTITY w_USER_DATA w_MSG_DELIVERY w_SEGMENT_SIZE w_NOTIFY_CONTROL w_NOTIFY_RECEIVE_SEQUENCE w_NOTIFY_CLIENT w_NOTIFY_TRANSACTION w_NOTIFY_DELIVERY w_NOTIFY_CODE h0 n0 _ T241.heap _
            rw [eq241]
            exact ⟨rfl, N241⟩
        · obtain ⟨cq243, kq243, q243a, q243b, q243c⟩ := isOf hZ e228 (Ewf.ext O228.2)
          obtain ⟨_, _, ⟨T243, L243, k243, n243⟩, -, X243, ⟨Lc243, hQ243, l243, y243, z243⟩, st243⟩ := X228.virtualBack hx (y := (⟨"com/example/riposte/riposte/packet/HeaderField", "holds", "(J)Z"⟩ : MethodName)) (z := (⟨"com/example/riposte/riposte/packet/HeaderField", "holds", "(J)Z"⟩ : MethodName)) hown (mvT hZ (hw _ (List.mem_of_getElem? (i := 104) rfl))) (mvT hZ (hw _ (List.mem_of_getElem? (i := 105) rfl))) (notFace_of_selects (args := #[]) (mvT hZ (hw _ (List.mem_of_getElem? (i := 107) rfl)))) (mvT hZ (hw _ (List.mem_of_getElem? (i := 107) rfl))) (mvT hZ (hw _ (List.mem_of_getElem? (i := 106) rfl))) (by decide) (backOf (W := 0) (hold l Z a0 hw [] wf q1 wd h228 n0 O228 (Fwf.ext O228.2)) hZ (hw _ (List.mem_of_getElem? (i := 108) rfl)) (hw _ (List.mem_of_getElem? (i := 3) rfl)) (by decide) (by decide)) q243a q243c (g := (mkF m 708 #[.val (.int p1), .val (.int p2), .val (.long q1), .second, .val (.ref b1), .val (.ref b138), .val (.int ((p1 &&& (2147483647 : Int32)) % (45 : Int32))), .val (.ref wf), .val (.long top), .second, .val (.int (p2 &&& (3 : Int32))), .val (.long q1), .second, .val (.int (1 : Int32))] [(.long q1), (.ref wf)])) rfl (by rw [hml]; rfl) (Steps.refl _) (argsL := [(.long q1)]) (rest := []) (lenOf pd__J_Z rfl) rfl (by show 2 * 0 + _ ≤ _; exact Nat.le_of_eq rfl) (hb hby at_708) (fun _ _ => ⟨rfl, e228, (by decide : 2 + 0 ≤ _), (by decide : 90 + 0 ≤ _)⟩)
          dsimp only [Pt.U, Pt.locs, Pt.cells, Pt.slots] at X243 l243 y243 z243 st243 hQ243
          subst l243 y243 z243
          obtain ⟨rfl, Nq243, eq243⟩ := hQ243
          have N243 := Fr.app N228 Nq243
          have hd244 : (own_holds wd q1) = (1 : Int32) := own_h4 hR hc686_237 hc694_240
          obtain ⟨fs, hr, hrun, hended, hW, hsame⟩ := X243.leave (v := some (.int (1 : Int32))) (fun h => by rw [Bd.returns] at h; cases h)
          refine ⟨_, _, pre240 _ ?_, hrun, hended, _, _, rfl, ?_, ⟨_, rfl⟩, hW, hsame.mono (by decide) (by decide)⟩
          · show Steps p.tables e below (T228.setTop (mkF m 694 #[.val (.int p1), .val (.int p2), .val (.long q1), .second, .val (.ref b1), .val (.ref b138), .val (.int ((p1 &&& (2147483647 : Int32)) % (45 : Int32))), .val (.ref wf), .val (.long top), .second, .val (.int (p2 &&& (3 : Int32))), .val (.long q1), .second, .unset] [(.int (lcmpW q1 top))])) _
            refine XS.ifNo X228.here hx rfl (hb hby at_694) rfl ((if0 _ _).trans (flt hc694_240).2.2.1) ?_
            show Steps p.tables e below (T228.setTop (mkF m 697 #[.val (.int p1), .val (.int p2), .val (.long q1), .second, .val (.ref b1), .val (.ref b138), .val (.int ((p1 &&& (2147483647 : Int32)) % (45 : Int32))), .val (.ref wf), .val (.long top), .second, .val (.int (p2 &&& (3 : Int32))), .val (.long q1), .second, .unset] [])) _
            refine XS.iconst X228.here hx rfl (hb hby at_697) ?_
            show Steps p.tables e below (T228.setTop (mkF m 698 #[.val (.int p1), .val (.int p2), .val (.long q1), .second, .val (.ref b1), .val (.ref b138), .val (.int ((p1 &&& (2147483647 : Int32)) % (45 : Int32))), .val (.ref wf), .val (.long top), .second, .val (.int (p2 &&& (3 : Int32))), .val (.long q1), .second, .unset] [(.int (1 : Int32))])) _
            refine XS.goto X228.here hx rfl (pc0 := 698) (pc' := 702) rfl (hb hby at_698) (by decide) (by decide) ?_
            show Steps p.tables e below (T228.setTop (mkF m 702 #[.val (.int p1), .val (.int p2), .val (.long q1), .second, .val (.ref b1), .val (.ref b138), .val (.int ((p1 &&& (2147483647 : Int32)) % (45 : Int32))), .val (.ref wf), .val (.long top), .second, .val (.int (p2 &&& (3 : Int32))), .val (.long q1), .second, .unset] [(.int (1 : Int32))])) _
            refine XS.istore X228.here hx rfl (hb hby at_702) rfl (l' := #[.val (.int p1), .val (.int p2), .val (.long q1), .second, .val (.ref b1), .val (.ref b138), .val (.int ((p1 &&& (2147483647 : Int32)) % (45 : Int32))), .val (.ref wf), .val (.long top), .second, .val (.int (p2 &&& (3 : Int32))), .val (.long q1), .second, .val (.int (1 : Int32))]) rfl ?_
            show Steps p.tables e below (T228.setTop (mkF m 704 #[.val (.int p1), .val (.int p2), .val (.long q1), .second, .val (.ref b1), .val (.ref b138), .val (.int ((p1 &&& (2147483647 : Int32)) % (45 : Int32))), .val (.ref wf), .val (.long top), .second, .val (.int (p2 &&& (3 : Int32))), .val (.long q1), .second, .val (.int (1 : Int32))] [])) _
            refine XS.aload X228.here hx rfl (hb hby at_704) rfl rfl ?_
            show Steps p.tables e below (T228.setTop (mkF m 706 #[.val (.int p1), .val (.int p2), .val (.long q1), .second, .val (.ref b1), .val (.ref b138), .val (.int ((p1 &&& (2147483647 : Int32)) % (45 : Int32))), .val (.ref wf), .val (.long top), .second, .val (.int (p2 &&& (3 : Int32))), .val (.long q1), .second, .val (.int (1 : Int32))] [(.ref wf)])) _
            refine XS.lload X228.here hx rfl (hb hby at_706) rfl ?_
            show Steps p.tables e below (T228.setTop (mkF m 708 #[.val (.int p1), .val (.int p2), .val (.long q1), .second, .val (.ref b1), .val (.ref b138), .val (.int ((p1 &&& (2147483647 : Int32)) % (45 : Int32))), .val (.ref wf), .val (.long top), .second, .val (.int (p2 &&& (3 : Int32))), .val (.long q1), .second, .val (.int (1 : Int32))] [(.long q1), (.ref wf)])) _
            refine st243.trans ?_
            show Steps p.tables e below (T243.setTop (mkF m 711 #[.val (.int p1), .val (.int p2), .val (.long q1), .second, .val (.ref b1), .val (.ref b138), .val (.int ((p1 &&& (2147483647 : Int32)) % (45 : Int32))), .val (.ref wf), .val (.long top), .second, .val (.int (p2 &&& (3 : Int32))), .val (.long q1), .second, .val (.int (1 : Int32))] [(.int (own_holds wd q1))])) _
            refine XS.iload X243.here hx rfl (hb hby at_711) rfl ?_
            show Steps p.tables e below (T243.setTop (mkF m 713 #[.val (.int p1), .val (.int p2), .val (.long q1), .second, .val (.ref b1), .val (.ref b138), .val (.int ((p1 &&& (2147483647 : Int32)) % (45 : Int32))), .val (.ref wf), .val (.long top), .second, .val (.int (p2 &&& (3 : Int32))), .val (.long q1), .second, .val (.int (1 : Int32))] [(.int (1 : Int32)), (.int (own_holds wd q1))])) _
            refine XS.icmpNo X243.here hx rfl (hb hby at_713) rfl (teq hd244).2 ?_
            show Steps p.tables e below (T243.setTop (mkF m 716 #[.val (.int p1), .val (.int p2), .val (.long q1), .second, .val (.ref b1), .val (.ref b138), .val (.int ((p1 &&& (2147483647 : Int32)) % (45 : Int32))), .val (.ref wf), .val (.long top), .second, .val (.int (p2 &&& (3 : Int32))), .val (.long q1), .second, .val (.int (1 : Int32))] [])) _
            refine XS.iconst X243.here hx rfl (hb hby at_716) ?_
            show Steps p.tables e below (T243.setTop (mkF m 717 #[.val (.int p1), .val (.int p2), .val (.long q1), .second, .val (.ref b1), .val (.ref b138), .val (.int ((p1 &&& (2147483647 : Int32)) % (45 : Int32))), .val (.ref wf), .val (.long top), .second, .val (.int (p2 &&& (3 : Int32))), .val (.long q1), .second, .val (.int (1 : Int32))] [(.int (1 : Int32))])) _
            refine XS.goto X243.here hx rfl (pc0 := 717) (pc' := 721) rfl (hb hby at_717) (by decide) (by decide) ?_
            show Steps p.tables e below (T243.setTop (mkF m 721 #[.val (.int p1), .val (.int p2), .val (.long q1), .second, .val (.ref b1), .val (.ref b138), .val (.int ((p1 &&& (2147483647 : Int32)) % (45 : Int32))), .val (.ref wf), .val (.long top), .second, .val (.int (p2 &&& (3 : Int32))), .val (.long q1), .second, .val (.int (1 : Int32))] [(.int (1 : Int32))])) _
            exact retN X243 hx (t := .boolean) Bd.returns (by simp) (hb hby at_721) hr
          · show Q_rm0 Z p1 p2 q1 w_CLIENT w_VERSION w_DOMAIN w_HCO w_EPG w_MPG w_LENGTH w_CONTROL w_NRS w_APG w_NSR w_NER w_NRT w_MDG w_CMG w_STI w_DRT w_RETRANSMIT_COUNT w_FORWARD_COUNT w_INTER_PACKET_GAP w_PG_COUNT w_PRIORITY w_FUNCTION_CODE w_TRANSACTION w_PACKET_DELIVERY w_SERVER w_FLAGS_AND_CODE w_CMD w_DGM w_MDM w_SDA w_CRE w_MRD w_PIC w_CODE w_CO_RESIDENT_ENTITY w_USER_DATA w_MSG_DELIVERY w_SEGMENT_SIZE w_NOTIFY_CONTROL w_NOTIFY_RECEIVE_SEQUENCE w_NOTIFY_CLIENT w_NOTIFY_TRANSACTION w_NOTIFY_DELIVERY w_NOTIFY_CODE h0 n0 _ T243.heap _
            rw [eq243]
            exact ⟨rfl, N243⟩
  · have pre245 : ∀ t, Steps p.tables e below (T228.setTop (mkF m 633 #[.val (.int p1), .val (.int p2), .val (.long q1), .second, .val (.ref b1), .val (.ref b138), .val (.int ((p1 &&& (2147483647 : Int32)) % (45 : Int32))), .val (.ref wf), .val (.long top), .second, .val (.int (p2 &&& (3 : Int32))), .unset, .unset, .unset] [(.int (1 : Int32)), (.int (p2 &&& (3 : Int32)))])) t → Steps p.tables e below (s₁.setTop (entryFrame m #[(.int p1), (.int p2), (.long q1)] maxLocals)) t := by
      intro t kt
      refine pre233 _ ?_
      show Steps p.tables e below (T228.setTop (mkF m 621 #[.val (.int p1), .val (.int p2), .val (.long q1), .second, .val (.ref b1), .val (.ref b138), .val (.int ((p1 &&& (2147483647 : Int32)) % (45 : Int32))), .val (.ref wf), .val (.long top), .second, .val (.int (p2 &&& (3 : Int32))), .unset, .unset, .unset] [(.int (p2 &&& (3 : Int32)))])) _
      refine XS.ifYes X228.here hx rfl (pc0 := 621) (pc' := 630) rfl (hb hby at_621) rfl ((if0 _ _).trans (feq hc621_233).2) (by decide) (by decide) ?_
      show Steps p.tables e below (T228.setTop (mkF m 630 #[.val (.int p1), .val (.int p2), .val (.long q1), .second, .val (.ref b1), .val (.ref b138), .val (.int ((p1 &&& (2147483647 : Int32)) % (45 : Int32))), .val (.ref wf), .val (.long top), .second, .val (.int (p2 &&& (3 : Int32))), .unset, .unset, .unset] [])) _
      refine XS.iload X228.here hx rfl (hb hby at_630) rfl ?_
      show Steps p.tables e below (T228.setTop (mkF m 632 #[.val (.int p1), .val (.int p2), .val (.long q1), .second, .val (.ref b1), .val (.ref b138), .val (.int ((p1 &&& (2147483647 : Int32)) % (45 : Int32))), .val (.ref wf), .val (.long top), .second, .val (.int (p2 &&& (3 : Int32))), .unset, .unset, .unset] [(.int (p2 &&& (3 : Int32)))])) _
      refine XS.iconst X228.here hx rfl (hb hby at_632) ?_
      exact kt
    by_cases hc633_245 : (p2 &&& (3 : Int32)) = (1 : Int32)
    · have pre246 : ∀ t, Steps p.tables e below (T228.setTop (mkF m 679 #[.val (.int p1), .val (.int p2), .val (.long q1), .second, .val (.ref b1), .val (.ref b138), .val (.int ((p1 &&& (2147483647 : Int32)) % (45 : Int32))), .val (.ref wf), .val (.long top), .second, .val (.int (p2 &&& (3 : Int32))), .val (.long (q1 &&& top)), .second, .unset] [(.int (lcmpW top (-1 : Int64)))])) t → Steps p.tables e below (s₁.setTop (entryFrame m #[(.int p1), (.int p2), (.long q1)] maxLocals)) t := by
        intro t kt
        refine pre245 _ ?_
        show Steps p.tables e below (T228.setTop (mkF m 633 #[.val (.int p1), .val (.int p2), .val (.long q1), .second, .val (.ref b1), .val (.ref b138), .val (.int ((p1 &&& (2147483647 : Int32)) % (45 : Int32))), .val (.ref wf), .val (.long top), .second, .val (.int (p2 &&& (3 : Int32))), .unset, .unset, .unset] [(.int (1 : Int32)), (.int (p2 &&& (3 : Int32)))])) _
        refine XS.icmpNo X228.here hx rfl (hb hby at_633) rfl (teq hc633_245).2 ?_
        show Steps p.tables e below (T228.setTop (mkF m 636 #[.val (.int p1), .val (.int p2), .val (.long q1), .second, .val (.ref b1), .val (.ref b138), .val (.int ((p1 &&& (2147483647 : Int32)) % (45 : Int32))), .val (.ref wf), .val (.long top), .second, .val (.int (p2 &&& (3 : Int32))), .unset, .unset, .unset] [])) _
        refine XS.lloadN X228.here hx rfl (hb hby at_636) rfl ?_
        show Steps p.tables e below (T228.setTop (mkF m 637 #[.val (.int p1), .val (.int p2), .val (.long q1), .second, .val (.ref b1), .val (.ref b138), .val (.int ((p1 &&& (2147483647 : Int32)) % (45 : Int32))), .val (.ref wf), .val (.long top), .second, .val (.int (p2 &&& (3 : Int32))), .unset, .unset, .unset] [(.long q1)])) _
        refine XS.lload X228.here hx rfl (hb hby at_637) rfl ?_
        show Steps p.tables e below (T228.setTop (mkF m 639 #[.val (.int p1), .val (.int p2), .val (.long q1), .second, .val (.ref b1), .val (.ref b138), .val (.int ((p1 &&& (2147483647 : Int32)) % (45 : Int32))), .val (.ref wf), .val (.long top), .second, .val (.int (p2 &&& (3 : Int32))), .unset, .unset, .unset] [(.long top), (.long q1)])) _
        refine XS.land X228.here hx rfl (hb hby at_639) rfl ?_
        show Steps p.tables e below (T228.setTop (mkF m 640 #[.val (.int p1), .val (.int p2), .val (.long q1), .second, .val (.ref b1), .val (.ref b138), .val (.int ((p1 &&& (2147483647 : Int32)) % (45 : Int32))), .val (.ref wf), .val (.long top), .second, .val (.int (p2 &&& (3 : Int32))), .unset, .unset, .unset] [(.long (q1 &&& top))])) _
        refine XS.lstore X228.here hx rfl (hb hby at_640) rfl (l' := #[.val (.int p1), .val (.int p2), .val (.long q1), .second, .val (.ref b1), .val (.ref b138), .val (.int ((p1 &&& (2147483647 : Int32)) % (45 : Int32))), .val (.ref wf), .val (.long top), .second, .val (.int (p2 &&& (3 : Int32))), .val (.long (q1 &&& top)), .second, .unset]) rfl ?_
        show Steps p.tables e below (T228.setTop (mkF m 642 #[.val (.int p1), .val (.int p2), .val (.long q1), .second, .val (.ref b1), .val (.ref b138), .val (.int ((p1 &&& (2147483647 : Int32)) % (45 : Int32))), .val (.ref wf), .val (.long top), .second, .val (.int (p2 &&& (3 : Int32))), .val (.long (q1 &&& top)), .second, .unset] [])) _
        refine XS.goto X228.here hx rfl (pc0 := 642) (pc' := 673) rfl (hb hby at_642) (by decide) (by decide) ?_
        show Steps p.tables e below (T228.setTop (mkF m 673 #[.val (.int p1), .val (.int p2), .val (.long q1), .second, .val (.ref b1), .val (.ref b138), .val (.int ((p1 &&& (2147483647 : Int32)) % (45 : Int32))), .val (.ref wf), .val (.long top), .second, .val (.int (p2 &&& (3 : Int32))), .val (.long (q1 &&& top)), .second, .unset] [])) _
        refine XS.lload X228.here hx rfl (hb hby at_673) rfl ?_
        show Steps p.tables e below (T228.setTop (mkF m 675 #[.val (.int p1), .val (.int p2), .val (.long q1), .second, .val (.ref b1), .val (.ref b138), .val (.int ((p1 &&& (2147483647 : Int32)) % (45 : Int32))), .val (.ref wf), .val (.long top), .second, .val (.int (p2 &&& (3 : Int32))), .val (.long (q1 &&& top)), .second, .unset] [(.long top)])) _
        refine X228.ldc2Long hx hown (mvT hZ (hw _ (List.mem_of_getElem? (i := 95) rfl))) (g := (mkF m 675 #[.val (.int p1), .val (.int p2), .val (.long q1), .second, .val (.ref b1), .val (.ref b138), .val (.int ((p1 &&& (2147483647 : Int32)) % (45 : Int32))), .val (.ref wf), .val (.long top), .second, .val (.int (p2 &&& (3 : Int32))), .val (.long (q1 &&& top)), .second, .unset] [(.long top)])) rfl (hb hby at_675) _ ?_
        show Steps p.tables e below (T228.setTop (mkF m 678 #[.val (.int p1), .val (.int p2), .val (.long q1), .second, .val (.ref b1), .val (.ref b138), .val (.int ((p1 &&& (2147483647 : Int32)) % (45 : Int32))), .val (.ref wf), .val (.long top), .second, .val (.int (p2 &&& (3 : Int32))), .val (.long (q1 &&& top)), .second, .unset] [(.long (-1 : Int64)), (.long top)])) _
        refine XS.lcmp X228.here hx rfl (hb hby at_678) rfl ?_
        exact kt
      by_cases hc679_246 : (lcmpW top (-1 : Int64)) = (0 : Int32)
      · obtain ⟨cq247, kq247, q247a, q247b, q247c⟩ := isOf hZ e228 (Ewf.ext O228.2)
        obtain ⟨_, _, ⟨T247, L247, k247, n247⟩, -, X247, ⟨Lc247, hQ247, l247, y247, z247⟩, st247⟩ := X228.virtualBack hx (y := (⟨"com/example/riposte/riposte/packet/HeaderField", "holds", "(J)Z"⟩ : MethodName)) (z := (⟨"com/example/riposte/riposte/packet/HeaderField", "holds", "(J)Z"⟩ : MethodName)) hown (mvT hZ (hw _ (List.mem_of_getElem? (i := 104) rfl))) (mvT hZ (hw _ (List.mem_of_getElem? (i := 105) rfl))) (notFace_of_selects (args := #[]) (mvT hZ (hw _ (List.mem_of_getElem? (i := 107) rfl)))) (mvT hZ (hw _ (List.mem_of_getElem? (i := 107) rfl))) (mvT hZ (hw _ (List.mem_of_getElem? (i := 106) rfl))) (by decide) (backOf (W := 0) (hold l Z a0 hw [] wf (q1 &&& top) wd h228 n0 O228 (Fwf.ext O228.2)) hZ (hw _ (List.mem_of_getElem? (i := 108) rfl)) (hw _ (List.mem_of_getElem? (i := 3) rfl)) (by decide) (by decide)) q247a q247c (g := (mkF m 708 #[.val (.int p1), .val (.int p2), .val (.long q1), .second, .val (.ref b1), .val (.ref b138), .val (.int ((p1 &&& (2147483647 : Int32)) % (45 : Int32))), .val (.ref wf), .val (.long top), .second, .val (.int (p2 &&& (3 : Int32))), .val (.long (q1 &&& top)), .second, .val (.int (1 : Int32))] [(.long (q1 &&& top)), (.ref wf)])) rfl (by rw [hml]; rfl) (Steps.refl _) (argsL := [(.long (q1 &&& top))]) (rest := []) (lenOf pd__J_Z rfl) rfl (by show 2 * 0 + _ ≤ _; exact Nat.le_of_eq rfl) (hb hby at_708) (fun _ _ => ⟨rfl, e228, (by decide : 2 + 0 ≤ _), (by decide : 90 + 0 ≤ _)⟩)
        dsimp only [Pt.U, Pt.locs, Pt.cells, Pt.slots] at X247 l247 y247 z247 st247 hQ247
        subst l247 y247 z247
        obtain ⟨rfl, Nq247, eq247⟩ := hQ247
        have N247 := Fr.app N228 Nq247
        have hd248 : (own_holds wd (q1 &&& top)) = (1 : Int32) := own_h1 hR hc679_246
        obtain ⟨fs, hr, hrun, hended, hW, hsame⟩ := X247.leave (v := some (.int (1 : Int32))) (fun h => by rw [Bd.returns] at h; cases h)
        refine ⟨_, _, pre246 _ ?_, hrun, hended, _, _, rfl, ?_, ⟨_, rfl⟩, hW, hsame.mono (by decide) (by decide)⟩
        · show Steps p.tables e below (T228.setTop (mkF m 679 #[.val (.int p1), .val (.int p2), .val (.long q1), .second, .val (.ref b1), .val (.ref b138), .val (.int ((p1 &&& (2147483647 : Int32)) % (45 : Int32))), .val (.ref wf), .val (.long top), .second, .val (.int (p2 &&& (3 : Int32))), .val (.long (q1 &&& top)), .second, .unset] [(.int (lcmpW top (-1 : Int64)))])) _
          refine XS.ifYes X228.here hx rfl (pc0 := 679) (pc' := 697) rfl (hb hby at_679) rfl ((if0 _ _).trans (teq hc679_246).1) (by decide) (by decide) ?_
          show Steps p.tables e below (T228.setTop (mkF m 697 #[.val (.int p1), .val (.int p2), .val (.long q1), .second, .val (.ref b1), .val (.ref b138), .val (.int ((p1 &&& (2147483647 : Int32)) % (45 : Int32))), .val (.ref wf), .val (.long top), .second, .val (.int (p2 &&& (3 : Int32))), .val (.long (q1 &&& top)), .second, .unset] [])) _
          refine XS.iconst X228.here hx rfl (hb hby at_697) ?_
          show Steps p.tables e below (T228.setTop (mkF m 698 #[.val (.int p1), .val (.int p2), .val (.long q1), .second, .val (.ref b1), .val (.ref b138), .val (.int ((p1 &&& (2147483647 : Int32)) % (45 : Int32))), .val (.ref wf), .val (.long top), .second, .val (.int (p2 &&& (3 : Int32))), .val (.long (q1 &&& top)), .second, .unset] [(.int (1 : Int32))])) _
          refine XS.goto X228.here hx rfl (pc0 := 698) (pc' := 702) rfl (hb hby at_698) (by decide) (by decide) ?_
          show Steps p.tables e below (T228.setTop (mkF m 702 #[.val (.int p1), .val (.int p2), .val (.long q1), .second, .val (.ref b1), .val (.ref b138), .val (.int ((p1 &&& (2147483647 : Int32)) % (45 : Int32))), .val (.ref wf), .val (.long top), .second, .val (.int (p2 &&& (3 : Int32))), .val (.long (q1 &&& top)), .second, .unset] [(.int (1 : Int32))])) _
          refine XS.istore X228.here hx rfl (hb hby at_702) rfl (l' := #[.val (.int p1), .val (.int p2), .val (.long q1), .second, .val (.ref b1), .val (.ref b138), .val (.int ((p1 &&& (2147483647 : Int32)) % (45 : Int32))), .val (.ref wf), .val (.long top), .second, .val (.int (p2 &&& (3 : Int32))), .val (.long (q1 &&& top)), .second, .val (.int (1 : Int32))]) rfl ?_
          show Steps p.tables e below (T228.setTop (mkF m 704 #[.val (.int p1), .val (.int p2), .val (.long q1), .second, .val (.ref b1), .val (.ref b138), .val (.int ((p1 &&& (2147483647 : Int32)) % (45 : Int32))), .val (.ref wf), .val (.long top), .second, .val (.int (p2 &&& (3 : Int32))), .val (.long (q1 &&& top)), .second, .val (.int (1 : Int32))] [])) _
          refine XS.aload X228.here hx rfl (hb hby at_704) rfl rfl ?_
          show Steps p.tables e below (T228.setTop (mkF m 706 #[.val (.int p1), .val (.int p2), .val (.long q1), .second, .val (.ref b1), .val (.ref b138), .val (.int ((p1 &&& (2147483647 : Int32)) % (45 : Int32))), .val (.ref wf), .val (.long top), .second, .val (.int (p2 &&& (3 : Int32))), .val (.long (q1 &&& top)), .second, .val (.int (1 : Int32))] [(.ref wf)])) _
          refine XS.lload X228.here hx rfl (hb hby at_706) rfl ?_
          show Steps p.tables e below (T228.setTop (mkF m 708 #[.val (.int p1), .val (.int p2), .val (.long q1), .second, .val (.ref b1), .val (.ref b138), .val (.int ((p1 &&& (2147483647 : Int32)) % (45 : Int32))), .val (.ref wf), .val (.long top), .second, .val (.int (p2 &&& (3 : Int32))), .val (.long (q1 &&& top)), .second, .val (.int (1 : Int32))] [(.long (q1 &&& top)), (.ref wf)])) _
          refine st247.trans ?_
          show Steps p.tables e below (T247.setTop (mkF m 711 #[.val (.int p1), .val (.int p2), .val (.long q1), .second, .val (.ref b1), .val (.ref b138), .val (.int ((p1 &&& (2147483647 : Int32)) % (45 : Int32))), .val (.ref wf), .val (.long top), .second, .val (.int (p2 &&& (3 : Int32))), .val (.long (q1 &&& top)), .second, .val (.int (1 : Int32))] [(.int (own_holds wd (q1 &&& top)))])) _
          refine XS.iload X247.here hx rfl (hb hby at_711) rfl ?_
          show Steps p.tables e below (T247.setTop (mkF m 713 #[.val (.int p1), .val (.int p2), .val (.long q1), .second, .val (.ref b1), .val (.ref b138), .val (.int ((p1 &&& (2147483647 : Int32)) % (45 : Int32))), .val (.ref wf), .val (.long top), .second, .val (.int (p2 &&& (3 : Int32))), .val (.long (q1 &&& top)), .second, .val (.int (1 : Int32))] [(.int (1 : Int32)), (.int (own_holds wd (q1 &&& top)))])) _
          refine XS.icmpNo X247.here hx rfl (hb hby at_713) rfl (teq hd248).2 ?_
          show Steps p.tables e below (T247.setTop (mkF m 716 #[.val (.int p1), .val (.int p2), .val (.long q1), .second, .val (.ref b1), .val (.ref b138), .val (.int ((p1 &&& (2147483647 : Int32)) % (45 : Int32))), .val (.ref wf), .val (.long top), .second, .val (.int (p2 &&& (3 : Int32))), .val (.long (q1 &&& top)), .second, .val (.int (1 : Int32))] [])) _
          refine XS.iconst X247.here hx rfl (hb hby at_716) ?_
          show Steps p.tables e below (T247.setTop (mkF m 717 #[.val (.int p1), .val (.int p2), .val (.long q1), .second, .val (.ref b1), .val (.ref b138), .val (.int ((p1 &&& (2147483647 : Int32)) % (45 : Int32))), .val (.ref wf), .val (.long top), .second, .val (.int (p2 &&& (3 : Int32))), .val (.long (q1 &&& top)), .second, .val (.int (1 : Int32))] [(.int (1 : Int32))])) _
          refine XS.goto X247.here hx rfl (pc0 := 717) (pc' := 721) rfl (hb hby at_717) (by decide) (by decide) ?_
          show Steps p.tables e below (T247.setTop (mkF m 721 #[.val (.int p1), .val (.int p2), .val (.long q1), .second, .val (.ref b1), .val (.ref b138), .val (.int ((p1 &&& (2147483647 : Int32)) % (45 : Int32))), .val (.ref wf), .val (.long top), .second, .val (.int (p2 &&& (3 : Int32))), .val (.long (q1 &&& top)), .second, .val (.int (1 : Int32))] [(.int (1 : Int32))])) _
          exact retN X247 hx (t := .boolean) Bd.returns (by simp) (hb hby at_721) hr
        · show Q_rm0 Z p1 p2 q1 w_CLIENT w_VERSION w_DOMAIN w_HCO w_EPG w_MPG w_LENGTH w_CONTROL w_NRS w_APG w_NSR w_NER w_NRT w_MDG w_CMG w_STI w_DRT w_RETRANSMIT_COUNT w_FORWARD_COUNT w_INTER_PACKET_GAP w_PG_COUNT w_PRIORITY w_FUNCTION_CODE w_TRANSACTION w_PACKET_DELIVERY w_SERVER w_FLAGS_AND_CODE w_CMD w_DGM w_MDM w_SDA w_CRE w_MRD w_PIC w_CODE w_CO_RESIDENT_ENTITY w_USER_DATA w_MSG_DELIVERY w_SEGMENT_SIZE w_NOTIFY_CONTROL w_NOTIFY_RECEIVE_SEQUENCE w_NOTIFY_CLIENT w_NOTIFY_TRANSACTION w_NOTIFY_DELIVERY w_NOTIFY_CODE h0 n0 _ T247.heap _
          rw [eq247]
          exact ⟨rfl, N247⟩
      · have pre249 : ∀ t, Steps p.tables e below (T228.setTop (mkF m 686 #[.val (.int p1), .val (.int p2), .val (.long q1), .second, .val (.ref b1), .val (.ref b138), .val (.int ((p1 &&& (2147483647 : Int32)) % (45 : Int32))), .val (.ref wf), .val (.long top), .second, .val (.int (p2 &&& (3 : Int32))), .val (.long (q1 &&& top)), .second, .unset] [(.int (lcmpW (q1 &&& top) (0 : Int64)))])) t → Steps p.tables e below (s₁.setTop (entryFrame m #[(.int p1), (.int p2), (.long q1)] maxLocals)) t := by
          intro t kt
          refine pre246 _ ?_
          show Steps p.tables e below (T228.setTop (mkF m 679 #[.val (.int p1), .val (.int p2), .val (.long q1), .second, .val (.ref b1), .val (.ref b138), .val (.int ((p1 &&& (2147483647 : Int32)) % (45 : Int32))), .val (.ref wf), .val (.long top), .second, .val (.int (p2 &&& (3 : Int32))), .val (.long (q1 &&& top)), .second, .unset] [(.int (lcmpW top (-1 : Int64)))])) _
          refine XS.ifNo X228.here hx rfl (hb hby at_679) rfl ((if0 _ _).trans (feq hc679_246).1) ?_
          show Steps p.tables e below (T228.setTop (mkF m 682 #[.val (.int p1), .val (.int p2), .val (.long q1), .second, .val (.ref b1), .val (.ref b138), .val (.int ((p1 &&& (2147483647 : Int32)) % (45 : Int32))), .val (.ref wf), .val (.long top), .second, .val (.int (p2 &&& (3 : Int32))), .val (.long (q1 &&& top)), .second, .unset] [])) _
          refine XS.lload X228.here hx rfl (hb hby at_682) rfl ?_
          show Steps p.tables e below (T228.setTop (mkF m 684 #[.val (.int p1), .val (.int p2), .val (.long q1), .second, .val (.ref b1), .val (.ref b138), .val (.int ((p1 &&& (2147483647 : Int32)) % (45 : Int32))), .val (.ref wf), .val (.long top), .second, .val (.int (p2 &&& (3 : Int32))), .val (.long (q1 &&& top)), .second, .unset] [(.long (q1 &&& top))])) _
          refine XS.lconst X228.here hx rfl (hb hby at_684) ?_
          show Steps p.tables e below (T228.setTop (mkF m 685 #[.val (.int p1), .val (.int p2), .val (.long q1), .second, .val (.ref b1), .val (.ref b138), .val (.int ((p1 &&& (2147483647 : Int32)) % (45 : Int32))), .val (.ref wf), .val (.long top), .second, .val (.int (p2 &&& (3 : Int32))), .val (.long (q1 &&& top)), .second, .unset] [(.long (0 : Int64)), (.long (q1 &&& top))])) _
          refine XS.lcmp X228.here hx rfl (hb hby at_685) rfl ?_
          exact kt
        by_cases hc686_249 : (lcmpW (q1 &&& top) (0 : Int64)) < (0 : Int32)
        · obtain ⟨cq250, kq250, q250a, q250b, q250c⟩ := isOf hZ e228 (Ewf.ext O228.2)
          obtain ⟨_, _, ⟨T250, L250, k250, n250⟩, -, X250, ⟨Lc250, hQ250, l250, y250, z250⟩, st250⟩ := X228.virtualBack hx (y := (⟨"com/example/riposte/riposte/packet/HeaderField", "holds", "(J)Z"⟩ : MethodName)) (z := (⟨"com/example/riposte/riposte/packet/HeaderField", "holds", "(J)Z"⟩ : MethodName)) hown (mvT hZ (hw _ (List.mem_of_getElem? (i := 104) rfl))) (mvT hZ (hw _ (List.mem_of_getElem? (i := 105) rfl))) (notFace_of_selects (args := #[]) (mvT hZ (hw _ (List.mem_of_getElem? (i := 107) rfl)))) (mvT hZ (hw _ (List.mem_of_getElem? (i := 107) rfl))) (mvT hZ (hw _ (List.mem_of_getElem? (i := 106) rfl))) (by decide) (backOf (W := 0) (hold l Z a0 hw [] wf (q1 &&& top) wd h228 n0 O228 (Fwf.ext O228.2)) hZ (hw _ (List.mem_of_getElem? (i := 108) rfl)) (hw _ (List.mem_of_getElem? (i := 3) rfl)) (by decide) (by decide)) q250a q250c (g := (mkF m 708 #[.val (.int p1), .val (.int p2), .val (.long q1), .second, .val (.ref b1), .val (.ref b138), .val (.int ((p1 &&& (2147483647 : Int32)) % (45 : Int32))), .val (.ref wf), .val (.long top), .second, .val (.int (p2 &&& (3 : Int32))), .val (.long (q1 &&& top)), .second, .val (.int (0 : Int32))] [(.long (q1 &&& top)), (.ref wf)])) rfl (by rw [hml]; rfl) (Steps.refl _) (argsL := [(.long (q1 &&& top))]) (rest := []) (lenOf pd__J_Z rfl) rfl (by show 2 * 0 + _ ≤ _; exact Nat.le_of_eq rfl) (hb hby at_708) (fun _ _ => ⟨rfl, e228, (by decide : 2 + 0 ≤ _), (by decide : 90 + 0 ≤ _)⟩)
          dsimp only [Pt.U, Pt.locs, Pt.cells, Pt.slots] at X250 l250 y250 z250 st250 hQ250
          subst l250 y250 z250
          obtain ⟨rfl, Nq250, eq250⟩ := hQ250
          have N250 := Fr.app N228 Nq250
          have hd251 : (own_holds wd (q1 &&& top)) = (0 : Int32) := own_h2 hR hc679_246 hc686_249
          obtain ⟨fs, hr, hrun, hended, hW, hsame⟩ := X250.leave (v := some (.int (1 : Int32))) (fun h => by rw [Bd.returns] at h; cases h)
          refine ⟨_, _, pre249 _ ?_, hrun, hended, _, _, rfl, ?_, ⟨_, rfl⟩, hW, hsame.mono (by decide) (by decide)⟩
          · show Steps p.tables e below (T228.setTop (mkF m 686 #[.val (.int p1), .val (.int p2), .val (.long q1), .second, .val (.ref b1), .val (.ref b138), .val (.int ((p1 &&& (2147483647 : Int32)) % (45 : Int32))), .val (.ref wf), .val (.long top), .second, .val (.int (p2 &&& (3 : Int32))), .val (.long (q1 &&& top)), .second, .unset] [(.int (lcmpW (q1 &&& top) (0 : Int64)))])) _
            refine XS.ifYes X228.here hx rfl (pc0 := 686) (pc' := 701) rfl (hb hby at_686) rfl ((if0 _ _).trans (tlt hc686_249).1) (by decide) (by decide) ?_
            show Steps p.tables e below (T228.setTop (mkF m 701 #[.val (.int p1), .val (.int p2), .val (.long q1), .second, .val (.ref b1), .val (.ref b138), .val (.int ((p1 &&& (2147483647 : Int32)) % (45 : Int32))), .val (.ref wf), .val (.long top), .second, .val (.int (p2 &&& (3 : Int32))), .val (.long (q1 &&& top)), .second, .unset] [])) _
            refine XS.iconst X228.here hx rfl (hb hby at_701) ?_
            show Steps p.tables e below (T228.setTop (mkF m 702 #[.val (.int p1), .val (.int p2), .val (.long q1), .second, .val (.ref b1), .val (.ref b138), .val (.int ((p1 &&& (2147483647 : Int32)) % (45 : Int32))), .val (.ref wf), .val (.long top), .second, .val (.int (p2 &&& (3 : Int32))), .val (.long (q1 &&& top)), .second, .unset] [(.int (0 : Int32))])) _
            refine XS.istore X228.here hx rfl (hb hby at_702) rfl (l' := #[.val (.int p1), .val (.int p2), .val (.long q1), .second, .val (.ref b1), .val (.ref b138), .val (.int ((p1 &&& (2147483647 : Int32)) % (45 : Int32))), .val (.ref wf), .val (.long top), .second, .val (.int (p2 &&& (3 : Int32))), .val (.long (q1 &&& top)), .second, .val (.int (0 : Int32))]) rfl ?_
            show Steps p.tables e below (T228.setTop (mkF m 704 #[.val (.int p1), .val (.int p2), .val (.long q1), .second, .val (.ref b1), .val (.ref b138), .val (.int ((p1 &&& (2147483647 : Int32)) % (45 : Int32))), .val (.ref wf), .val (.long top), .second, .val (.int (p2 &&& (3 : Int32))), .val (.long (q1 &&& top)), .second, .val (.int (0 : Int32))] [])) _
            refine XS.aload X228.here hx rfl (hb hby at_704) rfl rfl ?_
            show Steps p.tables e below (T228.setTop (mkF m 706 #[.val (.int p1), .val (.int p2), .val (.long q1), .second, .val (.ref b1), .val (.ref b138), .val (.int ((p1 &&& (2147483647 : Int32)) % (45 : Int32))), .val (.ref wf), .val (.long top), .second, .val (.int (p2 &&& (3 : Int32))), .val (.long (q1 &&& top)), .second, .val (.int (0 : Int32))] [(.ref wf)])) _
            refine XS.lload X228.here hx rfl (hb hby at_706) rfl ?_
            show Steps p.tables e below (T228.setTop (mkF m 708 #[.val (.int p1), .val (.int p2), .val (.long q1), .second, .val (.ref b1), .val (.ref b138), .val (.int ((p1 &&& (2147483647 : Int32)) % (45 : Int32))), .val (.ref wf), .val (.long top), .second, .val (.int (p2 &&& (3 : Int32))), .val (.long (q1 &&& top)), .second, .val (.int (0 : Int32))] [(.long (q1 &&& top)), (.ref wf)])) _
            refine st250.trans ?_
            show Steps p.tables e below (T250.setTop (mkF m 711 #[.val (.int p1), .val (.int p2), .val (.long q1), .second, .val (.ref b1), .val (.ref b138), .val (.int ((p1 &&& (2147483647 : Int32)) % (45 : Int32))), .val (.ref wf), .val (.long top), .second, .val (.int (p2 &&& (3 : Int32))), .val (.long (q1 &&& top)), .second, .val (.int (0 : Int32))] [(.int (own_holds wd (q1 &&& top)))])) _
            refine XS.iload X250.here hx rfl (hb hby at_711) rfl ?_
            show Steps p.tables e below (T250.setTop (mkF m 713 #[.val (.int p1), .val (.int p2), .val (.long q1), .second, .val (.ref b1), .val (.ref b138), .val (.int ((p1 &&& (2147483647 : Int32)) % (45 : Int32))), .val (.ref wf), .val (.long top), .second, .val (.int (p2 &&& (3 : Int32))), .val (.long (q1 &&& top)), .second, .val (.int (0 : Int32))] [(.int (0 : Int32)), (.int (own_holds wd (q1 &&& top)))])) _
            refine XS.icmpNo X250.here hx rfl (hb hby at_713) rfl (teq hd251).2 ?_
            show Steps p.tables e below (T250.setTop (mkF m 716 #[.val (.int p1), .val (.int p2), .val (.long q1), .second, .val (.ref b1), .val (.ref b138), .val (.int ((p1 &&& (2147483647 : Int32)) % (45 : Int32))), .val (.ref wf), .val (.long top), .second, .val (.int (p2 &&& (3 : Int32))), .val (.long (q1 &&& top)), .second, .val (.int (0 : Int32))] [])) _
            refine XS.iconst X250.here hx rfl (hb hby at_716) ?_
            show Steps p.tables e below (T250.setTop (mkF m 717 #[.val (.int p1), .val (.int p2), .val (.long q1), .second, .val (.ref b1), .val (.ref b138), .val (.int ((p1 &&& (2147483647 : Int32)) % (45 : Int32))), .val (.ref wf), .val (.long top), .second, .val (.int (p2 &&& (3 : Int32))), .val (.long (q1 &&& top)), .second, .val (.int (0 : Int32))] [(.int (1 : Int32))])) _
            refine XS.goto X250.here hx rfl (pc0 := 717) (pc' := 721) rfl (hb hby at_717) (by decide) (by decide) ?_
            show Steps p.tables e below (T250.setTop (mkF m 721 #[.val (.int p1), .val (.int p2), .val (.long q1), .second, .val (.ref b1), .val (.ref b138), .val (.int ((p1 &&& (2147483647 : Int32)) % (45 : Int32))), .val (.ref wf), .val (.long top), .second, .val (.int (p2 &&& (3 : Int32))), .val (.long (q1 &&& top)), .second, .val (.int (0 : Int32))] [(.int (1 : Int32))])) _
            exact retN X250 hx (t := .boolean) Bd.returns (by simp) (hb hby at_721) hr
          · show Q_rm0 Z p1 p2 q1 w_CLIENT w_VERSION w_DOMAIN w_HCO w_EPG w_MPG w_LENGTH w_CONTROL w_NRS w_APG w_NSR w_NER w_NRT w_MDG w_CMG w_STI w_DRT w_RETRANSMIT_COUNT w_FORWARD_COUNT w_INTER_PACKET_GAP w_PG_COUNT w_PRIORITY w_FUNCTION_CODE w_TRANSACTION w_PACKET_DELIVERY w_SERVER w_FLAGS_AND_CODE w_CMD w_DGM w_MDM w_SDA w_CRE w_MRD w_PIC w_CODE w_CO_RESIDENT_ENTITY w_USER_DATA w_MSG_DELIVERY w_SEGMENT_SIZE w_NOTIFY_CONTROL w_NOTIFY_RECEIVE_SEQUENCE w_NOTIFY_CLIENT w_NOTIFY_TRANSACTION w_NOTIFY_DELIVERY w_NOTIFY_CODE h0 n0 _ T250.heap _
            rw [eq250]
            exact ⟨rfl, N250⟩
        · have pre252 : ∀ t, Steps p.tables e below (T228.setTop (mkF m 694 #[.val (.int p1), .val (.int p2), .val (.long q1), .second, .val (.ref b1), .val (.ref b138), .val (.int ((p1 &&& (2147483647 : Int32)) % (45 : Int32))), .val (.ref wf), .val (.long top), .second, .val (.int (p2 &&& (3 : Int32))), .val (.long (q1 &&& top)), .second, .unset] [(.int (lcmpW (q1 &&& top) top))])) t → Steps p.tables e below (s₁.setTop (entryFrame m #[(.int p1), (.int p2), (.long q1)] maxLocals)) t := by
            intro t kt
            refine pre249 _ ?_
            show Steps p.tables e below (T228.setTop (mkF m 686 #[.val (.int p1), .val (.int p2), .val (.long q1), .second, .val (.ref b1), .val (.ref b138), .val (.int ((p1 &&& (2147483647 : Int32)) % (45 : Int32))), .val (.ref wf), .val (.long top), .second, .val (.int (p2 &&& (3 : Int32))), .val (.long (q1 &&& top)), .second, .unset] [(.int (lcmpW (q1 &&& top) (0 : Int64)))])) _
            refine XS.ifNo X228.here hx rfl (hb hby at_686) rfl ((if0 _ _).trans (flt hc686_249).1) ?_
            show Steps p.tables e below (T228.setTop (mkF m 689 #[.val (.int p1), .val (.int p2), .val (.long q1), .second, .val (.ref b1), .val (.ref b138), .val (.int ((p1 &&& (2147483647 : Int32)) % (45 : Int32))), .val (.ref wf), .val (.long top), .second, .val (.int (p2 &&& (3 : Int32))), .val (.long (q1 &&& top)), .second, .unset] [])) _
            refine XS.lload X228.here hx rfl (hb hby at_689) rfl ?_
            show Steps p.tables e below (T228.setTop (mkF m 691 #[.val (.int p1), .val (.int p2), .val (.long q1), .second, .val (.ref b1), .val (.ref b138), .val (.int ((p1 &&& (2147483647 : Int32)) % (45 : Int32))), .val (.ref wf), .val (.long top), .second, .val (.int (p2 &&& (3 : Int32))), .val (.long (q1 &&& top)), .second, .unset] [(.long (q1 &&& top))])) _
            refine XS.lload X228.here hx rfl (hb hby at_691) rfl ?_
            show Steps p.tables e below (T228.setTop (mkF m 693 #[.val (.int p1), .val (.int p2), .val (.long q1), .second, .val (.ref b1), .val (.ref b138), .val (.int ((p1 &&& (2147483647 : Int32)) % (45 : Int32))), .val (.ref wf), .val (.long top), .second, .val (.int (p2 &&& (3 : Int32))), .val (.long (q1 &&& top)), .second, .unset] [(.long top), (.long (q1 &&& top))])) _
            refine XS.lcmp X228.here hx rfl (hb hby at_693) rfl ?_
            exact kt
          by_cases hc694_252 : (0 : Int32) < (lcmpW (q1 &&& top) top)
          · obtain ⟨cq253, kq253, q253a, q253b, q253c⟩ := isOf hZ e228 (Ewf.ext O228.2)
            obtain ⟨_, _, ⟨T253, L253, k253, n253⟩, -, X253, ⟨Lc253, hQ253, l253, y253, z253⟩, st253⟩ := X228.virtualBack hx (y := (⟨"com/example/riposte/riposte/packet/HeaderField", "holds", "(J)Z"⟩ : MethodName)) (z := (⟨"com/example/riposte/riposte/packet/HeaderField", "holds", "(J)Z"⟩ : MethodName)) hown (mvT hZ (hw _ (List.mem_of_getElem? (i := 104) rfl))) (mvT hZ (hw _ (List.mem_of_getElem? (i := 105) rfl))) (notFace_of_selects (args := #[]) (mvT hZ (hw _ (List.mem_of_getElem? (i := 107) rfl)))) (mvT hZ (hw _ (List.mem_of_getElem? (i := 107) rfl))) (mvT hZ (hw _ (List.mem_of_getElem? (i := 106) rfl))) (by decide) (backOf (W := 0) (hold l Z a0 hw [] wf (q1 &&& top) wd h228 n0 O228 (Fwf.ext O228.2)) hZ (hw _ (List.mem_of_getElem? (i := 108) rfl)) (hw _ (List.mem_of_getElem? (i := 3) rfl)) (by decide) (by decide)) q253a q253c (g := (mkF m 708 #[.val (.int p1), .val (.int p2), .val (.long q1), .second, .val (.ref b1), .val (.ref b138), .val (.int ((p1 &&& (2147483647 : Int32)) % (45 : Int32))), .val (.ref wf), .val (.long top), .second, .val (.int (p2 &&& (3 : Int32))), .val (.long (q1 &&& top)), .second, .val (.int (0 : Int32))] [(.long (q1 &&& top)), (.ref wf)])) rfl (by rw [hml]; rfl) (Steps.refl _) (argsL := [(.long (q1 &&& top))]) (rest := []) (lenOf pd__J_Z rfl) rfl (by show 2 * 0 + _ ≤ _; exact Nat.le_of_eq rfl) (hb hby at_708) (fun _ _ => ⟨rfl, e228, (by decide : 2 + 0 ≤ _), (by decide : 90 + 0 ≤ _)⟩)
            dsimp only [Pt.U, Pt.locs, Pt.cells, Pt.slots] at X253 l253 y253 z253 st253 hQ253
            subst l253 y253 z253
            obtain ⟨rfl, Nq253, eq253⟩ := hQ253
            have N253 := Fr.app N228 Nq253
            have hd254 : (own_holds wd (q1 &&& top)) = (0 : Int32) := own_h3 hR hc679_246 hc694_252
            obtain ⟨fs, hr, hrun, hended, hW, hsame⟩ := X253.leave (v := some (.int (1 : Int32))) (fun h => by rw [Bd.returns] at h; cases h)
            refine ⟨_, _, pre252 _ ?_, hrun, hended, _, _, rfl, ?_, ⟨_, rfl⟩, hW, hsame.mono (by decide) (by decide)⟩
            · show Steps p.tables e below (T228.setTop (mkF m 694 #[.val (.int p1), .val (.int p2), .val (.long q1), .second, .val (.ref b1), .val (.ref b138), .val (.int ((p1 &&& (2147483647 : Int32)) % (45 : Int32))), .val (.ref wf), .val (.long top), .second, .val (.int (p2 &&& (3 : Int32))), .val (.long (q1 &&& top)), .second, .unset] [(.int (lcmpW (q1 &&& top) top))])) _
              refine XS.ifYes X228.here hx rfl (pc0 := 694) (pc' := 701) rfl (hb hby at_694) rfl ((if0 _ _).trans (tlt hc694_252).2.2.1) (by decide) (by decide) ?_
              show Steps p.tables e below (T228.setTop (mkF m 701 #[.val (.int p1), .val (.int p2), .val (.long q1), .second, .val (.ref b1), .val (.ref b138), .val (.int ((p1 &&& (2147483647 : Int32)) % (45 : Int32))), .val (.ref wf), .val (.long top), .second, .val (.int (p2 &&& (3 : Int32))), .val (.long (q1 &&& top)), .second, .unset] [])) _
              refine XS.iconst X228.here hx rfl (hb hby at_701) ?_
              show Steps p.tables e below (T228.setTop (mkF m 702 #[.val (.int p1), .val (.int p2), .val (.long q1), .second, .val (.ref b1), .val (.ref b138), .val (.int ((p1 &&& (2147483647 : Int32)) % (45 : Int32))), .val (.ref wf), .val (.long top), .second, .val (.int (p2 &&& (3 : Int32))), .val (.long (q1 &&& top)), .second, .unset] [(.int (0 : Int32))])) _
              refine XS.istore X228.here hx rfl (hb hby at_702) rfl (l' := #[.val (.int p1), .val (.int p2), .val (.long q1), .second, .val (.ref b1), .val (.ref b138), .val (.int ((p1 &&& (2147483647 : Int32)) % (45 : Int32))), .val (.ref wf), .val (.long top), .second, .val (.int (p2 &&& (3 : Int32))), .val (.long (q1 &&& top)), .second, .val (.int (0 : Int32))]) rfl ?_
              show Steps p.tables e below (T228.setTop (mkF m 704 #[.val (.int p1), .val (.int p2), .val (.long q1), .second, .val (.ref b1), .val (.ref b138), .val (.int ((p1 &&& (2147483647 : Int32)) % (45 : Int32))), .val (.ref wf), .val (.long top), .second, .val (.int (p2 &&& (3 : Int32))), .val (.long (q1 &&& top)), .second, .val (.int (0 : Int32))] [])) _
              refine XS.aload X228.here hx rfl (hb hby at_704) rfl rfl ?_
              show Steps p.tables e below (T228.setTop (mkF m 706 #[.val (.int p1), .val (.int p2), .val (.long q1), .second, .val (.ref b1), .val (.ref b138), .val (.int ((p1 &&& (2147483647 : Int32)) % (45 : Int32))), .val (.ref wf), .val (.long top), .second, .val (.int (p2 &&& (3 : Int32))), .val (.long (q1 &&& top)), .second, .val (.int (0 : Int32))] [(.ref wf)])) _
              refine XS.lload X228.here hx rfl (hb hby at_706) rfl ?_
              show Steps p.tables e below (T228.setTop (mkF m 708 #[.val (.int p1), .val (.int p2), .val (.long q1), .second, .val (.ref b1), .val (.ref b138), .val (.int ((p1 &&& (2147483647 : Int32)) % (45 : Int32))), .val (.ref wf), .val (.long top), .second, .val (.int (p2 &&& (3 : Int32))), .val (.long (q1 &&& top)), .second, .val (.int (0 : Int32))] [(.long (q1 &&& top)), (.ref wf)])) _
              refine st253.trans ?_
              show Steps p.tables e below (T253.setTop (mkF m 711 #[.val (.int p1), .val (.int p2), .val (.long q1), .second, .val (.ref b1), .val (.ref b138), .val (.int ((p1 &&& (2147483647 : Int32)) % (45 : Int32))), .val (.ref wf), .val (.long top), .second, .val (.int (p2 &&& (3 : Int32))), .val (.long (q1 &&& top)), .second, .val (.int (0 : Int32))] [(.int (own_holds wd (q1 &&& top)))])) _
              refine XS.iload X253.here hx rfl (hb hby at_711) rfl ?_
              show Steps p.tables e below (T253.setTop (mkF m 713 #[.val (.int p1), .val (.int p2), .val (.long q1), .second, .val (.ref b1), .val (.ref b138), .val (.int ((p1 &&& (2147483647 : Int32)) % (45 : Int32))), .val (.ref wf), .val (.long top), .second, .val (.int (p2 &&& (3 : Int32))), .val (.long (q1 &&& top)), .second, .val (.int (0 : Int32))] [(.int (0 : Int32)), (.int (own_holds wd (q1 &&& top)))])) _
              refine XS.icmpNo X253.here hx rfl (hb hby at_713) rfl (teq hd254).2 ?_
              show Steps p.tables e below (T253.setTop (mkF m 716 #[.val (.int p1), .val (.int p2), .val (.long q1), .second, .val (.ref b1), .val (.ref b138), .val (.int ((p1 &&& (2147483647 : Int32)) % (45 : Int32))), .val (.ref wf), .val (.long top), .second, .val (.int (p2 &&& (3 : Int32))), .val (.long (q1 &&& top)), .second, .val (.int (0 : Int32))] [])) _
              refine XS.iconst X253.here hx rfl (hb hby at_716) ?_
              show Steps p.tables e below (T253.setTop (mkF m 717 #[.val (.int p1), .val (.int p2), .val (.long q1), .second, .val (.ref b1), .val (.ref b138), .val (.int ((p1 &&& (2147483647 : Int32)) % (45 : Int32))), .val (.ref wf), .val (.long top), .second, .val (.int (p2 &&& (3 : Int32))), .val (.long (q1 &&& top)), .second, .val (.int (0 : Int32))] [(.int (1 : Int32))])) _
              refine XS.goto X253.here hx rfl (pc0 := 717) (pc' := 721) rfl (hb hby at_717) (by decide) (by decide) ?_
              show Steps p.tables e below (T253.setTop (mkF m 721 #[.val (.int p1), .val (.int p2), .val (.long q1), .second, .val (.ref b1), .val (.ref b138), .val (.int ((p1 &&& (2147483647 : Int32)) % (45 : Int32))), .val (.ref wf), .val (.long top), .second, .val (.int (p2 &&& (3 : Int32))), .val (.long (q1 &&& top)), .second, .val (.int (0 : Int32))] [(.int (1 : Int32))])) _
              exact retN X253 hx (t := .boolean) Bd.returns (by simp) (hb hby at_721) hr
            · show Q_rm0 Z p1 p2 q1 w_CLIENT w_VERSION w_DOMAIN w_HCO w_EPG w_MPG w_LENGTH w_CONTROL w_NRS w_APG w_NSR w_NER w_NRT w_MDG w_CMG w_STI w_DRT w_RETRANSMIT_COUNT w_FORWARD_COUNT w_INTER_PACKET_GAP w_PG_COUNT w_PRIORITY w_FUNCTION_CODE w_TRANSACTION w_PACKET_DELIVERY w_SERVER w_FLAGS_AND_CODE w_CMD w_DGM w_MDM w_SDA w_CRE w_MRD w_PIC w_CODE w_CO_RESIDENT_ENTITY w_USER_DATA w_MSG_DELIVERY w_SEGMENT_SIZE w_NOTIFY_CONTROL w_NOTIFY_RECEIVE_SEQUENCE w_NOTIFY_CLIENT w_NOTIFY_TRANSACTION w_NOTIFY_DELIVERY w_NOTIFY_CODE h0 n0 _ T253.heap _
              rw [eq253]
              exact ⟨rfl, N253⟩
          · obtain ⟨cq255, kq255, q255a, q255b, q255c⟩ := isOf hZ e228 (Ewf.ext O228.2)
            obtain ⟨_, _, ⟨T255, L255, k255, n255⟩, -, X255, ⟨Lc255, hQ255, l255, y255, z255⟩, st255⟩ := X228.virtualBack hx (y := (⟨"com/example/riposte/riposte/packet/HeaderField", "holds", "(J)Z"⟩ : MethodName)) (z := (⟨"com/example/riposte/riposte/packet/HeaderField", "holds", "(J)Z"⟩ : MethodName)) hown (mvT hZ (hw _ (List.mem_of_getElem? (i := 104) rfl))) (mvT hZ (hw _ (List.mem_of_getElem? (i := 105) rfl))) (notFace_of_selects (args := #[]) (mvT hZ (hw _ (List.mem_of_getElem? (i := 107) rfl)))) (mvT hZ (hw _ (List.mem_of_getElem? (i := 107) rfl))) (mvT hZ (hw _ (List.mem_of_getElem? (i := 106) rfl))) (by decide) (backOf (W := 0) (hold l Z a0 hw [] wf (q1 &&& top) wd h228 n0 O228 (Fwf.ext O228.2)) hZ (hw _ (List.mem_of_getElem? (i := 108) rfl)) (hw _ (List.mem_of_getElem? (i := 3) rfl)) (by decide) (by decide)) q255a q255c (g := (mkF m 708 #[.val (.int p1), .val (.int p2), .val (.long q1), .second, .val (.ref b1), .val (.ref b138), .val (.int ((p1 &&& (2147483647 : Int32)) % (45 : Int32))), .val (.ref wf), .val (.long top), .second, .val (.int (p2 &&& (3 : Int32))), .val (.long (q1 &&& top)), .second, .val (.int (1 : Int32))] [(.long (q1 &&& top)), (.ref wf)])) rfl (by rw [hml]; rfl) (Steps.refl _) (argsL := [(.long (q1 &&& top))]) (rest := []) (lenOf pd__J_Z rfl) rfl (by show 2 * 0 + _ ≤ _; exact Nat.le_of_eq rfl) (hb hby at_708) (fun _ _ => ⟨rfl, e228, (by decide : 2 + 0 ≤ _), (by decide : 90 + 0 ≤ _)⟩)
            dsimp only [Pt.U, Pt.locs, Pt.cells, Pt.slots] at X255 l255 y255 z255 st255 hQ255
            subst l255 y255 z255
            obtain ⟨rfl, Nq255, eq255⟩ := hQ255
            have N255 := Fr.app N228 Nq255
            have hd256 : (own_holds wd (q1 &&& top)) = (1 : Int32) := own_h4 hR hc686_249 hc694_252
            obtain ⟨fs, hr, hrun, hended, hW, hsame⟩ := X255.leave (v := some (.int (1 : Int32))) (fun h => by rw [Bd.returns] at h; cases h)
            refine ⟨_, _, pre252 _ ?_, hrun, hended, _, _, rfl, ?_, ⟨_, rfl⟩, hW, hsame.mono (by decide) (by decide)⟩
            · show Steps p.tables e below (T228.setTop (mkF m 694 #[.val (.int p1), .val (.int p2), .val (.long q1), .second, .val (.ref b1), .val (.ref b138), .val (.int ((p1 &&& (2147483647 : Int32)) % (45 : Int32))), .val (.ref wf), .val (.long top), .second, .val (.int (p2 &&& (3 : Int32))), .val (.long (q1 &&& top)), .second, .unset] [(.int (lcmpW (q1 &&& top) top))])) _
              refine XS.ifNo X228.here hx rfl (hb hby at_694) rfl ((if0 _ _).trans (flt hc694_252).2.2.1) ?_
              show Steps p.tables e below (T228.setTop (mkF m 697 #[.val (.int p1), .val (.int p2), .val (.long q1), .second, .val (.ref b1), .val (.ref b138), .val (.int ((p1 &&& (2147483647 : Int32)) % (45 : Int32))), .val (.ref wf), .val (.long top), .second, .val (.int (p2 &&& (3 : Int32))), .val (.long (q1 &&& top)), .second, .unset] [])) _
              refine XS.iconst X228.here hx rfl (hb hby at_697) ?_
              show Steps p.tables e below (T228.setTop (mkF m 698 #[.val (.int p1), .val (.int p2), .val (.long q1), .second, .val (.ref b1), .val (.ref b138), .val (.int ((p1 &&& (2147483647 : Int32)) % (45 : Int32))), .val (.ref wf), .val (.long top), .second, .val (.int (p2 &&& (3 : Int32))), .val (.long (q1 &&& top)), .second, .unset] [(.int (1 : Int32))])) _
              refine XS.goto X228.here hx rfl (pc0 := 698) (pc' := 702) rfl (hb hby at_698) (by decide) (by decide) ?_
              show Steps p.tables e below (T228.setTop (mkF m 702 #[.val (.int p1), .val (.int p2), .val (.long q1), .second, .val (.ref b1), .val (.ref b138), .val (.int ((p1 &&& (2147483647 : Int32)) % (45 : Int32))), .val (.ref wf), .val (.long top), .second, .val (.int (p2 &&& (3 : Int32))), .val (.long (q1 &&& top)), .second, .unset] [(.int (1 : Int32))])) _
              refine XS.istore X228.here hx rfl (hb hby at_702) rfl (l' := #[.val (.int p1), .val (.int p2), .val (.long q1), .second, .val (.ref b1), .val (.ref b138), .val (.int ((p1 &&& (2147483647 : Int32)) % (45 : Int32))), .val (.ref wf), .val (.long top), .second, .val (.int (p2 &&& (3 : Int32))), .val (.long (q1 &&& top)), .second, .val (.int (1 : Int32))]) rfl ?_
              show Steps p.tables e below (T228.setTop (mkF m 704 #[.val (.int p1), .val (.int p2), .val (.long q1), .second, .val (.ref b1), .val (.ref b138), .val (.int ((p1 &&& (2147483647 : Int32)) % (45 : Int32))), .val (.ref wf), .val (.long top), .second, .val (.int (p2 &&& (3 : Int32))), .val (.long (q1 &&& top)), .second, .val (.int (1 : Int32))] [])) _
              refine XS.aload X228.here hx rfl (hb hby at_704) rfl rfl ?_
              show Steps p.tables e below (T228.setTop (mkF m 706 #[.val (.int p1), .val (.int p2), .val (.long q1), .second, .val (.ref b1), .val (.ref b138), .val (.int ((p1 &&& (2147483647 : Int32)) % (45 : Int32))), .val (.ref wf), .val (.long top), .second, .val (.int (p2 &&& (3 : Int32))), .val (.long (q1 &&& top)), .second, .val (.int (1 : Int32))] [(.ref wf)])) _
              refine XS.lload X228.here hx rfl (hb hby at_706) rfl ?_
              show Steps p.tables e below (T228.setTop (mkF m 708 #[.val (.int p1), .val (.int p2), .val (.long q1), .second, .val (.ref b1), .val (.ref b138), .val (.int ((p1 &&& (2147483647 : Int32)) % (45 : Int32))), .val (.ref wf), .val (.long top), .second, .val (.int (p2 &&& (3 : Int32))), .val (.long (q1 &&& top)), .second, .val (.int (1 : Int32))] [(.long (q1 &&& top)), (.ref wf)])) _
              refine st255.trans ?_
              show Steps p.tables e below (T255.setTop (mkF m 711 #[.val (.int p1), .val (.int p2), .val (.long q1), .second, .val (.ref b1), .val (.ref b138), .val (.int ((p1 &&& (2147483647 : Int32)) % (45 : Int32))), .val (.ref wf), .val (.long top), .second, .val (.int (p2 &&& (3 : Int32))), .val (.long (q1 &&& top)), .second, .val (.int (1 : Int32))] [(.int (own_holds wd (q1 &&& top)))])) _
              refine XS.iload X255.here hx rfl (hb hby at_711) rfl ?_
              show Steps p.tables e below (T255.setTop (mkF m 713 #[.val (.int p1), .val (.int p2), .val (.long q1), .second, .val (.ref b1), .val (.ref b138), .val (.int ((p1 &&& (2147483647 : Int32)) % (45 : Int32))), .val (.ref wf), .val (.long top), .second, .val (.int (p2 &&& (3 : Int32))), .val (.long (q1 &&& top)), .second, .val (.int (1 : Int32))] [(.int (1 : Int32)), (.int (own_holds wd (q1 &&& top)))])) _
              refine XS.icmpNo X255.here hx rfl (hb hby at_713) rfl (teq hd256).2 ?_
              show Steps p.tables e below (T255.setTop (mkF m 716 #[.val (.int p1), .val (.int p2), .val (.long q1), .second, .val (.ref b1), .val (.ref b138), .val (.int ((p1 &&& (2147483647 : Int32)) % (45 : Int32))), .val (.ref wf), .val (.long top), .second, .val (.int (p2 &&& (3 : Int32))), .val (.long (q1 &&& top)), .second, .val (.int (1 : Int32))] [])) _
              refine XS.iconst X255.here hx rfl (hb hby at_716) ?_
              show Steps p.tables e below (T255.setTop (mkF m 717 #[.val (.int p1), .val (.int p2), .val (.long q1), .second, .val (.ref b1), .val (.ref b138), .val (.int ((p1 &&& (2147483647 : Int32)) % (45 : Int32))), .val (.ref wf), .val (.long top), .second, .val (.int (p2 &&& (3 : Int32))), .val (.long (q1 &&& top)), .second, .val (.int (1 : Int32))] [(.int (1 : Int32))])) _
              refine XS.goto X255.here hx rfl (pc0 := 717) (pc' := 721) rfl (hb hby at_717) (by decide) (by decide) ?_
              show Steps p.tables e below (T255.setTop (mkF m 721 #[.val (.int p1), .val (.int p2), .val (.long q1), .second, .val (.ref b1), .val (.ref b138), .val (.int ((p1 &&& (2147483647 : Int32)) % (45 : Int32))), .val (.ref wf), .val (.long top), .second, .val (.int (p2 &&& (3 : Int32))), .val (.long (q1 &&& top)), .second, .val (.int (1 : Int32))] [(.int (1 : Int32))])) _
              exact retN X255 hx (t := .boolean) Bd.returns (by simp) (hb hby at_721) hr
            · show Q_rm0 Z p1 p2 q1 w_CLIENT w_VERSION w_DOMAIN w_HCO w_EPG w_MPG w_LENGTH w_CONTROL w_NRS w_APG w_NSR w_NER w_NRT w_MDG w_CMG w_STI w_DRT w_RETRANSMIT_COUNT w_FORWARD_COUNT w_INTER_PACKET_GAP w_PG_COUNT w_PRIORITY w_FUNCTION_CODE w_TRANSACTION w_PACKET_DELIVERY w_SERVER w_FLAGS_AND_CODE w_CMD w_DGM w_MDM w_SDA w_CRE w_MRD w_PIC w_CODE w_CO_RESIDENT_ENTITY w_USER_DATA w_MSG_DELIVERY w_SEGMENT_SIZE w_NOTIFY_CONTROL w_NOTIFY_RECEIVE_SEQUENCE w_NOTIFY_CLIENT w_NOTIFY_TRANSACTION w_NOTIFY_DELIVERY w_NOTIFY_CODE h0 n0 _ T255.heap _
              rw [eq255]
              exact ⟨rfl, N255⟩
    · have pre257 : ∀ t, Steps p.tables e below (T228.setTop (mkF m 648 #[.val (.int p1), .val (.int p2), .val (.long q1), .second, .val (.ref b1), .val (.ref b138), .val (.int ((p1 &&& (2147483647 : Int32)) % (45 : Int32))), .val (.ref wf), .val (.long top), .second, .val (.int (p2 &&& (3 : Int32))), .unset, .unset, .unset] [(.int (2 : Int32)), (.int (p2 &&& (3 : Int32)))])) t → Steps p.tables e below (s₁.setTop (entryFrame m #[(.int p1), (.int p2), (.long q1)] maxLocals)) t := by
        intro t kt
        refine pre245 _ ?_
        show Steps p.tables e below (T228.setTop (mkF m 633 #[.val (.int p1), .val (.int p2), .val (.long q1), .second, .val (.ref b1), .val (.ref b138), .val (.int ((p1 &&& (2147483647 : Int32)) % (45 : Int32))), .val (.ref wf), .val (.long top), .second, .val (.int (p2 &&& (3 : Int32))), .unset, .unset, .unset] [(.int (1 : Int32)), (.int (p2 &&& (3 : Int32)))])) _
        refine XS.icmpYes X228.here hx rfl (pc0 := 633) (pc' := 645) rfl (hb hby at_633) rfl (feq hc633_245).2 (by decide) (by decide) ?_
        show Steps p.tables e below (T228.setTop (mkF m 645 #[.val (.int p1), .val (.int p2), .val (.long q1), .second, .val (.ref b1), .val (.ref b138), .val (.int ((p1 &&& (2147483647 : Int32)) % (45 : Int32))), .val (.ref wf), .val (.long top), .second, .val (.int (p2 &&& (3 : Int32))), .unset, .unset, .unset] [])) _
        refine XS.iload X228.here hx rfl (hb hby at_645) rfl ?_
        show Steps p.tables e below (T228.setTop (mkF m 647 #[.val (.int p1), .val (.int p2), .val (.long q1), .second, .val (.ref b1), .val (.ref b138), .val (.int ((p1 &&& (2147483647 : Int32)) % (45 : Int32))), .val (.ref wf), .val (.long top), .second, .val (.int (p2 &&& (3 : Int32))), .unset, .unset, .unset] [(.int (p2 &&& (3 : Int32)))])) _
        refine XS.iconst X228.here hx rfl (hb hby at_647) ?_
        exact kt
      by_cases hc648_257 : (p2 &&& (3 : Int32)) = (2 : Int32)
      · have pre258 : ∀ t, Steps p.tables e below (T228.setTop (mkF m 679 #[.val (.int p1), .val (.int p2), .val (.long q1), .second, .val (.ref b1), .val (.ref b138), .val (.int ((p1 &&& (2147483647 : Int32)) % (45 : Int32))), .val (.ref wf), .val (.long top), .second, .val (.int (p2 &&& (3 : Int32))), .val (.long ((top + (1 : Int64)) + (q1 &&& (255 : Int64)))), .second, .unset] [(.int (lcmpW top (-1 : Int64)))])) t → Steps p.tables e below (s₁.setTop (entryFrame m #[(.int p1), (.int p2), (.long q1)] maxLocals)) t := by
          intro t kt
          refine pre257 _ ?_
          show Steps p.tables e below (T228.setTop (mkF m 648 #[.val (.int p1), .val (.int p2), .val (.long q1), .second, .val (.ref b1), .val (.ref b138), .val (.int ((p1 &&& (2147483647 : Int32)) % (45 : Int32))), .val (.ref wf), .val (.long top), .second, .val (.int (p2 &&& (3 : Int32))), .unset, .unset, .unset] [(.int (2 : Int32)), (.int (p2 &&& (3 : Int32)))])) _
          refine XS.icmpNo X228.here hx rfl (hb hby at_648) rfl (teq hc648_257).2 ?_
          show Steps p.tables e below (T228.setTop (mkF m 651 #[.val (.int p1), .val (.int p2), .val (.long q1), .second, .val (.ref b1), .val (.ref b138), .val (.int ((p1 &&& (2147483647 : Int32)) % (45 : Int32))), .val (.ref wf), .val (.long top), .second, .val (.int (p2 &&& (3 : Int32))), .unset, .unset, .unset] [])) _
          refine XS.lload X228.here hx rfl (hb hby at_651) rfl ?_
          show Steps p.tables e below (T228.setTop (mkF m 653 #[.val (.int p1), .val (.int p2), .val (.long q1), .second, .val (.ref b1), .val (.ref b138), .val (.int ((p1 &&& (2147483647 : Int32)) % (45 : Int32))), .val (.ref wf), .val (.long top), .second, .val (.int (p2 &&& (3 : Int32))), .unset, .unset, .unset] [(.long top)])) _
          refine XS.lconst X228.here hx rfl (hb hby at_653) ?_
          show Steps p.tables e below (T228.setTop (mkF m 654 #[.val (.int p1), .val (.int p2), .val (.long q1), .second, .val (.ref b1), .val (.ref b138), .val (.int ((p1 &&& (2147483647 : Int32)) % (45 : Int32))), .val (.ref wf), .val (.long top), .second, .val (.int (p2 &&& (3 : Int32))), .unset, .unset, .unset] [(.long (1 : Int64)), (.long top)])) _
          refine XS.ladd X228.here hx rfl (hb hby at_654) rfl ?_
          show Steps p.tables e below (T228.setTop (mkF m 655 #[.val (.int p1), .val (.int p2), .val (.long q1), .second, .val (.ref b1), .val (.ref b138), .val (.int ((p1 &&& (2147483647 : Int32)) % (45 : Int32))), .val (.ref wf), .val (.long top), .second, .val (.int (p2 &&& (3 : Int32))), .unset, .unset, .unset] [(.long (top + (1 : Int64)))])) _
          refine XS.lloadN X228.here hx rfl (hb hby at_655) rfl ?_
          show Steps p.tables e below (T228.setTop (mkF m 656 #[.val (.int p1), .val (.int p2), .val (.long q1), .second, .val (.ref b1), .val (.ref b138), .val (.int ((p1 &&& (2147483647 : Int32)) % (45 : Int32))), .val (.ref wf), .val (.long top), .second, .val (.int (p2 &&& (3 : Int32))), .unset, .unset, .unset] [(.long q1), (.long (top + (1 : Int64)))])) _
          refine X228.ldc2Long hx hown (mvT hZ (hw _ (List.mem_of_getElem? (i := 100) rfl))) (g := (mkF m 656 #[.val (.int p1), .val (.int p2), .val (.long q1), .second, .val (.ref b1), .val (.ref b138), .val (.int ((p1 &&& (2147483647 : Int32)) % (45 : Int32))), .val (.ref wf), .val (.long top), .second, .val (.int (p2 &&& (3 : Int32))), .unset, .unset, .unset] [(.long q1), (.long (top + (1 : Int64)))])) rfl (hb hby at_656) _ ?_
          show Steps p.tables e below (T228.setTop (mkF m 659 #[.val (.int p1), .val (.int p2), .val (.long q1), .second, .val (.ref b1), .val (.ref b138), .val (.int ((p1 &&& (2147483647 : Int32)) % (45 : Int32))), .val (.ref wf), .val (.long top), .second, .val (.int (p2 &&& (3 : Int32))), .unset, .unset, .unset] [(.long (255 : Int64)), (.long q1), (.long (top + (1 : Int64)))])) _
          refine XS.land X228.here hx rfl (hb hby at_659) rfl ?_
          show Steps p.tables e below (T228.setTop (mkF m 660 #[.val (.int p1), .val (.int p2), .val (.long q1), .second, .val (.ref b1), .val (.ref b138), .val (.int ((p1 &&& (2147483647 : Int32)) % (45 : Int32))), .val (.ref wf), .val (.long top), .second, .val (.int (p2 &&& (3 : Int32))), .unset, .unset, .unset] [(.long (q1 &&& (255 : Int64))), (.long (top + (1 : Int64)))])) _
          refine XS.ladd X228.here hx rfl (hb hby at_660) rfl ?_
          show Steps p.tables e below (T228.setTop (mkF m 661 #[.val (.int p1), .val (.int p2), .val (.long q1), .second, .val (.ref b1), .val (.ref b138), .val (.int ((p1 &&& (2147483647 : Int32)) % (45 : Int32))), .val (.ref wf), .val (.long top), .second, .val (.int (p2 &&& (3 : Int32))), .unset, .unset, .unset] [(.long ((top + (1 : Int64)) + (q1 &&& (255 : Int64))))])) _
          refine XS.lstore X228.here hx rfl (hb hby at_661) rfl (l' := #[.val (.int p1), .val (.int p2), .val (.long q1), .second, .val (.ref b1), .val (.ref b138), .val (.int ((p1 &&& (2147483647 : Int32)) % (45 : Int32))), .val (.ref wf), .val (.long top), .second, .val (.int (p2 &&& (3 : Int32))), .val (.long ((top + (1 : Int64)) + (q1 &&& (255 : Int64)))), .second, .unset]) rfl ?_
          show Steps p.tables e below (T228.setTop (mkF m 663 #[.val (.int p1), .val (.int p2), .val (.long q1), .second, .val (.ref b1), .val (.ref b138), .val (.int ((p1 &&& (2147483647 : Int32)) % (45 : Int32))), .val (.ref wf), .val (.long top), .second, .val (.int (p2 &&& (3 : Int32))), .val (.long ((top + (1 : Int64)) + (q1 &&& (255 : Int64)))), .second, .unset] [])) _
          refine XS.goto X228.here hx rfl (pc0 := 663) (pc' := 673) rfl (hb hby at_663) (by decide) (by decide) ?_
          show Steps p.tables e below (T228.setTop (mkF m 673 #[.val (.int p1), .val (.int p2), .val (.long q1), .second, .val (.ref b1), .val (.ref b138), .val (.int ((p1 &&& (2147483647 : Int32)) % (45 : Int32))), .val (.ref wf), .val (.long top), .second, .val (.int (p2 &&& (3 : Int32))), .val (.long ((top + (1 : Int64)) + (q1 &&& (255 : Int64)))), .second, .unset] [])) _
          refine XS.lload X228.here hx rfl (hb hby at_673) rfl ?_
          show Steps p.tables e below (T228.setTop (mkF m 675 #[.val (.int p1), .val (.int p2), .val (.long q1), .second, .val (.ref b1), .val (.ref b138), .val (.int ((p1 &&& (2147483647 : Int32)) % (45 : Int32))), .val (.ref wf), .val (.long top), .second, .val (.int (p2 &&& (3 : Int32))), .val (.long ((top + (1 : Int64)) + (q1 &&& (255 : Int64)))), .second, .unset] [(.long top)])) _
          refine X228.ldc2Long hx hown (mvT hZ (hw _ (List.mem_of_getElem? (i := 95) rfl))) (g := (mkF m 675 #[.val (.int p1), .val (.int p2), .val (.long q1), .second, .val (.ref b1), .val (.ref b138), .val (.int ((p1 &&& (2147483647 : Int32)) % (45 : Int32))), .val (.ref wf), .val (.long top), .second, .val (.int (p2 &&& (3 : Int32))), .val (.long ((top + (1 : Int64)) + (q1 &&& (255 : Int64)))), .second, .unset] [(.long top)])) rfl (hb hby at_675) _ ?_
          show Steps p.tables e below (T228.setTop (mkF m 678 #[.val (.int p1), .val (.int p2), .val (.long q1), .second, .val (.ref b1), .val (.ref b138), .val (.int ((p1 &&& (2147483647 : Int32)) % (45 : Int32))), .val (.ref wf), .val (.long top), .second, .val (.int (p2 &&& (3 : Int32))), .val (.long ((top + (1 : Int64)) + (q1 &&& (255 : Int64)))), .second, .unset] [(.long (-1 : Int64)), (.long top)])) _
          refine XS.lcmp X228.here hx rfl (hb hby at_678) rfl ?_
          exact kt
        by_cases hc679_258 : (lcmpW top (-1 : Int64)) = (0 : Int32)
        · obtain ⟨cq259, kq259, q259a, q259b, q259c⟩ := isOf hZ e228 (Ewf.ext O228.2)
          obtain ⟨_, _, ⟨T259, L259, k259, n259⟩, -, X259, ⟨Lc259, hQ259, l259, y259, z259⟩, st259⟩ := X228.virtualBack hx (y := (⟨"com/example/riposte/riposte/packet/HeaderField", "holds", "(J)Z"⟩ : MethodName)) (z := (⟨"com/example/riposte/riposte/packet/HeaderField", "holds", "(J)Z"⟩ : MethodName)) hown (mvT hZ (hw _ (List.mem_of_getElem? (i := 104) rfl))) (mvT hZ (hw _ (List.mem_of_getElem? (i := 105) rfl))) (notFace_of_selects (args := #[]) (mvT hZ (hw _ (List.mem_of_getElem? (i := 107) rfl)))) (mvT hZ (hw _ (List.mem_of_getElem? (i := 107) rfl))) (mvT hZ (hw _ (List.mem_of_getElem? (i := 106) rfl))) (by decide) (backOf (W := 0) (hold l Z a0 hw [] wf ((top + (1 : Int64)) + (q1 &&& (255 : Int64))) wd h228 n0 O228 (Fwf.ext O228.2)) hZ (hw _ (List.mem_of_getElem? (i := 108) rfl)) (hw _ (List.mem_of_getElem? (i := 3) rfl)) (by decide) (by decide)) q259a q259c (g := (mkF m 708 #[.val (.int p1), .val (.int p2), .val (.long q1), .second, .val (.ref b1), .val (.ref b138), .val (.int ((p1 &&& (2147483647 : Int32)) % (45 : Int32))), .val (.ref wf), .val (.long top), .second, .val (.int (p2 &&& (3 : Int32))), .val (.long ((top + (1 : Int64)) + (q1 &&& (255 : Int64)))), .second, .val (.int (1 : Int32))] [(.long ((top + (1 : Int64)) + (q1 &&& (255 : Int64)))), (.ref wf)])) rfl (by rw [hml]; rfl) (Steps.refl _) (argsL := [(.long ((top + (1 : Int64)) + (q1 &&& (255 : Int64))))]) (rest := []) (lenOf pd__J_Z rfl) rfl (by show 2 * 0 + _ ≤ _; exact Nat.le_of_eq rfl) (hb hby at_708) (fun _ _ => ⟨rfl, e228, (by decide : 2 + 0 ≤ _), (by decide : 90 + 0 ≤ _)⟩)
          dsimp only [Pt.U, Pt.locs, Pt.cells, Pt.slots] at X259 l259 y259 z259 st259 hQ259
          subst l259 y259 z259
          obtain ⟨rfl, Nq259, eq259⟩ := hQ259
          have N259 := Fr.app N228 Nq259
          have hd260 : (own_holds wd ((top + (1 : Int64)) + (q1 &&& (255 : Int64)))) = (1 : Int32) := own_h1 hR hc679_258
          obtain ⟨fs, hr, hrun, hended, hW, hsame⟩ := X259.leave (v := some (.int (1 : Int32))) (fun h => by rw [Bd.returns] at h; cases h)
          refine ⟨_, _, pre258 _ ?_, hrun, hended, _, _, rfl, ?_, ⟨_, rfl⟩, hW, hsame.mono (by decide) (by decide)⟩
          · show Steps p.tables e below (T228.setTop (mkF m 679 #[.val (.int p1), .val (.int p2), .val (.long q1), .second, .val (.ref b1), .val (.ref b138), .val (.int ((p1 &&& (2147483647 : Int32)) % (45 : Int32))), .val (.ref wf), .val (.long top), .second, .val (.int (p2 &&& (3 : Int32))), .val (.long ((top + (1 : Int64)) + (q1 &&& (255 : Int64)))), .second, .unset] [(.int (lcmpW top (-1 : Int64)))])) _
            refine XS.ifYes X228.here hx rfl (pc0 := 679) (pc' := 697) rfl (hb hby at_679) rfl ((if0 _ _).trans (teq hc679_258).1) (by decide) (by decide) ?_
            show Steps p.tables e below (T228.setTop (mkF m 697 #[.val (.int p1), .val (.int p2), .val (.long q1), .second, .val (.ref b1), .val (.ref b138), .val (.int ((p1 &&& (2147483647 : Int32)) % (45 : Int32))), .val (.ref wf), .val (.long top), .second, .val (.int (p2 &&& (3 : Int32))), .val (.long ((top + (1 : Int64)) + (q1 &&& (255 : Int64)))), .second, .unset] [])) _
            refine XS.iconst X228.here hx rfl (hb hby at_697) ?_
            show Steps p.tables e below (T228.setTop (mkF m 698 #[.val (.int p1), .val (.int p2), .val (.long q1), .second, .val (.ref b1), .val (.ref b138), .val (.int ((p1 &&& (2147483647 : Int32)) % (45 : Int32))), .val (.ref wf), .val (.long top), .second, .val (.int (p2 &&& (3 : Int32))), .val (.long ((top + (1 : Int64)) + (q1 &&& (255 : Int64)))), .second, .unset] [(.int (1 : Int32))])) _
            refine XS.goto X228.here hx rfl (pc0 := 698) (pc' := 702) rfl (hb hby at_698) (by decide) (by decide) ?_
            show Steps p.tables e below (T228.setTop (mkF m 702 #[.val (.int p1), .val (.int p2), .val (.long q1), .second, .val (.ref b1), .val (.ref b138), .val (.int ((p1 &&& (2147483647 : Int32)) % (45 : Int32))), .val (.ref wf), .val (.long top), .second, .val (.int (p2 &&& (3 : Int32))), .val (.long ((top + (1 : Int64)) + (q1 &&& (255 : Int64)))), .second, .unset] [(.int (1 : Int32))])) _
            refine XS.istore X228.here hx rfl (hb hby at_702) rfl (l' := #[.val (.int p1), .val (.int p2), .val (.long q1), .second, .val (.ref b1), .val (.ref b138), .val (.int ((p1 &&& (2147483647 : Int32)) % (45 : Int32))), .val (.ref wf), .val (.long top), .second, .val (.int (p2 &&& (3 : Int32))), .val (.long ((top + (1 : Int64)) + (q1 &&& (255 : Int64)))), .second, .val (.int (1 : Int32))]) rfl ?_
            show Steps p.tables e below (T228.setTop (mkF m 704 #[.val (.int p1), .val (.int p2), .val (.long q1), .second, .val (.ref b1), .val (.ref b138), .val (.int ((p1 &&& (2147483647 : Int32)) % (45 : Int32))), .val (.ref wf), .val (.long top), .second, .val (.int (p2 &&& (3 : Int32))), .val (.long ((top + (1 : Int64)) + (q1 &&& (255 : Int64)))), .second, .val (.int (1 : Int32))] [])) _
            refine XS.aload X228.here hx rfl (hb hby at_704) rfl rfl ?_
            show Steps p.tables e below (T228.setTop (mkF m 706 #[.val (.int p1), .val (.int p2), .val (.long q1), .second, .val (.ref b1), .val (.ref b138), .val (.int ((p1 &&& (2147483647 : Int32)) % (45 : Int32))), .val (.ref wf), .val (.long top), .second, .val (.int (p2 &&& (3 : Int32))), .val (.long ((top + (1 : Int64)) + (q1 &&& (255 : Int64)))), .second, .val (.int (1 : Int32))] [(.ref wf)])) _
            refine XS.lload X228.here hx rfl (hb hby at_706) rfl ?_
            show Steps p.tables e below (T228.setTop (mkF m 708 #[.val (.int p1), .val (.int p2), .val (.long q1), .second, .val (.ref b1), .val (.ref b138), .val (.int ((p1 &&& (2147483647 : Int32)) % (45 : Int32))), .val (.ref wf), .val (.long top), .second, .val (.int (p2 &&& (3 : Int32))), .val (.long ((top + (1 : Int64)) + (q1 &&& (255 : Int64)))), .second, .val (.int (1 : Int32))] [(.long ((top + (1 : Int64)) + (q1 &&& (255 : Int64)))), (.ref wf)])) _
            refine st259.trans ?_
            show Steps p.tables e below (T259.setTop (mkF m 711 #[.val (.int p1), .val (.int p2), .val (.long q1), .second, .val (.ref b1), .val (.ref b138), .val (.int ((p1 &&& (2147483647 : Int32)) % (45 : Int32))), .val (.ref wf), .val (.long top), .second, .val (.int (p2 &&& (3 : Int32))), .val (.long ((top + (1 : Int64)) + (q1 &&& (255 : Int64)))), .second, .val (.int (1 : Int32))] [(.int (own_holds wd ((top + (1 : Int64)) + (q1 &&& (255 : Int64)))))])) _
            refine XS.iload X259.here hx rfl (hb hby at_711) rfl ?_
            show Steps p.tables e below (T259.setTop (mkF m 713 #[.val (.int p1), .val (.int p2), .val (.long q1), .second, .val (.ref b1), .val (.ref b138), .val (.int ((p1 &&& (2147483647 : Int32)) % (45 : Int32))), .val (.ref wf), .val (.long top), .second, .val (.int (p2 &&& (3 : Int32))), .val (.long ((top + (1 : Int64)) + (q1 &&& (255 : Int64)))), .second, .val (.int (1 : Int32))] [(.int (1 : Int32)), (.int (own_holds wd ((top + (1 : Int64)) + (q1 &&& (255 : Int64)))))])) _
            refine XS.icmpNo X259.here hx rfl (hb hby at_713) rfl (teq hd260).2 ?_
            show Steps p.tables e below (T259.setTop (mkF m 716 #[.val (.int p1), .val (.int p2), .val (.long q1), .second, .val (.ref b1), .val (.ref b138), .val (.int ((p1 &&& (2147483647 : Int32)) % (45 : Int32))), .val (.ref wf), .val (.long top), .second, .val (.int (p2 &&& (3 : Int32))), .val (.long ((top + (1 : Int64)) + (q1 &&& (255 : Int64)))), .second, .val (.int (1 : Int32))] [])) _
            refine XS.iconst X259.here hx rfl (hb hby at_716) ?_
            show Steps p.tables e below (T259.setTop (mkF m 717 #[.val (.int p1), .val (.int p2), .val (.long q1), .second, .val (.ref b1), .val (.ref b138), .val (.int ((p1 &&& (2147483647 : Int32)) % (45 : Int32))), .val (.ref wf), .val (.long top), .second, .val (.int (p2 &&& (3 : Int32))), .val (.long ((top + (1 : Int64)) + (q1 &&& (255 : Int64)))), .second, .val (.int (1 : Int32))] [(.int (1 : Int32))])) _
            refine XS.goto X259.here hx rfl (pc0 := 717) (pc' := 721) rfl (hb hby at_717) (by decide) (by decide) ?_
            show Steps p.tables e below (T259.setTop (mkF m 721 #[.val (.int p1), .val (.int p2), .val (.long q1), .second, .val (.ref b1), .val (.ref b138), .val (.int ((p1 &&& (2147483647 : Int32)) % (45 : Int32))), .val (.ref wf), .val (.long top), .second, .val (.int (p2 &&& (3 : Int32))), .val (.long ((top + (1 : Int64)) + (q1 &&& (255 : Int64)))), .second, .val (.int (1 : Int32))] [(.int (1 : Int32))])) _
            exact retN X259 hx (t := .boolean) Bd.returns (by simp) (hb hby at_721) hr
          · show Q_rm0 Z p1 p2 q1 w_CLIENT w_VERSION w_DOMAIN w_HCO w_EPG w_MPG w_LENGTH w_CONTROL w_NRS w_APG w_NSR w_NER w_NRT w_MDG w_CMG w_STI w_DRT w_RETRANSMIT_COUNT w_FORWARD_COUNT w_INTER_PACKET_GAP w_PG_COUNT w_PRIORITY w_FUNCTION_CODE w_TRANSACTION w_PACKET_DELIVERY w_SERVER w_FLAGS_AND_CODE w_CMD w_DGM w_MDM w_SDA w_CRE w_MRD w_PIC w_CODE w_CO_RESIDENT_ENTITY w_USER_DATA w_MSG_DELIVERY w_SEGMENT_SIZE w_NOTIFY_CONTROL w_NOTIFY_RECEIVE_SEQUENCE w_NOTIFY_CLIENT w_NOTIFY_TRANSACTION w_NOTIFY_DELIVERY w_NOTIFY_CODE h0 n0 _ T259.heap _
            rw [eq259]
            exact ⟨rfl, N259⟩
        · have pre261 : ∀ t, Steps p.tables e below (T228.setTop (mkF m 686 #[.val (.int p1), .val (.int p2), .val (.long q1), .second, .val (.ref b1), .val (.ref b138), .val (.int ((p1 &&& (2147483647 : Int32)) % (45 : Int32))), .val (.ref wf), .val (.long top), .second, .val (.int (p2 &&& (3 : Int32))), .val (.long ((top + (1 : Int64)) + (q1 &&& (255 : Int64)))), .second, .unset] [(.int (lcmpW ((top + (1 : Int64)) + (q1 &&& (255 : Int64))) (0 : Int64)))])) t → Steps p.tables e below (s₁.setTop (entryFrame m #[(.int p1), (.int p2), (.long q1)] maxLocals)) t := by
            intro t kt
            refine pre258 _ ?_
            show Steps p.tables e below (T228.setTop (mkF m 679 #[.val (.int p1), .val (.int p2), .val (.long q1), .second, .val (.ref b1), .val (.ref b138), .val (.int ((p1 &&& (2147483647 : Int32)) % (45 : Int32))), .val (.ref wf), .val (.long top), .second, .val (.int (p2 &&& (3 : Int32))), .val (.long ((top + (1 : Int64)) + (q1 &&& (255 : Int64)))), .second, .unset] [(.int (lcmpW top (-1 : Int64)))])) _
            refine XS.ifNo X228.here hx rfl (hb hby at_679) rfl ((if0 _ _).trans (feq hc679_258).1) ?_
            show Steps p.tables e below (T228.setTop (mkF m 682 #[.val (.int p1), .val (.int p2), .val (.long q1), .second, .val (.ref b1), .val (.ref b138), .val (.int ((p1 &&& (2147483647 : Int32)) % (45 : Int32))), .val (.ref wf), .val (.long top), .second, .val (.int (p2 &&& (3 : Int32))), .val (.long ((top + (1 : Int64)) + (q1 &&& (255 : Int64)))), .second, .unset] [])) _
            refine XS.lload X228.here hx rfl (hb hby at_682) rfl ?_
            show Steps p.tables e below (T228.setTop (mkF m 684 #[.val (.int p1), .val (.int p2), .val (.long q1), .second, .val (.ref b1), .val (.ref b138), .val (.int ((p1 &&& (2147483647 : Int32)) % (45 : Int32))), .val (.ref wf), .val (.long top), .second, .val (.int (p2 &&& (3 : Int32))), .val (.long ((top + (1 : Int64)) + (q1 &&& (255 : Int64)))), .second, .unset] [(.long ((top + (1 : Int64)) + (q1 &&& (255 : Int64))))])) _
            refine XS.lconst X228.here hx rfl (hb hby at_684) ?_
            show Steps p.tables e below (T228.setTop (mkF m 685 #[.val (.int p1), .val (.int p2), .val (.long q1), .second, .val (.ref b1), .val (.ref b138), .val (.int ((p1 &&& (2147483647 : Int32)) % (45 : Int32))), .val (.ref wf), .val (.long top), .second, .val (.int (p2 &&& (3 : Int32))), .val (.long ((top + (1 : Int64)) + (q1 &&& (255 : Int64)))), .second, .unset] [(.long (0 : Int64)), (.long ((top + (1 : Int64)) + (q1 &&& (255 : Int64))))])) _
            refine XS.lcmp X228.here hx rfl (hb hby at_685) rfl ?_
            exact kt
          by_cases hc686_261 : (lcmpW ((top + (1 : Int64)) + (q1 &&& (255 : Int64))) (0 : Int64)) < (0 : Int32)
          · obtain ⟨cq262, kq262, q262a, q262b, q262c⟩ := isOf hZ e228 (Ewf.ext O228.2)
            obtain ⟨_, _, ⟨T262, L262, k262, n262⟩, -, X262, ⟨Lc262, hQ262, l262, y262, z262⟩, st262⟩ := X228.virtualBack hx (y := (⟨"com/example/riposte/riposte/packet/HeaderField", "holds", "(J)Z"⟩ : MethodName)) (z := (⟨"com/example/riposte/riposte/packet/HeaderField", "holds", "(J)Z"⟩ : MethodName)) hown (mvT hZ (hw _ (List.mem_of_getElem? (i := 104) rfl))) (mvT hZ (hw _ (List.mem_of_getElem? (i := 105) rfl))) (notFace_of_selects (args := #[]) (mvT hZ (hw _ (List.mem_of_getElem? (i := 107) rfl)))) (mvT hZ (hw _ (List.mem_of_getElem? (i := 107) rfl))) (mvT hZ (hw _ (List.mem_of_getElem? (i := 106) rfl))) (by decide) (backOf (W := 0) (hold l Z a0 hw [] wf ((top + (1 : Int64)) + (q1 &&& (255 : Int64))) wd h228 n0 O228 (Fwf.ext O228.2)) hZ (hw _ (List.mem_of_getElem? (i := 108) rfl)) (hw _ (List.mem_of_getElem? (i := 3) rfl)) (by decide) (by decide)) q262a q262c (g := (mkF m 708 #[.val (.int p1), .val (.int p2), .val (.long q1), .second, .val (.ref b1), .val (.ref b138), .val (.int ((p1 &&& (2147483647 : Int32)) % (45 : Int32))), .val (.ref wf), .val (.long top), .second, .val (.int (p2 &&& (3 : Int32))), .val (.long ((top + (1 : Int64)) + (q1 &&& (255 : Int64)))), .second, .val (.int (0 : Int32))] [(.long ((top + (1 : Int64)) + (q1 &&& (255 : Int64)))), (.ref wf)])) rfl (by rw [hml]; rfl) (Steps.refl _) (argsL := [(.long ((top + (1 : Int64)) + (q1 &&& (255 : Int64))))]) (rest := []) (lenOf pd__J_Z rfl) rfl (by show 2 * 0 + _ ≤ _; exact Nat.le_of_eq rfl) (hb hby at_708) (fun _ _ => ⟨rfl, e228, (by decide : 2 + 0 ≤ _), (by decide : 90 + 0 ≤ _)⟩)
            dsimp only [Pt.U, Pt.locs, Pt.cells, Pt.slots] at X262 l262 y262 z262 st262 hQ262
            subst l262 y262 z262
            obtain ⟨rfl, Nq262, eq262⟩ := hQ262
            have N262 := Fr.app N228 Nq262
            have hd263 : (own_holds wd ((top + (1 : Int64)) + (q1 &&& (255 : Int64)))) = (0 : Int32) := own_h2 hR hc679_258 hc686_261
            obtain ⟨fs, hr, hrun, hended, hW, hsame⟩ := X262.leave (v := some (.int (1 : Int32))) (fun h => by rw [Bd.returns] at h; cases h)
            refine ⟨_, _, pre261 _ ?_, hrun, hended, _, _, rfl, ?_, ⟨_, rfl⟩, hW, hsame.mono (by decide) (by decide)⟩
            · show Steps p.tables e below (T228.setTop (mkF m 686 #[.val (.int p1), .val (.int p2), .val (.long q1), .second, .val (.ref b1), .val (.ref b138), .val (.int ((p1 &&& (2147483647 : Int32)) % (45 : Int32))), .val (.ref wf), .val (.long top), .second, .val (.int (p2 &&& (3 : Int32))), .val (.long ((top + (1 : Int64)) + (q1 &&& (255 : Int64)))), .second, .unset] [(.int (lcmpW ((top + (1 : Int64)) + (q1 &&& (255 : Int64))) (0 : Int64)))])) _
              refine XS.ifYes X228.here hx rfl (pc0 := 686) (pc' := 701) rfl (hb hby at_686) rfl ((if0 _ _).trans (tlt hc686_261).1) (by decide) (by decide) ?_
              show Steps p.tables e below (T228.setTop (mkF m 701 #[.val (.int p1), .val (.int p2), .val (.long q1), .second, .val (.ref b1), .val (.ref b138), .val (.int ((p1 &&& (2147483647 : Int32)) % (45 : Int32))), .val (.ref wf), .val (.long top), .second, .val (.int (p2 &&& (3 : Int32))), .val (.long ((top + (1 : Int64)) + (q1 &&& (255 : Int64)))), .second, .unset] [])) _
              refine XS.iconst X228.here hx rfl (hb hby at_701) ?_
              show Steps p.tables e below (T228.setTop (mkF m 702 #[.val (.int p1), .val (.int p2), .val (.long q1), .second, .val (.ref b1), .val (.ref b138), .val (.int ((p1 &&& (2147483647 : Int32)) % (45 : Int32))), .val (.ref wf), .val (.long top), .second, .val (.int (p2 &&& (3 : Int32))), .val (.long ((top + (1 : Int64)) + (q1 &&& (255 : Int64)))), .second, .unset] [(.int (0 : Int32))])) _
              refine XS.istore X228.here hx rfl (hb hby at_702) rfl (l' := #[.val (.int p1), .val (.int p2), .val (.long q1), .second, .val (.ref b1), .val (.ref b138), .val (.int ((p1 &&& (2147483647 : Int32)) % (45 : Int32))), .val (.ref wf), .val (.long top), .second, .val (.int (p2 &&& (3 : Int32))), .val (.long ((top + (1 : Int64)) + (q1 &&& (255 : Int64)))), .second, .val (.int (0 : Int32))]) rfl ?_
              show Steps p.tables e below (T228.setTop (mkF m 704 #[.val (.int p1), .val (.int p2), .val (.long q1), .second, .val (.ref b1), .val (.ref b138), .val (.int ((p1 &&& (2147483647 : Int32)) % (45 : Int32))), .val (.ref wf), .val (.long top), .second, .val (.int (p2 &&& (3 : Int32))), .val (.long ((top + (1 : Int64)) + (q1 &&& (255 : Int64)))), .second, .val (.int (0 : Int32))] [])) _
              refine XS.aload X228.here hx rfl (hb hby at_704) rfl rfl ?_
              show Steps p.tables e below (T228.setTop (mkF m 706 #[.val (.int p1), .val (.int p2), .val (.long q1), .second, .val (.ref b1), .val (.ref b138), .val (.int ((p1 &&& (2147483647 : Int32)) % (45 : Int32))), .val (.ref wf), .val (.long top), .second, .val (.int (p2 &&& (3 : Int32))), .val (.long ((top + (1 : Int64)) + (q1 &&& (255 : Int64)))), .second, .val (.int (0 : Int32))] [(.ref wf)])) _
              refine XS.lload X228.here hx rfl (hb hby at_706) rfl ?_
              show Steps p.tables e below (T228.setTop (mkF m 708 #[.val (.int p1), .val (.int p2), .val (.long q1), .second, .val (.ref b1), .val (.ref b138), .val (.int ((p1 &&& (2147483647 : Int32)) % (45 : Int32))), .val (.ref wf), .val (.long top), .second, .val (.int (p2 &&& (3 : Int32))), .val (.long ((top + (1 : Int64)) + (q1 &&& (255 : Int64)))), .second, .val (.int (0 : Int32))] [(.long ((top + (1 : Int64)) + (q1 &&& (255 : Int64)))), (.ref wf)])) _
              refine st262.trans ?_
              show Steps p.tables e below (T262.setTop (mkF m 711 #[.val (.int p1), .val (.int p2), .val (.long q1), .second, .val (.ref b1), .val (.ref b138), .val (.int ((p1 &&& (2147483647 : Int32)) % (45 : Int32))), .val (.ref wf), .val (.long top), .second, .val (.int (p2 &&& (3 : Int32))), .val (.long ((top + (1 : Int64)) + (q1 &&& (255 : Int64)))), .second, .val (.int (0 : Int32))] [(.int (own_holds wd ((top + (1 : Int64)) + (q1 &&& (255 : Int64)))))])) _
              refine XS.iload X262.here hx rfl (hb hby at_711) rfl ?_
              show Steps p.tables e below (T262.setTop (mkF m 713 #[.val (.int p1), .val (.int p2), .val (.long q1), .second, .val (.ref b1), .val (.ref b138), .val (.int ((p1 &&& (2147483647 : Int32)) % (45 : Int32))), .val (.ref wf), .val (.long top), .second, .val (.int (p2 &&& (3 : Int32))), .val (.long ((top + (1 : Int64)) + (q1 &&& (255 : Int64)))), .second, .val (.int (0 : Int32))] [(.int (0 : Int32)), (.int (own_holds wd ((top + (1 : Int64)) + (q1 &&& (255 : Int64)))))])) _
              refine XS.icmpNo X262.here hx rfl (hb hby at_713) rfl (teq hd263).2 ?_
              show Steps p.tables e below (T262.setTop (mkF m 716 #[.val (.int p1), .val (.int p2), .val (.long q1), .second, .val (.ref b1), .val (.ref b138), .val (.int ((p1 &&& (2147483647 : Int32)) % (45 : Int32))), .val (.ref wf), .val (.long top), .second, .val (.int (p2 &&& (3 : Int32))), .val (.long ((top + (1 : Int64)) + (q1 &&& (255 : Int64)))), .second, .val (.int (0 : Int32))] [])) _
              refine XS.iconst X262.here hx rfl (hb hby at_716) ?_
              show Steps p.tables e below (T262.setTop (mkF m 717 #[.val (.int p1), .val (.int p2), .val (.long q1), .second, .val (.ref b1), .val (.ref b138), .val (.int ((p1 &&& (2147483647 : Int32)) % (45 : Int32))), .val (.ref wf), .val (.long top), .second, .val (.int (p2 &&& (3 : Int32))), .val (.long ((top + (1 : Int64)) + (q1 &&& (255 : Int64)))), .second, .val (.int (0 : Int32))] [(.int (1 : Int32))])) _
              refine XS.goto X262.here hx rfl (pc0 := 717) (pc' := 721) rfl (hb hby at_717) (by decide) (by decide) ?_
              show Steps p.tables e below (T262.setTop (mkF m 721 #[.val (.int p1), .val (.int p2), .val (.long q1), .second, .val (.ref b1), .val (.ref b138), .val (.int ((p1 &&& (2147483647 : Int32)) % (45 : Int32))), .val (.ref wf), .val (.long top), .second, .val (.int (p2 &&& (3 : Int32))), .val (.long ((top + (1 : Int64)) + (q1 &&& (255 : Int64)))), .second, .val (.int (0 : Int32))] [(.int (1 : Int32))])) _
              exact retN X262 hx (t := .boolean) Bd.returns (by simp) (hb hby at_721) hr
            · show Q_rm0 Z p1 p2 q1 w_CLIENT w_VERSION w_DOMAIN w_HCO w_EPG w_MPG w_LENGTH w_CONTROL w_NRS w_APG w_NSR w_NER w_NRT w_MDG w_CMG w_STI w_DRT w_RETRANSMIT_COUNT w_FORWARD_COUNT w_INTER_PACKET_GAP w_PG_COUNT w_PRIORITY w_FUNCTION_CODE w_TRANSACTION w_PACKET_DELIVERY w_SERVER w_FLAGS_AND_CODE w_CMD w_DGM w_MDM w_SDA w_CRE w_MRD w_PIC w_CODE w_CO_RESIDENT_ENTITY w_USER_DATA w_MSG_DELIVERY w_SEGMENT_SIZE w_NOTIFY_CONTROL w_NOTIFY_RECEIVE_SEQUENCE w_NOTIFY_CLIENT w_NOTIFY_TRANSACTION w_NOTIFY_DELIVERY w_NOTIFY_CODE h0 n0 _ T262.heap _
              rw [eq262]
              exact ⟨rfl, N262⟩
          · have pre264 : ∀ t, Steps p.tables e below (T228.setTop (mkF m 694 #[.val (.int p1), .val (.int p2), .val (.long q1), .second, .val (.ref b1), .val (.ref b138), .val (.int ((p1 &&& (2147483647 : Int32)) % (45 : Int32))), .val (.ref wf), .val (.long top), .second, .val (.int (p2 &&& (3 : Int32))), .val (.long ((top + (1 : Int64)) + (q1 &&& (255 : Int64)))), .second, .unset] [(.int (lcmpW ((top + (1 : Int64)) + (q1 &&& (255 : Int64))) top))])) t → Steps p.tables e below (s₁.setTop (entryFrame m #[(.int p1), (.int p2), (.long q1)] maxLocals)) t := by
              intro t kt
              refine pre261 _ ?_
              show Steps p.tables e below (T228.setTop (mkF m 686 #[.val (.int p1), .val (.int p2), .val (.long q1), .second, .val (.ref b1), .val (.ref b138), .val (.int ((p1 &&& (2147483647 : Int32)) % (45 : Int32))), .val (.ref wf), .val (.long top), .second, .val (.int (p2 &&& (3 : Int32))), .val (.long ((top + (1 : Int64)) + (q1 &&& (255 : Int64)))), .second, .unset] [(.int (lcmpW ((top + (1 : Int64)) + (q1 &&& (255 : Int64))) (0 : Int64)))])) _
              refine XS.ifNo X228.here hx rfl (hb hby at_686) rfl ((if0 _ _).trans (flt hc686_261).1) ?_
              show Steps p.tables e below (T228.setTop (mkF m 689 #[.val (.int p1), .val (.int p2), .val (.long q1), .second, .val (.ref b1), .val (.ref b138), .val (.int ((p1 &&& (2147483647 : Int32)) % (45 : Int32))), .val (.ref wf), .val (.long top), .second, .val (.int (p2 &&& (3 : Int32))), .val (.long ((top + (1 : Int64)) + (q1 &&& (255 : Int64)))), .second, .unset] [])) _
              refine XS.lload X228.here hx rfl (hb hby at_689) rfl ?_
              show Steps p.tables e below (T228.setTop (mkF m 691 #[.val (.int p1), .val (.int p2), .val (.long q1), .second, .val (.ref b1), .val (.ref b138), .val (.int ((p1 &&& (2147483647 : Int32)) % (45 : Int32))), .val (.ref wf), .val (.long top), .second, .val (.int (p2 &&& (3 : Int32))), .val (.long ((top + (1 : Int64)) + (q1 &&& (255 : Int64)))), .second, .unset] [(.long ((top + (1 : Int64)) + (q1 &&& (255 : Int64))))])) _
              refine XS.lload X228.here hx rfl (hb hby at_691) rfl ?_
              show Steps p.tables e below (T228.setTop (mkF m 693 #[.val (.int p1), .val (.int p2), .val (.long q1), .second, .val (.ref b1), .val (.ref b138), .val (.int ((p1 &&& (2147483647 : Int32)) % (45 : Int32))), .val (.ref wf), .val (.long top), .second, .val (.int (p2 &&& (3 : Int32))), .val (.long ((top + (1 : Int64)) + (q1 &&& (255 : Int64)))), .second, .unset] [(.long top), (.long ((top + (1 : Int64)) + (q1 &&& (255 : Int64))))])) _
              refine XS.lcmp X228.here hx rfl (hb hby at_693) rfl ?_
              exact kt
            by_cases hc694_264 : (0 : Int32) < (lcmpW ((top + (1 : Int64)) + (q1 &&& (255 : Int64))) top)
            · obtain ⟨cq265, kq265, q265a, q265b, q265c⟩ := isOf hZ e228 (Ewf.ext O228.2)
              obtain ⟨_, _, ⟨T265, L265, k265, n265⟩, -, X265, ⟨Lc265, hQ265, l265, y265, z265⟩, st265⟩ := X228.virtualBack hx (y := (⟨"com/example/riposte/riposte/packet/HeaderField", "holds", "(J)Z"⟩ : MethodName)) (z := (⟨"com/example/riposte/riposte/packet/HeaderField", "holds", "(J)Z"⟩ : MethodName)) hown (mvT hZ (hw _ (List.mem_of_getElem? (i := 104) rfl))) (mvT hZ (hw _ (List.mem_of_getElem? (i := 105) rfl))) (notFace_of_selects (args := #[]) (mvT hZ (hw _ (List.mem_of_getElem? (i := 107) rfl)))) (mvT hZ (hw _ (List.mem_of_getElem? (i := 107) rfl))) (mvT hZ (hw _ (List.mem_of_getElem? (i := 106) rfl))) (by decide) (backOf (W := 0) (hold l Z a0 hw [] wf ((top + (1 : Int64)) + (q1 &&& (255 : Int64))) wd h228 n0 O228 (Fwf.ext O228.2)) hZ (hw _ (List.mem_of_getElem? (i := 108) rfl)) (hw _ (List.mem_of_getElem? (i := 3) rfl)) (by decide) (by decide)) q265a q265c (g := (mkF m 708 #[.val (.int p1), .val (.int p2), .val (.long q1), .second, .val (.ref b1), .val (.ref b138), .val (.int ((p1 &&& (2147483647 : Int32)) % (45 : Int32))), .val (.ref wf), .val (.long top), .second, .val (.int (p2 &&& (3 : Int32))), .val (.long ((top + (1 : Int64)) + (q1 &&& (255 : Int64)))), .second, .val (.int (0 : Int32))] [(.long ((top + (1 : Int64)) + (q1 &&& (255 : Int64)))), (.ref wf)])) rfl (by rw [hml]; rfl) (Steps.refl _) (argsL := [(.long ((top + (1 : Int64)) + (q1 &&& (255 : Int64))))]) (rest := []) (lenOf pd__J_Z rfl) rfl (by show 2 * 0 + _ ≤ _; exact Nat.le_of_eq rfl) (hb hby at_708) (fun _ _ => ⟨rfl, e228, (by decide : 2 + 0 ≤ _), (by decide : 90 + 0 ≤ _)⟩)
              dsimp only [Pt.U, Pt.locs, Pt.cells, Pt.slots] at X265 l265 y265 z265 st265 hQ265
              subst l265 y265 z265
              obtain ⟨rfl, Nq265, eq265⟩ := hQ265
              have N265 := Fr.app N228 Nq265
              have hd266 : (own_holds wd ((top + (1 : Int64)) + (q1 &&& (255 : Int64)))) = (0 : Int32) := own_h3 hR hc679_258 hc694_264
              obtain ⟨fs, hr, hrun, hended, hW, hsame⟩ := X265.leave (v := some (.int (1 : Int32))) (fun h => by rw [Bd.returns] at h; cases h)
              refine ⟨_, _, pre264 _ ?_, hrun, hended, _, _, rfl, ?_, ⟨_, rfl⟩, hW, hsame.mono (by decide) (by decide)⟩
              · show Steps p.tables e below (T228.setTop (mkF m 694 #[.val (.int p1), .val (.int p2), .val (.long q1), .second, .val (.ref b1), .val (.ref b138), .val (.int ((p1 &&& (2147483647 : Int32)) % (45 : Int32))), .val (.ref wf), .val (.long top), .second, .val (.int (p2 &&& (3 : Int32))), .val (.long ((top + (1 : Int64)) + (q1 &&& (255 : Int64)))), .second, .unset] [(.int (lcmpW ((top + (1 : Int64)) + (q1 &&& (255 : Int64))) top))])) _
                refine XS.ifYes X228.here hx rfl (pc0 := 694) (pc' := 701) rfl (hb hby at_694) rfl ((if0 _ _).trans (tlt hc694_264).2.2.1) (by decide) (by decide) ?_
                show Steps p.tables e below (T228.setTop (mkF m 701 #[.val (.int p1), .val (.int p2), .val (.long q1), .second, .val (.ref b1), .val (.ref b138), .val (.int ((p1 &&& (2147483647 : Int32)) % (45 : Int32))), .val (.ref wf), .val (.long top), .second, .val (.int (p2 &&& (3 : Int32))), .val (.long ((top + (1 : Int64)) + (q1 &&& (255 : Int64)))), .second, .unset] [])) _
                refine XS.iconst X228.here hx rfl (hb hby at_701) ?_
                show Steps p.tables e below (T228.setTop (mkF m 702 #[.val (.int p1), .val (.int p2), .val (.long q1), .second, .val (.ref b1), .val (.ref b138), .val (.int ((p1 &&& (2147483647 : Int32)) % (45 : Int32))), .val (.ref wf), .val (.long top), .second, .val (.int (p2 &&& (3 : Int32))), .val (.long ((top + (1 : Int64)) + (q1 &&& (255 : Int64)))), .second, .unset] [(.int (0 : Int32))])) _
                refine XS.istore X228.here hx rfl (hb hby at_702) rfl (l' := #[.val (.int p1), .val (.int p2), .val (.long q1), .second, .val (.ref b1), .val (.ref b138), .val (.int ((p1 &&& (2147483647 : Int32)) % (45 : Int32))), .val (.ref wf), .val (.long top), .second, .val (.int (p2 &&& (3 : Int32))), .val (.long ((top + (1 : Int64)) + (q1 &&& (255 : Int64)))), .second, .val (.int (0 : Int32))]) rfl ?_
                show Steps p.tables e below (T228.setTop (mkF m 704 #[.val (.int p1), .val (.int p2), .val (.long q1), .second, .val (.ref b1), .val (.ref b138), .val (.int ((p1 &&& (2147483647 : Int32)) % (45 : Int32))), .val (.ref wf), .val (.long top), .second, .val (.int (p2 &&& (3 : Int32))), .val (.long ((top + (1 : Int64)) + (q1 &&& (255 : Int64)))), .second, .val (.int (0 : Int32))] [])) _
                refine XS.aload X228.here hx rfl (hb hby at_704) rfl rfl ?_
                show Steps p.tables e below (T228.setTop (mkF m 706 #[.val (.int p1), .val (.int p2), .val (.long q1), .second, .val (.ref b1), .val (.ref b138), .val (.int ((p1 &&& (2147483647 : Int32)) % (45 : Int32))), .val (.ref wf), .val (.long top), .second, .val (.int (p2 &&& (3 : Int32))), .val (.long ((top + (1 : Int64)) + (q1 &&& (255 : Int64)))), .second, .val (.int (0 : Int32))] [(.ref wf)])) _
                refine XS.lload X228.here hx rfl (hb hby at_706) rfl ?_
                show Steps p.tables e below (T228.setTop (mkF m 708 #[.val (.int p1), .val (.int p2), .val (.long q1), .second, .val (.ref b1), .val (.ref b138), .val (.int ((p1 &&& (2147483647 : Int32)) % (45 : Int32))), .val (.ref wf), .val (.long top), .second, .val (.int (p2 &&& (3 : Int32))), .val (.long ((top + (1 : Int64)) + (q1 &&& (255 : Int64)))), .second, .val (.int (0 : Int32))] [(.long ((top + (1 : Int64)) + (q1 &&& (255 : Int64)))), (.ref wf)])) _
                refine st265.trans ?_
                show Steps p.tables e below (T265.setTop (mkF m 711 #[.val (.int p1), .val (.int p2), .val (.long q1), .second, .val (.ref b1), .val (.ref b138), .val (.int ((p1 &&& (2147483647 : Int32)) % (45 : Int32))), .val (.ref wf), .val (.long top), .second, .val (.int (p2 &&& (3 : Int32))), .val (.long ((top + (1 : Int64)) + (q1 &&& (255 : Int64)))), .second, .val (.int (0 : Int32))] [(.int (own_holds wd ((top + (1 : Int64)) + (q1 &&& (255 : Int64)))))])) _
                refine XS.iload X265.here hx rfl (hb hby at_711) rfl ?_
                show Steps p.tables e below (T265.setTop (mkF m 713 #[.val (.int p1), .val (.int p2), .val (.long q1), .second, .val (.ref b1), .val (.ref b138), .val (.int ((p1 &&& (2147483647 : Int32)) % (45 : Int32))), .val (.ref wf), .val (.long top), .second, .val (.int (p2 &&& (3 : Int32))), .val (.long ((top + (1 : Int64)) + (q1 &&& (255 : Int64)))), .second, .val (.int (0 : Int32))] [(.int (0 : Int32)), (.int (own_holds wd ((top + (1 : Int64)) + (q1 &&& (255 : Int64)))))])) _
                refine XS.icmpNo X265.here hx rfl (hb hby at_713) rfl (teq hd266).2 ?_
                show Steps p.tables e below (T265.setTop (mkF m 716 #[.val (.int p1), .val (.int p2), .val (.long q1), .second, .val (.ref b1), .val (.ref b138), .val (.int ((p1 &&& (2147483647 : Int32)) % (45 : Int32))), .val (.ref wf), .val (.long top), .second, .val (.int (p2 &&& (3 : Int32))), .val (.long ((top + (1 : Int64)) + (q1 &&& (255 : Int64)))), .second, .val (.int (0 : Int32))] [])) _
                refine XS.iconst X265.here hx rfl (hb hby at_716) ?_
                show Steps p.tables e below (T265.setTop (mkF m 717 #[.val (.int p1), .val (.int p2), .val (.long q1), .second, .val (.ref b1), .val (.ref b138), .val (.int ((p1 &&& (2147483647 : Int32)) % (45 : Int32))), .val (.ref wf), .val (.long top), .second, .val (.int (p2 &&& (3 : Int32))), .val (.long ((top + (1 : Int64)) + (q1 &&& (255 : Int64)))), .second, .val (.int (0 : Int32))] [(.int (1 : Int32))])) _
                refine XS.goto X265.here hx rfl (pc0 := 717) (pc' := 721) rfl (hb hby at_717) (by decide) (by decide) ?_
                show Steps p.tables e below (T265.setTop (mkF m 721 #[.val (.int p1), .val (.int p2), .val (.long q1), .second, .val (.ref b1), .val (.ref b138), .val (.int ((p1 &&& (2147483647 : Int32)) % (45 : Int32))), .val (.ref wf), .val (.long top), .second, .val (.int (p2 &&& (3 : Int32))), .val (.long ((top + (1 : Int64)) + (q1 &&& (255 : Int64)))), .second, .val (.int (0 : Int32))] [(.int (1 : Int32))])) _
                exact retN X265 hx (t := .boolean) Bd.returns (by simp) (hb hby at_721) hr
              · show Q_rm0 Z p1 p2 q1 w_CLIENT w_VERSION w_DOMAIN w_HCO w_EPG w_MPG w_LENGTH w_CONTROL w_NRS w_APG w_NSR w_NER w_NRT w_MDG w_CMG w_STI w_DRT w_RETRANSMIT_COUNT w_FORWARD_COUNT w_INTER_PACKET_GAP w_PG_COUNT w_PRIORITY w_FUNCTION_CODE w_TRANSACTION w_PACKET_DELIVERY w_SERVER w_FLAGS_AND_CODE w_CMD w_DGM w_MDM w_SDA w_CRE w_MRD w_PIC w_CODE w_CO_RESIDENT_ENTITY w_USER_DATA w_MSG_DELIVERY w_SEGMENT_SIZE w_NOTIFY_CONTROL w_NOTIFY_RECEIVE_SEQUENCE w_NOTIFY_CLIENT w_NOTIFY_TRANSACTION w_NOTIFY_DELIVERY w_NOTIFY_CODE h0 n0 _ T265.heap _
                rw [eq265]
                exact ⟨rfl, N265⟩
            · obtain ⟨cq267, kq267, q267a, q267b, q267c⟩ := isOf hZ e228 (Ewf.ext O228.2)
              obtain ⟨_, _, ⟨T267, L267, k267, n267⟩, -, X267, ⟨Lc267, hQ267, l267, y267, z267⟩, st267⟩ := X228.virtualBack hx (y := (⟨"com/example/riposte/riposte/packet/HeaderField", "holds", "(J)Z"⟩ : MethodName)) (z := (⟨"com/example/riposte/riposte/packet/HeaderField", "holds", "(J)Z"⟩ : MethodName)) hown (mvT hZ (hw _ (List.mem_of_getElem? (i := 104) rfl))) (mvT hZ (hw _ (List.mem_of_getElem? (i := 105) rfl))) (notFace_of_selects (args := #[]) (mvT hZ (hw _ (List.mem_of_getElem? (i := 107) rfl)))) (mvT hZ (hw _ (List.mem_of_getElem? (i := 107) rfl))) (mvT hZ (hw _ (List.mem_of_getElem? (i := 106) rfl))) (by decide) (backOf (W := 0) (hold l Z a0 hw [] wf ((top + (1 : Int64)) + (q1 &&& (255 : Int64))) wd h228 n0 O228 (Fwf.ext O228.2)) hZ (hw _ (List.mem_of_getElem? (i := 108) rfl)) (hw _ (List.mem_of_getElem? (i := 3) rfl)) (by decide) (by decide)) q267a q267c (g := (mkF m 708 #[.val (.int p1), .val (.int p2), .val (.long q1), .second, .val (.ref b1), .val (.ref b138), .val (.int ((p1 &&& (2147483647 : Int32)) % (45 : Int32))), .val (.ref wf), .val (.long top), .second, .val (.int (p2 &&& (3 : Int32))), .val (.long ((top + (1 : Int64)) + (q1 &&& (255 : Int64)))), .second, .val (.int (1 : Int32))] [(.long ((top + (1 : Int64)) + (q1 &&& (255 : Int64)))), (.ref wf)])) rfl (by rw [hml]; rfl) (Steps.refl _) (argsL := [(.long ((top + (1 : Int64)) + (q1 &&& (255 : Int64))))]) (rest := []) (lenOf pd__J_Z rfl) rfl (by show 2 * 0 + _ ≤ _; exact Nat.le_of_eq rfl) (hb hby at_708) (fun _ _ => ⟨rfl, e228, (by decide : 2 + 0 ≤ _), (by decide : 90 + 0 ≤ _)⟩)
              dsimp only [Pt.U, Pt.locs, Pt.cells, Pt.slots] at X267 l267 y267 z267 st267 hQ267
              subst l267 y267 z267
              obtain ⟨rfl, Nq267, eq267⟩ := hQ267
              have N267 := Fr.app N228 Nq267
              have hd268 : (own_holds wd ((top + (1 : Int64)) + (q1 &&& (255 : Int64)))) = (1 : Int32) := own_h4 hR hc686_261 hc694_264
              obtain ⟨fs, hr, hrun, hended, hW, hsame⟩ := X267.leave (v := some (.int (1 : Int32))) (fun h => by rw [Bd.returns] at h; cases h)
              refine ⟨_, _, pre264 _ ?_, hrun, hended, _, _, rfl, ?_, ⟨_, rfl⟩, hW, hsame.mono (by decide) (by decide)⟩
              · show Steps p.tables e below (T228.setTop (mkF m 694 #[.val (.int p1), .val (.int p2), .val (.long q1), .second, .val (.ref b1), .val (.ref b138), .val (.int ((p1 &&& (2147483647 : Int32)) % (45 : Int32))), .val (.ref wf), .val (.long top), .second, .val (.int (p2 &&& (3 : Int32))), .val (.long ((top + (1 : Int64)) + (q1 &&& (255 : Int64)))), .second, .unset] [(.int (lcmpW ((top + (1 : Int64)) + (q1 &&& (255 : Int64))) top))])) _
                refine XS.ifNo X228.here hx rfl (hb hby at_694) rfl ((if0 _ _).trans (flt hc694_264).2.2.1) ?_
                show Steps p.tables e below (T228.setTop (mkF m 697 #[.val (.int p1), .val (.int p2), .val (.long q1), .second, .val (.ref b1), .val (.ref b138), .val (.int ((p1 &&& (2147483647 : Int32)) % (45 : Int32))), .val (.ref wf), .val (.long top), .second, .val (.int (p2 &&& (3 : Int32))), .val (.long ((top + (1 : Int64)) + (q1 &&& (255 : Int64)))), .second, .unset] [])) _
                refine XS.iconst X228.here hx rfl (hb hby at_697) ?_
                show Steps p.tables e below (T228.setTop (mkF m 698 #[.val (.int p1), .val (.int p2), .val (.long q1), .second, .val (.ref b1), .val (.ref b138), .val (.int ((p1 &&& (2147483647 : Int32)) % (45 : Int32))), .val (.ref wf), .val (.long top), .second, .val (.int (p2 &&& (3 : Int32))), .val (.long ((top + (1 : Int64)) + (q1 &&& (255 : Int64)))), .second, .unset] [(.int (1 : Int32))])) _
                refine XS.goto X228.here hx rfl (pc0 := 698) (pc' := 702) rfl (hb hby at_698) (by decide) (by decide) ?_
                show Steps p.tables e below (T228.setTop (mkF m 702 #[.val (.int p1), .val (.int p2), .val (.long q1), .second, .val (.ref b1), .val (.ref b138), .val (.int ((p1 &&& (2147483647 : Int32)) % (45 : Int32))), .val (.ref wf), .val (.long top), .second, .val (.int (p2 &&& (3 : Int32))), .val (.long ((top + (1 : Int64)) + (q1 &&& (255 : Int64)))), .second, .unset] [(.int (1 : Int32))])) _
                refine XS.istore X228.here hx rfl (hb hby at_702) rfl (l' := #[.val (.int p1), .val (.int p2), .val (.long q1), .second, .val (.ref b1), .val (.ref b138), .val (.int ((p1 &&& (2147483647 : Int32)) % (45 : Int32))), .val (.ref wf), .val (.long top), .second, .val (.int (p2 &&& (3 : Int32))), .val (.long ((top + (1 : Int64)) + (q1 &&& (255 : Int64)))), .second, .val (.int (1 : Int32))]) rfl ?_
                show Steps p.tables e below (T228.setTop (mkF m 704 #[.val (.int p1), .val (.int p2), .val (.long q1), .second, .val (.ref b1), .val (.ref b138), .val (.int ((p1 &&& (2147483647 : Int32)) % (45 : Int32))), .val (.ref wf), .val (.long top), .second, .val (.int (p2 &&& (3 : Int32))), .val (.long ((top + (1 : Int64)) + (q1 &&& (255 : Int64)))), .second, .val (.int (1 : Int32))] [])) _
                refine XS.aload X228.here hx rfl (hb hby at_704) rfl rfl ?_
                show Steps p.tables e below (T228.setTop (mkF m 706 #[.val (.int p1), .val (.int p2), .val (.long q1), .second, .val (.ref b1), .val (.ref b138), .val (.int ((p1 &&& (2147483647 : Int32)) % (45 : Int32))), .val (.ref wf), .val (.long top), .second, .val (.int (p2 &&& (3 : Int32))), .val (.long ((top + (1 : Int64)) + (q1 &&& (255 : Int64)))), .second, .val (.int (1 : Int32))] [(.ref wf)])) _
                refine XS.lload X228.here hx rfl (hb hby at_706) rfl ?_
                show Steps p.tables e below (T228.setTop (mkF m 708 #[.val (.int p1), .val (.int p2), .val (.long q1), .second, .val (.ref b1), .val (.ref b138), .val (.int ((p1 &&& (2147483647 : Int32)) % (45 : Int32))), .val (.ref wf), .val (.long top), .second, .val (.int (p2 &&& (3 : Int32))), .val (.long ((top + (1 : Int64)) + (q1 &&& (255 : Int64)))), .second, .val (.int (1 : Int32))] [(.long ((top + (1 : Int64)) + (q1 &&& (255 : Int64)))), (.ref wf)])) _
                refine st267.trans ?_
                show Steps p.tables e below (T267.setTop (mkF m 711 #[.val (.int p1), .val (.int p2), .val (.long q1), .second, .val (.ref b1), .val (.ref b138), .val (.int ((p1 &&& (2147483647 : Int32)) % (45 : Int32))), .val (.ref wf), .val (.long top), .second, .val (.int (p2 &&& (3 : Int32))), .val (.long ((top + (1 : Int64)) + (q1 &&& (255 : Int64)))), .second, .val (.int (1 : Int32))] [(.int (own_holds wd ((top + (1 : Int64)) + (q1 &&& (255 : Int64)))))])) _
                refine XS.iload X267.here hx rfl (hb hby at_711) rfl ?_
                show Steps p.tables e below (T267.setTop (mkF m 713 #[.val (.int p1), .val (.int p2), .val (.long q1), .second, .val (.ref b1), .val (.ref b138), .val (.int ((p1 &&& (2147483647 : Int32)) % (45 : Int32))), .val (.ref wf), .val (.long top), .second, .val (.int (p2 &&& (3 : Int32))), .val (.long ((top + (1 : Int64)) + (q1 &&& (255 : Int64)))), .second, .val (.int (1 : Int32))] [(.int (1 : Int32)), (.int (own_holds wd ((top + (1 : Int64)) + (q1 &&& (255 : Int64)))))])) _
                refine XS.icmpNo X267.here hx rfl (hb hby at_713) rfl (teq hd268).2 ?_
                show Steps p.tables e below (T267.setTop (mkF m 716 #[.val (.int p1), .val (.int p2), .val (.long q1), .second, .val (.ref b1), .val (.ref b138), .val (.int ((p1 &&& (2147483647 : Int32)) % (45 : Int32))), .val (.ref wf), .val (.long top), .second, .val (.int (p2 &&& (3 : Int32))), .val (.long ((top + (1 : Int64)) + (q1 &&& (255 : Int64)))), .second, .val (.int (1 : Int32))] [])) _
                refine XS.iconst X267.here hx rfl (hb hby at_716) ?_
                show Steps p.tables e below (T267.setTop (mkF m 717 #[.val (.int p1), .val (.int p2), .val (.long q1), .second, .val (.ref b1), .val (.ref b138), .val (.int ((p1 &&& (2147483647 : Int32)) % (45 : Int32))), .val (.ref wf), .val (.long top), .second, .val (.int (p2 &&& (3 : Int32))), .val (.long ((top + (1 : Int64)) + (q1 &&& (255 : Int64)))), .second, .val (.int (1 : Int32))] [(.int (1 : Int32))])) _
                refine XS.goto X267.here hx rfl (pc0 := 717) (pc' := 721) rfl (hb hby at_717) (by decide) (by decide) ?_
                show Steps p.tables e below (T267.setTop (mkF m 721 #[.val (.int p1), .val (.int p2), .val (.long q1), .second, .val (.ref b1), .val (.ref b138), .val (.int ((p1 &&& (2147483647 : Int32)) % (45 : Int32))), .val (.ref wf), .val (.long top), .second, .val (.int (p2 &&& (3 : Int32))), .val (.long ((top + (1 : Int64)) + (q1 &&& (255 : Int64)))), .second, .val (.int (1 : Int32))] [(.int (1 : Int32))])) _
                exact retN X267 hx (t := .boolean) Bd.returns (by simp) (hb hby at_721) hr
              · show Q_rm0 Z p1 p2 q1 w_CLIENT w_VERSION w_DOMAIN w_HCO w_EPG w_MPG w_LENGTH w_CONTROL w_NRS w_APG w_NSR w_NER w_NRT w_MDG w_CMG w_STI w_DRT w_RETRANSMIT_COUNT w_FORWARD_COUNT w_INTER_PACKET_GAP w_PG_COUNT w_PRIORITY w_FUNCTION_CODE w_TRANSACTION w_PACKET_DELIVERY w_SERVER w_FLAGS_AND_CODE w_CMD w_DGM w_MDM w_SDA w_CRE w_MRD w_PIC w_CODE w_CO_RESIDENT_ENTITY w_USER_DATA w_MSG_DELIVERY w_SEGMENT_SIZE w_NOTIFY_CONTROL w_NOTIFY_RECEIVE_SEQUENCE w_NOTIFY_CLIENT w_NOTIFY_TRANSACTION w_NOTIFY_DELIVERY w_NOTIFY_CODE h0 n0 _ T267.heap _
                rw [eq267]
                exact ⟨rfl, N267⟩
      · have pre269 : ∀ t, Steps p.tables e below (T228.setTop (mkF m 679 #[.val (.int p1), .val (.int p2), .val (.long q1), .second, .val (.ref b1), .val (.ref b138), .val (.int ((p1 &&& (2147483647 : Int32)) % (45 : Int32))), .val (.ref wf), .val (.long top), .second, .val (.int (p2 &&& (3 : Int32))), .val (.long (q1 ||| (-9223372036854775808 : Int64))), .second, .unset] [(.int (lcmpW top (-1 : Int64)))])) t → Steps p.tables e below (s₁.setTop (entryFrame m #[(.int p1), (.int p2), (.long q1)] maxLocals)) t := by
          intro t kt
          refine pre257 _ ?_
          show Steps p.tables e below (T228.setTop (mkF m 648 #[.val (.int p1), .val (.int p2), .val (.long q1), .second, .val (.ref b1), .val (.ref b138), .val (.int ((p1 &&& (2147483647 : Int32)) % (45 : Int32))), .val (.ref wf), .val (.long top), .second, .val (.int (p2 &&& (3 : Int32))), .unset, .unset, .unset] [(.int (2 : Int32)), (.int (p2 &&& (3 : Int32)))])) _
          refine XS.icmpYes X228.here hx rfl (pc0 := 648) (pc' := 666) rfl (hb hby at_648) rfl (feq hc648_257).2 (by decide) (by decide) ?_
          show Steps p.tables e below (T228.setTop (mkF m 666 #[.val (.int p1), .val (.int p2), .val (.long q1), .second, .val (.ref b1), .val (.ref b138), .val (.int ((p1 &&& (2147483647 : Int32)) % (45 : Int32))), .val (.ref wf), .val (.long top), .second, .val (.int (p2 &&& (3 : Int32))), .unset, .unset, .unset] [])) _
          refine XS.lloadN X228.here hx rfl (hb hby at_666) rfl ?_
          show Steps p.tables e below (T228.setTop (mkF m 667 #[.val (.int p1), .val (.int p2), .val (.long q1), .second, .val (.ref b1), .val (.ref b138), .val (.int ((p1 &&& (2147483647 : Int32)) % (45 : Int32))), .val (.ref wf), .val (.long top), .second, .val (.int (p2 &&& (3 : Int32))), .unset, .unset, .unset] [(.long q1)])) _
          refine X228.ldc2Long hx hown (mvT hZ (hw _ (List.mem_of_getElem? (i := 103) rfl))) (g := (mkF m 667 #[.val (.int p1), .val (.int p2), .val (.long q1), .second, .val (.ref b1), .val (.ref b138), .val (.int ((p1 &&& (2147483647 : Int32)) % (45 : Int32))), .val (.ref wf), .val (.long top), .second, .val (.int (p2 &&& (3 : Int32))), .unset, .unset, .unset] [(.long q1)])) rfl (hb hby at_667) _ ?_
          show Steps p.tables e below (T228.setTop (mkF m 670 #[.val (.int p1), .val (.int p2), .val (.long q1), .second, .val (.ref b1), .val (.ref b138), .val (.int ((p1 &&& (2147483647 : Int32)) % (45 : Int32))), .val (.ref wf), .val (.long top), .second, .val (.int (p2 &&& (3 : Int32))), .unset, .unset, .unset] [(.long (-9223372036854775808 : Int64)), (.long q1)])) _
          refine XS.lor X228.here hx rfl (hb hby at_670) rfl ?_
          show Steps p.tables e below (T228.setTop (mkF m 671 #[.val (.int p1), .val (.int p2), .val (.long q1), .second, .val (.ref b1), .val (.ref b138), .val (.int ((p1 &&& (2147483647 : Int32)) % (45 : Int32))), .val (.ref wf), .val (.long top), .second, .val (.int (p2 &&& (3 : Int32))), .unset, .unset, .unset] [(.long (q1 ||| (-9223372036854775808 : Int64)))])) _
          refine XS.lstore X228.here hx rfl (hb hby at_671) rfl (l' := #[.val (.int p1), .val (.int p2), .val (.long q1), .second, .val (.ref b1), .val (.ref b138), .val (.int ((p1 &&& (2147483647 : Int32)) % (45 : Int32))), .val (.ref wf), .val (.long top), .second, .val (.int (p2 &&& (3 : Int32))), .val (.long (q1 ||| (-9223372036854775808 : Int64))), .second, .unset]) rfl ?_
          show Steps p.tables e below (T228.setTop (mkF m 673 #[.val (.int p1), .val (.int p2), .val (.long q1), .second, .val (.ref b1), .val (.ref b138), .val (.int ((p1 &&& (2147483647 : Int32)) % (45 : Int32))), .val (.ref wf), .val (.long top), .second, .val (.int (p2 &&& (3 : Int32))), .val (.long (q1 ||| (-9223372036854775808 : Int64))), .second, .unset] [])) _
          refine XS.lload X228.here hx rfl (hb hby at_673) rfl ?_
          show Steps p.tables e below (T228.setTop (mkF m 675 #[.val (.int p1), .val (.int p2), .val (.long q1), .second, .val (.ref b1), .val (.ref b138), .val (.int ((p1 &&& (2147483647 : Int32)) % (45 : Int32))), .val (.ref wf), .val (.long top), .second, .val (.int (p2 &&& (3 : Int32))), .val (.long (q1 ||| (-9223372036854775808 : Int64))), .second, .unset] [(.long top)])) _
          refine X228.ldc2Long hx hown (mvT hZ (hw _ (List.mem_of_getElem? (i := 95) rfl))) (g := (mkF m 675 #[.val (.int p1), .val (.int p2), .val (.long q1), .second, .val (.ref b1), .val (.ref b138), .val (.int ((p1 &&& (2147483647 : Int32)) % (45 : Int32))), .val (.ref wf), .val (.long top), .second, .val (.int (p2 &&& (3 : Int32))), .val (.long (q1 ||| (-9223372036854775808 : Int64))), .second, .unset] [(.long top)])) rfl (hb hby at_675) _ ?_
          show Steps p.tables e below (T228.setTop (mkF m 678 #[.val (.int p1), .val (.int p2), .val (.long q1), .second, .val (.ref b1), .val (.ref b138), .val (.int ((p1 &&& (2147483647 : Int32)) % (45 : Int32))), .val (.ref wf), .val (.long top), .second, .val (.int (p2 &&& (3 : Int32))), .val (.long (q1 ||| (-9223372036854775808 : Int64))), .second, .unset] [(.long (-1 : Int64)), (.long top)])) _
          refine XS.lcmp X228.here hx rfl (hb hby at_678) rfl ?_
          exact kt
        by_cases hc679_269 : (lcmpW top (-1 : Int64)) = (0 : Int32)
        · obtain ⟨cq270, kq270, q270a, q270b, q270c⟩ := isOf hZ e228 (Ewf.ext O228.2)
          obtain ⟨_, _, ⟨T270, L270, k270, n270⟩, -, X270, ⟨Lc270, hQ270, l270, y270, z270⟩, st270⟩ := X228.virtualBack hx (y := (⟨"com/example/riposte/riposte/packet/HeaderField", "holds", "(J)Z"⟩ : MethodName)) (z := (⟨"com/example/riposte/riposte/packet/HeaderField", "holds", "(J)Z"⟩ : MethodName)) hown (mvT hZ (hw _ (List.mem_of_getElem? (i := 104) rfl))) (mvT hZ (hw _ (List.mem_of_getElem? (i := 105) rfl))) (notFace_of_selects (args := #[]) (mvT hZ (hw _ (List.mem_of_getElem? (i := 107) rfl)))) (mvT hZ (hw _ (List.mem_of_getElem? (i := 107) rfl))) (mvT hZ (hw _ (List.mem_of_getElem? (i := 106) rfl))) (by decide) (backOf (W := 0) (hold l Z a0 hw [] wf (q1 ||| (-9223372036854775808 : Int64)) wd h228 n0 O228 (Fwf.ext O228.2)) hZ (hw _ (List.mem_of_getElem? (i := 108) rfl)) (hw _ (List.mem_of_getElem? (i := 3) rfl)) (by decide) (by decide)) q270a q270c (g := (mkF m 708 #[.val (.int p1), .val (.int p2), .val (.long q1), .second, .val (.ref b1), .val (.ref b138), .val (.int ((p1 &&& (2147483647 : Int32)) % (45 : Int32))), .val (.ref wf), .val (.long top), .second, .val (.int (p2 &&& (3 : Int32))), .val (.long (q1 ||| (-9223372036854775808 : Int64))), .second, .val (.int (1 : Int32))] [(.long (q1 ||| (-9223372036854775808 : Int64))), (.ref wf)])) rfl (by rw [hml]; rfl) (Steps.refl _) (argsL := [(.long (q1 ||| (-9223372036854775808 : Int64)))]) (rest := []) (lenOf pd__J_Z rfl) rfl (by show 2 * 0 + _ ≤ _; exact Nat.le_of_eq rfl) (hb hby at_708) (fun _ _ => ⟨rfl, e228, (by decide : 2 + 0 ≤ _), (by decide : 90 + 0 ≤ _)⟩)
          dsimp only [Pt.U, Pt.locs, Pt.cells, Pt.slots] at X270 l270 y270 z270 st270 hQ270
          subst l270 y270 z270
          obtain ⟨rfl, Nq270, eq270⟩ := hQ270
          have N270 := Fr.app N228 Nq270
          have hd271 : (own_holds wd (q1 ||| (-9223372036854775808 : Int64))) = (1 : Int32) := own_h1 hR hc679_269
          obtain ⟨fs, hr, hrun, hended, hW, hsame⟩ := X270.leave (v := some (.int (1 : Int32))) (fun h => by rw [Bd.returns] at h; cases h)
          refine ⟨_, _, pre269 _ ?_, hrun, hended, _, _, rfl, ?_, ⟨_, rfl⟩, hW, hsame.mono (by decide) (by decide)⟩
          · show Steps p.tables e below (T228.setTop (mkF m 679 #[.val (.int p1), .val (.int p2), .val (.long q1), .second, .val (.ref b1), .val (.ref b138), .val (.int ((p1 &&& (2147483647 : Int32)) % (45 : Int32))), .val (.ref wf), .val (.long top), .second, .val (.int (p2 &&& (3 : Int32))), .val (.long (q1 ||| (-9223372036854775808 : Int64))), .second, .unset] [(.int (lcmpW top (-1 : Int64)))])) _
            refine XS.ifYes X228.here hx rfl (pc0 := 679) (pc' := 697) rfl (hb hby at_679) rfl ((if0 _ _).trans (teq hc679_269).1) (by decide) (by decide) ?_
            show Steps p.tables e below (T228.setTop (mkF m 697 #[.val (.int p1), .val (.int p2), .val (.long q1), .second, .val (.ref b1), .val (.ref b138), .val (.int ((p1 &&& (2147483647 : Int32)) % (45 : Int32))), .val (.ref wf), .val (.long top), .second, .val (.int (p2 &&& (3 : Int32))), .val (.long (q1 ||| (-9223372036854775808 : Int64))), .second, .unset] [])) _
            refine XS.iconst X228.here hx rfl (hb hby at_697) ?_
            show Steps p.tables e below (T228.setTop (mkF m 698 #[.val (.int p1), .val (.int p2), .val (.long q1), .second, .val (.ref b1), .val (.ref b138), .val (.int ((p1 &&& (2147483647 : Int32)) % (45 : Int32))), .val (.ref wf), .val (.long top), .second, .val (.int (p2 &&& (3 : Int32))), .val (.long (q1 ||| (-9223372036854775808 : Int64))), .second, .unset] [(.int (1 : Int32))])) _
            refine XS.goto X228.here hx rfl (pc0 := 698) (pc' := 702) rfl (hb hby at_698) (by decide) (by decide) ?_
            show Steps p.tables e below (T228.setTop (mkF m 702 #[.val (.int p1), .val (.int p2), .val (.long q1), .second, .val (.ref b1), .val (.ref b138), .val (.int ((p1 &&& (2147483647 : Int32)) % (45 : Int32))), .val (.ref wf), .val (.long top), .second, .val (.int (p2 &&& (3 : Int32))), .val (.long (q1 ||| (-9223372036854775808 : Int64))), .second, .unset] [(.int (1 : Int32))])) _
            refine XS.istore X228.here hx rfl (hb hby at_702) rfl (l' := #[.val (.int p1), .val (.int p2), .val (.long q1), .second, .val (.ref b1), .val (.ref b138), .val (.int ((p1 &&& (2147483647 : Int32)) % (45 : Int32))), .val (.ref wf), .val (.long top), .second, .val (.int (p2 &&& (3 : Int32))), .val (.long (q1 ||| (-9223372036854775808 : Int64))), .second, .val (.int (1 : Int32))]) rfl ?_
            show Steps p.tables e below (T228.setTop (mkF m 704 #[.val (.int p1), .val (.int p2), .val (.long q1), .second, .val (.ref b1), .val (.ref b138), .val (.int ((p1 &&& (2147483647 : Int32)) % (45 : Int32))), .val (.ref wf), .val (.long top), .second, .val (.int (p2 &&& (3 : Int32))), .val (.long (q1 ||| (-9223372036854775808 : Int64))), .second, .val (.int (1 : Int32))] [])) _
            refine XS.aload X228.here hx rfl (hb hby at_704) rfl rfl ?_
            show Steps p.tables e below (T228.setTop (mkF m 706 #[.val (.int p1), .val (.int p2), .val (.long q1), .second, .val (.ref b1), .val (.ref b138), .val (.int ((p1 &&& (2147483647 : Int32)) % (45 : Int32))), .val (.ref wf), .val (.long top), .second, .val (.int (p2 &&& (3 : Int32))), .val (.long (q1 ||| (-9223372036854775808 : Int64))), .second, .val (.int (1 : Int32))] [(.ref wf)])) _
            refine XS.lload X228.here hx rfl (hb hby at_706) rfl ?_
            show Steps p.tables e below (T228.setTop (mkF m 708 #[.val (.int p1), .val (.int p2), .val (.long q1), .second, .val (.ref b1), .val (.ref b138), .val (.int ((p1 &&& (2147483647 : Int32)) % (45 : Int32))), .val (.ref wf), .val (.long top), .second, .val (.int (p2 &&& (3 : Int32))), .val (.long (q1 ||| (-9223372036854775808 : Int64))), .second, .val (.int (1 : Int32))] [(.long (q1 ||| (-9223372036854775808 : Int64))), (.ref wf)])) _
            refine st270.trans ?_
            show Steps p.tables e below (T270.setTop (mkF m 711 #[.val (.int p1), .val (.int p2), .val (.long q1), .second, .val (.ref b1), .val (.ref b138), .val (.int ((p1 &&& (2147483647 : Int32)) % (45 : Int32))), .val (.ref wf), .val (.long top), .second, .val (.int (p2 &&& (3 : Int32))), .val (.long (q1 ||| (-9223372036854775808 : Int64))), .second, .val (.int (1 : Int32))] [(.int (own_holds wd (q1 ||| (-9223372036854775808 : Int64))))])) _
            refine XS.iload X270.here hx rfl (hb hby at_711) rfl ?_
            show Steps p.tables e below (T270.setTop (mkF m 713 #[.val (.int p1), .val (.int p2), .val (.long q1), .second, .val (.ref b1), .val (.ref b138), .val (.int ((p1 &&& (2147483647 : Int32)) % (45 : Int32))), .val (.ref wf), .val (.long top), .second, .val (.int (p2 &&& (3 : Int32))), .val (.long (q1 ||| (-9223372036854775808 : Int64))), .second, .val (.int (1 : Int32))] [(.int (1 : Int32)), (.int (own_holds wd (q1 ||| (-9223372036854775808 : Int64))))])) _
            refine XS.icmpNo X270.here hx rfl (hb hby at_713) rfl (teq hd271).2 ?_
            show Steps p.tables e below (T270.setTop (mkF m 716 #[.val (.int p1), .val (.int p2), .val (.long q1), .second, .val (.ref b1), .val (.ref b138), .val (.int ((p1 &&& (2147483647 : Int32)) % (45 : Int32))), .val (.ref wf), .val (.long top), .second, .val (.int (p2 &&& (3 : Int32))), .val (.long (q1 ||| (-9223372036854775808 : Int64))), .second, .val (.int (1 : Int32))] [])) _
            refine XS.iconst X270.here hx rfl (hb hby at_716) ?_
            show Steps p.tables e below (T270.setTop (mkF m 717 #[.val (.int p1), .val (.int p2), .val (.long q1), .second, .val (.ref b1), .val (.ref b138), .val (.int ((p1 &&& (2147483647 : Int32)) % (45 : Int32))), .val (.ref wf), .val (.long top), .second, .val (.int (p2 &&& (3 : Int32))), .val (.long (q1 ||| (-9223372036854775808 : Int64))), .second, .val (.int (1 : Int32))] [(.int (1 : Int32))])) _
            refine XS.goto X270.here hx rfl (pc0 := 717) (pc' := 721) rfl (hb hby at_717) (by decide) (by decide) ?_
            show Steps p.tables e below (T270.setTop (mkF m 721 #[.val (.int p1), .val (.int p2), .val (.long q1), .second, .val (.ref b1), .val (.ref b138), .val (.int ((p1 &&& (2147483647 : Int32)) % (45 : Int32))), .val (.ref wf), .val (.long top), .second, .val (.int (p2 &&& (3 : Int32))), .val (.long (q1 ||| (-9223372036854775808 : Int64))), .second, .val (.int (1 : Int32))] [(.int (1 : Int32))])) _
            exact retN X270 hx (t := .boolean) Bd.returns (by simp) (hb hby at_721) hr
          · show Q_rm0 Z p1 p2 q1 w_CLIENT w_VERSION w_DOMAIN w_HCO w_EPG w_MPG w_LENGTH w_CONTROL w_NRS w_APG w_NSR w_NER w_NRT w_MDG w_CMG w_STI w_DRT w_RETRANSMIT_COUNT w_FORWARD_COUNT w_INTER_PACKET_GAP w_PG_COUNT w_PRIORITY w_FUNCTION_CODE w_TRANSACTION w_PACKET_DELIVERY w_SERVER w_FLAGS_AND_CODE w_CMD w_DGM w_MDM w_SDA w_CRE w_MRD w_PIC w_CODE w_CO_RESIDENT_ENTITY w_USER_DATA w_MSG_DELIVERY w_SEGMENT_SIZE w_NOTIFY_CONTROL w_NOTIFY_RECEIVE_SEQUENCE w_NOTIFY_CLIENT w_NOTIFY_TRANSACTION w_NOTIFY_DELIVERY w_NOTIFY_CODE h0 n0 _ T270.heap _
            rw [eq270]
            exact ⟨rfl, N270⟩
        · have pre272 : ∀ t, Steps p.tables e below (T228.setTop (mkF m 686 #[.val (.int p1), .val (.int p2), .val (.long q1), .second, .val (.ref b1), .val (.ref b138), .val (.int ((p1 &&& (2147483647 : Int32)) % (45 : Int32))), .val (.ref wf), .val (.long top), .second, .val (.int (p2 &&& (3 : Int32))), .val (.long (q1 ||| (-9223372036854775808 : Int64))), .second, .unset] [(.int (lcmpW (q1 ||| (-9223372036854775808 : Int64)) (0 : Int64)))])) t → Steps p.tables e below (s₁.setTop (entryFrame m #[(.int p1), (.int p2), (.long q1)] maxLocals)) t := by
            intro t kt
            refine pre269 _ ?_
            show Steps p.tables e below (T228.setTop (mkF m 679 #[.val (.int p1), .val (.int p2), .val (.long q1), .second, .val (.ref b1), .val (.ref b138), .val (.int ((p1 &&& (2147483647 : Int32)) % (45 : Int32))), .val (.ref wf), .val (.long top), .second, .val (.int (p2 &&& (3 : Int32))), .val (.long (q1 ||| (-9223372036854775808 : Int64))), .second, .unset] [(.int (lcmpW top (-1 : Int64)))])) _
            refine XS.ifNo X228.here hx rfl (hb hby at_679) rfl ((if0 _ _).trans (feq hc679_269).1) ?_
            show Steps p.tables e below (T228.setTop (mkF m 682 #[.val (.int p1), .val (.int p2), .val (.long q1), .second, .val (.ref b1), .val (.ref b138), .val (.int ((p1 &&& (2147483647 : Int32)) % (45 : Int32))), .val (.ref wf), .val (.long top), .second, .val (.int (p2 &&& (3 : Int32))), .val (.long (q1 ||| (-9223372036854775808 : Int64))), .second, .unset] [])) _
            refine XS.lload X228.here hx rfl (hb hby at_682) rfl ?_
            show Steps p.tables e below (T228.setTop (mkF m 684 #[.val (.int p1), .val (.int p2), .val (.long q1), .second, .val (.ref b1), .val (.ref b138), .val (.int ((p1 &&& (2147483647 : Int32)) % (45 : Int32))), .val (.ref wf), .val (.long top), .second, .val (.int (p2 &&& (3 : Int32))), .val (.long (q1 ||| (-9223372036854775808 : Int64))), .second, .unset] [(.long (q1 ||| (-9223372036854775808 : Int64)))])) _
            refine XS.lconst X228.here hx rfl (hb hby at_684) ?_
            show Steps p.tables e below (T228.setTop (mkF m 685 #[.val (.int p1), .val (.int p2), .val (.long q1), .second, .val (.ref b1), .val (.ref b138), .val (.int ((p1 &&& (2147483647 : Int32)) % (45 : Int32))), .val (.ref wf), .val (.long top), .second, .val (.int (p2 &&& (3 : Int32))), .val (.long (q1 ||| (-9223372036854775808 : Int64))), .second, .unset] [(.long (0 : Int64)), (.long (q1 ||| (-9223372036854775808 : Int64)))])) _
            refine XS.lcmp X228.here hx rfl (hb hby at_685) rfl ?_
            exact kt
          by_cases hc686_272 : (lcmpW (q1 ||| (-9223372036854775808 : Int64)) (0 : Int64)) < (0 : Int32)
          · obtain ⟨cq273, kq273, q273a, q273b, q273c⟩ := isOf hZ e228 (Ewf.ext O228.2)
            obtain ⟨_, _, ⟨T273, L273, k273, n273⟩, -, X273, ⟨Lc273, hQ273, l273, y273, z273⟩, st273⟩ := X228.virtualBack hx (y := (⟨"com/example/riposte/riposte/packet/HeaderField", "holds", "(J)Z"⟩ : MethodName)) (z := (⟨"com/example/riposte/riposte/packet/HeaderField", "holds", "(J)Z"⟩ : MethodName)) hown (mvT hZ (hw _ (List.mem_of_getElem? (i := 104) rfl))) (mvT hZ (hw _ (List.mem_of_getElem? (i := 105) rfl))) (notFace_of_selects (args := #[]) (mvT hZ (hw _ (List.mem_of_getElem? (i := 107) rfl)))) (mvT hZ (hw _ (List.mem_of_getElem? (i := 107) rfl))) (mvT hZ (hw _ (List.mem_of_getElem? (i := 106) rfl))) (by decide) (backOf (W := 0) (hold l Z a0 hw [] wf (q1 ||| (-9223372036854775808 : Int64)) wd h228 n0 O228 (Fwf.ext O228.2)) hZ (hw _ (List.mem_of_getElem? (i := 108) rfl)) (hw _ (List.mem_of_getElem? (i := 3) rfl)) (by decide) (by decide)) q273a q273c (g := (mkF m 708 #[.val (.int p1), .val (.int p2), .val (.long q1), .second, .val (.ref b1), .val (.ref b138), .val (.int ((p1 &&& (2147483647 : Int32)) % (45 : Int32))), .val (.ref wf), .val (.long top), .second, .val (.int (p2 &&& (3 : Int32))), .val (.long (q1 ||| (-9223372036854775808 : Int64))), .second, .val (.int (0 : Int32))] [(.long (q1 ||| (-9223372036854775808 : Int64))), (.ref wf)])) rfl (by rw [hml]; rfl) (Steps.refl _) (argsL := [(.long (q1 ||| (-9223372036854775808 : Int64)))]) (rest := []) (lenOf pd__J_Z rfl) rfl (by show 2 * 0 + _ ≤ _; exact Nat.le_of_eq rfl) (hb hby at_708) (fun _ _ => ⟨rfl, e228, (by decide : 2 + 0 ≤ _), (by decide : 90 + 0 ≤ _)⟩)
            dsimp only [Pt.U, Pt.locs, Pt.cells, Pt.slots] at X273 l273 y273 z273 st273 hQ273
            subst l273 y273 z273
            obtain ⟨rfl, Nq273, eq273⟩ := hQ273
            have N273 := Fr.app N228 Nq273
            have hd274 : (own_holds wd (q1 ||| (-9223372036854775808 : Int64))) = (0 : Int32) := own_h2 hR hc679_269 hc686_272
            obtain ⟨fs, hr, hrun, hended, hW, hsame⟩ := X273.leave (v := some (.int (1 : Int32))) (fun h => by rw [Bd.returns] at h; cases h)
            refine ⟨_, _, pre272 _ ?_, hrun, hended, _, _, rfl, ?_, ⟨_, rfl⟩, hW, hsame.mono (by decide) (by decide)⟩
            · show Steps p.tables e below (T228.setTop (mkF m 686 #[.val (.int p1), .val (.int p2), .val (.long q1), .second, .val (.ref b1), .val (.ref b138), .val (.int ((p1 &&& (2147483647 : Int32)) % (45 : Int32))), .val (.ref wf), .val (.long top), .second, .val (.int (p2 &&& (3 : Int32))), .val (.long (q1 ||| (-9223372036854775808 : Int64))), .second, .unset] [(.int (lcmpW (q1 ||| (-9223372036854775808 : Int64)) (0 : Int64)))])) _
              refine XS.ifYes X228.here hx rfl (pc0 := 686) (pc' := 701) rfl (hb hby at_686) rfl ((if0 _ _).trans (tlt hc686_272).1) (by decide) (by decide) ?_
              show Steps p.tables e below (T228.setTop (mkF m 701 #[.val (.int p1), .val (.int p2), .val (.long q1), .second, .val (.ref b1), .val (.ref b138), .val (.int ((p1 &&& (2147483647 : Int32)) % (45 : Int32))), .val (.ref wf), .val (.long top), .second, .val (.int (p2 &&& (3 : Int32))), .val (.long (q1 ||| (-9223372036854775808 : Int64))), .second, .unset] [])) _
              refine XS.iconst X228.here hx rfl (hb hby at_701) ?_
              show Steps p.tables e below (T228.setTop (mkF m 702 #[.val (.int p1), .val (.int p2), .val (.long q1), .second, .val (.ref b1), .val (.ref b138), .val (.int ((p1 &&& (2147483647 : Int32)) % (45 : Int32))), .val (.ref wf), .val (.long top), .second, .val (.int (p2 &&& (3 : Int32))), .val (.long (q1 ||| (-9223372036854775808 : Int64))), .second, .unset] [(.int (0 : Int32))])) _
              refine XS.istore X228.here hx rfl (hb hby at_702) rfl (l' := #[.val (.int p1), .val (.int p2), .val (.long q1), .second, .val (.ref b1), .val (.ref b138), .val (.int ((p1 &&& (2147483647 : Int32)) % (45 : Int32))), .val (.ref wf), .val (.long top), .second, .val (.int (p2 &&& (3 : Int32))), .val (.long (q1 ||| (-9223372036854775808 : Int64))), .second, .val (.int (0 : Int32))]) rfl ?_
              show Steps p.tables e below (T228.setTop (mkF m 704 #[.val (.int p1), .val (.int p2), .val (.long q1), .second, .val (.ref b1), .val (.ref b138), .val (.int ((p1 &&& (2147483647 : Int32)) % (45 : Int32))), .val (.ref wf), .val (.long top), .second, .val (.int (p2 &&& (3 : Int32))), .val (.long (q1 ||| (-9223372036854775808 : Int64))), .second, .val (.int (0 : Int32))] [])) _
              refine XS.aload X228.here hx rfl (hb hby at_704) rfl rfl ?_
              show Steps p.tables e below (T228.setTop (mkF m 706 #[.val (.int p1), .val (.int p2), .val (.long q1), .second, .val (.ref b1), .val (.ref b138), .val (.int ((p1 &&& (2147483647 : Int32)) % (45 : Int32))), .val (.ref wf), .val (.long top), .second, .val (.int (p2 &&& (3 : Int32))), .val (.long (q1 ||| (-9223372036854775808 : Int64))), .second, .val (.int (0 : Int32))] [(.ref wf)])) _
              refine XS.lload X228.here hx rfl (hb hby at_706) rfl ?_
              show Steps p.tables e below (T228.setTop (mkF m 708 #[.val (.int p1), .val (.int p2), .val (.long q1), .second, .val (.ref b1), .val (.ref b138), .val (.int ((p1 &&& (2147483647 : Int32)) % (45 : Int32))), .val (.ref wf), .val (.long top), .second, .val (.int (p2 &&& (3 : Int32))), .val (.long (q1 ||| (-9223372036854775808 : Int64))), .second, .val (.int (0 : Int32))] [(.long (q1 ||| (-9223372036854775808 : Int64))), (.ref wf)])) _
              refine st273.trans ?_
              show Steps p.tables e below (T273.setTop (mkF m 711 #[.val (.int p1), .val (.int p2), .val (.long q1), .second, .val (.ref b1), .val (.ref b138), .val (.int ((p1 &&& (2147483647 : Int32)) % (45 : Int32))), .val (.ref wf), .val (.long top), .second, .val (.int (p2 &&& (3 : Int32))), .val (.long (q1 ||| (-9223372036854775808 : Int64))), .second, .val (.int (0 : Int32))] [(.int (own_holds wd (q1 ||| (-9223372036854775808 : Int64))))])) _
              refine XS.iload X273.here hx rfl (hb hby at_711) rfl ?_
              show Steps p.tables e below (T273.setTop (mkF m 713 #[.val (.int p1), .val (.int p2), .val (.long q1), .second, .val (.ref b1), .val (.ref b138), .val (.int ((p1 &&& (2147483647 : Int32)) % (45 : Int32))), .val (.ref wf), .val (.long top), .second, .val (.int (p2 &&& (3 : Int32))), .val (.long (q1 ||| (-9223372036854775808 : Int64))), .second, .val (.int (0 : Int32))] [(.int (0 : Int32)), (.int (own_holds wd (q1 ||| (-9223372036854775808 : Int64))))])) _
              refine XS.icmpNo X273.here hx rfl (hb hby at_713) rfl (teq hd274).2 ?_
              show Steps p.tables e below (T273.setTop (mkF m 716 #[.val (.int p1), .val (.int p2), .val (.long q1), .second, .val (.ref b1), .val (.ref b138), .val (.int ((p1 &&& (2147483647 : Int32)) % (45 : Int32))), .val (.ref wf), .val (.long top), .second, .val (.int (p2 &&& (3 : Int32))), .val (.long (q1 ||| (-9223372036854775808 : Int64))), .second, .val (.int (0 : Int32))] [])) _
              refine XS.iconst X273.here hx rfl (hb hby at_716) ?_
              show Steps p.tables e below (T273.setTop (mkF m 717 #[.val (.int p1), .val (.int p2), .val (.long q1), .second, .val (.ref b1), .val (.ref b138), .val (.int ((p1 &&& (2147483647 : Int32)) % (45 : Int32))), .val (.ref wf), .val (.long top), .second, .val (.int (p2 &&& (3 : Int32))), .val (.long (q1 ||| (-9223372036854775808 : Int64))), .second, .val (.int (0 : Int32))] [(.int (1 : Int32))])) _
              refine XS.goto X273.here hx rfl (pc0 := 717) (pc' := 721) rfl (hb hby at_717) (by decide) (by decide) ?_
              show Steps p.tables e below (T273.setTop (mkF m 721 #[.val (.int p1), .val (.int p2), .val (.long q1), .second, .val (.ref b1), .val (.ref b138), .val (.int ((p1 &&& (2147483647 : Int32)) % (45 : Int32))), .val (.ref wf), .val (.long top), .second, .val (.int (p2 &&& (3 : Int32))), .val (.long (q1 ||| (-9223372036854775808 : Int64))), .second, .val (.int (0 : Int32))] [(.int (1 : Int32))])) _
              exact retN X273 hx (t := .boolean) Bd.returns (by simp) (hb hby at_721) hr
            · show Q_rm0 Z p1 p2 q1 w_CLIENT w_VERSION w_DOMAIN w_HCO w_EPG w_MPG w_LENGTH w_CONTROL w_NRS w_APG w_NSR w_NER w_NRT w_MDG w_CMG w_STI w_DRT w_RETRANSMIT_COUNT w_FORWARD_COUNT w_INTER_PACKET_GAP w_PG_COUNT w_PRIORITY w_FUNCTION_CODE w_TRANSACTION w_PACKET_DELIVERY w_SERVER w_FLAGS_AND_CODE w_CMD w_DGM w_MDM w_SDA w_CRE w_MRD w_PIC w_CODE w_CO_RESIDENT_ENTITY w_USER_DATA w_MSG_DELIVERY w_SEGMENT_SIZE w_NOTIFY_CONTROL w_NOTIFY_RECEIVE_SEQUENCE w_NOTIFY_CLIENT w_NOTIFY_TRANSACTION w_NOTIFY_DELIVERY w_NOTIFY_CODE h0 n0 _ T273.heap _
              rw [eq273]
              exact ⟨rfl, N273⟩
          · have pre275 : ∀ t, Steps p.tables e below (T228.setTop (mkF m 694 #[.val (.int p1), .val (.int p2), .val (.long q1), .second, .val (.ref b1), .val (.ref b138), .val (.int ((p1 &&& (2147483647 : Int32)) % (45 : Int32))), .val (.ref wf), .val (.long top), .second, .val (.int (p2 &&& (3 : Int32))), .val (.long (q1 ||| (-9223372036854775808 : Int64))), .second, .unset] [(.int (lcmpW (q1 ||| (-9223372036854775808 : Int64)) top))])) t → Steps p.tables e below (s₁.setTop (entryFrame m #[(.int p1), (.int p2), (.long q1)] maxLocals)) t := by
              intro t kt
              refine pre272 _ ?_
              show Steps p.tables e below (T228.setTop (mkF m 686 #[.val (.int p1), .val (.int p2), .val (.long q1), .second, .val (.ref b1), .val (.ref b138), .val (.int ((p1 &&& (2147483647 : Int32)) % (45 : Int32))), .val (.ref wf), .val (.long top), .second, .val (.int (p2 &&& (3 : Int32))), .val (.long (q1 ||| (-9223372036854775808 : Int64))), .second, .unset] [(.int (lcmpW (q1 ||| (-9223372036854775808 : Int64)) (0 : Int64)))])) _
              refine XS.ifNo X228.here hx rfl (hb hby at_686) rfl ((if0 _ _).trans (flt hc686_272).1) ?_
              show Steps p.tables e below (T228.setTop (mkF m 689 #[.val (.int p1), .val (.int p2), .val (.long q1), .second, .val (.ref b1), .val (.ref b138), .val (.int ((p1 &&& (2147483647 : Int32)) % (45 : Int32))), .val (.ref wf), .val (.long top), .second, .val (.int (p2 &&& (3 : Int32))), .val (.long (q1 ||| (-9223372036854775808 : Int64))), .second, .unset] [])) _
              refine XS.lload X228.here hx rfl (hb hby at_689) rfl ?_
              show Steps p.tables e below (T228.setTop (mkF m 691 #[.val (.int p1), .val (.int p2), .val (.long q1), .second, .val (.ref b1), .val (.ref b138), .val (.int ((p1 &&& (2147483647 : Int32)) % (45 : Int32))), .val (.ref wf), .val (.long top), .second, .val (.int (p2 &&& (3 : Int32))), .val (.long (q1 ||| (-9223372036854775808 : Int64))), .second, .unset] [(.long (q1 ||| (-9223372036854775808 : Int64)))])) _
              refine XS.lload X228.here hx rfl (hb hby at_691) rfl ?_
              show Steps p.tables e below (T228.setTop (mkF m 693 #[.val (.int p1), .val (.int p2), .val (.long q1), .second, .val (.ref b1), .val (.ref b138), .val (.int ((p1 &&& (2147483647 : Int32)) % (45 : Int32))), .val (.ref wf), .val (.long top), .second, .val (.int (p2 &&& (3 : Int32))), .val (.long (q1 ||| (-9223372036854775808 : Int64))), .second, .unset] [(.long top), (.long (q1 ||| (-9223372036854775808 : Int64)))])) _
              refine XS.lcmp X228.here hx rfl (hb hby at_693) rfl ?_
              exact kt
            by_cases hc694_275 : (0 : Int32) < (lcmpW (q1 ||| (-9223372036854775808 : Int64)) top)
            · obtain ⟨cq276, kq276, q276a, q276b, q276c⟩ := isOf hZ e228 (Ewf.ext O228.2)
              obtain ⟨_, _, ⟨T276, L276, k276, n276⟩, -, X276, ⟨Lc276, hQ276, l276, y276, z276⟩, st276⟩ := X228.virtualBack hx (y := (⟨"com/example/riposte/riposte/packet/HeaderField", "holds", "(J)Z"⟩ : MethodName)) (z := (⟨"com/example/riposte/riposte/packet/HeaderField", "holds", "(J)Z"⟩ : MethodName)) hown (mvT hZ (hw _ (List.mem_of_getElem? (i := 104) rfl))) (mvT hZ (hw _ (List.mem_of_getElem? (i := 105) rfl))) (notFace_of_selects (args := #[]) (mvT hZ (hw _ (List.mem_of_getElem? (i := 107) rfl)))) (mvT hZ (hw _ (List.mem_of_getElem? (i := 107) rfl))) (mvT hZ (hw _ (List.mem_of_getElem? (i := 106) rfl))) (by decide) (backOf (W := 0) (hold l Z a0 hw [] wf (q1 ||| (-9223372036854775808 : Int64)) wd h228 n0 O228 (Fwf.ext O228.2)) hZ (hw _ (List.mem_of_getElem? (i := 108) rfl)) (hw _ (List.mem_of_getElem? (i := 3) rfl)) (by decide) (by decide)) q276a q276c (g := (mkF m 708 #[.val (.int p1), .val (.int p2), .val (.long q1), .second, .val (.ref b1), .val (.ref b138), .val (.int ((p1 &&& (2147483647 : Int32)) % (45 : Int32))), .val (.ref wf), .val (.long top), .second, .val (.int (p2 &&& (3 : Int32))), .val (.long (q1 ||| (-9223372036854775808 : Int64))), .second, .val (.int (0 : Int32))] [(.long (q1 ||| (-9223372036854775808 : Int64))), (.ref wf)])) rfl (by rw [hml]; rfl) (Steps.refl _) (argsL := [(.long (q1 ||| (-9223372036854775808 : Int64)))]) (rest := []) (lenOf pd__J_Z rfl) rfl (by show 2 * 0 + _ ≤ _; exact Nat.le_of_eq rfl) (hb hby at_708) (fun _ _ => ⟨rfl, e228, (by decide : 2 + 0 ≤ _), (by decide : 90 + 0 ≤ _)⟩)
              dsimp only [Pt.U, Pt.locs, Pt.cells, Pt.slots] at X276 l276 y276 z276 st276 hQ276
              subst l276 y276 z276
              obtain ⟨rfl, Nq276, eq276⟩ := hQ276
              have N276 := Fr.app N228 Nq276
              have hd277 : (own_holds wd (q1 ||| (-9223372036854775808 : Int64))) = (0 : Int32) := own_h3 hR hc679_269 hc694_275
              obtain ⟨fs, hr, hrun, hended, hW, hsame⟩ := X276.leave (v := some (.int (1 : Int32))) (fun h => by rw [Bd.returns] at h; cases h)
              refine ⟨_, _, pre275 _ ?_, hrun, hended, _, _, rfl, ?_, ⟨_, rfl⟩, hW, hsame.mono (by decide) (by decide)⟩
              · show Steps p.tables e below (T228.setTop (mkF m 694 #[.val (.int p1), .val (.int p2), .val (.long q1), .second, .val (.ref b1), .val (.ref b138), .val (.int ((p1 &&& (2147483647 : Int32)) % (45 : Int32))), .val (.ref wf), .val (.long top), .second, .val (.int (p2 &&& (3 : Int32))), .val (.long (q1 ||| (-9223372036854775808 : Int64))), .second, .unset] [(.int (lcmpW (q1 ||| (-9223372036854775808 : Int64)) top))])) _
                refine XS.ifYes X228.here hx rfl (pc0 := 694) (pc' := 701) rfl (hb hby at_694) rfl ((if0 _ _).trans (tlt hc694_275).2.2.1) (by decide) (by decide) ?_
                show Steps p.tables e below (T228.setTop (mkF m 701 #[.val (.int p1), .val (.int p2), .val (.long q1), .second, .val (.ref b1), .val (.ref b138), .val (.int ((p1 &&& (2147483647 : Int32)) % (45 : Int32))), .val (.ref wf), .val (.long top), .second, .val (.int (p2 &&& (3 : Int32))), .val (.long (q1 ||| (-9223372036854775808 : Int64))), .second, .unset] [])) _
                refine XS.iconst X228.here hx rfl (hb hby at_701) ?_
                show Steps p.tables e below (T228.setTop (mkF m 702 #[.val (.int p1), .val (.int p2), .val (.long q1), .second, .val (.ref b1), .val (.ref b138), .val (.int ((p1 &&& (2147483647 : Int32)) % (45 : Int32))), .val (.ref wf), .val (.long top), .second, .val (.int (p2 &&& (3 : Int32))), .val (.long (q1 ||| (-9223372036854775808 : Int64))), .second, .unset] [(.int (0 : Int32))])) _
                refine XS.istore X228.here hx rfl (hb hby at_702) rfl (l' := #[.val (.int p1), .val (.int p2), .val (.long q1), .second, .val (.ref b1), .val (.ref b138), .val (.int ((p1 &&& (2147483647 : Int32)) % (45 : Int32))), .val (.ref wf), .val (.long top), .second, .val (.int (p2 &&& (3 : Int32))), .val (.long (q1 ||| (-9223372036854775808 : Int64))), .second, .val (.int (0 : Int32))]) rfl ?_
                show Steps p.tables e below (T228.setTop (mkF m 704 #[.val (.int p1), .val (.int p2), .val (.long q1), .second, .val (.ref b1), .val (.ref b138), .val (.int ((p1 &&& (2147483647 : Int32)) % (45 : Int32))), .val (.ref wf), .val (.long top), .second, .val (.int (p2 &&& (3 : Int32))), .val (.long (q1 ||| (-9223372036854775808 : Int64))), .second, .val (.int (0 : Int32))] [])) _
                refine XS.aload X228.here hx rfl (hb hby at_704) rfl rfl ?_
                show Steps p.tables e below (T228.setTop (mkF m 706 #[.val (.int p1), .val (.int p2), .val (.long q1), .second, .val (.ref b1), .val (.ref b138), .val (.int ((p1 &&& (2147483647 : Int32)) % (45 : Int32))), .val (.ref wf), .val (.long top), .second, .val (.int (p2 &&& (3 : Int32))), .val (.long (q1 ||| (-9223372036854775808 : Int64))), .second, .val (.int (0 : Int32))] [(.ref wf)])) _
                refine XS.lload X228.here hx rfl (hb hby at_706) rfl ?_
                show Steps p.tables e below (T228.setTop (mkF m 708 #[.val (.int p1), .val (.int p2), .val (.long q1), .second, .val (.ref b1), .val (.ref b138), .val (.int ((p1 &&& (2147483647 : Int32)) % (45 : Int32))), .val (.ref wf), .val (.long top), .second, .val (.int (p2 &&& (3 : Int32))), .val (.long (q1 ||| (-9223372036854775808 : Int64))), .second, .val (.int (0 : Int32))] [(.long (q1 ||| (-9223372036854775808 : Int64))), (.ref wf)])) _
                refine st276.trans ?_
                show Steps p.tables e below (T276.setTop (mkF m 711 #[.val (.int p1), .val (.int p2), .val (.long q1), .second, .val (.ref b1), .val (.ref b138), .val (.int ((p1 &&& (2147483647 : Int32)) % (45 : Int32))), .val (.ref wf), .val (.long top), .second, .val (.int (p2 &&& (3 : Int32))), .val (.long (q1 ||| (-9223372036854775808 : Int64))), .second, .val (.int (0 : Int32))] [(.int (own_holds wd (q1 ||| (-9223372036854775808 : Int64))))])) _
                refine XS.iload X276.here hx rfl (hb hby at_711) rfl ?_
                show Steps p.tables e below (T276.setTop (mkF m 713 #[.val (.int p1), .val (.int p2), .val (.long q1), .second, .val (.ref b1), .val (.ref b138), .val (.int ((p1 &&& (2147483647 : Int32)) % (45 : Int32))), .val (.ref wf), .val (.long top), .second, .val (.int (p2 &&& (3 : Int32))), .val (.long (q1 ||| (-9223372036854775808 : Int64))), .second, .val (.int (0 : Int32))] [(.int (0 : Int32)), (.int (own_holds wd (q1 ||| (-9223372036854775808 : Int64))))])) _
                refine XS.icmpNo X276.here hx rfl (hb hby at_713) rfl (teq hd277).2 ?_
                show Steps p.tables e below (T276.setTop (mkF m 716 #[.val (.int p1), .val (.int p2), .val (.long q1), .second, .val (.ref b1), .val (.ref b138), .val (.int ((p1 &&& (2147483647 : Int32)) % (45 : Int32))), .val (.ref wf), .val (.long top), .second, .val (.int (p2 &&& (3 : Int32))), .val (.long (q1 ||| (-9223372036854775808 : Int64))), .second, .val (.int (0 : Int32))] [])) _
                refine XS.iconst X276.here hx rfl (hb hby at_716) ?_
                show Steps p.tables e below (T276.setTop (mkF m 717 #[.val (.int p1), .val (.int p2), .val (.long q1), .second, .val (.ref b1), .val (.ref b138), .val (.int ((p1 &&& (2147483647 : Int32)) % (45 : Int32))), .val (.ref wf), .val (.long top), .second, .val (.int (p2 &&& (3 : Int32))), .val (.long (q1 ||| (-9223372036854775808 : Int64))), .second, .val (.int (0 : Int32))] [(.int (1 : Int32))])) _
                refine XS.goto X276.here hx rfl (pc0 := 717) (pc' := 721) rfl (hb hby at_717) (by decide) (by decide) ?_
                show Steps p.tables e below (T276.setTop (mkF m 721 #[.val (.int p1), .val (.int p2), .val (.long q1), .second, .val (.ref b1), .val (.ref b138), .val (.int ((p1 &&& (2147483647 : Int32)) % (45 : Int32))), .val (.ref wf), .val (.long top), .second, .val (.int (p2 &&& (3 : Int32))), .val (.long (q1 ||| (-9223372036854775808 : Int64))), .second, .val (.int (0 : Int32))] [(.int (1 : Int32))])) _
                exact retN X276 hx (t := .boolean) Bd.returns (by simp) (hb hby at_721) hr
              · show Q_rm0 Z p1 p2 q1 w_CLIENT w_VERSION w_DOMAIN w_HCO w_EPG w_MPG w_LENGTH w_CONTROL w_NRS w_APG w_NSR w_NER w_NRT w_MDG w_CMG w_STI w_DRT w_RETRANSMIT_COUNT w_FORWARD_COUNT w_INTER_PACKET_GAP w_PG_COUNT w_PRIORITY w_FUNCTION_CODE w_TRANSACTION w_PACKET_DELIVERY w_SERVER w_FLAGS_AND_CODE w_CMD w_DGM w_MDM w_SDA w_CRE w_MRD w_PIC w_CODE w_CO_RESIDENT_ENTITY w_USER_DATA w_MSG_DELIVERY w_SEGMENT_SIZE w_NOTIFY_CONTROL w_NOTIFY_RECEIVE_SEQUENCE w_NOTIFY_CLIENT w_NOTIFY_TRANSACTION w_NOTIFY_DELIVERY w_NOTIFY_CODE h0 n0 _ T276.heap _
                rw [eq276]
                exact ⟨rfl, N276⟩
            · obtain ⟨cq278, kq278, q278a, q278b, q278c⟩ := isOf hZ e228 (Ewf.ext O228.2)
              obtain ⟨_, _, ⟨T278, L278, k278, n278⟩, -, X278, ⟨Lc278, hQ278, l278, y278, z278⟩, st278⟩ := X228.virtualBack hx (y := (⟨"com/example/riposte/riposte/packet/HeaderField", "holds", "(J)Z"⟩ : MethodName)) (z := (⟨"com/example/riposte/riposte/packet/HeaderField", "holds", "(J)Z"⟩ : MethodName)) hown (mvT hZ (hw _ (List.mem_of_getElem? (i := 104) rfl))) (mvT hZ (hw _ (List.mem_of_getElem? (i := 105) rfl))) (notFace_of_selects (args := #[]) (mvT hZ (hw _ (List.mem_of_getElem? (i := 107) rfl)))) (mvT hZ (hw _ (List.mem_of_getElem? (i := 107) rfl))) (mvT hZ (hw _ (List.mem_of_getElem? (i := 106) rfl))) (by decide) (backOf (W := 0) (hold l Z a0 hw [] wf (q1 ||| (-9223372036854775808 : Int64)) wd h228 n0 O228 (Fwf.ext O228.2)) hZ (hw _ (List.mem_of_getElem? (i := 108) rfl)) (hw _ (List.mem_of_getElem? (i := 3) rfl)) (by decide) (by decide)) q278a q278c (g := (mkF m 708 #[.val (.int p1), .val (.int p2), .val (.long q1), .second, .val (.ref b1), .val (.ref b138), .val (.int ((p1 &&& (2147483647 : Int32)) % (45 : Int32))), .val (.ref wf), .val (.long top), .second, .val (.int (p2 &&& (3 : Int32))), .val (.long (q1 ||| (-9223372036854775808 : Int64))), .second, .val (.int (1 : Int32))] [(.long (q1 ||| (-9223372036854775808 : Int64))), (.ref wf)])) rfl (by rw [hml]; rfl) (Steps.refl _) (argsL := [(.long (q1 ||| (-9223372036854775808 : Int64)))]) (rest := []) (lenOf pd__J_Z rfl) rfl (by show 2 * 0 + _ ≤ _; exact Nat.le_of_eq rfl) (hb hby at_708) (fun _ _ => ⟨rfl, e228, (by decide : 2 + 0 ≤ _), (by decide : 90 + 0 ≤ _)⟩)
              dsimp only [Pt.U, Pt.locs, Pt.cells, Pt.slots] at X278 l278 y278 z278 st278 hQ278
              subst l278 y278 z278
              obtain ⟨rfl, Nq278, eq278⟩ := hQ278
              have N278 := Fr.app N228 Nq278
              have hd279 : (own_holds wd (q1 ||| (-9223372036854775808 : Int64))) = (1 : Int32) := own_h4 hR hc686_272 hc694_275
              obtain ⟨fs, hr, hrun, hended, hW, hsame⟩ := X278.leave (v := some (.int (1 : Int32))) (fun h => by rw [Bd.returns] at h; cases h)
              refine ⟨_, _, pre275 _ ?_, hrun, hended, _, _, rfl, ?_, ⟨_, rfl⟩, hW, hsame.mono (by decide) (by decide)⟩
              · show Steps p.tables e below (T228.setTop (mkF m 694 #[.val (.int p1), .val (.int p2), .val (.long q1), .second, .val (.ref b1), .val (.ref b138), .val (.int ((p1 &&& (2147483647 : Int32)) % (45 : Int32))), .val (.ref wf), .val (.long top), .second, .val (.int (p2 &&& (3 : Int32))), .val (.long (q1 ||| (-9223372036854775808 : Int64))), .second, .unset] [(.int (lcmpW (q1 ||| (-9223372036854775808 : Int64)) top))])) _
                refine XS.ifNo X228.here hx rfl (hb hby at_694) rfl ((if0 _ _).trans (flt hc694_275).2.2.1) ?_
                show Steps p.tables e below (T228.setTop (mkF m 697 #[.val (.int p1), .val (.int p2), .val (.long q1), .second, .val (.ref b1), .val (.ref b138), .val (.int ((p1 &&& (2147483647 : Int32)) % (45 : Int32))), .val (.ref wf), .val (.long top), .second, .val (.int (p2 &&& (3 : Int32))), .val (.long (q1 ||| (-9223372036854775808 : Int64))), .second, .unset] [])) _
                refine XS.iconst X228.here hx rfl (hb hby at_697) ?_
                show Steps p.tables e below (T228.setTop (mkF m 698 #[.val (.int p1), .val (.int p2), .val (.long q1), .second, .val (.ref b1), .val (.ref b138), .val (.int ((p1 &&& (2147483647 : Int32)) % (45 : Int32))), .val (.ref wf), .val (.long top), .second, .val (.int (p2 &&& (3 : Int32))), .val (.long (q1 ||| (-9223372036854775808 : Int64))), .second, .unset] [(.int (1 : Int32))])) _
                refine XS.goto X228.here hx rfl (pc0 := 698) (pc' := 702) rfl (hb hby at_698) (by decide) (by decide) ?_
                show Steps p.tables e below (T228.setTop (mkF m 702 #[.val (.int p1), .val (.int p2), .val (.long q1), .second, .val (.ref b1), .val (.ref b138), .val (.int ((p1 &&& (2147483647 : Int32)) % (45 : Int32))), .val (.ref wf), .val (.long top), .second, .val (.int (p2 &&& (3 : Int32))), .val (.long (q1 ||| (-9223372036854775808 : Int64))), .second, .unset] [(.int (1 : Int32))])) _
                refine XS.istore X228.here hx rfl (hb hby at_702) rfl (l' := #[.val (.int p1), .val (.int p2), .val (.long q1), .second, .val (.ref b1), .val (.ref b138), .val (.int ((p1 &&& (2147483647 : Int32)) % (45 : Int32))), .val (.ref wf), .val (.long top), .second, .val (.int (p2 &&& (3 : Int32))), .val (.long (q1 ||| (-9223372036854775808 : Int64))), .second, .val (.int (1 : Int32))]) rfl ?_
                show Steps p.tables e below (T228.setTop (mkF m 704 #[.val (.int p1), .val (.int p2), .val (.long q1), .second, .val (.ref b1), .val (.ref b138), .val (.int ((p1 &&& (2147483647 : Int32)) % (45 : Int32))), .val (.ref wf), .val (.long top), .second, .val (.int (p2 &&& (3 : Int32))), .val (.long (q1 ||| (-9223372036854775808 : Int64))), .second, .val (.int (1 : Int32))] [])) _
                refine XS.aload X228.here hx rfl (hb hby at_704) rfl rfl ?_
                show Steps p.tables e below (T228.setTop (mkF m 706 #[.val (.int p1), .val (.int p2), .val (.long q1), .second, .val (.ref b1), .val (.ref b138), .val (.int ((p1 &&& (2147483647 : Int32)) % (45 : Int32))), .val (.ref wf), .val (.long top), .second, .val (.int (p2 &&& (3 : Int32))), .val (.long (q1 ||| (-9223372036854775808 : Int64))), .second, .val (.int (1 : Int32))] [(.ref wf)])) _
                refine XS.lload X228.here hx rfl (hb hby at_706) rfl ?_
                show Steps p.tables e below (T228.setTop (mkF m 708 #[.val (.int p1), .val (.int p2), .val (.long q1), .second, .val (.ref b1), .val (.ref b138), .val (.int ((p1 &&& (2147483647 : Int32)) % (45 : Int32))), .val (.ref wf), .val (.long top), .second, .val (.int (p2 &&& (3 : Int32))), .val (.long (q1 ||| (-9223372036854775808 : Int64))), .second, .val (.int (1 : Int32))] [(.long (q1 ||| (-9223372036854775808 : Int64))), (.ref wf)])) _
                refine st278.trans ?_
                show Steps p.tables e below (T278.setTop (mkF m 711 #[.val (.int p1), .val (.int p2), .val (.long q1), .second, .val (.ref b1), .val (.ref b138), .val (.int ((p1 &&& (2147483647 : Int32)) % (45 : Int32))), .val (.ref wf), .val (.long top), .second, .val (.int (p2 &&& (3 : Int32))), .val (.long (q1 ||| (-9223372036854775808 : Int64))), .second, .val (.int (1 : Int32))] [(.int (own_holds wd (q1 ||| (-9223372036854775808 : Int64))))])) _
                refine XS.iload X278.here hx rfl (hb hby at_711) rfl ?_
                show Steps p.tables e below (T278.setTop (mkF m 713 #[.val (.int p1), .val (.int p2), .val (.long q1), .second, .val (.ref b1), .val (.ref b138), .val (.int ((p1 &&& (2147483647 : Int32)) % (45 : Int32))), .val (.ref wf), .val (.long top), .second, .val (.int (p2 &&& (3 : Int32))), .val (.long (q1 ||| (-9223372036854775808 : Int64))), .second, .val (.int (1 : Int32))] [(.int (1 : Int32)), (.int (own_holds wd (q1 ||| (-9223372036854775808 : Int64))))])) _
                refine XS.icmpNo X278.here hx rfl (hb hby at_713) rfl (teq hd279).2 ?_
                show Steps p.tables e below (T278.setTop (mkF m 716 #[.val (.int p1), .val (.int p2), .val (.long q1), .second, .val (.ref b1), .val (.ref b138), .val (.int ((p1 &&& (2147483647 : Int32)) % (45 : Int32))), .val (.ref wf), .val (.long top), .second, .val (.int (p2 &&& (3 : Int32))), .val (.long (q1 ||| (-9223372036854775808 : Int64))), .second, .val (.int (1 : Int32))] [])) _
                refine XS.iconst X278.here hx rfl (hb hby at_716) ?_
                show Steps p.tables e below (T278.setTop (mkF m 717 #[.val (.int p1), .val (.int p2), .val (.long q1), .second, .val (.ref b1), .val (.ref b138), .val (.int ((p1 &&& (2147483647 : Int32)) % (45 : Int32))), .val (.ref wf), .val (.long top), .second, .val (.int (p2 &&& (3 : Int32))), .val (.long (q1 ||| (-9223372036854775808 : Int64))), .second, .val (.int (1 : Int32))] [(.int (1 : Int32))])) _
                refine XS.goto X278.here hx rfl (pc0 := 717) (pc' := 721) rfl (hb hby at_717) (by decide) (by decide) ?_
                show Steps p.tables e below (T278.setTop (mkF m 721 #[.val (.int p1), .val (.int p2), .val (.long q1), .second, .val (.ref b1), .val (.ref b138), .val (.int ((p1 &&& (2147483647 : Int32)) % (45 : Int32))), .val (.ref wf), .val (.long top), .second, .val (.int (p2 &&& (3 : Int32))), .val (.long (q1 ||| (-9223372036854775808 : Int64))), .second, .val (.int (1 : Int32))] [(.int (1 : Int32))])) _
                exact retN X278 hx (t := .boolean) Bd.returns (by simp) (hb hby at_721) hr
              · show Q_rm0 Z p1 p2 q1 w_CLIENT w_VERSION w_DOMAIN w_HCO w_EPG w_MPG w_LENGTH w_CONTROL w_NRS w_APG w_NSR w_NER w_NRT w_MDG w_CMG w_STI w_DRT w_RETRANSMIT_COUNT w_FORWARD_COUNT w_INTER_PACKET_GAP w_PG_COUNT w_PRIORITY w_FUNCTION_CODE w_TRANSACTION w_PACKET_DELIVERY w_SERVER w_FLAGS_AND_CODE w_CMD w_DGM w_MDM w_SDA w_CRE w_MRD w_PIC w_CODE w_CO_RESIDENT_ENTITY w_USER_DATA w_MSG_DELIVERY w_SEGMENT_SIZE w_NOTIFY_CONTROL w_NOTIFY_RECEIVE_SEQUENCE w_NOTIFY_CLIENT w_NOTIFY_TRANSACTION w_NOTIFY_DELIVERY w_NOTIFY_CODE h0 n0 _ T278.heap _
                rw [eq278]
                exact ⟨rfl, N278⟩
set_option maxRecDepth 65536 in
set_option maxHeartbeats 40000000 in
theorem comes_1 {Post : Tables → Env → Array Value → State → Outcome → State → Prop} (hpost : ∀ tb e args s v u, (limb_1_1.after args s (.returned v) u = true ∧ limb_1_2.after args s (.returned v) u = true ∧ True) → FrameEnd s (.returned v) u (Jvm.fieldLocs frame_1_writes args s ++ Jvm.arrayLocs frame_1_arrays args s ++ Jvm.staticLocs frame_1_statics s) 16 256 → Post tb e args s (.returned v) u) :
    ArmFor flags0 classFile x code maxLocals ret World_1 tables_1 room_1 Calls_1 rest_1 Pre_1 Post := by
  intro l hfl _ _ p e ha hc hk s m args below hf hA hF happ hP
  obtain ⟨hcalls, hrest, hpre⟩ := hP
  obtain ⟨-, -, -, hnamed, -, -, -, hat⟩ := (Spec.applies_iff hf).mp happ
  obtain ⟨hg, hn⟩ := and_e (Cond.before_iff.mp (show (Jvm.Cond.and given_1 narrow_1).before args s = true from hpre))
  obtain ⟨hg0, hgr0⟩ := and_e hg
  obtain ⟨ha0, hgr1⟩ := and_e hgr0
  obtain ⟨ha1, hgr2⟩ := and_e hgr1
  obtain ⟨w0, w1, w2, rfl⟩ : ∃ w0 w1 w2 : Value, args = #[w0, w1, w2] := by
    have hs : args.size = 3 := by simpa [Cond.value, given_1] using hg0
    obtain ⟨L⟩ := args
    match L, hs with
    | [w0, w1, w2], _ => exact ⟨w0, w1, w2, rfl⟩
  have hw := fun d (hd : d ∈ tables_1) => atoms_spec (ws := Jvm.Cond.code x code maxLocals ret :: tables_1) hat d (List.mem_cons_of_mem _ hd)
  have hfit : Fit s := fun {y c} hc i hi => by
    obtain ⟨ha, rfl⟩ := Array.getElem?_eq_some_iff.mp hc
    have q := List.all_eq_true.mp ((Array.all_eq_true_iff_forall_mem.mp hF) _ (Array.getElem_mem ha)) i (List.mem_range.mpr hi)
    simpa [Array.getElem?_eq_getElem hi] using q
  obtain ⟨i0, ei0⟩ := is_v ha0
  obtain rfl : w0 = (.int i0) := Option.some.inj ei0
  obtain ⟨i1, ei1⟩ := is_v ha1
  obtain rfl : w1 = (.int i1) := Option.some.inj ei1
  obtain ⟨i2, ei2⟩ := isL_v hgr2
  obtain rfl : w2 = (.long i2) := Option.some.inj ei2
  obtain ⟨hq1a, hq1b⟩ := and_e hn
  obtain ⟨hq2a, hq2b⟩ := and_e hq1b
  obtain ⟨hq3a, hq3b⟩ := and_e hq2b
  obtain ⟨hq4a, hq4b⟩ := and_e hq3b
  obtain ⟨hq5a, hq5b⟩ := and_e hq4b
  obtain ⟨hq6a, hq6b⟩ := and_e hq5b
  obtain ⟨hq7a, hq7b⟩ := and_e hq6b
  obtain ⟨hq8a, hq8b⟩ := and_e hq7b
  obtain ⟨hq9a, hq9b⟩ := and_e hq8b
  obtain ⟨hq10a, hq10b⟩ := and_e hq9b
  obtain ⟨hq11a, hq11b⟩ := and_e hq10b
  obtain ⟨hq12a, hq12b⟩ := and_e hq11b
  obtain ⟨hq13a, hq13b⟩ := and_e hq12b
  obtain ⟨hq14a, hq14b⟩ := and_e hq13b
  obtain ⟨hq15a, hq15b⟩ := and_e hq14b
  obtain ⟨hq16a, hq16b⟩ := and_e hq15b
  obtain ⟨hq17a, hq17b⟩ := and_e hq16b
  obtain ⟨hq18a, hq18b⟩ := and_e hq17b
  obtain ⟨hq19a, hq19b⟩ := and_e hq18b
  obtain ⟨hq20a, hq20b⟩ := and_e hq19b
  obtain ⟨hq21a, hq21b⟩ := and_e hq20b
  obtain ⟨hq22a, hq22b⟩ := and_e hq21b
  obtain ⟨hq23a, hq23b⟩ := and_e hq22b
  obtain ⟨hq24a, hq24b⟩ := and_e hq23b
  obtain ⟨hq25a, hq25b⟩ := and_e hq24b
  obtain ⟨hq26a, hq26b⟩ := and_e hq25b
  obtain ⟨hq27a, hq27b⟩ := and_e hq26b
  obtain ⟨hq28a, hq28b⟩ := and_e hq27b
  obtain ⟨hq29a, hq29b⟩ := and_e hq28b
  obtain ⟨hq30a, hq30b⟩ := and_e hq29b
  obtain ⟨hq31a, hq31b⟩ := and_e hq30b
  obtain ⟨hq32a, hq32b⟩ := and_e hq31b
  obtain ⟨hq33a, hq33b⟩ := and_e hq32b
  obtain ⟨hq34a, hq34b⟩ := and_e hq33b
  obtain ⟨hq35a, hq35b⟩ := and_e hq34b
  obtain ⟨hq36a, hq36b⟩ := and_e hq35b
  obtain ⟨hq37a, hq37b⟩ := and_e hq36b
  obtain ⟨hq38a, hq38b⟩ := and_e hq37b
  obtain ⟨hq39a, hq39b⟩ := and_e hq38b
  obtain ⟨hq40a, hq40b⟩ := and_e hq39b
  obtain ⟨hq41a, hq41b⟩ := and_e hq40b
  obtain ⟨hq42a, hq42b⟩ := and_e hq41b
  obtain ⟨hq43a, hq43b⟩ := and_e hq42b
  obtain ⟨hq44a, hq44b⟩ := and_e hq43b
  obtain ⟨hq45a, hq45b⟩ := and_e hq44b
  obtain ⟨hq46a, hq46b⟩ := and_e hq45b
  obtain ⟨hq47a, hq47b⟩ := and_e hq46b
  obtain ⟨hq48a, hq48b⟩ := and_e hq47b
  obtain ⟨hq49a, hq49b⟩ := and_e hq48b
  obtain ⟨hq50a, hq50b⟩ := and_e hq49b
  obtain ⟨hq51a, hq51b⟩ := and_e hq50b
  obtain ⟨hq52a, hq52b⟩ := and_e hq51b
  obtain ⟨hq53a, hq53b⟩ := and_e hq52b
  obtain ⟨hq54a, hq54b⟩ := and_e hq53b
  obtain ⟨hq55a, hq55b⟩ := and_e hq54b
  obtain ⟨hq56a, hq56b⟩ := and_e hq55b
  obtain ⟨hq57a, hq57b⟩ := and_e hq56b
  obtain ⟨hq58a, hq58b⟩ := and_e hq57b
  obtain ⟨hq59a, hq59b⟩ := and_e hq58b
  obtain ⟨hq60a, hq60b⟩ := and_e hq59b
  obtain ⟨hq61a, hq61b⟩ := and_e hq60b
  obtain ⟨hq62a, hq62b⟩ := and_e hq61b
  obtain ⟨hq63a, hq63b⟩ := and_e hq62b
  obtain ⟨hq64a, hq64b⟩ := and_e hq63b
  obtain ⟨hq65a, hq65b⟩ := and_e hq64b
  obtain ⟨hq66a, hq66b⟩ := and_e hq65b
  obtain ⟨hq67a, hq67b⟩ := and_e hq66b
  obtain ⟨hq68a, hq68b⟩ := and_e hq67b
  obtain ⟨hq69a, hq69b⟩ := and_e hq68b
  obtain ⟨hq70a, hq70b⟩ := and_e hq69b
  obtain ⟨hq71a, hq71b⟩ := and_e hq70b
  obtain ⟨hq72a, hq72b⟩ := and_e hq71b
  obtain ⟨hq73a, hq73b⟩ := and_e hq72b
  obtain ⟨hq74a, hq74b⟩ := and_e hq73b
  obtain ⟨hq75a, hq75b⟩ := and_e hq74b
  obtain ⟨hq76a, hq76b⟩ := and_e hq75b
  obtain ⟨hq77a, hq77b⟩ := and_e hq76b
  obtain ⟨hq78a, hq78b⟩ := and_e hq77b
  obtain ⟨hq79a, hq79b⟩ := and_e hq78b
  obtain ⟨hq80a, hq80b⟩ := and_e hq79b
  obtain ⟨hq81a, hq81b⟩ := and_e hq80b
  obtain ⟨hq82a, hq82b⟩ := and_e hq81b
  obtain ⟨hq83a, hq83b⟩ := and_e hq82b
  obtain ⟨hq84a, hq84b⟩ := and_e hq83b
  obtain ⟨hq85a, hq85b⟩ := and_e hq84b
  obtain ⟨hq86a, hq86b⟩ := and_e hq85b
  obtain ⟨hq87a, hq87b⟩ := and_e hq86b
  obtain ⟨hq88a, hq88b⟩ := and_e hq87b
  obtain ⟨hq89a, hq89b⟩ := and_e hq88b
  obtain ⟨w_CLIENT, ev_w_CLIENT⟩ := exa_v hq1a
  obtain ⟨w_VERSION, ev_w_VERSION⟩ := exa_v hq2a
  obtain ⟨w_DOMAIN, ev_w_DOMAIN⟩ := exa_v hq3a
  obtain ⟨w_HCO, ev_w_HCO⟩ := exa_v hq4a
  obtain ⟨w_EPG, ev_w_EPG⟩ := exa_v hq5a
  obtain ⟨w_MPG, ev_w_MPG⟩ := exa_v hq6a
  obtain ⟨w_LENGTH, ev_w_LENGTH⟩ := exa_v hq7a
  obtain ⟨w_CONTROL, ev_w_CONTROL⟩ := exa_v hq8a
  obtain ⟨w_NRS, ev_w_NRS⟩ := exa_v hq9a
  obtain ⟨w_APG, ev_w_APG⟩ := exa_v hq10a
  obtain ⟨w_NSR, ev_w_NSR⟩ := exa_v hq11a
  obtain ⟨w_NER, ev_w_NER⟩ := exa_v hq12a
  obtain ⟨w_NRT, ev_w_NRT⟩ := exa_v hq13a
  obtain ⟨w_MDG, ev_w_MDG⟩ := exa_v hq14a
  obtain ⟨w_CMG, ev_w_CMG⟩ := exa_v hq15a
  obtain ⟨w_STI, ev_w_STI⟩ := exa_v hq16a
  obtain ⟨w_DRT, ev_w_DRT⟩ := exa_v hq17a
  obtain ⟨w_RETRANSMIT_COUNT, ev_w_RETRANSMIT_COUNT⟩ := exa_v hq18a
  obtain ⟨w_FORWARD_COUNT, ev_w_FORWARD_COUNT⟩ := exa_v hq19a
  obtain ⟨w_INTER_PACKET_GAP, ev_w_INTER_PACKET_GAP⟩ := exa_v hq20a
  obtain ⟨w_PG_COUNT, ev_w_PG_COUNT⟩ := exa_v hq21a
  obtain ⟨w_PRIORITY, ev_w_PRIORITY⟩ := exa_v hq22a
  obtain ⟨w_FUNCTION_CODE, ev_w_FUNCTION_CODE⟩ := exa_v hq23a
  obtain ⟨w_TRANSACTION, ev_w_TRANSACTION⟩ := exa_v hq24a
  obtain ⟨w_PACKET_DELIVERY, ev_w_PACKET_DELIVERY⟩ := exa_v hq25a
  obtain ⟨w_SERVER, ev_w_SERVER⟩ := exa_v hq26a
  obtain ⟨w_FLAGS_AND_CODE, ev_w_FLAGS_AND_CODE⟩ := exa_v hq27a
  obtain ⟨w_CMD, ev_w_CMD⟩ := exa_v hq28a
  obtain ⟨w_DGM, ev_w_DGM⟩ := exa_v hq29a
  obtain ⟨w_MDM, ev_w_MDM⟩ := exa_v hq30a
  obtain ⟨w_SDA, ev_w_SDA⟩ := exa_v hq31a
  obtain ⟨w_CRE, ev_w_CRE⟩ := exa_v hq32a
  obtain ⟨w_MRD, ev_w_MRD⟩ := exa_v hq33a
  obtain ⟨w_PIC, ev_w_PIC⟩ := exa_v hq34a
  obtain ⟨w_CODE, ev_w_CODE⟩ := exa_v hq35a
  obtain ⟨w_CO_RESIDENT_ENTITY, ev_w_CO_RESIDENT_ENTITY⟩ := exa_v hq36a
  obtain ⟨w_USER_DATA, ev_w_USER_DATA⟩ := exa_v hq37a
  obtain ⟨w_MSG_DELIVERY, ev_w_MSG_DELIVERY⟩ := exa_v hq38a
  obtain ⟨w_SEGMENT_SIZE, ev_w_SEGMENT_SIZE⟩ := exa_v hq39a
  obtain ⟨w_NOTIFY_CONTROL, ev_w_NOTIFY_CONTROL⟩ := exa_v hq40a
  obtain ⟨w_NOTIFY_RECEIVE_SEQUENCE, ev_w_NOTIFY_RECEIVE_SEQUENCE⟩ := exa_v hq41a
  obtain ⟨w_NOTIFY_CLIENT, ev_w_NOTIFY_CLIENT⟩ := exa_v hq42a
  obtain ⟨w_NOTIFY_TRANSACTION, ev_w_NOTIFY_TRANSACTION⟩ := exa_v hq43a
  obtain ⟨w_NOTIFY_DELIVERY, ev_w_NOTIFY_DELIVERY⟩ := exa_v hq44a
  obtain ⟨w_NOTIFY_CODE, ev_w_NOTIFY_CODE⟩ := exa_v hq45a
  obtain ⟨n, o, h1, h2, h3, _, L, rfl, ⟨rfl, N⟩, hq⟩ := rm0 l s _ hw tables_1 i0 i1 i2 w_CLIENT w_VERSION w_DOMAIN w_HCO w_EPG w_MPG w_LENGTH w_CONTROL w_NRS w_APG w_NSR w_NER w_NRT w_MDG w_CMG w_STI w_DRT w_RETRANSMIT_COUNT w_FORWARD_COUNT w_INTER_PACKET_GAP w_PG_COUNT w_PRIORITY w_FUNCTION_CODE w_TRANSACTION w_PACKET_DELIVERY w_SERVER w_FLAGS_AND_CODE w_CMD w_DGM w_MDM w_SDA w_CRE w_MRD w_PIC w_CODE w_CO_RESIDENT_ENTITY w_USER_DATA w_MSG_DELIVERY w_SEGMENT_SIZE w_NOTIFY_CONTROL w_NOTIFY_RECEIVE_SEQUENCE w_NOTIFY_CLIENT w_NOTIFY_TRANSACTION w_NOTIFY_DELIVERY w_NOTIFY_CODE s.heap s.heap.size (Old.start s) ⟨(Sta.start ev_w_CLIENT (Or.inr ⟨(hw _ (List.mem_of_getElem? (i := 3) rfl)), (hw _ (List.mem_of_getElem? (i := 4) rfl))⟩)), (own_exa hq1a ev_w_CLIENT), (Sta.start ev_w_VERSION (Or.inr ⟨(hw _ (List.mem_of_getElem? (i := 3) rfl)), (hw _ (List.mem_of_getElem? (i := 7) rfl))⟩)), (own_exa hq2a ev_w_VERSION), (Sta.start ev_w_DOMAIN (Or.inr ⟨(hw _ (List.mem_of_getElem? (i := 3) rfl)), (hw _ (List.mem_of_getElem? (i := 9) rfl))⟩)), (own_exa hq3a ev_w_DOMAIN), (Sta.start ev_w_HCO (Or.inr ⟨(hw _ (List.mem_of_getElem? (i := 3) rfl)), (hw _ (List.mem_of_getElem? (i := 11) rfl))⟩)), (own_exa hq4a ev_w_HCO), (Sta.start ev_w_EPG (Or.inr ⟨(hw _ (List.mem_of_getElem? (i := 3) rfl)), (hw _ (List.mem_of_getElem? (i := 13) rfl))⟩)), (own_exa hq5a ev_w_EPG), (Sta.start ev_w_MPG (Or.inr ⟨(hw _ (List.mem_of_getElem? (i := 3) rfl)), (hw _ (List.mem_of_getElem? (i := 15) rfl))⟩)), (own_exa hq6a ev_w_MPG), (Sta.start ev_w_LENGTH (Or.inr ⟨(hw _ (List.mem_of_getElem? (i := 3) rfl)), (hw _ (List.mem_of_getElem? (i := 17) rfl))⟩)), (own_exa hq7a ev_w_LENGTH), (Sta.start ev_w_CONTROL (Or.inr ⟨(hw _ (List.mem_of_getElem? (i := 3) rfl)), (hw _ (List.mem_of_getElem? (i := 19) rfl))⟩)), (own_exa hq8a ev_w_CONTROL), (Sta.start ev_w_NRS (Or.inr ⟨(hw _ (List.mem_of_getElem? (i := 3) rfl)), (hw _ (List.mem_of_getElem? (i := 21) rfl))⟩)), (own_exa hq9a ev_w_NRS), (Sta.start ev_w_APG (Or.inr ⟨(hw _ (List.mem_of_getElem? (i := 3) rfl)), (hw _ (List.mem_of_getElem? (i := 23) rfl))⟩)), (own_exa hq10a ev_w_APG), (Sta.start ev_w_NSR (Or.inr ⟨(hw _ (List.mem_of_getElem? (i := 3) rfl)), (hw _ (List.mem_of_getElem? (i := 25) rfl))⟩)), (own_exa hq11a ev_w_NSR), (Sta.start ev_w_NER (Or.inr ⟨(hw _ (List.mem_of_getElem? (i := 3) rfl)), (hw _ (List.mem_of_getElem? (i := 27) rfl))⟩)), (own_exa hq12a ev_w_NER), (Sta.start ev_w_NRT (Or.inr ⟨(hw _ (List.mem_of_getElem? (i := 3) rfl)), (hw _ (List.mem_of_getElem? (i := 29) rfl))⟩)), (own_exa hq13a ev_w_NRT), (Sta.start ev_w_MDG (Or.inr ⟨(hw _ (List.mem_of_getElem? (i := 3) rfl)), (hw _ (List.mem_of_getElem? (i := 31) rfl))⟩)), (own_exa hq14a ev_w_MDG), (Sta.start ev_w_CMG (Or.inr ⟨(hw _ (List.mem_of_getElem? (i := 3) rfl)), (hw _ (List.mem_of_getElem? (i := 33) rfl))⟩)), (own_exa hq15a ev_w_CMG), (Sta.start ev_w_STI (Or.inr ⟨(hw _ (List.mem_of_getElem? (i := 3) rfl)), (hw _ (List.mem_of_getElem? (i := 35) rfl))⟩)), (own_exa hq16a ev_w_STI), (Sta.start ev_w_DRT (Or.inr ⟨(hw _ (List.mem_of_getElem? (i := 3) rfl)), (hw _ (List.mem_of_getElem? (i := 37) rfl))⟩)), (own_exa hq17a ev_w_DRT), (Sta.start ev_w_RETRANSMIT_COUNT (Or.inr ⟨(hw _ (List.mem_of_getElem? (i := 3) rfl)), (hw _ (List.mem_of_getElem? (i := 39) rfl))⟩)), (own_exa hq18a ev_w_RETRANSMIT_COUNT), (Sta.start ev_w_FORWARD_COUNT (Or.inr ⟨(hw _ (List.mem_of_getElem? (i := 3) rfl)), (hw _ (List.mem_of_getElem? (i := 41) rfl))⟩)), (own_exa hq19a ev_w_FORWARD_COUNT), (Sta.start ev_w_INTER_PACKET_GAP (Or.inr ⟨(hw _ (List.mem_of_getElem? (i := 3) rfl)), (hw _ (List.mem_of_getElem? (i := 43) rfl))⟩)), (own_exa hq20a ev_w_INTER_PACKET_GAP), (Sta.start ev_w_PG_COUNT (Or.inr ⟨(hw _ (List.mem_of_getElem? (i := 3) rfl)), (hw _ (List.mem_of_getElem? (i := 45) rfl))⟩)), (own_exa hq21a ev_w_PG_COUNT), (Sta.start ev_w_PRIORITY (Or.inr ⟨(hw _ (List.mem_of_getElem? (i := 3) rfl)), (hw _ (List.mem_of_getElem? (i := 47) rfl))⟩)), (own_exa hq22a ev_w_PRIORITY), (Sta.start ev_w_FUNCTION_CODE (Or.inr ⟨(hw _ (List.mem_of_getElem? (i := 3) rfl)), (hw _ (List.mem_of_getElem? (i := 49) rfl))⟩)), (own_exa hq23a ev_w_FUNCTION_CODE), (Sta.start ev_w_TRANSACTION (Or.inr ⟨(hw _ (List.mem_of_getElem? (i := 3) rfl)), (hw _ (List.mem_of_getElem? (i := 51) rfl))⟩)), (own_exa hq24a ev_w_TRANSACTION), (Sta.start ev_w_PACKET_DELIVERY (Or.inr ⟨(hw _ (List.mem_of_getElem? (i := 3) rfl)), (hw _ (List.mem_of_getElem? (i := 53) rfl))⟩)), (own_exa hq25a ev_w_PACKET_DELIVERY), (Sta.start ev_w_SERVER (Or.inr ⟨(hw _ (List.mem_of_getElem? (i := 3) rfl)), (hw _ (List.mem_of_getElem? (i := 55) rfl))⟩)), (own_exa hq26a ev_w_SERVER), (Sta.start ev_w_FLAGS_AND_CODE (Or.inr ⟨(hw _ (List.mem_of_getElem? (i := 3) rfl)), (hw _ (List.mem_of_getElem? (i := 57) rfl))⟩)), (own_exa hq27a ev_w_FLAGS_AND_CODE), (Sta.start ev_w_CMD (Or.inr ⟨(hw _ (List.mem_of_getElem? (i := 3) rfl)), (hw _ (List.mem_of_getElem? (i := 59) rfl))⟩)), (own_exa hq28a ev_w_CMD), (Sta.start ev_w_DGM (Or.inr ⟨(hw _ (List.mem_of_getElem? (i := 3) rfl)), (hw _ (List.mem_of_getElem? (i := 61) rfl))⟩)), (own_exa hq29a ev_w_DGM), (Sta.start ev_w_MDM (Or.inr ⟨(hw _ (List.mem_of_getElem? (i := 3) rfl)), (hw _ (List.mem_of_getElem? (i := 63) rfl))⟩)), (own_exa hq30a ev_w_MDM), (Sta.start ev_w_SDA (Or.inr ⟨(hw _ (List.mem_of_getElem? (i := 3) rfl)), (hw _ (List.mem_of_getElem? (i := 65) rfl))⟩)), (own_exa hq31a ev_w_SDA), (Sta.start ev_w_CRE (Or.inr ⟨(hw _ (List.mem_of_getElem? (i := 3) rfl)), (hw _ (List.mem_of_getElem? (i := 67) rfl))⟩)), (own_exa hq32a ev_w_CRE), (Sta.start ev_w_MRD (Or.inr ⟨(hw _ (List.mem_of_getElem? (i := 3) rfl)), (hw _ (List.mem_of_getElem? (i := 69) rfl))⟩)), (own_exa hq33a ev_w_MRD), (Sta.start ev_w_PIC (Or.inr ⟨(hw _ (List.mem_of_getElem? (i := 3) rfl)), (hw _ (List.mem_of_getElem? (i := 71) rfl))⟩)), (own_exa hq34a ev_w_PIC), (Sta.start ev_w_CODE (Or.inr ⟨(hw _ (List.mem_of_getElem? (i := 3) rfl)), (hw _ (List.mem_of_getElem? (i := 73) rfl))⟩)), (own_exa hq35a ev_w_CODE), (Sta.start ev_w_CO_RESIDENT_ENTITY (Or.inr ⟨(hw _ (List.mem_of_getElem? (i := 3) rfl)), (hw _ (List.mem_of_getElem? (i := 75) rfl))⟩)), (own_exa hq36a ev_w_CO_RESIDENT_ENTITY), (Sta.start ev_w_USER_DATA (Or.inr ⟨(hw _ (List.mem_of_getElem? (i := 3) rfl)), (hw _ (List.mem_of_getElem? (i := 77) rfl))⟩)), (own_exa hq37a ev_w_USER_DATA), (Sta.start ev_w_MSG_DELIVERY (Or.inr ⟨(hw _ (List.mem_of_getElem? (i := 3) rfl)), (hw _ (List.mem_of_getElem? (i := 79) rfl))⟩)), (own_exa hq38a ev_w_MSG_DELIVERY), (Sta.start ev_w_SEGMENT_SIZE (Or.inr ⟨(hw _ (List.mem_of_getElem? (i := 3) rfl)), (hw _ (List.mem_of_getElem? (i := 81) rfl))⟩)), (own_exa hq39a ev_w_SEGMENT_SIZE), (Sta.start ev_w_NOTIFY_CONTROL (Or.inr ⟨(hw _ (List.mem_of_getElem? (i := 3) rfl)), (hw _ (List.mem_of_getElem? (i := 83) rfl))⟩)), (own_exa hq40a ev_w_NOTIFY_CONTROL), (Sta.start ev_w_NOTIFY_RECEIVE_SEQUENCE (Or.inr ⟨(hw _ (List.mem_of_getElem? (i := 3) rfl)), (hw _ (List.mem_of_getElem? (i := 85) rfl))⟩)), (own_exa hq41a ev_w_NOTIFY_RECEIVE_SEQUENCE), (Sta.start ev_w_NOTIFY_CLIENT (Or.inr ⟨(hw _ (List.mem_of_getElem? (i := 3) rfl)), (hw _ (List.mem_of_getElem? (i := 87) rfl))⟩)), (own_exa hq42a ev_w_NOTIFY_CLIENT), (Sta.start ev_w_NOTIFY_TRANSACTION (Or.inr ⟨(hw _ (List.mem_of_getElem? (i := 3) rfl)), (hw _ (List.mem_of_getElem? (i := 89) rfl))⟩)), (own_exa hq43a ev_w_NOTIFY_TRANSACTION), (Sta.start ev_w_NOTIFY_DELIVERY (Or.inr ⟨(hw _ (List.mem_of_getElem? (i := 3) rfl)), (hw _ (List.mem_of_getElem? (i := 91) rfl))⟩)), (own_exa hq44a ev_w_NOTIFY_DELIVERY), (Sta.start ev_w_NOTIFY_CODE (Or.inr ⟨(hw _ (List.mem_of_getElem? (i := 3) rfl)), (hw _ (List.mem_of_getElem? (i := 93) rfl))⟩)), (own_exa hq45a ev_w_NOTIFY_CODE), (own_fi ev_w_CLIENT hq46a), (own_fi ev_w_NRT hq47a), (own_fi ev_w_CODE hq48a), (own_fi ev_w_NOTIFY_DELIVERY hq49a), (own_fi ev_w_MSG_DELIVERY hq50a), (own_fi ev_w_FORWARD_COUNT hq51a), (own_fi ev_w_NER hq52a), (own_fi ev_w_NSR hq53a), (own_fi ev_w_NRS hq54a), (own_fi ev_w_SDA hq55a), (own_fi ev_w_VERSION hq56a), (own_fi ev_w_DRT hq57a), (own_fi ev_w_DOMAIN hq58a), (own_fi ev_w_HCO hq59a), (own_fi ev_w_PACKET_DELIVERY hq60a), (own_fi ev_w_CONTROL hq61a), (own_fi ev_w_NOTIFY_CONTROL hq62a), (own_fi ev_w_RETRANSMIT_COUNT hq63a), (own_fi ev_w_APG hq64a), (own_fi ev_w_NOTIFY_CODE hq65a), (own_fi ev_w_CRE hq66a), (own_fi ev_w_MPG hq67a), (own_fi ev_w_LENGTH hq68a), (own_fi ev_w_EPG hq69a), (own_fi ev_w_PIC hq70a), (own_fi ev_w_PRIORITY hq71a), (own_fi ev_w_NOTIFY_CLIENT hq72a), (own_fi ev_w_PG_COUNT hq73a), (own_fi ev_w_SERVER hq74a), (own_fi ev_w_CMG hq75a), (own_fi ev_w_MDG hq76a), (own_fi ev_w_CMD hq77a), (own_fi ev_w_TRANSACTION hq78a), (own_fi ev_w_NOTIFY_RECEIVE_SEQUENCE hq79a), (own_fi ev_w_MRD hq80a), (own_fi ev_w_STI hq81a), (own_fi ev_w_MDM hq82a), (own_fi ev_w_FUNCTION_CODE hq83a), (own_fi ev_w_INTER_PACKET_GAP hq84a), (own_fi ev_w_FLAGS_AND_CODE hq85a), (own_fi ev_w_CO_RESIDENT_ENTITY hq86a), (own_fi ev_w_NOTIFY_TRANSACTION hq87a), (own_fi ev_w_USER_DATA hq88a), (own_fi ev_w_DGM hq89a), (own_fi ev_w_SEGMENT_SIZE hq89b)⟩ p e ha hc hk s m _ below hf ((Spec.applies_iff_loose hf).mp happ).1 ⟨rfl, State.Warmed39.refl s, rfl⟩ trivial
  refine ⟨n, _, h1, h2, h3, hpost _ _ _ _ _ _ ⟨Cond.after_iff.mpr rfl, Cond.after_iff.mpr (eq_i res_at (Term.int_eval (1)) rfl), trivial⟩ ⟨hq.1, hq.2.1, (hq.2.2.sift fun y hy => Or.inr (N y hy)).mono (by decide) (by decide)⟩⟩
theorem main_1_1 : Claimed_1_1 := comes_1 fun _ _ _ _ _ _ h hF => ⟨h.1, hF⟩
theorem main_1_2 : Claimed_1_2 := comes_1 fun _ _ _ _ _ _ h hF => ⟨h.2.1, hF⟩
end Jvm.Pilot.@@N@@
namespace Jvm.Pilot.@@N@@
open Jvm Jvm.ClassFile Sem Op Lib Jvm.Free Jvm.Stand Jvm.Pilot.@@N@@.Jvm.D
/-! MADE BY PROGRAM (witnessworld.py) out of the Statement's table words and the real class files: 15 classes; the members and pool entries that the words name. The judged class is class 1, her method 1. -/
namespace start1
open Jvm.ClassFile
def u (s : String) : CpInfo := .utf8 (stringToUtf16 s)
/-- a pool by its gaps: so many unusable entries, then the entry; so many at the end -/
def gap : Nat → List CpInfo → List CpInfo
  | 0, r => r
  | n + 1, r => .unusable :: gap n r
def poolList (es : List (Nat × CpInfo)) (last : Nat) : List CpInfo := es.foldr (fun e r => gap e.1 (e.2 :: r)) (gap last [])
def pool (es : List (Nat × CpInfo)) (last : Nat) : Array CpInfo := ⟨poolList es last⟩
def fileOf (pool : Array CpInfo) (this : Nat) (attrs : Array Attribute := #[]) (ms : Array MethodInfo := #[]) (fl : Nat := 33) (sup : Nat := 0) (ifs : Array Nat := #[]) (fds : Array FieldInfo := #[]) : ClassFile where
  minorVersion := 0
  majorVersion := 65
  constantPool := pool
  accessFlags := fl
  thisClass := this
  superClass := sup
  interfaces := ifs
  fields := fds
  methods := ms
  attributes := attrs
def plain (name : String) (sup : Option ClassId) : Class where
  name := name
  kind := .ordinary
  loader := none
  accessFlags := 33
  super := sup
  interfaces := #[]
  cf := none
  fields := #[]
  methods := #[]
  instanceTypes := #[]
  staticTypes := #[]
  resolved := #[]
  callSites := []
  init := .initialized
  statics := none
  mirror := none

def pool0 : Array CpInfo := pool [(5, u "<init>"), (0, u "()V"), (1, .class_ 10), (1, u "java/lang/Object")] 113

def k0m0 : Method := { name := "<init>", desc := "()V", sig := { parameters := [], returnType := none }, accessFlags := 1, code := none }
/-- java/lang/Object -/
def k0 : Class := { plain "java/lang/Object" none with
  accessFlags := 33
  interfaces := #[]
  cf := some (fileOf pool0 8 #[] #[{ accessFlags := 1, nameIndex := 5, descriptorIndex := 6, attributes := #[] }] 33 0 #[] #[])
  fields := #[]
  methods := #[k0m0]
  instanceTypes := #[]
  staticTypes := #[]
  resolved := Array.replicate 124 none
  statics := none }

def pool1 : Array CpInfo := pool [(2, .class_ 4), (1, u "java/lang/Object"), (0, u "<init>"), (0, u "()V"), (0, .class_ 8), (0, u "com/example/riposte/riposte/packet/HeaderField"), (0, .fieldref 7 10), (0, .nameAndType 11 12), (0, u "CLIENT"), (0, u "Lcom/example/riposte/riposte/packet/HeaderField;"), (0, .fieldref 7 14), (0, .nameAndType 15 12), (0, u "VERSION"), (0, .fieldref 7 17), (0, .nameAndType 18 12), (0, u "DOMAIN"), (0, .fieldref 7 20), (0, .nameAndType 21 12), (0, u "HCO"), (0, .fieldref 7 23), (0, .nameAndType 24 12), (0, u "EPG"), (0, .fieldref 7 26), (0, .nameAndType 27 12), (0, u "MPG"), (0, .fieldref 7 29), (0, .nameAndType 30 12), (0, u "LENGTH"), (0, .fieldref 7 32), (0, .nameAndType 33 12), (0, u "CONTROL"), (0, .fieldref 7 35), (0, .nameAndType 36 12), (0, u "NRS"), (0, .fieldref 7 38), (0, .nameAndType 39 12), (0, u "APG"), (0, .fieldref 7 41), (0, .nameAndType 42 12), (0, u "NSR"), (0, .fieldref 7 44), (0, .nameAndType 45 12), (0, u "NER"), (0, .fieldref 7 47), (0, .nameAndType 48 12), (0, u "NRT"), (0, .fieldref 7 50), (0, .nameAndType 51 12), (0, u "MDG"), (0, .fieldref 7 53), (0, .nameAndType 54 12), (0, u "CMG"), (0, .fieldref 7 56), (0, .nameAndType 57 12), (0, u "STI"), (0, .fieldref 7 59), (0, .nameAndType 60 12), (0, u "DRT"), (0, .fieldref 7 62), (0, .nameAndType 63 12), (0, u "RETRANSMIT_COUNT"), (0, .fieldref 7 65), (0, .nameAndType 66 12), (0, u "FORWARD_COUNT"), (0, .fieldref 7 68), (0, .nameAndType 69 12), (0, u "INTER_PACKET_GAP"), (0, .fieldref 7 71), (0, .nameAndType 72 12), (0, u "PG_COUNT"), (0, .fieldref 7 74), (0, .nameAndType 75 12), (0, u "PRIORITY"), (0, .fieldref 7 77), (0, .nameAndType 78 12), (0, u "FUNCTION_CODE"), (0, .fieldref 7 80), (0, .nameAndType 81 12), (0, u "TRANSACTION"), (0, .fieldref 7 83), (0, .nameAndType 84 12), (0, u "PACKET_DELIVERY"), (0, .fieldref 7 86), (0, .nameAndType 87 12), (0, u "SERVER"), (0, .fieldref 7 89), (0, .nameAndType 90 12), (0, u "FLAGS_AND_CODE"), (0, .fieldref 7 92), (0, .nameAndType 93 12), (0, u "CMD"), (0, .fieldref 7 95), (0, .nameAndType 96 12), (0, u "DGM"), (0, .fieldref 7 98), (0, .nameAndType 99 12), (0, u "MDM"), (0, .fieldref 7 101), (0, .nameAndType 102 12), (0, u "SDA"), (0, .fieldref 7 104), (0, .nameAndType 105 12), (0, u "CRE"), (0, .fieldref 7 107), (0, .nameAndType 108 12), (0, u "MRD"), (0, .fieldref 7 110), (0, .nameAndType 111 12), (0, u "PIC"), (0, .fieldref 7 113), (0, .nameAndType 114 12), (0, u "CODE"), (0, .fieldref 7 116), (0, .nameAndType 117 12), (0, u "CO_RESIDENT_ENTITY"), (0, .fieldref 7 119), (0, .nameAndType 120 12), (0, u "USER_DATA"), (0, .fieldref 7 122), (0, .nameAndType 123 12), (0, u "MSG_DELIVERY"), (0, .fieldref 7 125), (0, .nameAndType 126 12), (0, u "SEGMENT_SIZE"), (0, .fieldref 7 128), (0, .nameAndType 129 12), (0, u "NOTIFY_CONTROL"), (0, .fieldref 7 131), (0, .nameAndType 132 12), (0, u "NOTIFY_RECEIVE_SEQUENCE"), (0, .fieldref 7 134), (0, .nameAndType 135 12), (0, u "NOTIFY_CLIENT"), (0, .fieldref 7 137), (0, .nameAndType 138 12), (0, u "NOTIFY_TRANSACTION"), (0, .fieldref 7 140), (0, .nameAndType 141 12), (0, u "NOTIFY_DELIVERY"), (0, .fieldref 7 143), (0, .nameAndType 144 12), (0, u "NOTIFY_CODE"), (0, .long 18446744073709551615), (1, .long 7), (1, .long 8191), (1, .long 4294967295), (1, .long 15), (1, .long 255), (1, .long 16777215), (1, .integer 2147483647), (2, .long 9223372036854775808), (1, .methodref 7 165), (0, .nameAndType 166 167), (0, u "holds"), (0, u "(J)Z"), (0, .class_ 169), (0, u "com/example/riposte/riposte/packet/HeaderFieldHoldsPinLaw"), (2, u "law"), (0, u "(IIJ)Z")] 7

def k1m0 : Method := { name := "<init>", desc := "()V", sig := { parameters := [], returnType := none }, accessFlags := 1, code := none }
def k1c1 : Code := { maxStack := 6, maxLocals := 14, code := code, exceptionTable := #[], attributes := #[] }
def k1m1 : Method := { name := "law", desc := "(IIJ)Z", sig := { parameters := [.int, .int, .long], returnType := some .boolean }, accessFlags := 9, code := some k1c1 }
/-- com/example/riposte/riposte/packet/HeaderFieldHoldsPinLaw -/
def k1 : Class := { plain "com/example/riposte/riposte/packet/HeaderFieldHoldsPinLaw" (some 0) with
  accessFlags := 49
  interfaces := #[]
  cf := some (fileOf pool1 168 #[] #[{ accessFlags := 1, nameIndex := 5, descriptorIndex := 6, attributes := #[] }, { accessFlags := 9, nameIndex := 172, descriptorIndex := 173, attributes := #[] }] 49 2 #[] #[])
  fields := #[]
  methods := #[k1m0, k1m1]
  instanceTypes := #[]
  staticTypes := #[]
  resolved := Array.replicate 181 none
  statics := none }

def pool2 : Array CpInfo := pool [(1, .class_ 2), (0, u "java/lang/constant/Constable"), (0, .class_ 4), (0, u "java/lang/Object")] 6

/-- java/lang/constant/Constable -/
def k2 : Class := { plain "java/lang/constant/Constable" (some 0) with
  accessFlags := 1537
  interfaces := #[]
  cf := some (fileOf pool2 1 #[] #[] 1537 3 #[] #[])
  fields := #[]
  methods := #[]
  instanceTypes := #[]
  staticTypes := #[]
  resolved := Array.replicate 11 none
  statics := none }

def pool3 : Array CpInfo := pool [(1, .class_ 2), (0, u "java/lang/Comparable"), (0, .class_ 4), (0, u "java/lang/Object")] 7

/-- java/lang/Comparable -/
def k3 : Class := { plain "java/lang/Comparable" (some 0) with
  accessFlags := 1537
  interfaces := #[]
  cf := some (fileOf pool3 1 #[] #[] 1537 3 #[] #[])
  fields := #[]
  methods := #[]
  instanceTypes := #[]
  staticTypes := #[]
  resolved := Array.replicate 12 none
  statics := none }

def pool4 : Array CpInfo := pool [(1, .class_ 2), (0, u "java/io/Serializable"), (0, .class_ 4), (0, u "java/lang/Object")] 2

/-- java/io/Serializable -/
def k4 : Class := { plain "java/io/Serializable" (some 0) with
  accessFlags := 1537
  interfaces := #[]
  cf := some (fileOf pool4 1 #[] #[] 1537 3 #[] #[])
  fields := #[]
  methods := #[]
  instanceTypes := #[]
  staticTypes := #[]
  resolved := Array.replicate 7 none
  statics := none }

def pool5 : Array CpInfo := pool [(2, .class_ 4), (1, u "java/lang/Enum"), (0, u "name"), (0, u "Ljava/lang/String;"), (2, u "ordinal"), (0, u "I"), (1, .class_ 14), (1, u "java/lang/Object"), (4, u "hash"), (86, .class_ 108), (1, u "java/lang/Enum$EnumDesc"), (2, .class_ 112), (0, u "java/lang/constant/Constable"), (0, .class_ 114), (0, u "java/lang/Comparable"), (0, .class_ 116), (0, u "java/io/Serializable")] 87

/-- java/lang/Enum -/
def k5 : Class := { plain "java/lang/Enum" (some 0) with
  accessFlags := 1057
  interfaces := #[2, 3, 4]
  cf := some (fileOf pool5 2 #[.nestMembers #[106]] #[] 1057 12 #[111, 113, 115] #[{ accessFlags := 18, nameIndex := 5, descriptorIndex := 6, attributes := #[] }, { accessFlags := 18, nameIndex := 9, descriptorIndex := 10, attributes := #[] }, { accessFlags := 2, nameIndex := 19, descriptorIndex := 10, attributes := #[] }])
  fields := #[{ name := "name", type := (.object "java/lang/String"), accessFlags := 18, slot := 0, constantValue := 0 }, { name := "ordinal", type := .int, accessFlags := 18, slot := 1, constantValue := 0 }, { name := "hash", type := .int, accessFlags := 2, slot := 2, constantValue := 0 }]
  methods := #[]
  instanceTypes := #[(.object "java/lang/String"), .int, .int]
  staticTypes := #[]
  resolved := Array.replicate 204 none
  statics := none }

def pool6 : Array CpInfo := pool [(1, .class_ 2), (0, u "com/example/riposte/riposte/packet/HeaderField"), (2, u "CLIENT"), (0, u "Lcom/example/riposte/riposte/packet/HeaderField;"), (2, u "VERSION"), (2, u "DOMAIN"), (2, u "HCO"), (2, u "EPG"), (2, u "MPG"), (2, u "LENGTH"), (2, u "CONTROL"), (2, u "NRS"), (2, u "APG"), (2, u "NSR"), (2, u "NER"), (2, u "NRT"), (2, u "MDG"), (2, u "CMG"), (2, u "STI"), (2, u "DRT"), (2, u "RETRANSMIT_COUNT"), (2, u "FORWARD_COUNT"), (2, u "INTER_PACKET_GAP"), (2, u "PG_COUNT"), (2, u "PRIORITY"), (2, u "FUNCTION_CODE"), (2, u "TRANSACTION"), (2, u "PACKET_DELIVERY"), (2, u "SERVER"), (2, u "FLAGS_AND_CODE"), (2, u "CMD"), (2, u "DGM"), (2, u "MDM"), (2, u "SDA"), (2, u "CRE"), (2, u "MRD"), (2, u "PIC"), (2, u "CODE"), (2, u "CO_RESIDENT_ENTITY"), (2, u "USER_DATA"), (2, u "MSG_DELIVERY"), (2, u "SEGMENT_SIZE"), (2, u "NOTIFY_CONTROL"), (2, u "NOTIFY_RECEIVE_SEQUENCE"), (2, u "NOTIFY_CLIENT"), (2, u "NOTIFY_TRANSACTION"), (2, u "NOTIFY_DELIVERY"), (2, u "NOTIFY_CODE"), (2, u "$VALUES"), (0, u "[Lcom/example/riposte/riposte/packet/HeaderField;"), (6, .class_ 151), (1, u "java/lang/Enum"), (8, u "offset"), (0, u "I"), (2, u "shift"), (0, .fieldref 1 166), (0, .nameAndType 167 161), (0, u "width"), (12, u "WORDS"), (0, u "Ljava/lang/invoke/VarHandle;"), (89, u "holds"), (0, u "(J)Z")] 10

def k6c0 : Code := { maxStack := 4, maxLocals := 3, code := prog_43_method_4_code, exceptionTable := #[], attributes := #[] }
def k6m0 : Method := { name := "holds", desc := "(J)Z", sig := { parameters := [.long], returnType := some .boolean }, accessFlags := 0, code := some k6c0 }
/-- com/example/riposte/riposte/packet/HeaderField -/
def k6 : Class := { plain "com/example/riposte/riposte/packet/HeaderField" (some 5) with
  accessFlags := 16433
  interfaces := #[]
  cf := some (fileOf pool6 1 #[] #[{ accessFlags := 0, nameIndex := 271, descriptorIndex := 272, attributes := #[] }] 16433 149 #[] #[{ accessFlags := 16409, nameIndex := 5, descriptorIndex := 6, attributes := #[] }, { accessFlags := 16409, nameIndex := 9, descriptorIndex := 6, attributes := #[] }, { accessFlags := 16409, nameIndex := 12, descriptorIndex := 6, attributes := #[] }, { accessFlags := 16409, nameIndex := 15, descriptorIndex := 6, attributes := #[] }, { accessFlags := 16409, nameIndex := 18, descriptorIndex := 6, attributes := #[] }, { accessFlags := 16409, nameIndex := 21, descriptorIndex := 6, attributes := #[] }, { accessFlags := 16409, nameIndex := 24, descriptorIndex := 6, attributes := #[] }, { accessFlags := 16409, nameIndex := 27, descriptorIndex := 6, attributes := #[] }, { accessFlags := 16409, nameIndex := 30, descriptorIndex := 6, attributes := #[] }, { accessFlags := 16409, nameIndex := 33, descriptorIndex := 6, attributes := #[] }, { accessFlags := 16409, nameIndex := 36, descriptorIndex := 6, attributes := #[] }, { accessFlags := 16409, nameIndex := 39, descriptorIndex := 6, attributes := #[] }, { accessFlags := 16409, nameIndex := 42, descriptorIndex := 6, attributes := #[] }, { accessFlags := 16409, nameIndex := 45, descriptorIndex := 6, attributes := #[] }, { accessFlags := 16409, nameIndex := 48, descriptorIndex := 6, attributes := #[] }, { accessFlags := 16409, nameIndex := 51, descriptorIndex := 6, attributes := #[] }, { accessFlags := 16409, nameIndex := 54, descriptorIndex := 6, attributes := #[] }, { accessFlags := 16409, nameIndex := 57, descriptorIndex := 6, attributes := #[] }, { accessFlags := 16409, nameIndex := 60, descriptorIndex := 6, attributes := #[] }, { accessFlags := 16409, nameIndex := 63, descriptorIndex := 6, attributes := #[] }, { accessFlags := 16409, nameIndex := 66, descriptorIndex := 6, attributes := #[] }, { accessFlags := 16409, nameIndex := 69, descriptorIndex := 6, attributes := #[] }, { accessFlags := 16409, nameIndex := 72, descriptorIndex := 6, attributes := #[] }, { accessFlags := 16409, nameIndex := 75, descriptorIndex := 6, attributes := #[] }, { accessFlags := 16409, nameIndex := 78, descriptorIndex := 6, attributes := #[] }, { accessFlags := 16409, nameIndex := 81, descriptorIndex := 6, attributes := #[] }, { accessFlags := 16409, nameIndex := 84, descriptorIndex := 6, attributes := #[] }, { accessFlags := 16409, nameIndex := 87, descriptorIndex := 6, attributes := #[] }, { accessFlags := 16409, nameIndex := 90, descriptorIndex := 6, attributes := #[] }, { accessFlags := 16409, nameIndex := 93, descriptorIndex := 6, attributes := #[] }, { accessFlags := 16409, nameIndex := 96, descriptorIndex := 6, attributes := #[] }, { accessFlags := 16409, nameIndex := 99, descriptorIndex := 6, attributes := #[] }, { accessFlags := 16409, nameIndex := 102, descriptorIndex := 6, attributes := #[] }, { accessFlags := 16409, nameIndex := 105, descriptorIndex := 6, attributes := #[] }, { accessFlags := 16409, nameIndex := 108, descriptorIndex := 6, attributes := #[] }, { accessFlags := 16409, nameIndex := 111, descriptorIndex := 6, attributes := #[] }, { accessFlags := 16409, nameIndex := 114, descriptorIndex := 6, attributes := #[] }, { accessFlags := 16409, nameIndex := 117, descriptorIndex := 6, attributes := #[] }, { accessFlags := 16409, nameIndex := 120, descriptorIndex := 6, attributes := #[] }, { accessFlags := 16409, nameIndex := 123, descriptorIndex := 6, attributes := #[] }, { accessFlags := 16409, nameIndex := 126, descriptorIndex := 6, attributes := #[] }, { accessFlags := 16409, nameIndex := 129, descriptorIndex := 6, attributes := #[] }, { accessFlags := 16409, nameIndex := 132, descriptorIndex := 6, attributes := #[] }, { accessFlags := 16409, nameIndex := 135, descriptorIndex := 6, attributes := #[] }, { accessFlags := 16409, nameIndex := 138, descriptorIndex := 6, attributes := #[] }, { accessFlags := 26, nameIndex := 180, descriptorIndex := 181, attributes := #[] }, { accessFlags := 18, nameIndex := 160, descriptorIndex := 161, attributes := #[] }, { accessFlags := 18, nameIndex := 164, descriptorIndex := 161, attributes := #[] }, { accessFlags := 18, nameIndex := 167, descriptorIndex := 161, attributes := #[] }, { accessFlags := 4122, nameIndex := 141, descriptorIndex := 142, attributes := #[] }])
  fields := #[{ name := "CLIENT", type := (.object "com/example/riposte/riposte/packet/HeaderField"), accessFlags := 16409, slot := 0, constantValue := 0 }, { name := "VERSION", type := (.object "com/example/riposte/riposte/packet/HeaderField"), accessFlags := 16409, slot := 1, constantValue := 0 }, { name := "DOMAIN", type := (.object "com/example/riposte/riposte/packet/HeaderField"), accessFlags := 16409, slot := 2, constantValue := 0 }, { name := "HCO", type := (.object "com/example/riposte/riposte/packet/HeaderField"), accessFlags := 16409, slot := 3, constantValue := 0 }, { name := "EPG", type := (.object "com/example/riposte/riposte/packet/HeaderField"), accessFlags := 16409, slot := 4, constantValue := 0 }, { name := "MPG", type := (.object "com/example/riposte/riposte/packet/HeaderField"), accessFlags := 16409, slot := 5, constantValue := 0 }, { name := "LENGTH", type := (.object "com/example/riposte/riposte/packet/HeaderField"), accessFlags := 16409, slot := 6, constantValue := 0 }, { name := "CONTROL", type := (.object "com/example/riposte/riposte/packet/HeaderField"), accessFlags := 16409, slot := 7, constantValue := 0 }, { name := "NRS", type := (.object "com/example/riposte/riposte/packet/HeaderField"), accessFlags := 16409, slot := 8, constantValue := 0 }, { name := "APG", type := (.object "com/example/riposte/riposte/packet/HeaderField"), accessFlags := 16409, slot := 9, constantValue := 0 }, { name := "NSR", type := (.object "com/example/riposte/riposte/packet/HeaderField"), accessFlags := 16409, slot := 10, constantValue := 0 }, { name := "NER", type := (.object "com/example/riposte/riposte/packet/HeaderField"), accessFlags := 16409, slot := 11, constantValue := 0 }, { name := "NRT", type := (.object "com/example/riposte/riposte/packet/HeaderField"), accessFlags := 16409, slot := 12, constantValue := 0 }, { name := "MDG", type := (.object "com/example/riposte/riposte/packet/HeaderField"), accessFlags := 16409, slot := 13, constantValue := 0 }, { name := "CMG", type := (.object "com/example/riposte/riposte/packet/HeaderField"), accessFlags := 16409, slot := 14, constantValue := 0 }, { name := "STI", type := (.object "com/example/riposte/riposte/packet/HeaderField"), accessFlags := 16409, slot := 15, constantValue := 0 }, { name := "DRT", type := (.object "com/example/riposte/riposte/packet/HeaderField"), accessFlags := 16409, slot := 16, constantValue := 0 }, { name := "RETRANSMIT_COUNT", type := (.object "com/example/riposte/riposte/packet/HeaderField"), accessFlags := 16409, slot := 17, constantValue := 0 }, { name := "FORWARD_COUNT", type := (.object "com/example/riposte/riposte/packet/HeaderField"), accessFlags := 16409, slot := 18, constantValue := 0 }, { name := "INTER_PACKET_GAP", type := (.object "com/example/riposte/riposte/packet/HeaderField"), accessFlags := 16409, slot := 19, constantValue := 0 }, { name := "PG_COUNT", type := (.object "com/example/riposte/riposte/packet/HeaderField"), accessFlags := 16409, slot := 20, constantValue := 0 }, { name := "PRIORITY", type := (.object "com/example/riposte/riposte/packet/HeaderField"), accessFlags := 16409, slot := 21, constantValue := 0 }, { name := "FUNCTION_CODE", type := (.object "com/example/riposte/riposte/packet/HeaderField"), accessFlags := 16409, slot := 22, constantValue := 0 }, { name := "TRANSACTION", type := (.object "com/example/riposte/riposte/packet/HeaderField"), accessFlags := 16409, slot := 23, constantValue := 0 }, { name := "PACKET_DELIVERY", type := (.object "com/example/riposte/riposte/packet/HeaderField"), accessFlags := 16409, slot := 24, constantValue := 0 }, { name := "SERVER", type := (.object "com/example/riposte/riposte/packet/HeaderField"), accessFlags := 16409, slot := 25, constantValue := 0 }, { name := "FLAGS_AND_CODE", type := (.object "com/example/riposte/riposte/packet/HeaderField"), accessFlags := 16409, slot := 26, constantValue := 0 }, { name := "CMD", type := (.object "com/example/riposte/riposte/packet/HeaderField"), accessFlags := 16409, slot := 27, constantValue := 0 }, { name := "DGM", type := (.object "com/example/riposte/riposte/packet/HeaderField"), accessFlags := 16409, slot := 28, constantValue := 0 }, { name := "MDM", type := (.object "com/example/riposte/riposte/packet/HeaderField"), accessFlags := 16409, slot := 29, constantValue := 0 }, { name := "SDA", type := (.object "com/example/riposte/riposte/packet/HeaderField"), accessFlags := 16409, slot := 30, constantValue := 0 }, { name := "CRE", type := (.object "com/example/riposte/riposte/packet/HeaderField"), accessFlags := 16409, slot := 31, constantValue := 0 }, { name := "MRD", type := (.object "com/example/riposte/riposte/packet/HeaderField"), accessFlags := 16409, slot := 32, constantValue := 0 }, { name := "PIC", type := (.object "com/example/riposte/riposte/packet/HeaderField"), accessFlags := 16409, slot := 33, constantValue := 0 }, { name := "CODE", type := (.object "com/example/riposte/riposte/packet/HeaderField"), accessFlags := 16409, slot := 34, constantValue := 0 }, { name := "CO_RESIDENT_ENTITY", type := (.object "com/example/riposte/riposte/packet/HeaderField"), accessFlags := 16409, slot := 35, constantValue := 0 }, { name := "USER_DATA", type := (.object "com/example/riposte/riposte/packet/HeaderField"), accessFlags := 16409, slot := 36, constantValue := 0 }, { name := "MSG_DELIVERY", type := (.object "com/example/riposte/riposte/packet/HeaderField"), accessFlags := 16409, slot := 37, constantValue := 0 }, { name := "SEGMENT_SIZE", type := (.object "com/example/riposte/riposte/packet/HeaderField"), accessFlags := 16409, slot := 38, constantValue := 0 }, { name := "NOTIFY_CONTROL", type := (.object "com/example/riposte/riposte/packet/HeaderField"), accessFlags := 16409, slot := 39, constantValue := 0 }, { name := "NOTIFY_RECEIVE_SEQUENCE", type := (.object "com/example/riposte/riposte/packet/HeaderField"), accessFlags := 16409, slot := 40, constantValue := 0 }, { name := "NOTIFY_CLIENT", type := (.object "com/example/riposte/riposte/packet/HeaderField"), accessFlags := 16409, slot := 41, constantValue := 0 }, { name := "NOTIFY_TRANSACTION", type := (.object "com/example/riposte/riposte/packet/HeaderField"), accessFlags := 16409, slot := 42, constantValue := 0 }, { name := "NOTIFY_DELIVERY", type := (.object "com/example/riposte/riposte/packet/HeaderField"), accessFlags := 16409, slot := 43, constantValue := 0 }, { name := "NOTIFY_CODE", type := (.object "com/example/riposte/riposte/packet/HeaderField"), accessFlags := 16409, slot := 44, constantValue := 0 }, { name := "WORDS", type := (.object "java/lang/invoke/VarHandle"), accessFlags := 26, slot := 45, constantValue := 0 }, { name := "offset", type := .int, accessFlags := 18, slot := 3, constantValue := 0 }, { name := "shift", type := .int, accessFlags := 18, slot := 4, constantValue := 0 }, { name := "width", type := .int, accessFlags := 18, slot := 5, constantValue := 0 }, { name := "$VALUES", type := (.array (.object "com/example/riposte/riposte/packet/HeaderField")), accessFlags := 4122, slot := 46, constantValue := 0 }]
  methods := #[k6m0]
  instanceTypes := #[(.object "java/lang/String"), .int, .int, .int, .int, .int]
  staticTypes := #[(.object "com/example/riposte/riposte/packet/HeaderField"), (.object "com/example/riposte/riposte/packet/HeaderField"), (.object "com/example/riposte/riposte/packet/HeaderField"), (.object "com/example/riposte/riposte/packet/HeaderField"), (.object "com/example/riposte/riposte/packet/HeaderField"), (.object "com/example/riposte/riposte/packet/HeaderField"), (.object "com/example/riposte/riposte/packet/HeaderField"), (.object "com/example/riposte/riposte/packet/HeaderField"), (.object "com/example/riposte/riposte/packet/HeaderField"), (.object "com/example/riposte/riposte/packet/HeaderField"), (.object "com/example/riposte/riposte/packet/HeaderField"), (.object "com/example/riposte/riposte/packet/HeaderField"), (.object "com/example/riposte/riposte/packet/HeaderField"), (.object "com/example/riposte/riposte/packet/HeaderField"), (.object "com/example/riposte/riposte/packet/HeaderField"), (.object "com/example/riposte/riposte/packet/HeaderField"), (.object "com/example/riposte/riposte/packet/HeaderField"), (.object "com/example/riposte/riposte/packet/HeaderField"), (.object "com/example/riposte/riposte/packet/HeaderField"), (.object "com/example/riposte/riposte/packet/HeaderField"), (.object "com/example/riposte/riposte/packet/HeaderField"), (.object "com/example/riposte/riposte/packet/HeaderField"), (.object "com/example/riposte/riposte/packet/HeaderField"), (.object "com/example/riposte/riposte/packet/HeaderField"), (.object "com/example/riposte/riposte/packet/HeaderField"), (.object "com/example/riposte/riposte/packet/HeaderField"), (.object "com/example/riposte/riposte/packet/HeaderField"), (.object "com/example/riposte/riposte/packet/HeaderField"), (.object "com/example/riposte/riposte/packet/HeaderField"), (.object "com/example/riposte/riposte/packet/HeaderField"), (.object "com/example/riposte/riposte/packet/HeaderField"), (.object "com/example/riposte/riposte/packet/HeaderField"), (.object "com/example/riposte/riposte/packet/HeaderField"), (.object "com/example/riposte/riposte/packet/HeaderField"), (.object "com/example/riposte/riposte/packet/HeaderField"), (.object "com/example/riposte/riposte/packet/HeaderField"), (.object "com/example/riposte/riposte/packet/HeaderField"), (.object "com/example/riposte/riposte/packet/HeaderField"), (.object "com/example/riposte/riposte/packet/HeaderField"), (.object "com/example/riposte/riposte/packet/HeaderField"), (.object "com/example/riposte/riposte/packet/HeaderField"), (.object "com/example/riposte/riposte/packet/HeaderField"), (.object "com/example/riposte/riposte/packet/HeaderField"), (.object "com/example/riposte/riposte/packet/HeaderField"), (.object "com/example/riposte/riposte/packet/HeaderField"), (.object "java/lang/invoke/VarHandle"), (.array (.object "com/example/riposte/riposte/packet/HeaderField"))]
  resolved := Array.replicate 283 none
  statics := some 0 }

def pool7 : Array CpInfo := pool [(1, u "java/lang/Cloneable"), (0, .class_ 1), (0, u "java/lang/Object"), (0, .class_ 3)] 3

/-- java/lang/Cloneable -/
def k7 : Class := { plain "java/lang/Cloneable" (some 0) with
  accessFlags := 1537
  interfaces := #[]
  cf := some (fileOf pool7 2 #[] #[] 1537 4 #[] #[])
  fields := #[]
  methods := #[]
  instanceTypes := #[]
  staticTypes := #[]
  resolved := Array.replicate 8 none
  statics := none }

/-- the primitive byte -/
def k8 : Class := { plain "byte" none with kind := .primitive 'B', accessFlags := 0x411 }
/-- [B -/
def k9 : Class := { plain "[B" (some 0) with kind := .array 8 .byte, interfaces := #[7, 4], accessFlags := 1041 }

/-- the primitive int -/
def k10 : Class := { plain "int" none with kind := .primitive 'I', accessFlags := 0x411 }
/-- [I -/
def k11 : Class := { plain "[I" (some 0) with kind := .array 10 .int, interfaces := #[7, 4], accessFlags := 1041 }

/-- the primitive long -/
def k12 : Class := { plain "long" none with kind := .primitive 'J', accessFlags := 0x411 }
/-- [J -/
def k13 : Class := { plain "[J" (some 0) with kind := .array 12 .long, interfaces := #[7, 4], accessFlags := 1041 }

/-- [Lcom/example/riposte/riposte/packet/HeaderField; -/
def k14 : Class := { plain "[Lcom/example/riposte/riposte/packet/HeaderField;" (some 0) with kind := .array 6 (.object "com/example/riposte/riposte/packet/HeaderField"), interfaces := #[7, 4], accessFlags := 1041 }

def heap : Heap := #[{ cls := 6, slots := #[.ref 1, .ref 2, .ref 3, .ref 4, .ref 5, .ref 6, .ref 7, .ref 8, .ref 9, .ref 10, .ref 11, .ref 12, .ref 13, .ref 14, .ref 15, .ref 16, .ref 17, .ref 18, .ref 19, .ref 20, .ref 21, .ref 22, .ref 23, .ref 24, .ref 25, .ref 26, .ref 27, .ref 28, .ref 29, .ref 30, .ref 31, .ref 32, .ref 33, .ref 34, .ref 35, .ref 36, .ref 37, .ref 38, .ref 39, .ref 40, .ref 41, .ref 42, .ref 43, .ref 44, .ref 45, .null, .null], vm := .statics 6 },
  { cls := 6, slots := #[.null, .int 0, .int 0, .int 0, .int 0, .int 64], vm := .none },
  { cls := 6, slots := #[.null, .int 0, .int 0, .int 0, .int 0, .int 3], vm := .none },
  { cls := 6, slots := #[.null, .int 0, .int 0, .int 0, .int 0, .int 13], vm := .none },
  { cls := 6, slots := #[.null, .int 0, .int 0, .int 0, .int 0, .int 1], vm := .none },
  { cls := 6, slots := #[.null, .int 0, .int 0, .int 0, .int 0, .int 1], vm := .none },
  { cls := 6, slots := #[.null, .int 0, .int 0, .int 0, .int 0, .int 1], vm := .none },
  { cls := 6, slots := #[.null, .int 0, .int 0, .int 0, .int 0, .int 13], vm := .none },
  { cls := 6, slots := #[.null, .int 0, .int 0, .int 0, .int 0, .int 32], vm := .none },
  { cls := 6, slots := #[.null, .int 0, .int 0, .int 0, .int 0, .int 1], vm := .none },
  { cls := 6, slots := #[.null, .int 0, .int 0, .int 0, .int 0, .int 1], vm := .none },
  { cls := 6, slots := #[.null, .int 0, .int 0, .int 0, .int 0, .int 1], vm := .none },
  { cls := 6, slots := #[.null, .int 0, .int 0, .int 0, .int 0, .int 1], vm := .none },
  { cls := 6, slots := #[.null, .int 0, .int 0, .int 0, .int 0, .int 1], vm := .none },
  { cls := 6, slots := #[.null, .int 0, .int 0, .int 0, .int 0, .int 1], vm := .none },
  { cls := 6, slots := #[.null, .int 0, .int 0, .int 0, .int 0, .int 1], vm := .none },
  { cls := 6, slots := #[.null, .int 0, .int 0, .int 0, .int 0, .int 1], vm := .none },
  { cls := 6, slots := #[.null, .int 0, .int 0, .int 0, .int 0, .int 1], vm := .none },
  { cls := 6, slots := #[.null, .int 0, .int 0, .int 0, .int 0, .int 3], vm := .none },
  { cls := 6, slots := #[.null, .int 0, .int 0, .int 0, .int 0, .int 4], vm := .none },
  { cls := 6, slots := #[.null, .int 0, .int 0, .int 0, .int 0, .int 8], vm := .none },
  { cls := 6, slots := #[.null, .int 0, .int 0, .int 0, .int 0, .int 8], vm := .none },
  { cls := 6, slots := #[.null, .int 0, .int 0, .int 0, .int 0, .int 4], vm := .none },
  { cls := 6, slots := #[.null, .int 0, .int 0, .int 0, .int 0, .int 1], vm := .none },
  { cls := 6, slots := #[.null, .int 0, .int 0, .int 0, .int 0, .int 32], vm := .none },
  { cls := 6, slots := #[.null, .int 0, .int 0, .int 0, .int 0, .int 32], vm := .none },
  { cls := 6, slots := #[.null, .int 0, .int 0, .int 0, .int 0, .int 64], vm := .none },
  { cls := 6, slots := #[.null, .int 0, .int 0, .int 0, .int 0, .int 32], vm := .none },
  { cls := 6, slots := #[.null, .int 0, .int 0, .int 0, .int 0, .int 1], vm := .none },
  { cls := 6, slots := #[.null, .int 0, .int 0, .int 0, .int 0, .int 1], vm := .none },
  { cls := 6, slots := #[.null, .int 0, .int 0, .int 0, .int 0, .int 1], vm := .none },
  { cls := 6, slots := #[.null, .int 0, .int 0, .int 0, .int 0, .int 1], vm := .none },
  { cls := 6, slots := #[.null, .int 0, .int 0, .int 0, .int 0, .int 1], vm := .none },
  { cls := 6, slots := #[.null, .int 0, .int 0, .int 0, .int 0, .int 1], vm := .none },
  { cls := 6, slots := #[.null, .int 0, .int 0, .int 0, .int 0, .int 1], vm := .none },
  { cls := 6, slots := #[.null, .int 0, .int 0, .int 0, .int 0, .int 24], vm := .none },
  { cls := 6, slots := #[.null, .int 0, .int 0, .int 0, .int 0, .int 64], vm := .none },
  { cls := 6, slots := #[.null, .int 0, .int 0, .int 0, .int 0, .int 64], vm := .none },
  { cls := 6, slots := #[.null, .int 0, .int 0, .int 0, .int 0, .int 32], vm := .none },
  { cls := 6, slots := #[.null, .int 0, .int 0, .int 0, .int 0, .int 32], vm := .none },
  { cls := 6, slots := #[.null, .int 0, .int 0, .int 0, .int 0, .int 32], vm := .none },
  { cls := 6, slots := #[.null, .int 0, .int 0, .int 0, .int 0, .int 32], vm := .none },
  { cls := 6, slots := #[.null, .int 0, .int 0, .int 0, .int 0, .int 64], vm := .none },
  { cls := 6, slots := #[.null, .int 0, .int 0, .int 0, .int 0, .int 32], vm := .none },
  { cls := 6, slots := #[.null, .int 0, .int 0, .int 0, .int 0, .int 32], vm := .none },
  { cls := 6, slots := #[.null, .int 0, .int 0, .int 0, .int 0, .int 32], vm := .none }]
def classes : Array Class := #[k0, k1, k2, k3, k4, k5, k6, k7, k8, k9, k10, k11, k12, k13, k14]
def interned : List (Array UInt16 × Addr) := []
def slotsUsed : Nat := 317
def theMethod : MethodId := ⟨1, 1⟩
def args0 : Array Value := #[.int 5, .int 6, .long 7]
def aboutOver (below : List Frame) : State where
  vm := { classes := classes, interned := interned.toArray }
  heap := heap
  slotsUsed := slotsUsed
  threads := #[{ frames := .invoking theMethod args0 :: below }]
def below0 : List Frame := [.native { method := ⟨0, 0⟩, args := #[] }]
def about1 : State := aboutOver below0
def p0 : Program := .bare "" "" ""
def e0 : Env := launch0.env 0 0 0
theorem w_frames : about1.frames = Frame.invoking theMethod args0 :: below0 := rfl
set_option maxRecDepth 65536 in
theorem w_args : argsFit about1.vm theMethod args0 = true := by decide +kernel
set_option maxRecDepth 65536 in
theorem w_heap : heapFits about1 = true := by decide +kernel
set_option maxRecDepth 65536 in
theorem w_runnable : about1.curStatus? = some .runnable := by decide +kernel
set_option maxRecDepth 65536 in
theorem w_alone : about1.alone = true := by decide +kernel
set_option maxRecDepth 65536 in
theorem w_named : about1.methodNamed? x = some theMethod := by decide +kernel
set_option maxRecDepth 65536 in
theorem w_hears : about1.hears theMethod below0 = true := by decide +kernel
set_option maxRecDepth 65536 in
theorem w_ripe : about1.ripe theMethod args0 below0 = true := by decide +kernel
theorem w_running : about1.status = .running := rfl
set_option maxRecDepth 65536 in
theorem w_room : about1.hasRoom e0.platform room_1 = true :=
  launch0.hasRoom_least _ room_1 (by decide +kernel) (by decide +kernel) (by decide +kernel) (by decide +kernel) (by decide +kernel) (by decide +kernel)
theorem allAtoms_all (ts : List Jvm.Cond) (a : Array Jvm.Value) (st : Jvm.State) : (allAtoms ts).before a st = ts.all (fun c => c.before a st) := by
  induction ts with
  | nil => rfl
  | cons c t ih =>
    show (Jvm.Cond.and c (allAtoms t)).before a st = _
    rw [Jvm.Cond.before_and, ih, List.all_cons]
def words1 : List Jvm.Cond := Jvm.Cond.code x code maxLocals ret :: tables_1
/-- a 'code' word, met by the world's own term for the bytes: nothing is compared byte by byte -/
theorem code_word {y : MethodName} {bytes : ByteArray} {mx : Nat} {rt : Option FieldType} {a : Array Value} {s : State} {m : MethodId} {meth : Method} {c : Code} (h1 : s.methodNamed? y = some m) (h2 : s.vm.method? m = some meth) (h3 : meth.code = some c) (h4 : c.code = bytes)
    (h5 : (c.maxLocals == mx && c.exceptionTable.isEmpty && decide (c.maxStack ≤ mostOperands) && decide (meth.sig.returnType = rt) && !meth.locks && decide (parseMethodDescriptor y.desc = some meth.sig)) = true) : (Jvm.Cond.code y bytes mx rt).before a s = true := by
  simp only [Bool.and_eq_true, beq_iff_eq, Bool.not_eq_true', decide_eq_true_eq] at h5
  obtain ⟨⟨⟨⟨⟨g1, g2⟩, g3⟩, g4⟩, g5⟩, g6⟩ := h5
  simp [Cond.before, Cond.holds, Cond.value, h1, h2, h3, h4, g1, g2, g3, g4, g5, g6]
def isCode : Jvm.Cond → Bool
  | .code _ _ _ _ => true
  | _ => false
theorem all_split {L : List Jvm.Cond} {P : Jvm.Cond → Bool} (h1 : L.all (fun c => isCode c || P c) = true) (h2 : ∀ c ∈ L.filter isCode, P c = true) : L.all P = true := by
  refine List.all_eq_true.mpr fun c hc => ?_
  have h := List.all_eq_true.mp h1 c hc
  rcases Bool.eq_false_or_eq_true (isCode c) with hi | hi
  · exact h2 c (List.mem_filter.mpr ⟨hc, hi⟩)
  · simpa [hi] using h
set_option maxRecDepth 65536 in
theorem w_c0 : (Jvm.Cond.code x code maxLocals ret).before args0 about1 = true := code_word (m := ⟨1, 1⟩) (meth := k1m1) (c := k1c1) (by decide +kernel) rfl rfl rfl (by decide +kernel)
set_option maxRecDepth 65536 in
theorem w_c1 : (Jvm.Cond.code ({ cls := "com/example/riposte/riposte/packet/HeaderField", name := "holds", desc := "(J)Z" } : Jvm.MethodName) prog_43_method_4_code (3 : Nat) (Option.some Jvm.ClassFile.FieldType.boolean)).before args0 about1 = true := code_word (m := ⟨6, 0⟩) (meth := k6m0) (c := k6c0) (by decide +kernel) rfl rfl rfl (by decide +kernel)
def codes1 : List Jvm.Cond := [Jvm.Cond.code x code maxLocals ret, Jvm.Cond.code ({ cls := "com/example/riposte/riposte/packet/HeaderField", name := "holds", desc := "(J)Z" } : Jvm.MethodName) prog_43_method_4_code (3 : Nat) (Option.some Jvm.ClassFile.FieldType.boolean)]
set_option maxRecDepth 65536 in
theorem codes_eq : words1.filter isCode = codes1 := rfl
theorem w_codes : ∀ c ∈ words1.filter isCode, c.before args0 about1 = true := by
  rw [codes_eq]
  intro c hc
  simp only [codes1, List.mem_cons, List.not_mem_nil, or_false] at hc
  rcases hc with rfl | rfl
  · exact w_c0
  · exact w_c1
set_option maxRecDepth 65536 in
theorem w_t1 : (words1.take 24).all (fun c => isCode c || c.before args0 about1) = true := by decide +kernel
set_option maxRecDepth 65536 in
theorem w_t2 : ((words1.drop 24).take 24).all (fun c => isCode c || c.before args0 about1) = true := by decide +kernel
set_option maxRecDepth 65536 in
theorem w_t3 : (((words1.drop 24).drop 24).take 24).all (fun c => isCode c || c.before args0 about1) = true := by decide +kernel
set_option maxRecDepth 65536 in
theorem w_t4 : ((((words1.drop 24).drop 24).drop 24).take 24).all (fun c => isCode c || c.before args0 about1) = true := by decide +kernel
set_option maxRecDepth 65536 in
theorem w_t5 : ((((words1.drop 24).drop 24).drop 24).drop 24).all (fun c => isCode c || c.before args0 about1) = true := by decide +kernel
theorem w_tables : (allAtoms (Jvm.Cond.code x code maxLocals ret :: tables_1)).before args0 about1 = true := by
  rw [allAtoms_all]
  show words1.all (fun c => c.before args0 about1) = true
  refine all_split ?_ w_codes
  rw [← List.take_append_drop 24 words1, List.all_append, w_t1, ← List.take_append_drop 24 (words1.drop 24), List.all_append, w_t2, ← List.take_append_drop 24 ((words1.drop 24).drop 24), List.all_append, w_t3, ← List.take_append_drop 24 (((words1.drop 24).drop 24).drop 24), List.all_append, w_t4, w_t5]
  rfl
set_option maxRecDepth 65536 in
theorem w_case : (Jvm.Cond.and given_1 narrow_1).before args0 about1 = true := by decide +kernel
theorem w_applies : (headSpec (Jvm.Cond.code x code maxLocals ret :: tables_1) room_1).applies x e0.platform about1 = true :=
  (Spec.applies_iff w_frames).mpr ⟨w_running, w_runnable, w_alone, w_named, w_hears, w_ripe, w_room, w_tables⟩
theorem atStart : AtStart classFile x code maxLocals ret World_1 tables_1 room_1 Calls_1 rest_1 Pre_1 launch0 p0 e0 about1 theMethod args0 below0 :=
  ⟨lists_1, trivial, launch0.admits_env _ _ _, launch0.least_env, fairChoices_fair.cas, fairChoices_fair.clock, w_frames, w_args, w_heap, w_applies, trivial, trivial, w_case⟩
end start1
theorem witness_1 : WitnessClaimed_1 := ⟨start1.p0, start1.e0, start1.about1, start1.theMethod, start1.args0, start1.below0, start1.atStart⟩
end Jvm.Pilot.@@N@@
