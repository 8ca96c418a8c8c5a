import JvmDerived
import JvmDerived.Pilot.@@N@@Statement
import JvmDerived.Pilot.@@N@@Code
set_option linter.unusedVariables false
set_option linter.unusedSimpArgs false
namespace Jvm.RoadKit
open Sem ClassFile Op Lib Jvm.Stand Jvm.Free Jvm.LawKit
section New
variable {p : Program} {l : Launch} {e : Env} {R : Room} {s : State} {m : MethodId} {args : Array Value} {below : List Frame} {meth : Method} {c : Code} {T : State} {locs : List Loc} {cells slots : Nat}
theorem retI (X : Stand p l e R s m args below meth c T locs cells slots) (hx : p.tables.exec = Jvm.exec) {pc : Nat} {Ls : Array Slot} {z : Int32} {rest : List Value} (hret : meth.sig.returnType = some .int) (hd : decode c.code pc = .ok (.ireturn, 1)) {fs : List Frame}
    (hl : ∀ (f : JFrame) (acts : List Action), f.method = m → f.locked = none → f.entered = [] → (doReturn e (T.setTop f) acts (some (.int z))).1 = T.setFrames fs) : Steps p.tables e below (T.setTop (mkF m pc Ls (.int z :: rest))) (T.setFrames fs) := by
  have hm' : T.vm.method? m = some meth := X.method'
  have hn : narrow .int (.int z) = .int z := rfl
  show Steps p.tables e below (T.setTop { method := m, pc := pc, locals := Ls, stack := _ :: rest, locked := none }) _
  jvm_step X.here [X.here.top, hx, hd, hm', hret, hn]
  first | (intro acts; rw [hl _ acts rfl rfl rfl]) | rw [hl _ _ rfl rfl rfl]
  exact Steps.refl _
end New
end Jvm.RoadKit
namespace Jvm.Pilot.@@N@@
open Jvm Jvm.ClassFile Sem Op Lib Jvm.Free Jvm.Stand Jvm.LawKit Jvm.RoadKit Bundle Jvm.Pilot.@@N@@.Jvm.D
theorem own_le {Z : State} {n0 : Nat} {h : Heap} (O : Old Z n0 h) : n0 ≤ h.size := O.1 ▸ O.2.1
theorem pn_com_example_januswire_januswire_sim_DueEvents : plainName "com/example/januswire/januswire/sim/DueEvents" = true := by first | (simp [plainName, overriddenIn]; done) | decide +kernel
theorem pn_com_example_januswire_januswire_sim_DueEventsIsEmptyPinLaw : plainName "com/example/januswire/januswire/sim/DueEventsIsEmptyPinLaw" = true := by first | (simp [plainName, overriddenIn]; done) | decide +kernel
theorem pd___Z : parseMethodDescriptor "()Z" = some ⟨[], some .boolean⟩ := by decide +kernel
theorem pd__J_V : parseMethodDescriptor "(J)V" = some ⟨[.long], none⟩ := by decide +kernel
theorem pd__JLjava_lang_Runnable__V : parseMethodDescriptor "(JLjava/lang/Runnable;)V" = some ⟨[.long, (.object "java/lang/Runnable")], none⟩ := by decide +kernel
theorem d1_0 : decode prog_187_method_1_code 0 = .ok (.aload_n 0, 1) := by decide +kernel
theorem d1_1 : decode prog_187_method_1_code 1 = .ok (.invokespecial 1, 3) := by decide +kernel
theorem d1_4 : decode prog_187_method_1_code 4 = .ok (.aload_n 0, 1) := by decide +kernel
theorem d1_5 : decode prog_187_method_1_code 5 = .ok (.bipush 16, 2) := by decide +kernel
theorem d1_7 : decode prog_187_method_1_code 7 = .ok (.anewarray 9, 3) := by decide +kernel
theorem d1_10 : decode prog_187_method_1_code 10 = .ok (.putfield 11, 3) := by decide +kernel
theorem d1_13 : decode prog_187_method_1_code 13 = .ok (.aload_n 0, 1) := by decide +kernel
theorem d1_14 : decode prog_187_method_1_code 14 = .ok (.bipush 16, 2) := by decide +kernel
theorem d1_16 : decode prog_187_method_1_code 16 = .ok (.newarray .int, 2) := by decide +kernel
theorem d1_18 : decode prog_187_method_1_code 18 = .ok (.putfield 15, 3) := by decide +kernel
theorem d1_21 : decode prog_187_method_1_code 21 = .ok (.aload_n 0, 1) := by decide +kernel
theorem d1_22 : decode prog_187_method_1_code 22 = .ok (.bipush 15, 2) := by decide +kernel
theorem d1_24 : decode prog_187_method_1_code 24 = .ok (.putfield 19, 3) := by decide +kernel
theorem d1_27 : decode prog_187_method_1_code 27 = .ok (.aload_n 0, 1) := by decide +kernel
theorem d1_28 : decode prog_187_method_1_code 28 = .ok (.ldc2_w 23, 3) := by decide +kernel
theorem d1_31 : decode prog_187_method_1_code 31 = .ok (.putfield 25, 3) := by decide +kernel
theorem d1_34 : decode prog_187_method_1_code 34 = .ok (.aload_n 0, 1) := by decide +kernel
theorem d1_35 : decode prog_187_method_1_code 35 = .ok (.lload_n 1, 1) := by decide +kernel
theorem d1_36 : decode prog_187_method_1_code 36 = .ok (.putfield 29, 3) := by decide +kernel
theorem d1_39 : decode prog_187_method_1_code 39 = .ok (.return_, 1) := by decide +kernel
theorem d3_0 : decode prog_187_method_3_code 0 = .ok (.aload_n 0, 1) := by decide +kernel
theorem d3_1 : decode prog_187_method_3_code 1 = .ok (.getfield 57, 3) := by decide +kernel
theorem d3_4 : decode prog_187_method_3_code 4 = .ok (.lconst 0, 1) := by decide +kernel
theorem d3_5 : decode prog_187_method_3_code 5 = .ok (.lcmp, 1) := by decide +kernel
theorem d3_6 : decode prog_187_method_3_code 6 = .ok (.ifCond .ne 7, 3) := by decide +kernel
theorem d3_9 : decode prog_187_method_3_code 9 = .ok (.iconst 1, 1) := by decide +kernel
theorem d3_10 : decode prog_187_method_3_code 10 = .ok (.goto 4, 3) := by decide +kernel
theorem d3_13 : decode prog_187_method_3_code 13 = .ok (.iconst 0, 1) := by decide +kernel
theorem d3_14 : decode prog_187_method_3_code 14 = .ok (.ireturn, 1) := by decide +kernel
theorem d4_0 : decode prog_187_method_2_code 0 = .ok (.lload_n 1, 1) := by decide +kernel
theorem d4_1 : decode prog_187_method_2_code 1 = .ok (.aload_n 0, 1) := by decide +kernel
theorem d4_2 : decode prog_187_method_2_code 2 = .ok (.getfield 25, 3) := by decide +kernel
theorem d4_5 : decode prog_187_method_2_code 5 = .ok (.lcmp, 1) := by decide +kernel
theorem d4_6 : decode prog_187_method_2_code 6 = .ok (.ifCond .gt 21, 3) := by decide +kernel
theorem d4_27 : decode prog_187_method_2_code 27 = .ok (.lload_n 1, 1) := by decide +kernel
theorem d4_28 : decode prog_187_method_2_code 28 = .ok (.aload_n 0, 1) := by decide +kernel
theorem d4_29 : decode prog_187_method_2_code 29 = .ok (.getfield 29, 3) := by decide +kernel
theorem d4_32 : decode prog_187_method_2_code 32 = .ok (.lcmp, 1) := by decide +kernel
theorem d4_33 : decode prog_187_method_2_code 33 = .ok (.ifCond .le 9, 3) := by decide +kernel
theorem d4_36 : decode prog_187_method_2_code 36 = .ok (.aload_n 0, 1) := by decide +kernel
theorem d4_37 : decode prog_187_method_2_code 37 = .ok (.iconst 1, 1) := by decide +kernel
theorem d4_38 : decode prog_187_method_2_code 38 = .ok (.putfield 41, 3) := by decide +kernel
theorem d4_41 : decode prog_187_method_2_code 41 = .ok (.return_, 1) := by decide +kernel
theorem d4_42 : decode prog_187_method_2_code 42 = .ok (.lload_n 1, 1) := by decide +kernel
theorem d4_43 : decode prog_187_method_2_code 43 = .ok (.aload_n 0, 1) := by decide +kernel
theorem d4_44 : decode prog_187_method_2_code 44 = .ok (.getfield 25, 3) := by decide +kernel
theorem d4_47 : decode prog_187_method_2_code 47 = .ok (.lsub, 1) := by decide +kernel
theorem d4_48 : decode prog_187_method_2_code 48 = .ok (.aload_n 0, 1) := by decide +kernel
theorem d4_49 : decode prog_187_method_2_code 49 = .ok (.getfield 19, 3) := by decide +kernel
theorem d4_52 : decode prog_187_method_2_code 52 = .ok (.i2l, 1) := by decide +kernel
theorem d4_53 : decode prog_187_method_2_code 53 = .ok (.lcmp, 1) := by decide +kernel
theorem d4_54 : decode prog_187_method_2_code 54 = .ok (.ifCond .le 8, 3) := by decide +kernel
theorem d4_57 : decode prog_187_method_2_code 57 = .ok (.aload_n 0, 1) := by decide +kernel
theorem d4_58 : decode prog_187_method_2_code 58 = .ok (.lload_n 1, 1) := by decide +kernel
theorem d4_59 : decode prog_187_method_2_code 59 = .ok (.invokevirtual 45, 3) := by decide +kernel
theorem d4_62 : decode prog_187_method_2_code 62 = .ok (.lload_n 1, 1) := by decide +kernel
theorem d4_63 : decode prog_187_method_2_code 63 = .ok (.aload_n 0, 1) := by decide +kernel
theorem d4_64 : decode prog_187_method_2_code 64 = .ok (.getfield 19, 3) := by decide +kernel
theorem d4_67 : decode prog_187_method_2_code 67 = .ok (.i2l, 1) := by decide +kernel
theorem d4_68 : decode prog_187_method_2_code 68 = .ok (.land, 1) := by decide +kernel
theorem d4_69 : decode prog_187_method_2_code 69 = .ok (.l2i, 1) := by decide +kernel
theorem d4_70 : decode prog_187_method_2_code 70 = .ok (.istore 4, 2) := by decide +kernel
theorem d4_72 : decode prog_187_method_2_code 72 = .ok (.aload_n 0, 1) := by decide +kernel
theorem d4_73 : decode prog_187_method_2_code 73 = .ok (.getfield 11, 3) := by decide +kernel
theorem d4_76 : decode prog_187_method_2_code 76 = .ok (.iload 4, 2) := by decide +kernel
theorem d4_78 : decode prog_187_method_2_code 78 = .ok (.aaload, 1) := by decide +kernel
theorem d4_79 : decode prog_187_method_2_code 79 = .ok (.astore 5, 2) := by decide +kernel
theorem d4_81 : decode prog_187_method_2_code 81 = .ok (.aload 5, 2) := by decide +kernel
theorem d4_83 : decode prog_187_method_2_code 83 = .ok (.ifnonnull 22, 3) := by decide +kernel
theorem d4_86 : decode prog_187_method_2_code 86 = .ok (.bipush 8, 2) := by decide +kernel
theorem d4_88 : decode prog_187_method_2_code 88 = .ok (.anewarray 49, 3) := by decide +kernel
theorem d4_91 : decode prog_187_method_2_code 91 = .ok (.astore 5, 2) := by decide +kernel
theorem d4_93 : decode prog_187_method_2_code 93 = .ok (.aload_n 0, 1) := by decide +kernel
theorem d4_94 : decode prog_187_method_2_code 94 = .ok (.getfield 11, 3) := by decide +kernel
theorem d4_97 : decode prog_187_method_2_code 97 = .ok (.iload 4, 2) := by decide +kernel
theorem d4_99 : decode prog_187_method_2_code 99 = .ok (.aload 5, 2) := by decide +kernel
theorem d4_101 : decode prog_187_method_2_code 101 = .ok (.aastore, 1) := by decide +kernel
theorem d4_102 : decode prog_187_method_2_code 102 = .ok (.goto 51, 3) := by decide +kernel
theorem d4_105 : decode prog_187_method_2_code 105 = .ok (.aload_n 0, 1) := by decide +kernel
theorem d4_106 : decode prog_187_method_2_code 106 = .ok (.getfield 15, 3) := by decide +kernel
theorem d4_109 : decode prog_187_method_2_code 109 = .ok (.iload 4, 2) := by decide +kernel
theorem d4_111 : decode prog_187_method_2_code 111 = .ok (.iaload, 1) := by decide +kernel
theorem d4_112 : decode prog_187_method_2_code 112 = .ok (.aload 5, 2) := by decide +kernel
theorem d4_114 : decode prog_187_method_2_code 114 = .ok (.arraylength, 1) := by decide +kernel
theorem d4_115 : decode prog_187_method_2_code 115 = .ok (.if_icmp .ne 38, 3) := by decide +kernel
theorem d4_153 : decode prog_187_method_2_code 153 = .ok (.aload 5, 2) := by decide +kernel
theorem d4_155 : decode prog_187_method_2_code 155 = .ok (.aload_n 0, 1) := by decide +kernel
theorem d4_156 : decode prog_187_method_2_code 156 = .ok (.getfield 15, 3) := by decide +kernel
theorem d4_159 : decode prog_187_method_2_code 159 = .ok (.iload 4, 2) := by decide +kernel
theorem d4_161 : decode prog_187_method_2_code 161 = .ok (.dup2, 1) := by decide +kernel
theorem d4_162 : decode prog_187_method_2_code 162 = .ok (.iaload, 1) := by decide +kernel
theorem d4_163 : decode prog_187_method_2_code 163 = .ok (.dup_x2, 1) := by decide +kernel
theorem d4_164 : decode prog_187_method_2_code 164 = .ok (.iconst 1, 1) := by decide +kernel
theorem d4_165 : decode prog_187_method_2_code 165 = .ok (.iadd, 1) := by decide +kernel
theorem d4_166 : decode prog_187_method_2_code 166 = .ok (.iastore, 1) := by decide +kernel
theorem d4_167 : decode prog_187_method_2_code 167 = .ok (.aload_n 3, 1) := by decide +kernel
theorem d4_168 : decode prog_187_method_2_code 168 = .ok (.aastore, 1) := by decide +kernel
theorem d4_169 : decode prog_187_method_2_code 169 = .ok (.aload_n 0, 1) := by decide +kernel
theorem d4_170 : decode prog_187_method_2_code 170 = .ok (.dup, 1) := by decide +kernel
theorem d4_171 : decode prog_187_method_2_code 171 = .ok (.getfield 57, 3) := by decide +kernel
theorem d4_174 : decode prog_187_method_2_code 174 = .ok (.lconst 1, 1) := by decide +kernel
theorem d4_175 : decode prog_187_method_2_code 175 = .ok (.ladd, 1) := by decide +kernel
theorem d4_176 : decode prog_187_method_2_code 176 = .ok (.putfield 57, 3) := by decide +kernel
theorem d4_179 : decode prog_187_method_2_code 179 = .ok (.return_, 1) := by decide +kernel
theorem d5_0 : decode prog_187_method_7_code 0 = .ok (.aload_n 0, 1) := by decide +kernel
theorem d5_1 : decode prog_187_method_7_code 1 = .ok (.getfield 11, 3) := by decide +kernel
theorem d5_4 : decode prog_187_method_7_code 4 = .ok (.arraylength, 1) := by decide +kernel
theorem d5_5 : decode prog_187_method_7_code 5 = .ok (.istore_n 3, 1) := by decide +kernel
theorem d5_6 : decode prog_187_method_7_code 6 = .ok (.lload_n 1, 1) := by decide +kernel
theorem d5_7 : decode prog_187_method_7_code 7 = .ok (.aload_n 0, 1) := by decide +kernel
theorem d5_8 : decode prog_187_method_7_code 8 = .ok (.getfield 25, 3) := by decide +kernel
theorem d5_11 : decode prog_187_method_7_code 11 = .ok (.lsub, 1) := by decide +kernel
theorem d5_12 : decode prog_187_method_7_code 12 = .ok (.iload_n 3, 1) := by decide +kernel
theorem d5_13 : decode prog_187_method_7_code 13 = .ok (.i2l, 1) := by decide +kernel
theorem d5_14 : decode prog_187_method_7_code 14 = .ok (.lcmp, 1) := by decide +kernel
theorem d5_15 : decode prog_187_method_7_code 15 = .ok (.ifCond .lt 10, 3) := by decide +kernel
theorem d5_18 : decode prog_187_method_7_code 18 = .ok (.iload_n 3, 1) := by decide +kernel
theorem d5_19 : decode prog_187_method_7_code 19 = .ok (.iconst 2, 1) := by decide +kernel
theorem d5_20 : decode prog_187_method_7_code 20 = .ok (.imul, 1) := by decide +kernel
theorem d5_21 : decode prog_187_method_7_code 21 = .ok (.istore_n 3, 1) := by decide +kernel
theorem d5_22 : decode prog_187_method_7_code 22 = .ok (.goto (-16), 3) := by decide +kernel
theorem d5_25 : decode prog_187_method_7_code 25 = .ok (.iload_n 3, 1) := by decide +kernel
theorem d5_26 : decode prog_187_method_7_code 26 = .ok (.anewarray 9, 3) := by decide +kernel
theorem d5_29 : decode prog_187_method_7_code 29 = .ok (.astore 4, 2) := by decide +kernel
theorem d5_31 : decode prog_187_method_7_code 31 = .ok (.iload_n 3, 1) := by decide +kernel
theorem d5_32 : decode prog_187_method_7_code 32 = .ok (.newarray .int, 2) := by decide +kernel
theorem d5_34 : decode prog_187_method_7_code 34 = .ok (.astore 5, 2) := by decide +kernel
theorem d5_36 : decode prog_187_method_7_code 36 = .ok (.iconst 0, 1) := by decide +kernel
theorem d5_37 : decode prog_187_method_7_code 37 = .ok (.istore 6, 2) := by decide +kernel
theorem d5_39 : decode prog_187_method_7_code 39 = .ok (.iload 6, 2) := by decide +kernel
theorem d5_41 : decode prog_187_method_7_code 41 = .ok (.aload_n 0, 1) := by decide +kernel
theorem d5_42 : decode prog_187_method_7_code 42 = .ok (.getfield 11, 3) := by decide +kernel
theorem d5_45 : decode prog_187_method_7_code 45 = .ok (.arraylength, 1) := by decide +kernel
theorem d5_46 : decode prog_187_method_7_code 46 = .ok (.if_icmp .ge 64, 3) := by decide +kernel
theorem d5_49 : decode prog_187_method_7_code 49 = .ok (.aload_n 0, 1) := by decide +kernel
theorem d5_50 : decode prog_187_method_7_code 50 = .ok (.getfield 25, 3) := by decide +kernel
theorem d5_53 : decode prog_187_method_7_code 53 = .ok (.iload 6, 2) := by decide +kernel
theorem d5_55 : decode prog_187_method_7_code 55 = .ok (.i2l, 1) := by decide +kernel
theorem d5_56 : decode prog_187_method_7_code 56 = .ok (.aload_n 0, 1) := by decide +kernel
theorem d5_57 : decode prog_187_method_7_code 57 = .ok (.getfield 25, 3) := by decide +kernel
theorem d5_60 : decode prog_187_method_7_code 60 = .ok (.lsub, 1) := by decide +kernel
theorem d5_61 : decode prog_187_method_7_code 61 = .ok (.aload_n 0, 1) := by decide +kernel
theorem d5_62 : decode prog_187_method_7_code 62 = .ok (.getfield 19, 3) := by decide +kernel
theorem d5_65 : decode prog_187_method_7_code 65 = .ok (.i2l, 1) := by decide +kernel
theorem d5_66 : decode prog_187_method_7_code 66 = .ok (.land, 1) := by decide +kernel
theorem d5_67 : decode prog_187_method_7_code 67 = .ok (.ladd, 1) := by decide +kernel
theorem d5_68 : decode prog_187_method_7_code 68 = .ok (.lstore 7, 2) := by decide +kernel
theorem d5_70 : decode prog_187_method_7_code 70 = .ok (.lload 7, 2) := by decide +kernel
theorem d5_72 : decode prog_187_method_7_code 72 = .ok (.iload_n 3, 1) := by decide +kernel
theorem d5_73 : decode prog_187_method_7_code 73 = .ok (.iconst 1, 1) := by decide +kernel
theorem d5_74 : decode prog_187_method_7_code 74 = .ok (.isub, 1) := by decide +kernel
theorem d5_75 : decode prog_187_method_7_code 75 = .ok (.i2l, 1) := by decide +kernel
theorem d5_76 : decode prog_187_method_7_code 76 = .ok (.land, 1) := by decide +kernel
theorem d5_77 : decode prog_187_method_7_code 77 = .ok (.l2i, 1) := by decide +kernel
theorem d5_78 : decode prog_187_method_7_code 78 = .ok (.istore 9, 2) := by decide +kernel
theorem d5_80 : decode prog_187_method_7_code 80 = .ok (.aload 4, 2) := by decide +kernel
theorem d5_82 : decode prog_187_method_7_code 82 = .ok (.iload 9, 2) := by decide +kernel
theorem d5_84 : decode prog_187_method_7_code 84 = .ok (.aload_n 0, 1) := by decide +kernel
theorem d5_85 : decode prog_187_method_7_code 85 = .ok (.getfield 11, 3) := by decide +kernel
theorem d5_88 : decode prog_187_method_7_code 88 = .ok (.iload 6, 2) := by decide +kernel
theorem d5_90 : decode prog_187_method_7_code 90 = .ok (.aaload, 1) := by decide +kernel
theorem d5_91 : decode prog_187_method_7_code 91 = .ok (.aastore, 1) := by decide +kernel
theorem d5_92 : decode prog_187_method_7_code 92 = .ok (.aload 5, 2) := by decide +kernel
theorem d5_94 : decode prog_187_method_7_code 94 = .ok (.iload 9, 2) := by decide +kernel
theorem d5_96 : decode prog_187_method_7_code 96 = .ok (.aload_n 0, 1) := by decide +kernel
theorem d5_97 : decode prog_187_method_7_code 97 = .ok (.getfield 15, 3) := by decide +kernel
theorem d5_100 : decode prog_187_method_7_code 100 = .ok (.iload 6, 2) := by decide +kernel
theorem d5_102 : decode prog_187_method_7_code 102 = .ok (.iaload, 1) := by decide +kernel
theorem d5_103 : decode prog_187_method_7_code 103 = .ok (.iastore, 1) := by decide +kernel
theorem d5_104 : decode prog_187_method_7_code 104 = .ok (.iinc 6 1, 3) := by decide +kernel
theorem d5_107 : decode prog_187_method_7_code 107 = .ok (.goto (-68), 3) := by decide +kernel
theorem d5_110 : decode prog_187_method_7_code 110 = .ok (.aload_n 0, 1) := by decide +kernel
theorem d5_111 : decode prog_187_method_7_code 111 = .ok (.aload 4, 2) := by decide +kernel
theorem d5_113 : decode prog_187_method_7_code 113 = .ok (.putfield 11, 3) := by decide +kernel
theorem d5_116 : decode prog_187_method_7_code 116 = .ok (.aload_n 0, 1) := by decide +kernel
theorem d5_117 : decode prog_187_method_7_code 117 = .ok (.aload 5, 2) := by decide +kernel
theorem d5_119 : decode prog_187_method_7_code 119 = .ok (.putfield 15, 3) := by decide +kernel
theorem d5_122 : decode prog_187_method_7_code 122 = .ok (.aload_n 0, 1) := by decide +kernel
theorem d5_123 : decode prog_187_method_7_code 123 = .ok (.iload_n 3, 1) := by decide +kernel
theorem d5_124 : decode prog_187_method_7_code 124 = .ok (.iconst 1, 1) := by decide +kernel
theorem d5_125 : decode prog_187_method_7_code 125 = .ok (.isub, 1) := by decide +kernel
theorem d5_126 : decode prog_187_method_7_code 126 = .ok (.putfield 19, 3) := by decide +kernel
theorem d5_129 : decode prog_187_method_7_code 129 = .ok (.return_, 1) := by decide +kernel
theorem own_dupX2 {tb : Tables} [Ours tb] {e : Env} {below : List Frame} {T target : State} {m : MethodId} {c : Code} {g : JFrame} (h : At T m c below) (hx : tb.exec = Jvm.exec) (hg : g.method = m) {u v w : Value} {rest : List Value} (hd : decode c.code g.pc = .ok (.dup_x2, 1)) (hs : g.stack = u :: v :: w :: rest) (h1 : u.category = 1) (h2 : v.category = 1) (h3 : w.category = 1)
    (hr : Steps tb e below (T.setTop { g with pc := g.pc + 1, stack := u :: v :: w :: u :: rest }) target) : Steps tb e below (T.setTop g) target := by
  subst hg
  jvm_step h [h.top, hx, hd, hs, h1, h2, h3]
  exact hr
theorem own_sel {Z s : State} {a0 args : Array Value} {y : MethodName} {n : Nat} (hZ : Z.Warmed39 s.vm) (wi : (Jvm.Cond.instantiable y.cls n).before a0 Z = true) (wp : (Jvm.Cond.privateMethod y).before a0 Z = true) (wm : (Jvm.Cond.instanceMethod y).before a0 Z = true) (hy : y.cls ≠ "java/lang/invoke/MethodHandle" ∧ y.cls ≠ "java/lang/invoke/VarHandle") : (Jvm.Cond.selects y.cls y y).before args s = true := by
  obtain ⟨c, k, h1, h2, -, h4, -⟩ := Cond.instantiable_spec (mv (args := args) hZ wi)
  exact selects_self_of_private h1 h2 (Bool.or_eq_false_iff.mp h4).1 (Cond.privateMethod_at (mvP hZ wp (args := #[]))) (mvT hZ wm) hy
section OwnDue
variable {Z : State} {h h' : Heap} {a b x r : Addr} {n0 sl : Nat} {v : Value} {M k j y : Int32} {a0 : Array Value}
def Rn (Z : State) (h : Heap) (r : Addr) : Prop := ∃ c : Cell, Arr Z h r c (.object "java/lang/Runnable") ∧ c.slots.size = (8 : Int32).toNatClampNeg ∧ Exa Z h r "[Ljava/lang/Runnable;"
theorem Rn.ext (F : Rn Z h r) (E : Ext h h') : Rn Z h' r := by obtain ⟨c, A, S, X⟩ := F; exact ⟨c, A.ext E, S, X.ext E⟩
theorem Rn.wr (F : Rn Z h r) (W : Wr h h' x sl v) : Rn Z h' r := by
  obtain ⟨c, A, S, X⟩ := F
  by_cases q : r = x
  · subst q; exact ⟨_, A.same W, by rw [sz_set]; exact S, X.wr W⟩
  · exact ⟨c, A.other W q, S, X.wr W⟩
theorem Rn.lt (F : Rn Z h r) : r < h.size := by obtain ⟨c, A, -⟩ := F; exact A.lt
def EvH (Z : State) (n0 : Nat) (h : Heap) (c : Cell) : Prop := ∀ j : Int32, ¬ (j < 0 ∨ c.slots.size ≤ j.toNatClampNeg) → c.slots[j.toNatClampNeg]? = some .null ∨ ∃ r, c.slots[j.toNatClampNeg]? = some (.ref r) ∧ n0 ≤ r ∧ Rn Z h r
def Evs (Z : State) (n0 : Nat) (h : Heap) (a : Addr) (M : Int32) : Prop := ∃ c : Cell, Arr Z h a c (.array (.object "java/lang/Runnable")) ∧ OvrA Z c.cls (.object "java/lang/Runnable") "[Ljava/lang/Runnable;" ∧ c.slots.size = M.toNatClampNeg ∧ ¬ M < 0 ∧ EvH Z n0 h c
theorem Evs.ext (F : Evs Z n0 h a M) (E : Ext h h') : Evs Z n0 h' a M := by
  obtain ⟨c, A, O, S, N, H⟩ := F
  exact ⟨c, A.ext E, O, S, N, fun j hj => (H j hj).imp id fun ⟨r, h1, h2, h3⟩ => ⟨r, h1, h2, h3.ext E⟩⟩
theorem Evs.other (F : Evs Z n0 h a M) (W : Wr h h' x sl v) (q : a ≠ x) : Evs Z n0 h' a M := by
  obtain ⟨c, A, O, S, N, H⟩ := F
  exact ⟨c, A.other W q, O, S, N, fun j hj => (H j hj).imp id fun ⟨r, h1, h2, h3⟩ => ⟨r, h1, h2, h3.wr W⟩⟩
theorem Evs.lt (F : Evs Z n0 h a M) : a < h.size := by obtain ⟨c, A, -⟩ := F; exact A.lt
theorem Evs.set {c : Cell} (A : Arr Z h a c (.array (.object "java/lang/Runnable"))) (O : OvrA Z c.cls (.object "java/lang/Runnable") "[Ljava/lang/Runnable;") (S : c.slots.size = M.toNatClampNeg) (N : ¬ M < 0) (H : EvH Z n0 h c) (hj : ¬ (j < 0 ∨ c.slots.size ≤ j.toNatClampNeg)) (W : Wr h h' a j.toNatClampNeg v) (hv : v = .null ∨ ∃ r, v = .ref r ∧ n0 ≤ r ∧ Rn Z h r) : Evs Z n0 h' a M := by
  refine ⟨_, A.same W, O, by rw [sz_set]; exact S, N, fun i hi => ?_⟩
  rw [sz_set] at hi
  by_cases q : i = j
  · rcases hv with rfl | ⟨r, rfl, h1, h2⟩
    · exact Or.inl (get_hit hj q)
    · exact Or.inr ⟨r, get_hit hj q, h1, h2.wr W⟩
  · have g := get_miss (c := c) (v := v) (fun z => hj (Or.inl z)) (fun z => hi (Or.inl z)) q
    rcases H i hi with e | ⟨r, e, h1, h2⟩
    · exact Or.inl (g.trans e)
    · exact Or.inr ⟨r, g.trans e, h1, h2.wr W⟩
theorem Evs.new {cA : ClassId} (A : Arr Z h a (newA cA (.array (.object "java/lang/Runnable")) M) (.array (.object "java/lang/Runnable"))) (O : OvrA Z cA (.object "java/lang/Runnable") "[Ljava/lang/Runnable;") (N : ¬ M < 0) : Evs Z n0 h a M :=
  ⟨_, A, O, sz_new _ _ _, N, fun j hj => Or.inl (get_new (by rw [sz_new] at hj; exact hj))⟩
def CtH (c : Cell) (k : Int32) : Prop := ∀ j : Int32, ¬ (j < 0 ∨ c.slots.size ≤ j.toNatClampNeg) → ∃ y, c.slots[j.toNatClampNeg]? = some (.int y) ∧ ¬ y < 0 ∧ ¬ k < y
def Cts (Z : State) (h : Heap) (a : Addr) (M k : Int32) : Prop := ∃ c : Cell, Arr Z h a c .int ∧ c.slots.size = M.toNatClampNeg ∧ ¬ M < 0 ∧ CtH c k
theorem Cts.ext (F : Cts Z h a M k) (E : Ext h h') : Cts Z h' a M k := by obtain ⟨c, A, r⟩ := F; exact ⟨c, A.ext E, r⟩
theorem Cts.other (F : Cts Z h a M k) (W : Wr h h' x sl v) (q : a ≠ x) : Cts Z h' a M k := by obtain ⟨c, A, r⟩ := F; exact ⟨c, A.other W q, r⟩
theorem Cts.lt (F : Cts Z h a M k) : a < h.size := by obtain ⟨c, A, -⟩ := F; exact A.lt
theorem Cts.set {k' : Int32} {c : Cell} (A : Arr Z h a c .int) (S : c.slots.size = M.toNatClampNeg) (N : ¬ M < 0) (H : CtH c k) (hj : ¬ (j < 0 ∨ c.slots.size ≤ j.toNatClampNeg)) (W : Wr h h' a j.toNatClampNeg (.int y)) (h0 : ¬ y < 0) (h1 : ¬ k' < y) (hk : ∀ z, ¬ k < z → ¬ k' < z) : Cts Z h' a M k' := by
  refine ⟨_, A.same W, by rw [sz_set]; exact S, N, fun i hi => ?_⟩
  rw [sz_set] at hi
  by_cases q : i = j
  · exact ⟨y, get_hit hj q, h0, h1⟩
  · obtain ⟨z, e, g1, g2⟩ := H i hi
    exact ⟨z, (get_miss (c := c) (v := .int y) (fun z => hj (Or.inl z)) (fun z => hi (Or.inl z)) q).trans e, g1, hk _ g2⟩
theorem Cts.new {cA : ClassId} (A : Arr Z h a (newA cA .int M) .int) (N : ¬ M < 0) (h0 : ¬ k < 0) : Cts Z h a M k :=
  ⟨_, A, sz_new _ _ _, N, fun j hj => ⟨0, get_new (by rw [sz_new] at hj; exact hj), by decide, h0⟩⟩
theorem own_arne {c c' : Cell} {t t' : FieldType} (A : Arr Z h a c t) (B : Arr Z h b c' t') (q : t ≠ t') : a ≠ b := fun e => by
  subst e
  cases A.1.symm.trans B.1
  obtain ⟨-, k, hk, comp, hkind⟩ := A.2.1
  obtain ⟨-, k', hk', comp', hkind'⟩ := B.2.1
  cases hk.symm.trans hk'
  rw [hkind] at hkind'
  injection hkind' with _ e
  exact q e
theorem own_ec (F : Evs Z n0 h a M) (G : Cts Z h b y k) : a ≠ b := by obtain ⟨_, A, -⟩ := F; obtain ⟨_, B, -⟩ := G; exact own_arne A B (by decide)
theorem own_er (F : Evs Z n0 h a M) (G : Rn Z h b) : a ≠ b := by obtain ⟨_, A, -⟩ := F; obtain ⟨_, B, -⟩ := G; exact own_arne A B (by decide)
theorem own_cr (F : Cts Z h a M k) (G : Rn Z h b) : a ≠ b := by obtain ⟨_, A, -⟩ := F; obtain ⟨_, B, -⟩ := G; exact own_arne A B (by decide)
theorem own_de {C : String} {n : Nat} (E : Exa Z h a C) (w : (Jvm.Cond.instantiable C n).before a0 Z = true) (F : Evs Z n0 h b M) : a ≠ b := by obtain ⟨_, A, -⟩ := F; exact ne_arr E w A
theorem own_dc {C : String} {n : Nat} (E : Exa Z h a C) (w : (Jvm.Cond.instantiable C n).before a0 Z = true) (F : Cts Z h b M k) : a ≠ b := by obtain ⟨_, A, -⟩ := F; exact ne_arr E w A
theorem own_dr {C : String} {n : Nat} (E : Exa Z h a C) (w : (Jvm.Cond.instantiable C n).before a0 Z = true) (F : Rn Z h b) : a ≠ b := by obtain ⟨_, A, -⟩ := F; exact ne_arr E w A
def DueF (Z : State) (n0 : Nat) (h : Heap) (a : Addr) (q : Int64) (M : Int32) (P : Int64) (k : Int32) (ev ct : Addr) (d : Value) : Prop := n0 ≤ ev ∧ n0 ≤ ct ∧ Exa Z h a "com/example/januswire/januswire/sim/DueEvents" ∧ Fld Z h a "com/example/januswire/januswire/sim/DueEvents" "events" "[[Ljava/lang/Runnable;" (.ref ev) ∧ Fld Z h a "com/example/januswire/januswire/sim/DueEvents" "counts" "[I" (.ref ct) ∧ Fld Z h a "com/example/januswire/januswire/sim/DueEvents" "mask" "I" (.int (M - 1)) ∧ Fld Z h a "com/example/januswire/januswire/sim/DueEvents" "current" "J" (.long (-1)) ∧ Fld Z h a "com/example/januswire/januswire/sim/DueEvents" "lastTick" "J" (.long q) ∧ Fld Z h a "com/example/januswire/januswire/sim/DueEvents" "pending" "J" (.long P) ∧ Fld Z h a "com/example/januswire/januswire/sim/DueEvents" "droppedLate" "Z" d ∧ Evs Z n0 h ev M ∧ Cts Z h ct M k
def Due (Z : State) (n0 : Nat) (h : Heap) (a : Addr) (q : Int64) (M : Int32) (P : Int64) (k : Int32) : Prop := ∃ (ev ct : Addr) (d : Value), DueF Z n0 h a q M P k ev ct d
theorem own_cnt {k x : Int32} (hk : k < (7 : Int32)) (h0 : ¬ x < 0) (h1 : ¬ k < x) : (¬ x = (8 : Int32)) ∧ (¬ x < 0 ∧ x < (8 : Int32)) ∧ ¬ (x + (1 : Int32)) < 0 ∧ ¬ (k + (1 : Int32)) < (x + (1 : Int32)) ∧ ∀ z, ¬ k < z → ¬ (k + (1 : Int32)) < z := by
  have a1 := c_iadd x 1
  have a2 := c_iadd k 1
  have r1 := rng32 x
  have r2 := rng32 k
  have r3 := rng32 (x + 1)
  have r4 := rng32 (k + 1)
  have e1 : (1 : Int32).toInt = 1 := rfl
  have e0 : (0 : Int32).toInt = 0 := rfl
  have e7 : (7 : Int32).toInt = 7 := rfl
  have e8 : (8 : Int32).toInt = 8 := rfl
  simp only [Int32.lt_iff_toInt_lt, ← Int32.toInt_inj] at *
  refine ⟨by omega, by omega, by omega, by omega, fun z hz => by omega⟩
end OwnDue
theorem own_to16 (x : Int64) : ¬ ((x &&& (((16 : Int32) - (1 : Int32)).toInt64)).toInt32) < 0 ∧ ((x &&& (((16 : Int32) - (1 : Int32)).toInt64)).toInt32) < (16 : Int32) := by
  have e := c_maskL x (((16 : Int32) - (1 : Int32)).toInt64) 4 (by decide) (by decide)
  have i := c_l2i (x &&& (((16 : Int32) - (1 : Int32)).toInt64))
  have r := rng32 (x &&& (((16 : Int32) - (1 : Int32)).toInt64)).toInt32
  have z : (0 : Int32).toInt = 0 := rfl
  have w : (16 : Int32).toInt = 16 := rfl
  simp only [Int32.lt_iff_toInt_lt]
  omega
theorem own_to32 (x : Int64) : ¬ ((x &&& (((32 : Int32) - (1 : Int32)).toInt64)).toInt32) < 0 ∧ ((x &&& (((32 : Int32) - (1 : Int32)).toInt64)).toInt32) < (32 : Int32) := by
  have e := c_maskL x (((32 : Int32) - (1 : Int32)).toInt64) 5 (by decide) (by decide)
  have i := c_l2i (x &&& (((32 : Int32) - (1 : Int32)).toInt64))
  have r := rng32 (x &&& (((32 : Int32) - (1 : Int32)).toInt64)).toInt32
  have z : (0 : Int32).toInt = 0 := rfl
  have w : (32 : Int32).toInt = 32 := rfl
  simp only [Int32.lt_iff_toInt_lt]
  omega
theorem own_to64 (x : Int64) : ¬ ((x &&& (((64 : Int32) - (1 : Int32)).toInt64)).toInt32) < 0 ∧ ((x &&& (((64 : Int32) - (1 : Int32)).toInt64)).toInt32) < (64 : Int32) := by
  have e := c_maskL x (((64 : Int32) - (1 : Int32)).toInt64) 6 (by decide) (by decide)
  have i := c_l2i (x &&& (((64 : Int32) - (1 : Int32)).toInt64))
  have r := rng32 (x &&& (((64 : Int32) - (1 : Int32)).toInt64)).toInt32
  have z : (0 : Int32).toInt = 0 := rfl
  have w : (64 : Int32).toInt = 64 := rfl
  simp only [Int32.lt_iff_toInt_lt]
  omega
theorem own_to128 (x : Int64) : ¬ ((x &&& (((128 : Int32) - (1 : Int32)).toInt64)).toInt32) < 0 ∧ ((x &&& (((128 : Int32) - (1 : Int32)).toInt64)).toInt32) < (128 : Int32) := by
  have e := c_maskL x (((128 : Int32) - (1 : Int32)).toInt64) 7 (by decide) (by decide)
  have i := c_l2i (x &&& (((128 : Int32) - (1 : Int32)).toInt64))
  have r := rng32 (x &&& (((128 : Int32) - (1 : Int32)).toInt64)).toInt32
  have z : (0 : Int32).toInt = 0 := rfl
  have w : (128 : Int32).toInt = 128 := rfl
  simp only [Int32.lt_iff_toInt_lt]
  omega
set_option maxRecDepth 65536 in
set_option maxHeartbeats 40000000 in
theorem tail {p : Program} {l : Launch} {e : Env} {R : Room} {s : State} {m : MethodId} {args : Array Value} {below : List Frame} {meth : Method} {c : Code} {T0 : State} {locs : List Loc} {cells slots : Nat} {Z : State} {a0 : Array Value} {h0 : Heap} {n0 : Nat} {a1 : Addr} {q1 t1 P : Int64} {M k : Int32}
    (X0 : Stand p l e R s m args below meth c T0 locs cells slots) (hx : p.tables.exec = Jvm.exec) (hZ : Z.Warmed39 s.vm) (hw : ∀ d ∈ tables_1, d.before a0 Z = true) (hby : c.code = prog_187_method_2_code) (hml : c.maxLocals = 7) (hown : s.vm.findClass "com/example/januswire/januswire/sim/DueEvents" = some m.cls) (e0 : T0.heap = h0) (O0 : Old Z n0 h0) (N0 : Fr n0 locs) (hD : Due Z n0 h0 a1 q1 M P k) (g1 : n0 ≤ a1) (hk7 : k < (7 : Int32)) (hto : ¬ ((t1 &&& ((M - 1).toInt64)).toInt32) < 0 ∧ ((t1 &&& ((M - 1).toInt64)).toInt32) < M) (hcR : cells + 1 ≤ R.cells) (hsR : slots + 8 ≤ R.slots) :
    ∃ (T' : State) (h' : Heap) (locs' : List Loc) (du : Addr), Stand p l e R s m args below meth c T' locs' (cells + 1) (slots + 8) ∧ T'.heap = h' ∧ Old Z n0 h' ∧ Fr n0 locs' ∧ Due Z n0 h' a1 q1 M (P + 1) (k + 1) ∧ ∀ t, Steps p.tables e below (T'.setTop (mkF m 179 #[.val (.ref a1), .val (.long t1), .second, .val .null, .val (.int (t1 &&& ((M - 1).toInt64)).toInt32), .val (.ref du), .unset] [])) t → Steps p.tables e below (T0.setTop (mkF m 62 #[.val (.ref a1), .val (.long t1), .second, .val .null, .unset, .unset, .unset] [])) t := by
  have hD_ := hD; obtain ⟨ev, ct, dd, gev, gct, E_a1, F_events, F_counts, F_mask, F_current, F_lastTick, F_pending, F_droppedLate, Ev, Ct⟩ := hD_
  have ne_d_e : a1 ≠ ev := own_de E_a1 (hw _ (List.mem_of_getElem? (i := 1) rfl)) Ev
  have ne_d_c : a1 ≠ ct := own_dc E_a1 (hw _ (List.mem_of_getElem? (i := 1) rfl)) Ct
  have ne_e_c : ev ≠ ct := own_ec Ev Ct
  obtain ⟨T1, X1, e1, st1⟩ := getF X0 hx hZ hown (host := "") (Or.inl (hw _ (List.mem_of_getElem? (i := 16) rfl))) Via.refl e0 F_mask (g := (mkF m 64 #[.val (.ref a1), .val (.long t1), .second, .val .null, .unset, .unset, .unset] [(.ref a1), (.long t1)])) rfl rfl (hb hby d4_64)
  obtain ⟨T2, X2, e2, st2⟩ := getF X1 hx hZ hown (host := "") (Or.inl (hw _ (List.mem_of_getElem? (i := 11) rfl))) Via.refl e1 F_events (g := (mkF m 73 #[.val (.ref a1), .val (.long t1), .second, .val .null, .val (.int ((t1 &&& ((M - 1).toInt64)).toInt32)), .unset, .unset] [(.ref a1)])) rfl rfl (hb hby d4_73)
  have Vc3 := Ev
  obtain ⟨ce3, Ae3, Oe3, Se3, Ne3, He3⟩ := Vc3
  have hin3 : ¬ (((t1 &&& ((M - 1).toInt64)).toInt32) < 0 ∨ ce3.slots.size ≤ (((t1 &&& ((M - 1).toInt64)).toInt32)).toNatClampNeg) := inb_of Se3 hto
  rcases He3 _ hin3 with hat3 | ⟨r3, hat3, gr3, Rr3⟩
  · obtain ⟨T4, h4, k4, X4, e4, E4, A4, Xa4, Ov4, st4⟩ := newRE X2 hx hZ hown (hw _ (List.mem_of_getElem? (i := 35) rfl)) (hw _ (List.mem_of_getElem? (i := 36) rfl)) e2 (g := (mkF m 88 #[.val (.ref a1), .val (.long t1), .second, .val .null, .val (.int ((t1 &&& ((M - 1).toInt64)).toInt32)), .val .null, .unset] [(.int (8 : Int32))])) rfl (hb hby d4_88) rfl (by decide) (cap := 8) (by decide) (by decide) (by omega) (by omega) (ad := "[Ljava/lang/Runnable;") (by decide)
    obtain ⟨b4, g4⟩ : ∃ z, z = h0.size := ⟨_, rfl⟩
    rw [← g4] at A4 Xa4 st4
    have ne_a1_b4 : a1 ≠ b4 := Nat.ne_of_lt (Nat.lt_of_lt_of_le E_a1.lt (Nat.le_of_eq g4.symm))
    have ne_ev_b4 : ev ≠ b4 := Nat.ne_of_lt (Nat.lt_of_lt_of_le Ev.lt (Nat.le_of_eq g4.symm))
    have ne_ct_b4 : ct ≠ b4 := Nat.ne_of_lt (Nat.lt_of_lt_of_le Ct.lt (Nat.le_of_eq g4.symm))
    have g_b4 : n0 ≤ b4 := Nat.le_trans (own_le O0) (Nat.le_of_eq g4.symm)
    have O4 := O0.ext E4
    have Rr4 : Rn Z h4 b4 := ⟨_, A4, sz_new _ _ _, Xa4⟩
    have f5 := (F_events.ext E4)
    obtain ⟨T6, X6, e6, st6⟩ := getF X4 hx hZ hown (host := "") (Or.inl (hw _ (List.mem_of_getElem? (i := 11) rfl))) Via.refl e4 f5 (g := (mkF m 94 #[.val (.ref a1), .val (.long t1), .second, .val .null, .val (.int ((t1 &&& ((M - 1).toInt64)).toInt32)), .val (.ref b4), .unset] [(.ref a1)])) rfl rfl (hb hby d4_94)
    have f8 := (Ev.ext E4)
    have Vc7 := f8
    obtain ⟨ce7, Ae7, Oe7, Se7, Ne7, He7⟩ := Vc7
    have hin7 : ¬ (((t1 &&& ((M - 1).toInt64)).toInt32) < 0 ∨ ce7.slots.size ≤ (((t1 &&& ((M - 1).toInt64)).toInt32)).toNatClampNeg) := inb_of Se7 hto
    have f9 := Rr4
    obtain ⟨T7, h7, X7, e7, W7, st7⟩ := stR X6 hx hZ e6 Ae7 (j := ((t1 &&& ((M - 1).toInt64)).toInt32)) hin7 rfl (Sto.ofVA Ae7 rfl Oe7 (Ins.self f9.choose_spec.2.2)) (g := (mkF m 101 #[.val (.ref a1), .val (.long t1), .second, .val .null, .val (.int ((t1 &&& ((M - 1).toInt64)).toInt32)), .val (.ref b4), .unset] [(.ref b4), (.int ((t1 &&& ((M - 1).toInt64)).toInt32)), (.ref ev)])) rfl rfl (hb hby d4_101)
    have V7 : Evs Z n0 h7 ev M := Evs.set Ae7 Oe7 Se7 Ne7 He7 hin7 W7 (Or.inr ⟨_, rfl, g_b4, f9⟩)
    have O7 := O4.wr W7 gev
    have N7 := Fr.snoc X7 N0 gev
    have f10 := ((F_counts.ext E4).other W7 (Or.inl ne_d_e))
    obtain ⟨T11, X11, e11, st11⟩ := getF X7 hx hZ hown (host := "") (Or.inl (hw _ (List.mem_of_getElem? (i := 14) rfl))) Via.refl e7 f10 (g := (mkF m 156 #[.val (.ref a1), .val (.long t1), .second, .val .null, .val (.int ((t1 &&& ((M - 1).toInt64)).toInt32)), .val (.ref b4), .unset] [(.ref a1), (.ref b4)])) rfl rfl (hb hby d4_156)
    have f13 := ((Ct.ext E4).other W7 (Ne.symm ne_e_c))
    have Vc12 := f13
    obtain ⟨cc12, Ac12, Sc12, Nc12, Hc12⟩ := Vc12
    have hin12 : ¬ (((t1 &&& ((M - 1).toInt64)).toInt32) < 0 ∨ cc12.slots.size ≤ (((t1 &&& ((M - 1).toInt64)).toInt32)).toNatClampNeg) := inb_of Sc12 hto
    obtain ⟨x12, hat12, lo12, hi12⟩ := Hc12 _ hin12
    have Vc14 := f13
    obtain ⟨cc14, Ac14, Sc14, Nc14, Hc14⟩ := Vc14
    have hin14 : ¬ (((t1 &&& ((M - 1).toInt64)).toInt32) < 0 ∨ cc14.slots.size ≤ (((t1 &&& ((M - 1).toInt64)).toInt32)).toNatClampNeg) := inb_of Sc14 hto
    obtain ⟨T14, h14, X14, e14, W14, st14⟩ := stI X11 hx hZ e11 Ac14 (j := ((t1 &&& ((M - 1).toInt64)).toInt32)) hin14 (g := (mkF m 166 #[.val (.ref a1), .val (.long t1), .second, .val .null, .val (.int ((t1 &&& ((M - 1).toInt64)).toInt32)), .val (.ref b4), .unset] [(.int (x12 + (1 : Int32))), (.int ((t1 &&& ((M - 1).toInt64)).toInt32)), (.ref ct), (.int x12), (.ref b4)])) rfl rfl (hb hby d4_166)
    have V14 : Cts Z h14 ct M (k + 1) := Cts.set Ac14 Sc14 Nc14 Hc14 hin14 W14 (own_cnt hk7 lo12 hi12).2.2.1 (own_cnt hk7 lo12 hi12).2.2.2.1 (own_cnt hk7 lo12 hi12).2.2.2.2
    have O14 := O7.wr W14 gct
    have N14 := Fr.snoc X14 N7 gct
    have f16 := ((f9.wr W7).wr W14)
    have Vc15 := f16
    obtain ⟨cr15, Ar15, Sr15, Xr15⟩ := Vc15
    have hin15 : ¬ (x12 < 0 ∨ cr15.slots.size ≤ (x12).toNatClampNeg) := inb_of Sr15 (own_cnt hk7 lo12 hi12).2.1
    obtain ⟨T15, h15, X15, e15, W15, st15⟩ := stR X14 hx hZ e14 Ar15 (j := x12) hin15 rfl (Or.inl rfl) (g := (mkF m 168 #[.val (.ref a1), .val (.long t1), .second, .val .null, .val (.int ((t1 &&& ((M - 1).toInt64)).toInt32)), .val (.ref b4), .unset] [.null, (.int x12), (.ref b4)])) rfl rfl (hb hby d4_168)
    have O15 := O14.wr W15 g_b4
    have N15 := Fr.snoc X15 N14 g_b4
    have f17 := ((((F_pending.ext E4).other W7 (Or.inl ne_d_e)).other W14 (Or.inl ne_d_c)).other W15 (Or.inl ne_a1_b4))
    obtain ⟨T18, X18, e18, st18⟩ := getF X15 hx hZ hown (host := "") (Or.inl (hw _ (List.mem_of_getElem? (i := 28) rfl))) Via.refl e15 f17 (g := (mkF m 171 #[.val (.ref a1), .val (.long t1), .second, .val .null, .val (.int ((t1 &&& ((M - 1).toInt64)).toInt32)), .val (.ref b4), .unset] [(.ref a1), (.ref a1)])) rfl rfl (hb hby d4_171)
    have f19 := ((((E_a1.ext E4).wr W7).wr W14).wr W15)
    obtain ⟨T20, h20, X20, e20, W20, st20⟩ := putF X18 hx hZ hown (host := "") (Or.inl (hw _ (List.mem_of_getElem? (i := 28) rfl))) Via.refl e18 f17 f19 (Or.inl (hw _ (List.mem_of_getElem? (i := 29) rfl))) (hw _ (List.mem_of_getElem? (i := 1) rfl)) (ty := .long) (by decide) rfl rfl (g := (mkF m 176 #[.val (.ref a1), .val (.long t1), .second, .val .null, .val (.int ((t1 &&& ((M - 1).toInt64)).toInt32)), .val (.ref b4), .unset] [(.long (P + (1 : Int64))), (.ref a1)])) rfl rfl (hb hby d4_176)
    have Fw20 := f17.same W20
    have O20 := O15.wr W20 g1
    have N20 := Fr.snoc X20 N15 g1
    have f21 := (f19.wr W20)
    have f22 := ((((f5.other W7 (Or.inl ne_d_e)).other W14 (Or.inl ne_d_c)).other W15 (Or.inl ne_a1_b4)).other W20 (Or.inr (slot_ne (Or.inl (hw _ (List.mem_of_getElem? (i := 12) rfl))) (Or.inl (hw _ (List.mem_of_getElem? (i := 29) rfl))) (by decide) (t := (.array (.array (.object "java/lang/Runnable")))) (t' := .long) (by decide) (by decide))))
    have f23 := (((f10.other W14 (Or.inl ne_d_c)).other W15 (Or.inl ne_a1_b4)).other W20 (Or.inr (slot_ne (Or.inl (hw _ (List.mem_of_getElem? (i := 15) rfl))) (Or.inl (hw _ (List.mem_of_getElem? (i := 29) rfl))) (by decide) (t := (.array .int)) (t' := .long) (by decide) (by decide))))
    have f24 := (((((F_mask.ext E4).other W7 (Or.inl ne_d_e)).other W14 (Or.inl ne_d_c)).other W15 (Or.inl ne_a1_b4)).other W20 (Or.inr (slot_ne (Or.inl (hw _ (List.mem_of_getElem? (i := 17) rfl))) (Or.inl (hw _ (List.mem_of_getElem? (i := 29) rfl))) (by decide) (t := .int) (t' := .long) (by decide) (by decide))))
    have f25 := (((((F_current.ext E4).other W7 (Or.inl ne_d_e)).other W14 (Or.inl ne_d_c)).other W15 (Or.inl ne_a1_b4)).other W20 (Or.inr (slot_ne (Or.inl (hw _ (List.mem_of_getElem? (i := 20) rfl))) (Or.inl (hw _ (List.mem_of_getElem? (i := 29) rfl))) (by decide) (t := .long) (t' := .long) (by decide) (by decide))))
    have f26 := (((((F_lastTick.ext E4).other W7 (Or.inl ne_d_e)).other W14 (Or.inl ne_d_c)).other W15 (Or.inl ne_a1_b4)).other W20 (Or.inr (slot_ne (Or.inr (hw _ (List.mem_of_getElem? (i := 22) rfl))) (Or.inl (hw _ (List.mem_of_getElem? (i := 29) rfl))) (by decide) (t := .long) (t' := .long) (by decide) (by decide))))
    have f27 := (((((F_droppedLate.ext E4).other W7 (Or.inl ne_d_e)).other W14 (Or.inl ne_d_c)).other W15 (Or.inl ne_a1_b4)).other W20 (Or.inr (slot_ne (Or.inl (hw _ (List.mem_of_getElem? (i := 43) rfl))) (Or.inl (hw _ (List.mem_of_getElem? (i := 29) rfl))) (by decide) (t := .boolean) (t' := .long) (by decide) (by decide))))
    have f28 := (((V7.other W14 ne_e_c).other W15 ne_ev_b4).other W20 (Ne.symm ne_d_e))
    have f29 := ((V14.other W15 ne_ct_b4).other W20 (Ne.symm ne_d_c))
    refine ⟨T20, _, _, b4, X20.more (by omega) (by omega), e20, O20, N20, ⟨ev, ct, _, gev, gct, f21, f22, f23, f24, f25, f26, Fw20, f27, f28, f29⟩, fun t kt => ?_⟩
    show Steps p.tables e below (T0.setTop (mkF m 62 #[.val (.ref a1), .val (.long t1), .second, .val .null, .unset, .unset, .unset] [])) _
    refine XS.lloadN X0.here hx rfl (hb hby d4_62) rfl ?_
    show Steps p.tables e below (T0.setTop (mkF m 63 #[.val (.ref a1), .val (.long t1), .second, .val .null, .unset, .unset, .unset] [(.long t1)])) _
    refine XS.aloadN X0.here hx rfl (hb hby d4_63) rfl rfl ?_
    show Steps p.tables e below (T0.setTop (mkF m 64 #[.val (.ref a1), .val (.long t1), .second, .val .null, .unset, .unset, .unset] [(.ref a1), (.long t1)])) _
    refine st1 _ ?_
    show Steps p.tables e below (T1.setTop (mkF m 67 #[.val (.ref a1), .val (.long t1), .second, .val .null, .unset, .unset, .unset] [(.int (M - 1)), (.long t1)])) _
    refine XS.i2l X1.here hx rfl (hb hby d4_67) rfl ?_
    show Steps p.tables e below (T1.setTop (mkF m 68 #[.val (.ref a1), .val (.long t1), .second, .val .null, .unset, .unset, .unset] [(.long ((M - 1).toInt64)), (.long t1)])) _
    refine XS.land X1.here hx rfl (hb hby d4_68) rfl ?_
    show Steps p.tables e below (T1.setTop (mkF m 69 #[.val (.ref a1), .val (.long t1), .second, .val .null, .unset, .unset, .unset] [(.long (t1 &&& ((M - 1).toInt64)))])) _
    refine XS.l2i X1.here hx rfl (hb hby d4_69) rfl ?_
    show Steps p.tables e below (T1.setTop (mkF m 70 #[.val (.ref a1), .val (.long t1), .second, .val .null, .unset, .unset, .unset] [(.int ((t1 &&& ((M - 1).toInt64)).toInt32))])) _
    refine XS.istore X1.here hx rfl (hb hby d4_70) rfl (l' := #[.val (.ref a1), .val (.long t1), .second, .val .null, .val (.int ((t1 &&& ((M - 1).toInt64)).toInt32)), .unset, .unset]) rfl ?_
    show Steps p.tables e below (T1.setTop (mkF m 72 #[.val (.ref a1), .val (.long t1), .second, .val .null, .val (.int ((t1 &&& ((M - 1).toInt64)).toInt32)), .unset, .unset] [])) _
    refine XS.aloadN X1.here hx rfl (hb hby d4_72) rfl rfl ?_
    show Steps p.tables e below (T1.setTop (mkF m 73 #[.val (.ref a1), .val (.long t1), .second, .val .null, .val (.int ((t1 &&& ((M - 1).toInt64)).toInt32)), .unset, .unset] [(.ref a1)])) _
    refine st2 _ ?_
    show Steps p.tables e below (T2.setTop (mkF m 76 #[.val (.ref a1), .val (.long t1), .second, .val .null, .val (.int ((t1 &&& ((M - 1).toInt64)).toInt32)), .unset, .unset] [(.ref ev)])) _
    refine XS.iload X2.here hx rfl (hb hby d4_76) rfl ?_
    show Steps p.tables e below (T2.setTop (mkF m 78 #[.val (.ref a1), .val (.long t1), .second, .val .null, .val (.int ((t1 &&& ((M - 1).toInt64)).toInt32)), .unset, .unset] [(.int ((t1 &&& ((M - 1).toInt64)).toInt32)), (.ref ev)])) _
    refine X2.aaload hx (j := ((t1 &&& ((M - 1).toInt64)).toInt32)) (v := .null) (by rw [e2]; exact Ae3.1) (State.isArrayOf_alike hZ.alike Ae3.2.1) rfl Ae3.2.2 hin3 hat3 (g := (mkF m 78 #[.val (.ref a1), .val (.long t1), .second, .val .null, .val (.int ((t1 &&& ((M - 1).toInt64)).toInt32)), .unset, .unset] [(.int ((t1 &&& ((M - 1).toInt64)).toInt32)), (.ref ev)])) rfl rfl (hb hby d4_78) _ ?_
    show Steps p.tables e below (T2.setTop (mkF m 79 #[.val (.ref a1), .val (.long t1), .second, .val .null, .val (.int ((t1 &&& ((M - 1).toInt64)).toInt32)), .unset, .unset] [.null])) _
    refine XS.astore X2.here hx rfl (hb hby d4_79) rfl rfl (l' := #[.val (.ref a1), .val (.long t1), .second, .val .null, .val (.int ((t1 &&& ((M - 1).toInt64)).toInt32)), .val .null, .unset]) rfl ?_
    show Steps p.tables e below (T2.setTop (mkF m 81 #[.val (.ref a1), .val (.long t1), .second, .val .null, .val (.int ((t1 &&& ((M - 1).toInt64)).toInt32)), .val .null, .unset] [])) _
    refine XS.aload X2.here hx rfl (hb hby d4_81) rfl rfl ?_
    show Steps p.tables e below (T2.setTop (mkF m 83 #[.val (.ref a1), .val (.long t1), .second, .val .null, .val (.int ((t1 &&& ((M - 1).toInt64)).toInt32)), .val .null, .unset] [.null])) _
    refine XS.ifnonnullNo X2.here hx rfl (hb hby d4_83) rfl ?_
    show Steps p.tables e below (T2.setTop (mkF m 86 #[.val (.ref a1), .val (.long t1), .second, .val .null, .val (.int ((t1 &&& ((M - 1).toInt64)).toInt32)), .val .null, .unset] [])) _
    refine XS.bipush X2.here hx rfl (hb hby d4_86) ?_
    show Steps p.tables e below (T2.setTop (mkF m 88 #[.val (.ref a1), .val (.long t1), .second, .val .null, .val (.int ((t1 &&& ((M - 1).toInt64)).toInt32)), .val .null, .unset] [(.int (8 : Int32))])) _
    refine st4 _ ?_
    show Steps p.tables e below (T4.setTop (mkF m 91 #[.val (.ref a1), .val (.long t1), .second, .val .null, .val (.int ((t1 &&& ((M - 1).toInt64)).toInt32)), .val .null, .unset] [(.ref b4)])) _
    refine XS.astore X4.here hx rfl (hb hby d4_91) rfl rfl (l' := #[.val (.ref a1), .val (.long t1), .second, .val .null, .val (.int ((t1 &&& ((M - 1).toInt64)).toInt32)), .val (.ref b4), .unset]) rfl ?_
    show Steps p.tables e below (T4.setTop (mkF m 93 #[.val (.ref a1), .val (.long t1), .second, .val .null, .val (.int ((t1 &&& ((M - 1).toInt64)).toInt32)), .val (.ref b4), .unset] [])) _
    refine XS.aloadN X4.here hx rfl (hb hby d4_93) rfl rfl ?_
    show Steps p.tables e below (T4.setTop (mkF m 94 #[.val (.ref a1), .val (.long t1), .second, .val .null, .val (.int ((t1 &&& ((M - 1).toInt64)).toInt32)), .val (.ref b4), .unset] [(.ref a1)])) _
    refine st6 _ ?_
    show Steps p.tables e below (T6.setTop (mkF m 97 #[.val (.ref a1), .val (.long t1), .second, .val .null, .val (.int ((t1 &&& ((M - 1).toInt64)).toInt32)), .val (.ref b4), .unset] [(.ref ev)])) _
    refine XS.iload X6.here hx rfl (hb hby d4_97) rfl ?_
    show Steps p.tables e below (T6.setTop (mkF m 99 #[.val (.ref a1), .val (.long t1), .second, .val .null, .val (.int ((t1 &&& ((M - 1).toInt64)).toInt32)), .val (.ref b4), .unset] [(.int ((t1 &&& ((M - 1).toInt64)).toInt32)), (.ref ev)])) _
    refine XS.aload X6.here hx rfl (hb hby d4_99) rfl rfl ?_
    show Steps p.tables e below (T6.setTop (mkF m 101 #[.val (.ref a1), .val (.long t1), .second, .val .null, .val (.int ((t1 &&& ((M - 1).toInt64)).toInt32)), .val (.ref b4), .unset] [(.ref b4), (.int ((t1 &&& ((M - 1).toInt64)).toInt32)), (.ref ev)])) _
    refine st7 _ ?_
    show Steps p.tables e below (T7.setTop (mkF m 102 #[.val (.ref a1), .val (.long t1), .second, .val .null, .val (.int ((t1 &&& ((M - 1).toInt64)).toInt32)), .val (.ref b4), .unset] [])) _
    refine XS.goto X7.here hx rfl (pc0 := 102) (pc' := 153) rfl (hb hby d4_102) (by decide) (by decide) ?_
    show Steps p.tables e below (T7.setTop (mkF m 153 #[.val (.ref a1), .val (.long t1), .second, .val .null, .val (.int ((t1 &&& ((M - 1).toInt64)).toInt32)), .val (.ref b4), .unset] [])) _
    refine XS.aload X7.here hx rfl (hb hby d4_153) rfl rfl ?_
    show Steps p.tables e below (T7.setTop (mkF m 155 #[.val (.ref a1), .val (.long t1), .second, .val .null, .val (.int ((t1 &&& ((M - 1).toInt64)).toInt32)), .val (.ref b4), .unset] [(.ref b4)])) _
    refine XS.aloadN X7.here hx rfl (hb hby d4_155) rfl rfl ?_
    show Steps p.tables e below (T7.setTop (mkF m 156 #[.val (.ref a1), .val (.long t1), .second, .val .null, .val (.int ((t1 &&& ((M - 1).toInt64)).toInt32)), .val (.ref b4), .unset] [(.ref a1), (.ref b4)])) _
    refine st11 _ ?_
    show Steps p.tables e below (T11.setTop (mkF m 159 #[.val (.ref a1), .val (.long t1), .second, .val .null, .val (.int ((t1 &&& ((M - 1).toInt64)).toInt32)), .val (.ref b4), .unset] [(.ref ct), (.ref b4)])) _
    refine XS.iload X11.here hx rfl (hb hby d4_159) rfl ?_
    show Steps p.tables e below (T11.setTop (mkF m 161 #[.val (.ref a1), .val (.long t1), .second, .val .null, .val (.int ((t1 &&& ((M - 1).toInt64)).toInt32)), .val (.ref b4), .unset] [(.int ((t1 &&& ((M - 1).toInt64)).toInt32)), (.ref ct), (.ref b4)])) _
    refine Jvm.Free.XT.dup2 X11.here hx rfl (hb hby d4_161) rfl rfl rfl ?_
    show Steps p.tables e below (T11.setTop (mkF m 162 #[.val (.ref a1), .val (.long t1), .second, .val .null, .val (.int ((t1 &&& ((M - 1).toInt64)).toInt32)), .val (.ref b4), .unset] [(.int ((t1 &&& ((M - 1).toInt64)).toInt32)), (.ref ct), (.int ((t1 &&& ((M - 1).toInt64)).toInt32)), (.ref ct), (.ref b4)])) _
    refine X11.iaload hx (j := ((t1 &&& ((M - 1).toInt64)).toInt32)) (v := (.int x12)) (by rw [e11]; exact Ac12.1) (State.isArrayOf_alike hZ.alike Ac12.2.1) Ac12.2.2 hin12 hat12 (g := (mkF m 162 #[.val (.ref a1), .val (.long t1), .second, .val .null, .val (.int ((t1 &&& ((M - 1).toInt64)).toInt32)), .val (.ref b4), .unset] [(.int ((t1 &&& ((M - 1).toInt64)).toInt32)), (.ref ct), (.int ((t1 &&& ((M - 1).toInt64)).toInt32)), (.ref ct), (.ref b4)])) rfl rfl (hb hby d4_162) _ ?_
    show Steps p.tables e below (T11.setTop (mkF m 163 #[.val (.ref a1), .val (.long t1), .second, .val .null, .val (.int ((t1 &&& ((M - 1).toInt64)).toInt32)), .val (.ref b4), .unset] [(.int x12), (.int ((t1 &&& ((M - 1).toInt64)).toInt32)), (.ref ct), (.ref b4)])) _
    refine own_dupX2 X11.here hx rfl (hb hby d4_163) rfl rfl rfl rfl ?_
    show Steps p.tables e below (T11.setTop (mkF m 164 #[.val (.ref a1), .val (.long t1), .second, .val .null, .val (.int ((t1 &&& ((M - 1).toInt64)).toInt32)), .val (.ref b4), .unset] [(.int x12), (.int ((t1 &&& ((M - 1).toInt64)).toInt32)), (.ref ct), (.int x12), (.ref b4)])) _
    refine XS.iconst X11.here hx rfl (hb hby d4_164) ?_
    show Steps p.tables e below (T11.setTop (mkF m 165 #[.val (.ref a1), .val (.long t1), .second, .val .null, .val (.int ((t1 &&& ((M - 1).toInt64)).toInt32)), .val (.ref b4), .unset] [(.int (1 : Int32)), (.int x12), (.int ((t1 &&& ((M - 1).toInt64)).toInt32)), (.ref ct), (.int x12), (.ref b4)])) _
    refine XS.iadd X11.here hx rfl (hb hby d4_165) rfl ?_
    show Steps p.tables e below (T11.setTop (mkF m 166 #[.val (.ref a1), .val (.long t1), .second, .val .null, .val (.int ((t1 &&& ((M - 1).toInt64)).toInt32)), .val (.ref b4), .unset] [(.int (x12 + (1 : Int32))), (.int ((t1 &&& ((M - 1).toInt64)).toInt32)), (.ref ct), (.int x12), (.ref b4)])) _
    refine st14 _ ?_
    show Steps p.tables e below (T14.setTop (mkF m 167 #[.val (.ref a1), .val (.long t1), .second, .val .null, .val (.int ((t1 &&& ((M - 1).toInt64)).toInt32)), .val (.ref b4), .unset] [(.int x12), (.ref b4)])) _
    refine XS.aloadN X14.here hx rfl (hb hby d4_167) rfl rfl ?_
    show Steps p.tables e below (T14.setTop (mkF m 168 #[.val (.ref a1), .val (.long t1), .second, .val .null, .val (.int ((t1 &&& ((M - 1).toInt64)).toInt32)), .val (.ref b4), .unset] [.null, (.int x12), (.ref b4)])) _
    refine st15 _ ?_
    show Steps p.tables e below (T15.setTop (mkF m 169 #[.val (.ref a1), .val (.long t1), .second, .val .null, .val (.int ((t1 &&& ((M - 1).toInt64)).toInt32)), .val (.ref b4), .unset] [])) _
    refine XS.aloadN X15.here hx rfl (hb hby d4_169) rfl rfl ?_
    show Steps p.tables e below (T15.setTop (mkF m 170 #[.val (.ref a1), .val (.long t1), .second, .val .null, .val (.int ((t1 &&& ((M - 1).toInt64)).toInt32)), .val (.ref b4), .unset] [(.ref a1)])) _
    refine XS.dup X15.here hx rfl (hb hby d4_170) rfl rfl ?_
    show Steps p.tables e below (T15.setTop (mkF m 171 #[.val (.ref a1), .val (.long t1), .second, .val .null, .val (.int ((t1 &&& ((M - 1).toInt64)).toInt32)), .val (.ref b4), .unset] [(.ref a1), (.ref a1)])) _
    refine st18 _ ?_
    show Steps p.tables e below (T18.setTop (mkF m 174 #[.val (.ref a1), .val (.long t1), .second, .val .null, .val (.int ((t1 &&& ((M - 1).toInt64)).toInt32)), .val (.ref b4), .unset] [(.long P), (.ref a1)])) _
    refine XS.lconst X18.here hx rfl (hb hby d4_174) ?_
    show Steps p.tables e below (T18.setTop (mkF m 175 #[.val (.ref a1), .val (.long t1), .second, .val .null, .val (.int ((t1 &&& ((M - 1).toInt64)).toInt32)), .val (.ref b4), .unset] [(.long (1 : Int64)), (.long P), (.ref a1)])) _
    refine XS.ladd X18.here hx rfl (hb hby d4_175) rfl ?_
    show Steps p.tables e below (T18.setTop (mkF m 176 #[.val (.ref a1), .val (.long t1), .second, .val .null, .val (.int ((t1 &&& ((M - 1).toInt64)).toInt32)), .val (.ref b4), .unset] [(.long (P + (1 : Int64))), (.ref a1)])) _
    refine st20 _ ?_
    exact kt
  · have ne_dr3 : a1 ≠ r3 := own_dr E_a1 (hw _ (List.mem_of_getElem? (i := 1) rfl)) Rr3
    have ne_er3 : ev ≠ r3 := own_er Ev Rr3
    have ne_cr3 : ct ≠ r3 := own_cr Ct Rr3
    obtain ⟨T30, X30, e30, st30⟩ := getF X2 hx hZ hown (host := "") (Or.inl (hw _ (List.mem_of_getElem? (i := 14) rfl))) Via.refl e2 F_counts (g := (mkF m 106 #[.val (.ref a1), .val (.long t1), .second, .val .null, .val (.int ((t1 &&& ((M - 1).toInt64)).toInt32)), .val (.ref r3), .unset] [(.ref a1)])) rfl rfl (hb hby d4_106)
    have Vc31 := Ct
    obtain ⟨cc31, Ac31, Sc31, Nc31, Hc31⟩ := Vc31
    have hin31 : ¬ (((t1 &&& ((M - 1).toInt64)).toInt32) < 0 ∨ cc31.slots.size ≤ (((t1 &&& ((M - 1).toInt64)).toInt32)).toNatClampNeg) := inb_of Sc31 hto
    obtain ⟨x31, hat31, lo31, hi31⟩ := Hc31 _ hin31
    have f33 := Rr3
    have Vc32 := f33
    obtain ⟨cr32, Ar32, Sr32, Xr32⟩ := Vc32
    have hd34 : ¬ (x31 = (8 : Int32)) := (own_cnt hk7 lo31 hi31).1
    obtain ⟨T35, X35, e35, st35⟩ := getF X30 hx hZ hown (host := "") (Or.inl (hw _ (List.mem_of_getElem? (i := 14) rfl))) Via.refl e30 F_counts (g := (mkF m 156 #[.val (.ref a1), .val (.long t1), .second, .val .null, .val (.int ((t1 &&& ((M - 1).toInt64)).toInt32)), .val (.ref r3), .unset] [(.ref a1), (.ref r3)])) rfl rfl (hb hby d4_156)
    have Vc36 := Ct
    obtain ⟨cc36, Ac36, Sc36, Nc36, Hc36⟩ := Vc36
    have hin36 : ¬ (((t1 &&& ((M - 1).toInt64)).toInt32) < 0 ∨ cc36.slots.size ≤ (((t1 &&& ((M - 1).toInt64)).toInt32)).toNatClampNeg) := inb_of Sc36 hto
    obtain ⟨x36, hat36, lo36, hi36⟩ := Hc36 _ hin36
    have Vc37 := Ct
    obtain ⟨cc37, Ac37, Sc37, Nc37, Hc37⟩ := Vc37
    have hin37 : ¬ (((t1 &&& ((M - 1).toInt64)).toInt32) < 0 ∨ cc37.slots.size ≤ (((t1 &&& ((M - 1).toInt64)).toInt32)).toNatClampNeg) := inb_of Sc37 hto
    obtain ⟨T37, h37, X37, e37, W37, st37⟩ := stI X35 hx hZ e35 Ac37 (j := ((t1 &&& ((M - 1).toInt64)).toInt32)) hin37 (g := (mkF m 166 #[.val (.ref a1), .val (.long t1), .second, .val .null, .val (.int ((t1 &&& ((M - 1).toInt64)).toInt32)), .val (.ref r3), .unset] [(.int (x36 + (1 : Int32))), (.int ((t1 &&& ((M - 1).toInt64)).toInt32)), (.ref ct), (.int x36), (.ref r3)])) rfl rfl (hb hby d4_166)
    have V37 : Cts Z h37 ct M (k + 1) := Cts.set Ac37 Sc37 Nc37 Hc37 hin37 W37 (own_cnt hk7 lo36 hi36).2.2.1 (own_cnt hk7 lo36 hi36).2.2.2.1 (own_cnt hk7 lo36 hi36).2.2.2.2
    have O37 := O0.wr W37 gct
    have N37 := Fr.snoc X37 N0 gct
    have f39 := (f33.wr W37)
    have Vc38 := f39
    obtain ⟨cr38, Ar38, Sr38, Xr38⟩ := Vc38
    have hin38 : ¬ (x36 < 0 ∨ cr38.slots.size ≤ (x36).toNatClampNeg) := inb_of Sr38 (own_cnt hk7 lo36 hi36).2.1
    obtain ⟨T38, h38, X38, e38, W38, st38⟩ := stR X37 hx hZ e37 Ar38 (j := x36) hin38 rfl (Or.inl rfl) (g := (mkF m 168 #[.val (.ref a1), .val (.long t1), .second, .val .null, .val (.int ((t1 &&& ((M - 1).toInt64)).toInt32)), .val (.ref r3), .unset] [.null, (.int x36), (.ref r3)])) rfl rfl (hb hby d4_168)
    have O38 := O37.wr W38 gr3
    have N38 := Fr.snoc X38 N37 gr3
    have f40 := ((F_pending.other W37 (Or.inl ne_d_c)).other W38 (Or.inl ne_dr3))
    obtain ⟨T41, X41, e41, st41⟩ := getF X38 hx hZ hown (host := "") (Or.inl (hw _ (List.mem_of_getElem? (i := 28) rfl))) Via.refl e38 f40 (g := (mkF m 171 #[.val (.ref a1), .val (.long t1), .second, .val .null, .val (.int ((t1 &&& ((M - 1).toInt64)).toInt32)), .val (.ref r3), .unset] [(.ref a1), (.ref a1)])) rfl rfl (hb hby d4_171)
    have f42 := ((E_a1.wr W37).wr W38)
    obtain ⟨T43, h43, X43, e43, W43, st43⟩ := putF X41 hx hZ hown (host := "") (Or.inl (hw _ (List.mem_of_getElem? (i := 28) rfl))) Via.refl e41 f40 f42 (Or.inl (hw _ (List.mem_of_getElem? (i := 29) rfl))) (hw _ (List.mem_of_getElem? (i := 1) rfl)) (ty := .long) (by decide) rfl rfl (g := (mkF m 176 #[.val (.ref a1), .val (.long t1), .second, .val .null, .val (.int ((t1 &&& ((M - 1).toInt64)).toInt32)), .val (.ref r3), .unset] [(.long (P + (1 : Int64))), (.ref a1)])) rfl rfl (hb hby d4_176)
    have Fw43 := f40.same W43
    have O43 := O38.wr W43 g1
    have N43 := Fr.snoc X43 N38 g1
    have f44 := (f42.wr W43)
    have f45 := (((F_events.other W37 (Or.inl ne_d_c)).other W38 (Or.inl ne_dr3)).other W43 (Or.inr (slot_ne (Or.inl (hw _ (List.mem_of_getElem? (i := 12) rfl))) (Or.inl (hw _ (List.mem_of_getElem? (i := 29) rfl))) (by decide) (t := (.array (.array (.object "java/lang/Runnable")))) (t' := .long) (by decide) (by decide))))
    have f46 := (((F_counts.other W37 (Or.inl ne_d_c)).other W38 (Or.inl ne_dr3)).other W43 (Or.inr (slot_ne (Or.inl (hw _ (List.mem_of_getElem? (i := 15) rfl))) (Or.inl (hw _ (List.mem_of_getElem? (i := 29) rfl))) (by decide) (t := (.array .int)) (t' := .long) (by decide) (by decide))))
    have f47 := (((F_mask.other W37 (Or.inl ne_d_c)).other W38 (Or.inl ne_dr3)).other W43 (Or.inr (slot_ne (Or.inl (hw _ (List.mem_of_getElem? (i := 17) rfl))) (Or.inl (hw _ (List.mem_of_getElem? (i := 29) rfl))) (by decide) (t := .int) (t' := .long) (by decide) (by decide))))
    have f48 := (((F_current.other W37 (Or.inl ne_d_c)).other W38 (Or.inl ne_dr3)).other W43 (Or.inr (slot_ne (Or.inl (hw _ (List.mem_of_getElem? (i := 20) rfl))) (Or.inl (hw _ (List.mem_of_getElem? (i := 29) rfl))) (by decide) (t := .long) (t' := .long) (by decide) (by decide))))
    have f49 := (((F_lastTick.other W37 (Or.inl ne_d_c)).other W38 (Or.inl ne_dr3)).other W43 (Or.inr (slot_ne (Or.inr (hw _ (List.mem_of_getElem? (i := 22) rfl))) (Or.inl (hw _ (List.mem_of_getElem? (i := 29) rfl))) (by decide) (t := .long) (t' := .long) (by decide) (by decide))))
    have f50 := (((F_droppedLate.other W37 (Or.inl ne_d_c)).other W38 (Or.inl ne_dr3)).other W43 (Or.inr (slot_ne (Or.inl (hw _ (List.mem_of_getElem? (i := 43) rfl))) (Or.inl (hw _ (List.mem_of_getElem? (i := 29) rfl))) (by decide) (t := .boolean) (t' := .long) (by decide) (by decide))))
    have f51 := (((Ev.other W37 ne_e_c).other W38 ne_er3).other W43 (Ne.symm ne_d_e))
    have f52 := ((V37.other W38 ne_cr3).other W43 (Ne.symm ne_d_c))
    refine ⟨T43, _, _, r3, X43.more (by omega) (by omega), e43, O43, N43, ⟨ev, ct, _, gev, gct, f44, f45, f46, f47, f48, f49, Fw43, f50, f51, f52⟩, fun t kt => ?_⟩
    show Steps p.tables e below (T0.setTop (mkF m 62 #[.val (.ref a1), .val (.long t1), .second, .val .null, .unset, .unset, .unset] [])) _
    refine XS.lloadN X0.here hx rfl (hb hby d4_62) rfl ?_
    show Steps p.tables e below (T0.setTop (mkF m 63 #[.val (.ref a1), .val (.long t1), .second, .val .null, .unset, .unset, .unset] [(.long t1)])) _
    refine XS.aloadN X0.here hx rfl (hb hby d4_63) rfl rfl ?_
    show Steps p.tables e below (T0.setTop (mkF m 64 #[.val (.ref a1), .val (.long t1), .second, .val .null, .unset, .unset, .unset] [(.ref a1), (.long t1)])) _
    refine st1 _ ?_
    show Steps p.tables e below (T1.setTop (mkF m 67 #[.val (.ref a1), .val (.long t1), .second, .val .null, .unset, .unset, .unset] [(.int (M - 1)), (.long t1)])) _
    refine XS.i2l X1.here hx rfl (hb hby d4_67) rfl ?_
    show Steps p.tables e below (T1.setTop (mkF m 68 #[.val (.ref a1), .val (.long t1), .second, .val .null, .unset, .unset, .unset] [(.long ((M - 1).toInt64)), (.long t1)])) _
    refine XS.land X1.here hx rfl (hb hby d4_68) rfl ?_
    show Steps p.tables e below (T1.setTop (mkF m 69 #[.val (.ref a1), .val (.long t1), .second, .val .null, .unset, .unset, .unset] [(.long (t1 &&& ((M - 1).toInt64)))])) _
    refine XS.l2i X1.here hx rfl (hb hby d4_69) rfl ?_
    show Steps p.tables e below (T1.setTop (mkF m 70 #[.val (.ref a1), .val (.long t1), .second, .val .null, .unset, .unset, .unset] [(.int ((t1 &&& ((M - 1).toInt64)).toInt32))])) _
    refine XS.istore X1.here hx rfl (hb hby d4_70) rfl (l' := #[.val (.ref a1), .val (.long t1), .second, .val .null, .val (.int ((t1 &&& ((M - 1).toInt64)).toInt32)), .unset, .unset]) rfl ?_
    show Steps p.tables e below (T1.setTop (mkF m 72 #[.val (.ref a1), .val (.long t1), .second, .val .null, .val (.int ((t1 &&& ((M - 1).toInt64)).toInt32)), .unset, .unset] [])) _
    refine XS.aloadN X1.here hx rfl (hb hby d4_72) rfl rfl ?_
    show Steps p.tables e below (T1.setTop (mkF m 73 #[.val (.ref a1), .val (.long t1), .second, .val .null, .val (.int ((t1 &&& ((M - 1).toInt64)).toInt32)), .unset, .unset] [(.ref a1)])) _
    refine st2 _ ?_
    show Steps p.tables e below (T2.setTop (mkF m 76 #[.val (.ref a1), .val (.long t1), .second, .val .null, .val (.int ((t1 &&& ((M - 1).toInt64)).toInt32)), .unset, .unset] [(.ref ev)])) _
    refine XS.iload X2.here hx rfl (hb hby d4_76) rfl ?_
    show Steps p.tables e below (T2.setTop (mkF m 78 #[.val (.ref a1), .val (.long t1), .second, .val .null, .val (.int ((t1 &&& ((M - 1).toInt64)).toInt32)), .unset, .unset] [(.int ((t1 &&& ((M - 1).toInt64)).toInt32)), (.ref ev)])) _
    refine X2.aaload hx (j := ((t1 &&& ((M - 1).toInt64)).toInt32)) (v := (.ref r3)) (by rw [e2]; exact Ae3.1) (State.isArrayOf_alike hZ.alike Ae3.2.1) rfl Ae3.2.2 hin3 hat3 (g := (mkF m 78 #[.val (.ref a1), .val (.long t1), .second, .val .null, .val (.int ((t1 &&& ((M - 1).toInt64)).toInt32)), .unset, .unset] [(.int ((t1 &&& ((M - 1).toInt64)).toInt32)), (.ref ev)])) rfl rfl (hb hby d4_78) _ ?_
    show Steps p.tables e below (T2.setTop (mkF m 79 #[.val (.ref a1), .val (.long t1), .second, .val .null, .val (.int ((t1 &&& ((M - 1).toInt64)).toInt32)), .unset, .unset] [(.ref r3)])) _
    refine XS.astore X2.here hx rfl (hb hby d4_79) rfl rfl (l' := #[.val (.ref a1), .val (.long t1), .second, .val .null, .val (.int ((t1 &&& ((M - 1).toInt64)).toInt32)), .val (.ref r3), .unset]) rfl ?_
    show Steps p.tables e below (T2.setTop (mkF m 81 #[.val (.ref a1), .val (.long t1), .second, .val .null, .val (.int ((t1 &&& ((M - 1).toInt64)).toInt32)), .val (.ref r3), .unset] [])) _
    refine XS.aload X2.here hx rfl (hb hby d4_81) rfl rfl ?_
    show Steps p.tables e below (T2.setTop (mkF m 83 #[.val (.ref a1), .val (.long t1), .second, .val .null, .val (.int ((t1 &&& ((M - 1).toInt64)).toInt32)), .val (.ref r3), .unset] [(.ref r3)])) _
    refine XS.ifnonnullYes X2.here hx rfl (pc0 := 83) (pc' := 105) rfl (hb hby d4_83) rfl (by decide) (by decide) ?_
    show Steps p.tables e below (T2.setTop (mkF m 105 #[.val (.ref a1), .val (.long t1), .second, .val .null, .val (.int ((t1 &&& ((M - 1).toInt64)).toInt32)), .val (.ref r3), .unset] [])) _
    refine XS.aloadN X2.here hx rfl (hb hby d4_105) rfl rfl ?_
    show Steps p.tables e below (T2.setTop (mkF m 106 #[.val (.ref a1), .val (.long t1), .second, .val .null, .val (.int ((t1 &&& ((M - 1).toInt64)).toInt32)), .val (.ref r3), .unset] [(.ref a1)])) _
    refine st30 _ ?_
    show Steps p.tables e below (T30.setTop (mkF m 109 #[.val (.ref a1), .val (.long t1), .second, .val .null, .val (.int ((t1 &&& ((M - 1).toInt64)).toInt32)), .val (.ref r3), .unset] [(.ref ct)])) _
    refine XS.iload X30.here hx rfl (hb hby d4_109) rfl ?_
    show Steps p.tables e below (T30.setTop (mkF m 111 #[.val (.ref a1), .val (.long t1), .second, .val .null, .val (.int ((t1 &&& ((M - 1).toInt64)).toInt32)), .val (.ref r3), .unset] [(.int ((t1 &&& ((M - 1).toInt64)).toInt32)), (.ref ct)])) _
    refine X30.iaload hx (j := ((t1 &&& ((M - 1).toInt64)).toInt32)) (v := (.int x31)) (by rw [e30]; exact Ac31.1) (State.isArrayOf_alike hZ.alike Ac31.2.1) Ac31.2.2 hin31 hat31 (g := (mkF m 111 #[.val (.ref a1), .val (.long t1), .second, .val .null, .val (.int ((t1 &&& ((M - 1).toInt64)).toInt32)), .val (.ref r3), .unset] [(.int ((t1 &&& ((M - 1).toInt64)).toInt32)), (.ref ct)])) rfl rfl (hb hby d4_111) _ ?_
    show Steps p.tables e below (T30.setTop (mkF m 112 #[.val (.ref a1), .val (.long t1), .second, .val .null, .val (.int ((t1 &&& ((M - 1).toInt64)).toInt32)), .val (.ref r3), .unset] [(.int x31)])) _
    refine XS.aload X30.here hx rfl (hb hby d4_112) rfl rfl ?_
    show Steps p.tables e below (T30.setTop (mkF m 114 #[.val (.ref a1), .val (.long t1), .second, .val .null, .val (.int ((t1 &&& ((M - 1).toInt64)).toInt32)), .val (.ref r3), .unset] [(.ref r3), (.int x31)])) _
    refine X30.arraylength hx (by rw [e30]; exact Ar32.1) (State.isArrayOf_alike hZ.alike Ar32.2.1) (g := (mkF m 114 #[.val (.ref a1), .val (.long t1), .second, .val .null, .val (.int ((t1 &&& ((M - 1).toInt64)).toInt32)), .val (.ref r3), .unset] [(.ref r3), (.int x31)])) rfl rfl (hb hby d4_114) _ ?_
    rw [len_of Sr32 (by decide)]
    show Steps p.tables e below (T30.setTop (mkF m 115 #[.val (.ref a1), .val (.long t1), .second, .val .null, .val (.int ((t1 &&& ((M - 1).toInt64)).toInt32)), .val (.ref r3), .unset] [(.int (8 : Int32)), (.int x31)])) _
    refine XS.icmpYes X30.here hx rfl (pc0 := 115) (pc' := 153) rfl (hb hby d4_115) rfl (feq hd34).2 (by decide) (by decide) ?_
    show Steps p.tables e below (T30.setTop (mkF m 153 #[.val (.ref a1), .val (.long t1), .second, .val .null, .val (.int ((t1 &&& ((M - 1).toInt64)).toInt32)), .val (.ref r3), .unset] [])) _
    refine XS.aload X30.here hx rfl (hb hby d4_153) rfl rfl ?_
    show Steps p.tables e below (T30.setTop (mkF m 155 #[.val (.ref a1), .val (.long t1), .second, .val .null, .val (.int ((t1 &&& ((M - 1).toInt64)).toInt32)), .val (.ref r3), .unset] [(.ref r3)])) _
    refine XS.aloadN X30.here hx rfl (hb hby d4_155) rfl rfl ?_
    show Steps p.tables e below (T30.setTop (mkF m 156 #[.val (.ref a1), .val (.long t1), .second, .val .null, .val (.int ((t1 &&& ((M - 1).toInt64)).toInt32)), .val (.ref r3), .unset] [(.ref a1), (.ref r3)])) _
    refine st35 _ ?_
    show Steps p.tables e below (T35.setTop (mkF m 159 #[.val (.ref a1), .val (.long t1), .second, .val .null, .val (.int ((t1 &&& ((M - 1).toInt64)).toInt32)), .val (.ref r3), .unset] [(.ref ct), (.ref r3)])) _
    refine XS.iload X35.here hx rfl (hb hby d4_159) rfl ?_
    show Steps p.tables e below (T35.setTop (mkF m 161 #[.val (.ref a1), .val (.long t1), .second, .val .null, .val (.int ((t1 &&& ((M - 1).toInt64)).toInt32)), .val (.ref r3), .unset] [(.int ((t1 &&& ((M - 1).toInt64)).toInt32)), (.ref ct), (.ref r3)])) _
    refine Jvm.Free.XT.dup2 X35.here hx rfl (hb hby d4_161) rfl rfl rfl ?_
    show Steps p.tables e below (T35.setTop (mkF m 162 #[.val (.ref a1), .val (.long t1), .second, .val .null, .val (.int ((t1 &&& ((M - 1).toInt64)).toInt32)), .val (.ref r3), .unset] [(.int ((t1 &&& ((M - 1).toInt64)).toInt32)), (.ref ct), (.int ((t1 &&& ((M - 1).toInt64)).toInt32)), (.ref ct), (.ref r3)])) _
    refine X35.iaload hx (j := ((t1 &&& ((M - 1).toInt64)).toInt32)) (v := (.int x36)) (by rw [e35]; exact Ac36.1) (State.isArrayOf_alike hZ.alike Ac36.2.1) Ac36.2.2 hin36 hat36 (g := (mkF m 162 #[.val (.ref a1), .val (.long t1), .second, .val .null, .val (.int ((t1 &&& ((M - 1).toInt64)).toInt32)), .val (.ref r3), .unset] [(.int ((t1 &&& ((M - 1).toInt64)).toInt32)), (.ref ct), (.int ((t1 &&& ((M - 1).toInt64)).toInt32)), (.ref ct), (.ref r3)])) rfl rfl (hb hby d4_162) _ ?_
    show Steps p.tables e below (T35.setTop (mkF m 163 #[.val (.ref a1), .val (.long t1), .second, .val .null, .val (.int ((t1 &&& ((M - 1).toInt64)).toInt32)), .val (.ref r3), .unset] [(.int x36), (.int ((t1 &&& ((M - 1).toInt64)).toInt32)), (.ref ct), (.ref r3)])) _
    refine own_dupX2 X35.here hx rfl (hb hby d4_163) rfl rfl rfl rfl ?_
    show Steps p.tables e below (T35.setTop (mkF m 164 #[.val (.ref a1), .val (.long t1), .second, .val .null, .val (.int ((t1 &&& ((M - 1).toInt64)).toInt32)), .val (.ref r3), .unset] [(.int x36), (.int ((t1 &&& ((M - 1).toInt64)).toInt32)), (.ref ct), (.int x36), (.ref r3)])) _
    refine XS.iconst X35.here hx rfl (hb hby d4_164) ?_
    show Steps p.tables e below (T35.setTop (mkF m 165 #[.val (.ref a1), .val (.long t1), .second, .val .null, .val (.int ((t1 &&& ((M - 1).toInt64)).toInt32)), .val (.ref r3), .unset] [(.int (1 : Int32)), (.int x36), (.int ((t1 &&& ((M - 1).toInt64)).toInt32)), (.ref ct), (.int x36), (.ref r3)])) _
    refine XS.iadd X35.here hx rfl (hb hby d4_165) rfl ?_
    show Steps p.tables e below (T35.setTop (mkF m 166 #[.val (.ref a1), .val (.long t1), .second, .val .null, .val (.int ((t1 &&& ((M - 1).toInt64)).toInt32)), .val (.ref r3), .unset] [(.int (x36 + (1 : Int32))), (.int ((t1 &&& ((M - 1).toInt64)).toInt32)), (.ref ct), (.int x36), (.ref r3)])) _
    refine st37 _ ?_
    show Steps p.tables e below (T37.setTop (mkF m 167 #[.val (.ref a1), .val (.long t1), .second, .val .null, .val (.int ((t1 &&& ((M - 1).toInt64)).toInt32)), .val (.ref r3), .unset] [(.int x36), (.ref r3)])) _
    refine XS.aloadN X37.here hx rfl (hb hby d4_167) rfl rfl ?_
    show Steps p.tables e below (T37.setTop (mkF m 168 #[.val (.ref a1), .val (.long t1), .second, .val .null, .val (.int ((t1 &&& ((M - 1).toInt64)).toInt32)), .val (.ref r3), .unset] [.null, (.int x36), (.ref r3)])) _
    refine st38 _ ?_
    show Steps p.tables e below (T38.setTop (mkF m 169 #[.val (.ref a1), .val (.long t1), .second, .val .null, .val (.int ((t1 &&& ((M - 1).toInt64)).toInt32)), .val (.ref r3), .unset] [])) _
    refine XS.aloadN X38.here hx rfl (hb hby d4_169) rfl rfl ?_
    show Steps p.tables e below (T38.setTop (mkF m 170 #[.val (.ref a1), .val (.long t1), .second, .val .null, .val (.int ((t1 &&& ((M - 1).toInt64)).toInt32)), .val (.ref r3), .unset] [(.ref a1)])) _
    refine XS.dup X38.here hx rfl (hb hby d4_170) rfl rfl ?_
    show Steps p.tables e below (T38.setTop (mkF m 171 #[.val (.ref a1), .val (.long t1), .second, .val .null, .val (.int ((t1 &&& ((M - 1).toInt64)).toInt32)), .val (.ref r3), .unset] [(.ref a1), (.ref a1)])) _
    refine st41 _ ?_
    show Steps p.tables e below (T41.setTop (mkF m 174 #[.val (.ref a1), .val (.long t1), .second, .val .null, .val (.int ((t1 &&& ((M - 1).toInt64)).toInt32)), .val (.ref r3), .unset] [(.long P), (.ref a1)])) _
    refine XS.lconst X41.here hx rfl (hb hby d4_174) ?_
    show Steps p.tables e below (T41.setTop (mkF m 175 #[.val (.ref a1), .val (.long t1), .second, .val .null, .val (.int ((t1 &&& ((M - 1).toInt64)).toInt32)), .val (.ref r3), .unset] [(.long (1 : Int64)), (.long P), (.ref a1)])) _
    refine XS.ladd X41.here hx rfl (hb hby d4_175) rfl ?_
    show Steps p.tables e below (T41.setTop (mkF m 176 #[.val (.ref a1), .val (.long t1), .second, .val .null, .val (.int ((t1 &&& ((M - 1).toInt64)).toInt32)), .val (.ref r3), .unset] [(.long (P + (1 : Int64))), (.ref a1)])) _
    refine st43 _ ?_
    exact kt
set_option maxRecDepth 65536 in
set_option maxHeartbeats 40000000 in
theorem turnA {p : Program} {l : Launch} {e : Env} {R : Room} {s : State} {m : MethodId} {args : Array Value} {below : List Frame} {meth : Method} {c : Code} {T0 : State} {locs : List Loc} {cells slots : Nat} {Z : State} {a0 : Array Value} {h0 : Heap} {n0 : Nat} {a1 wv wc ev ct : Addr} {q1 t1 P : Int64} {M L k i : Int32} {dd : Value}
    (X0 : Stand p l e R s m args below meth c T0 locs cells slots) (hx : p.tables.exec = Jvm.exec) (hZ : Z.Warmed39 s.vm) (hw : ∀ d ∈ tables_1, d.before a0 Z = true) (hby : c.code = prog_187_method_7_code) (hml : c.maxLocals = 10) (hown : s.vm.findClass "com/example/januswire/januswire/sim/DueEvents" = some m.cls) (e0 : T0.heap = h0) (O0 : Old Z n0 h0) (N0 : Fr n0 locs) (hD : DueF Z n0 h0 a1 q1 M P k ev ct dd) (hV : Evs Z n0 h0 wv L) (hC : Cts Z h0 wc L k) (g1 : n0 ≤ a1) (gwv : n0 ≤ wv) (gwc : n0 ≤ wc) (nev : ev ≠ wv) (nct : ct ≠ wc) (hto : ∀ x : Int64, ¬ ((x &&& ((L - (1 : Int32)).toInt64)).toInt32) < 0 ∧ ((x &&& ((L - (1 : Int32)).toInt64)).toInt32) < L) (hi0 : ¬ i < 0) (hi : i < M) :
    ∃ (T' : State) (h' : Heap) (locs' : List Loc) (hd' : Int64) (to' : Int32), Stand p l e R s m args below meth c T' locs' cells slots ∧ T'.heap = h' ∧ Old Z n0 h' ∧ Fr n0 locs' ∧ DueF Z n0 h' a1 q1 M P k ev ct dd ∧ Evs Z n0 h' wv L ∧ Cts Z h' wc L k ∧ ∀ t, Steps p.tables e below (T'.setTop (mkF m 39 #[.val (.ref a1), .val (.long t1), .second, .val (.int L), .val (.ref wv), .val (.ref wc), .val (.int (i + (1 : Int32))), .val (.long hd'), .second, .val (.int to')] [])) t → Steps p.tables e below (T0.setTop (mkF m 39 #[.val (.ref a1), .val (.long t1), .second, .val (.int L), .val (.ref wv), .val (.ref wc), .val (.int i), .unset, .unset, .unset] [])) t := by
  have hD_ := hD; obtain ⟨gev, gct, E_a1, F_events, F_counts, F_mask, F_current, F_lastTick, F_pending, F_droppedLate, Ev, Ct⟩ := hD_
  have ne_d_e : a1 ≠ ev := own_de E_a1 (hw _ (List.mem_of_getElem? (i := 1) rfl)) Ev
  have ne_d_c : a1 ≠ ct := own_dc E_a1 (hw _ (List.mem_of_getElem? (i := 1) rfl)) Ct
  have ne_e_c : ev ≠ ct := own_ec Ev Ct
  have ne_a_wv : a1 ≠ wv := own_de E_a1 (hw _ (List.mem_of_getElem? (i := 1) rfl)) hV
  have ne_a_wc : a1 ≠ wc := own_dc E_a1 (hw _ (List.mem_of_getElem? (i := 1) rfl)) hC
  have ne_ev_wc : ev ≠ wc := own_ec Ev hC
  have ne_wv_ct : wv ≠ ct := own_ec hV Ct
  have ne_wv_wc : wv ≠ wc := own_ec hV hC
  obtain ⟨T1, X1, e1, st1⟩ := getF X0 hx hZ hown (host := "") (Or.inl (hw _ (List.mem_of_getElem? (i := 11) rfl))) Via.refl e0 F_events (g := (mkF m 42 #[.val (.ref a1), .val (.long t1), .second, .val (.int L), .val (.ref wv), .val (.ref wc), .val (.int i), .unset, .unset, .unset] [(.ref a1), (.int i)])) rfl rfl (hb hby d5_42)
  have Vc2 := Ev
  obtain ⟨ce2, Ae2, Oe2, Se2, Ne2, He2⟩ := Vc2
  obtain ⟨T3, X3, e3, st3⟩ := getF X1 hx hZ hown (host := "") (Or.inl (hw _ (List.mem_of_getElem? (i := 19) rfl))) Via.refl e1 F_current (g := (mkF m 50 #[.val (.ref a1), .val (.long t1), .second, .val (.int L), .val (.ref wv), .val (.ref wc), .val (.int i), .unset, .unset, .unset] [(.ref a1)])) rfl rfl (hb hby d5_50)
  obtain ⟨T4, X4, e4, st4⟩ := getF X3 hx hZ hown (host := "") (Or.inl (hw _ (List.mem_of_getElem? (i := 19) rfl))) Via.refl e3 F_current (g := (mkF m 57 #[.val (.ref a1), .val (.long t1), .second, .val (.int L), .val (.ref wv), .val (.ref wc), .val (.int i), .unset, .unset, .unset] [(.ref a1), (.long (i.toInt64)), (.long (-1))])) rfl rfl (hb hby d5_57)
  obtain ⟨T5, X5, e5, st5⟩ := getF X4 hx hZ hown (host := "") (Or.inl (hw _ (List.mem_of_getElem? (i := 16) rfl))) Via.refl e4 F_mask (g := (mkF m 62 #[.val (.ref a1), .val (.long t1), .second, .val (.int L), .val (.ref wv), .val (.ref wc), .val (.int i), .unset, .unset, .unset] [(.ref a1), (.long ((i.toInt64) - (-1))), (.long (-1))])) rfl rfl (hb hby d5_62)
  obtain ⟨T6, X6, e6, st6⟩ := getF X5 hx hZ hown (host := "") (Or.inl (hw _ (List.mem_of_getElem? (i := 11) rfl))) Via.refl e5 F_events (g := (mkF m 85 #[.val (.ref a1), .val (.long t1), .second, .val (.int L), .val (.ref wv), .val (.ref wc), .val (.int i), .val (.long ((-1) + (((i.toInt64) - (-1)) &&& ((M - 1).toInt64)))), .second, .val (.int ((((-1) + (((i.toInt64) - (-1)) &&& ((M - 1).toInt64))) &&& ((L - (1 : Int32)).toInt64)).toInt32))] [(.ref a1), (.int ((((-1) + (((i.toInt64) - (-1)) &&& ((M - 1).toInt64))) &&& ((L - (1 : Int32)).toInt64)).toInt32)), (.ref wv)])) rfl rfl (hb hby d5_85)
  have Vc7 := Ev
  obtain ⟨ce7, Ae7, Oe7, Se7, Ne7, He7⟩ := Vc7
  have hin7 : ¬ (i < 0 ∨ ce7.slots.size ≤ (i).toNatClampNeg) := inb_of Se7 ⟨hi0, hi⟩
  rcases He7 _ hin7 with hat7 | ⟨r7, hat7, gr7, Rr7⟩
  · have Vc8 := hV
    obtain ⟨ce8, Ae8, Oe8, Se8, Ne8, He8⟩ := Vc8
    have hin8 : ¬ (((((-1) + (((i.toInt64) - (-1)) &&& ((M - 1).toInt64))) &&& ((L - (1 : Int32)).toInt64)).toInt32) < 0 ∨ ce8.slots.size ≤ (((((-1) + (((i.toInt64) - (-1)) &&& ((M - 1).toInt64))) &&& ((L - (1 : Int32)).toInt64)).toInt32)).toNatClampNeg) := inb_of Se8 (hto _)
    obtain ⟨T8, h8, X8, e8, W8, st8⟩ := stR X6 hx hZ e6 Ae8 (j := ((((-1) + (((i.toInt64) - (-1)) &&& ((M - 1).toInt64))) &&& ((L - (1 : Int32)).toInt64)).toInt32)) hin8 rfl (Or.inl rfl) (g := (mkF m 91 #[.val (.ref a1), .val (.long t1), .second, .val (.int L), .val (.ref wv), .val (.ref wc), .val (.int i), .val (.long ((-1) + (((i.toInt64) - (-1)) &&& ((M - 1).toInt64)))), .second, .val (.int ((((-1) + (((i.toInt64) - (-1)) &&& ((M - 1).toInt64))) &&& ((L - (1 : Int32)).toInt64)).toInt32))] [.null, (.int ((((-1) + (((i.toInt64) - (-1)) &&& ((M - 1).toInt64))) &&& ((L - (1 : Int32)).toInt64)).toInt32)), (.ref wv)])) rfl rfl (hb hby d5_91)
    have V8 : Evs Z n0 h8 wv L := Evs.set Ae8 Oe8 Se8 Ne8 He8 hin8 W8 (Or.inl rfl)
    have O8 := O0.wr W8 gwv
    have N8 := Fr.snoc X8 N0 gwv
    have f9 := (F_counts.other W8 (Or.inl ne_a_wv))
    obtain ⟨T10, X10, e10, st10⟩ := getF X8 hx hZ hown (host := "") (Or.inl (hw _ (List.mem_of_getElem? (i := 14) rfl))) Via.refl e8 f9 (g := (mkF m 97 #[.val (.ref a1), .val (.long t1), .second, .val (.int L), .val (.ref wv), .val (.ref wc), .val (.int i), .val (.long ((-1) + (((i.toInt64) - (-1)) &&& ((M - 1).toInt64)))), .second, .val (.int ((((-1) + (((i.toInt64) - (-1)) &&& ((M - 1).toInt64))) &&& ((L - (1 : Int32)).toInt64)).toInt32))] [(.ref a1), (.int ((((-1) + (((i.toInt64) - (-1)) &&& ((M - 1).toInt64))) &&& ((L - (1 : Int32)).toInt64)).toInt32)), (.ref wc)])) rfl rfl (hb hby d5_97)
    have f12 := (Ct.other W8 (Ne.symm ne_wv_ct))
    have Vc11 := f12
    obtain ⟨cc11, Ac11, Sc11, Nc11, Hc11⟩ := Vc11
    have hin11 : ¬ (i < 0 ∨ cc11.slots.size ≤ (i).toNatClampNeg) := inb_of Sc11 ⟨hi0, hi⟩
    obtain ⟨x11, hat11, lo11, hi11⟩ := Hc11 _ hin11
    have f14 := (hC.other W8 (Ne.symm ne_wv_wc))
    have Vc13 := f14
    obtain ⟨cc13, Ac13, Sc13, Nc13, Hc13⟩ := Vc13
    have hin13 : ¬ (((((-1) + (((i.toInt64) - (-1)) &&& ((M - 1).toInt64))) &&& ((L - (1 : Int32)).toInt64)).toInt32) < 0 ∨ cc13.slots.size ≤ (((((-1) + (((i.toInt64) - (-1)) &&& ((M - 1).toInt64))) &&& ((L - (1 : Int32)).toInt64)).toInt32)).toNatClampNeg) := inb_of Sc13 (hto _)
    obtain ⟨T13, h13, X13, e13, W13, st13⟩ := stI X10 hx hZ e10 Ac13 (j := ((((-1) + (((i.toInt64) - (-1)) &&& ((M - 1).toInt64))) &&& ((L - (1 : Int32)).toInt64)).toInt32)) hin13 (g := (mkF m 103 #[.val (.ref a1), .val (.long t1), .second, .val (.int L), .val (.ref wv), .val (.ref wc), .val (.int i), .val (.long ((-1) + (((i.toInt64) - (-1)) &&& ((M - 1).toInt64)))), .second, .val (.int ((((-1) + (((i.toInt64) - (-1)) &&& ((M - 1).toInt64))) &&& ((L - (1 : Int32)).toInt64)).toInt32))] [(.int x11), (.int ((((-1) + (((i.toInt64) - (-1)) &&& ((M - 1).toInt64))) &&& ((L - (1 : Int32)).toInt64)).toInt32)), (.ref wc)])) rfl rfl (hb hby d5_103)
    have V13 : Cts Z h13 wc L k := Cts.set Ac13 Sc13 Nc13 Hc13 hin13 W13 lo11 hi11 (fun _ z => z)
    have O13 := O8.wr W13 gwc
    have N13 := Fr.snoc X13 N8 gwc
    have f15 := ((E_a1.wr W8).wr W13)
    have f16 := ((F_events.other W8 (Or.inl ne_a_wv)).other W13 (Or.inl ne_a_wc))
    have f17 := (f9.other W13 (Or.inl ne_a_wc))
    have f18 := ((F_mask.other W8 (Or.inl ne_a_wv)).other W13 (Or.inl ne_a_wc))
    have f19 := ((F_current.other W8 (Or.inl ne_a_wv)).other W13 (Or.inl ne_a_wc))
    have f20 := ((F_lastTick.other W8 (Or.inl ne_a_wv)).other W13 (Or.inl ne_a_wc))
    have f21 := ((F_pending.other W8 (Or.inl ne_a_wv)).other W13 (Or.inl ne_a_wc))
    have f22 := ((F_droppedLate.other W8 (Or.inl ne_a_wv)).other W13 (Or.inl ne_a_wc))
    have f23 := ((Ev.other W8 nev).other W13 ne_ev_wc)
    have f24 := (f12.other W13 nct)
    have f25 := (V8.other W13 ne_wv_wc)
    refine ⟨T13, _, _, ((-1) + (((i.toInt64) - (-1)) &&& ((M - 1).toInt64))), ((((-1) + (((i.toInt64) - (-1)) &&& ((M - 1).toInt64))) &&& ((L - (1 : Int32)).toInt64)).toInt32), X13, e13, O13, N13, ⟨gev, gct, f15, f16, f17, f18, f19, f20, f21, f22, f23, f24⟩, f25, V13, fun t kt => ?_⟩
    show Steps p.tables e below (T0.setTop (mkF m 39 #[.val (.ref a1), .val (.long t1), .second, .val (.int L), .val (.ref wv), .val (.ref wc), .val (.int i), .unset, .unset, .unset] [])) _
    refine XS.iload X0.here hx rfl (hb hby d5_39) rfl ?_
    show Steps p.tables e below (T0.setTop (mkF m 41 #[.val (.ref a1), .val (.long t1), .second, .val (.int L), .val (.ref wv), .val (.ref wc), .val (.int i), .unset, .unset, .unset] [(.int i)])) _
    refine XS.aloadN X0.here hx rfl (hb hby d5_41) rfl rfl ?_
    show Steps p.tables e below (T0.setTop (mkF m 42 #[.val (.ref a1), .val (.long t1), .second, .val (.int L), .val (.ref wv), .val (.ref wc), .val (.int i), .unset, .unset, .unset] [(.ref a1), (.int i)])) _
    refine st1 _ ?_
    show Steps p.tables e below (T1.setTop (mkF m 45 #[.val (.ref a1), .val (.long t1), .second, .val (.int L), .val (.ref wv), .val (.ref wc), .val (.int i), .unset, .unset, .unset] [(.ref ev), (.int i)])) _
    refine X1.arraylength hx (by rw [e1]; exact Ae2.1) (State.isArrayOf_alike hZ.alike Ae2.2.1) (g := (mkF m 45 #[.val (.ref a1), .val (.long t1), .second, .val (.int L), .val (.ref wv), .val (.ref wc), .val (.int i), .unset, .unset, .unset] [(.ref ev), (.int i)])) rfl rfl (hb hby d5_45) _ ?_
    rw [len_of Se2 Ne2]
    show Steps p.tables e below (T1.setTop (mkF m 46 #[.val (.ref a1), .val (.long t1), .second, .val (.int L), .val (.ref wv), .val (.ref wc), .val (.int i), .unset, .unset, .unset] [(.int M), (.int i)])) _
    refine XS.icmpNo X1.here hx rfl (hb hby d5_46) rfl (tlt hi).2.1 ?_
    show Steps p.tables e below (T1.setTop (mkF m 49 #[.val (.ref a1), .val (.long t1), .second, .val (.int L), .val (.ref wv), .val (.ref wc), .val (.int i), .unset, .unset, .unset] [])) _
    refine XS.aloadN X1.here hx rfl (hb hby d5_49) rfl rfl ?_
    show Steps p.tables e below (T1.setTop (mkF m 50 #[.val (.ref a1), .val (.long t1), .second, .val (.int L), .val (.ref wv), .val (.ref wc), .val (.int i), .unset, .unset, .unset] [(.ref a1)])) _
    refine st3 _ ?_
    show Steps p.tables e below (T3.setTop (mkF m 53 #[.val (.ref a1), .val (.long t1), .second, .val (.int L), .val (.ref wv), .val (.ref wc), .val (.int i), .unset, .unset, .unset] [(.long (-1))])) _
    refine XS.iload X3.here hx rfl (hb hby d5_53) rfl ?_
    show Steps p.tables e below (T3.setTop (mkF m 55 #[.val (.ref a1), .val (.long t1), .second, .val (.int L), .val (.ref wv), .val (.ref wc), .val (.int i), .unset, .unset, .unset] [(.int i), (.long (-1))])) _
    refine XS.i2l X3.here hx rfl (hb hby d5_55) rfl ?_
    show Steps p.tables e below (T3.setTop (mkF m 56 #[.val (.ref a1), .val (.long t1), .second, .val (.int L), .val (.ref wv), .val (.ref wc), .val (.int i), .unset, .unset, .unset] [(.long (i.toInt64)), (.long (-1))])) _
    refine XS.aloadN X3.here hx rfl (hb hby d5_56) rfl rfl ?_
    show Steps p.tables e below (T3.setTop (mkF m 57 #[.val (.ref a1), .val (.long t1), .second, .val (.int L), .val (.ref wv), .val (.ref wc), .val (.int i), .unset, .unset, .unset] [(.ref a1), (.long (i.toInt64)), (.long (-1))])) _
    refine st4 _ ?_
    show Steps p.tables e below (T4.setTop (mkF m 60 #[.val (.ref a1), .val (.long t1), .second, .val (.int L), .val (.ref wv), .val (.ref wc), .val (.int i), .unset, .unset, .unset] [(.long (-1)), (.long (i.toInt64)), (.long (-1))])) _
    refine XS.lsub X4.here hx rfl (hb hby d5_60) rfl ?_
    show Steps p.tables e below (T4.setTop (mkF m 61 #[.val (.ref a1), .val (.long t1), .second, .val (.int L), .val (.ref wv), .val (.ref wc), .val (.int i), .unset, .unset, .unset] [(.long ((i.toInt64) - (-1))), (.long (-1))])) _
    refine XS.aloadN X4.here hx rfl (hb hby d5_61) rfl rfl ?_
    show Steps p.tables e below (T4.setTop (mkF m 62 #[.val (.ref a1), .val (.long t1), .second, .val (.int L), .val (.ref wv), .val (.ref wc), .val (.int i), .unset, .unset, .unset] [(.ref a1), (.long ((i.toInt64) - (-1))), (.long (-1))])) _
    refine st5 _ ?_
    show Steps p.tables e below (T5.setTop (mkF m 65 #[.val (.ref a1), .val (.long t1), .second, .val (.int L), .val (.ref wv), .val (.ref wc), .val (.int i), .unset, .unset, .unset] [(.int (M - 1)), (.long ((i.toInt64) - (-1))), (.long (-1))])) _
    refine XS.i2l X5.here hx rfl (hb hby d5_65) rfl ?_
    show Steps p.tables e below (T5.setTop (mkF m 66 #[.val (.ref a1), .val (.long t1), .second, .val (.int L), .val (.ref wv), .val (.ref wc), .val (.int i), .unset, .unset, .unset] [(.long ((M - 1).toInt64)), (.long ((i.toInt64) - (-1))), (.long (-1))])) _
    refine XS.land X5.here hx rfl (hb hby d5_66) rfl ?_
    show Steps p.tables e below (T5.setTop (mkF m 67 #[.val (.ref a1), .val (.long t1), .second, .val (.int L), .val (.ref wv), .val (.ref wc), .val (.int i), .unset, .unset, .unset] [(.long (((i.toInt64) - (-1)) &&& ((M - 1).toInt64))), (.long (-1))])) _
    refine XS.ladd X5.here hx rfl (hb hby d5_67) rfl ?_
    show Steps p.tables e below (T5.setTop (mkF m 68 #[.val (.ref a1), .val (.long t1), .second, .val (.int L), .val (.ref wv), .val (.ref wc), .val (.int i), .unset, .unset, .unset] [(.long ((-1) + (((i.toInt64) - (-1)) &&& ((M - 1).toInt64))))])) _
    refine XS.lstore X5.here hx rfl (hb hby d5_68) rfl (l' := #[.val (.ref a1), .val (.long t1), .second, .val (.int L), .val (.ref wv), .val (.ref wc), .val (.int i), .val (.long ((-1) + (((i.toInt64) - (-1)) &&& ((M - 1).toInt64)))), .second, .unset]) rfl ?_
    show Steps p.tables e below (T5.setTop (mkF m 70 #[.val (.ref a1), .val (.long t1), .second, .val (.int L), .val (.ref wv), .val (.ref wc), .val (.int i), .val (.long ((-1) + (((i.toInt64) - (-1)) &&& ((M - 1).toInt64)))), .second, .unset] [])) _
    refine XS.lload X5.here hx rfl (hb hby d5_70) rfl ?_
    show Steps p.tables e below (T5.setTop (mkF m 72 #[.val (.ref a1), .val (.long t1), .second, .val (.int L), .val (.ref wv), .val (.ref wc), .val (.int i), .val (.long ((-1) + (((i.toInt64) - (-1)) &&& ((M - 1).toInt64)))), .second, .unset] [(.long ((-1) + (((i.toInt64) - (-1)) &&& ((M - 1).toInt64))))])) _
    refine XS.iloadN X5.here hx rfl (hb hby d5_72) rfl ?_
    show Steps p.tables e below (T5.setTop (mkF m 73 #[.val (.ref a1), .val (.long t1), .second, .val (.int L), .val (.ref wv), .val (.ref wc), .val (.int i), .val (.long ((-1) + (((i.toInt64) - (-1)) &&& ((M - 1).toInt64)))), .second, .unset] [(.int L), (.long ((-1) + (((i.toInt64) - (-1)) &&& ((M - 1).toInt64))))])) _
    refine XS.iconst X5.here hx rfl (hb hby d5_73) ?_
    show Steps p.tables e below (T5.setTop (mkF m 74 #[.val (.ref a1), .val (.long t1), .second, .val (.int L), .val (.ref wv), .val (.ref wc), .val (.int i), .val (.long ((-1) + (((i.toInt64) - (-1)) &&& ((M - 1).toInt64)))), .second, .unset] [(.int (1 : Int32)), (.int L), (.long ((-1) + (((i.toInt64) - (-1)) &&& ((M - 1).toInt64))))])) _
    refine XS.isub X5.here hx rfl (hb hby d5_74) rfl ?_
    show Steps p.tables e below (T5.setTop (mkF m 75 #[.val (.ref a1), .val (.long t1), .second, .val (.int L), .val (.ref wv), .val (.ref wc), .val (.int i), .val (.long ((-1) + (((i.toInt64) - (-1)) &&& ((M - 1).toInt64)))), .second, .unset] [(.int (L - (1 : Int32))), (.long ((-1) + (((i.toInt64) - (-1)) &&& ((M - 1).toInt64))))])) _
    refine XS.i2l X5.here hx rfl (hb hby d5_75) rfl ?_
    show Steps p.tables e below (T5.setTop (mkF m 76 #[.val (.ref a1), .val (.long t1), .second, .val (.int L), .val (.ref wv), .val (.ref wc), .val (.int i), .val (.long ((-1) + (((i.toInt64) - (-1)) &&& ((M - 1).toInt64)))), .second, .unset] [(.long ((L - (1 : Int32)).toInt64)), (.long ((-1) + (((i.toInt64) - (-1)) &&& ((M - 1).toInt64))))])) _
    refine XS.land X5.here hx rfl (hb hby d5_76) rfl ?_
    show Steps p.tables e below (T5.setTop (mkF m 77 #[.val (.ref a1), .val (.long t1), .second, .val (.int L), .val (.ref wv), .val (.ref wc), .val (.int i), .val (.long ((-1) + (((i.toInt64) - (-1)) &&& ((M - 1).toInt64)))), .second, .unset] [(.long (((-1) + (((i.toInt64) - (-1)) &&& ((M - 1).toInt64))) &&& ((L - (1 : Int32)).toInt64)))])) _
    refine XS.l2i X5.here hx rfl (hb hby d5_77) rfl ?_
    show Steps p.tables e below (T5.setTop (mkF m 78 #[.val (.ref a1), .val (.long t1), .second, .val (.int L), .val (.ref wv), .val (.ref wc), .val (.int i), .val (.long ((-1) + (((i.toInt64) - (-1)) &&& ((M - 1).toInt64)))), .second, .unset] [(.int ((((-1) + (((i.toInt64) - (-1)) &&& ((M - 1).toInt64))) &&& ((L - (1 : Int32)).toInt64)).toInt32))])) _
    refine XS.istore X5.here hx rfl (hb hby d5_78) rfl (l' := #[.val (.ref a1), .val (.long t1), .second, .val (.int L), .val (.ref wv), .val (.ref wc), .val (.int i), .val (.long ((-1) + (((i.toInt64) - (-1)) &&& ((M - 1).toInt64)))), .second, .val (.int ((((-1) + (((i.toInt64) - (-1)) &&& ((M - 1).toInt64))) &&& ((L - (1 : Int32)).toInt64)).toInt32))]) rfl ?_
    show Steps p.tables e below (T5.setTop (mkF m 80 #[.val (.ref a1), .val (.long t1), .second, .val (.int L), .val (.ref wv), .val (.ref wc), .val (.int i), .val (.long ((-1) + (((i.toInt64) - (-1)) &&& ((M - 1).toInt64)))), .second, .val (.int ((((-1) + (((i.toInt64) - (-1)) &&& ((M - 1).toInt64))) &&& ((L - (1 : Int32)).toInt64)).toInt32))] [])) _
    refine XS.aload X5.here hx rfl (hb hby d5_80) rfl rfl ?_
    show Steps p.tables e below (T5.setTop (mkF m 82 #[.val (.ref a1), .val (.long t1), .second, .val (.int L), .val (.ref wv), .val (.ref wc), .val (.int i), .val (.long ((-1) + (((i.toInt64) - (-1)) &&& ((M - 1).toInt64)))), .second, .val (.int ((((-1) + (((i.toInt64) - (-1)) &&& ((M - 1).toInt64))) &&& ((L - (1 : Int32)).toInt64)).toInt32))] [(.ref wv)])) _
    refine XS.iload X5.here hx rfl (hb hby d5_82) rfl ?_
    show Steps p.tables e below (T5.setTop (mkF m 84 #[.val (.ref a1), .val (.long t1), .second, .val (.int L), .val (.ref wv), .val (.ref wc), .val (.int i), .val (.long ((-1) + (((i.toInt64) - (-1)) &&& ((M - 1).toInt64)))), .second, .val (.int ((((-1) + (((i.toInt64) - (-1)) &&& ((M - 1).toInt64))) &&& ((L - (1 : Int32)).toInt64)).toInt32))] [(.int ((((-1) + (((i.toInt64) - (-1)) &&& ((M - 1).toInt64))) &&& ((L - (1 : Int32)).toInt64)).toInt32)), (.ref wv)])) _
    refine XS.aloadN X5.here hx rfl (hb hby d5_84) rfl rfl ?_
    show Steps p.tables e below (T5.setTop (mkF m 85 #[.val (.ref a1), .val (.long t1), .second, .val (.int L), .val (.ref wv), .val (.ref wc), .val (.int i), .val (.long ((-1) + (((i.toInt64) - (-1)) &&& ((M - 1).toInt64)))), .second, .val (.int ((((-1) + (((i.toInt64) - (-1)) &&& ((M - 1).toInt64))) &&& ((L - (1 : Int32)).toInt64)).toInt32))] [(.ref a1), (.int ((((-1) + (((i.toInt64) - (-1)) &&& ((M - 1).toInt64))) &&& ((L - (1 : Int32)).toInt64)).toInt32)), (.ref wv)])) _
    refine st6 _ ?_
    show Steps p.tables e below (T6.setTop (mkF m 88 #[.val (.ref a1), .val (.long t1), .second, .val (.int L), .val (.ref wv), .val (.ref wc), .val (.int i), .val (.long ((-1) + (((i.toInt64) - (-1)) &&& ((M - 1).toInt64)))), .second, .val (.int ((((-1) + (((i.toInt64) - (-1)) &&& ((M - 1).toInt64))) &&& ((L - (1 : Int32)).toInt64)).toInt32))] [(.ref ev), (.int ((((-1) + (((i.toInt64) - (-1)) &&& ((M - 1).toInt64))) &&& ((L - (1 : Int32)).toInt64)).toInt32)), (.ref wv)])) _
    refine XS.iload X6.here hx rfl (hb hby d5_88) rfl ?_
    show Steps p.tables e below (T6.setTop (mkF m 90 #[.val (.ref a1), .val (.long t1), .second, .val (.int L), .val (.ref wv), .val (.ref wc), .val (.int i), .val (.long ((-1) + (((i.toInt64) - (-1)) &&& ((M - 1).toInt64)))), .second, .val (.int ((((-1) + (((i.toInt64) - (-1)) &&& ((M - 1).toInt64))) &&& ((L - (1 : Int32)).toInt64)).toInt32))] [(.int i), (.ref ev), (.int ((((-1) + (((i.toInt64) - (-1)) &&& ((M - 1).toInt64))) &&& ((L - (1 : Int32)).toInt64)).toInt32)), (.ref wv)])) _
    refine X6.aaload hx (j := i) (v := .null) (by rw [e6]; exact Ae7.1) (State.isArrayOf_alike hZ.alike Ae7.2.1) rfl Ae7.2.2 hin7 hat7 (g := (mkF m 90 #[.val (.ref a1), .val (.long t1), .second, .val (.int L), .val (.ref wv), .val (.ref wc), .val (.int i), .val (.long ((-1) + (((i.toInt64) - (-1)) &&& ((M - 1).toInt64)))), .second, .val (.int ((((-1) + (((i.toInt64) - (-1)) &&& ((M - 1).toInt64))) &&& ((L - (1 : Int32)).toInt64)).toInt32))] [(.int i), (.ref ev), (.int ((((-1) + (((i.toInt64) - (-1)) &&& ((M - 1).toInt64))) &&& ((L - (1 : Int32)).toInt64)).toInt32)), (.ref wv)])) rfl rfl (hb hby d5_90) _ ?_
    show Steps p.tables e below (T6.setTop (mkF m 91 #[.val (.ref a1), .val (.long t1), .second, .val (.int L), .val (.ref wv), .val (.ref wc), .val (.int i), .val (.long ((-1) + (((i.toInt64) - (-1)) &&& ((M - 1).toInt64)))), .second, .val (.int ((((-1) + (((i.toInt64) - (-1)) &&& ((M - 1).toInt64))) &&& ((L - (1 : Int32)).toInt64)).toInt32))] [.null, (.int ((((-1) + (((i.toInt64) - (-1)) &&& ((M - 1).toInt64))) &&& ((L - (1 : Int32)).toInt64)).toInt32)), (.ref wv)])) _
    refine st8 _ ?_
    show Steps p.tables e below (T8.setTop (mkF m 92 #[.val (.ref a1), .val (.long t1), .second, .val (.int L), .val (.ref wv), .val (.ref wc), .val (.int i), .val (.long ((-1) + (((i.toInt64) - (-1)) &&& ((M - 1).toInt64)))), .second, .val (.int ((((-1) + (((i.toInt64) - (-1)) &&& ((M - 1).toInt64))) &&& ((L - (1 : Int32)).toInt64)).toInt32))] [])) _
    refine XS.aload X8.here hx rfl (hb hby d5_92) rfl rfl ?_
    show Steps p.tables e below (T8.setTop (mkF m 94 #[.val (.ref a1), .val (.long t1), .second, .val (.int L), .val (.ref wv), .val (.ref wc), .val (.int i), .val (.long ((-1) + (((i.toInt64) - (-1)) &&& ((M - 1).toInt64)))), .second, .val (.int ((((-1) + (((i.toInt64) - (-1)) &&& ((M - 1).toInt64))) &&& ((L - (1 : Int32)).toInt64)).toInt32))] [(.ref wc)])) _
    refine XS.iload X8.here hx rfl (hb hby d5_94) rfl ?_
    show Steps p.tables e below (T8.setTop (mkF m 96 #[.val (.ref a1), .val (.long t1), .second, .val (.int L), .val (.ref wv), .val (.ref wc), .val (.int i), .val (.long ((-1) + (((i.toInt64) - (-1)) &&& ((M - 1).toInt64)))), .second, .val (.int ((((-1) + (((i.toInt64) - (-1)) &&& ((M - 1).toInt64))) &&& ((L - (1 : Int32)).toInt64)).toInt32))] [(.int ((((-1) + (((i.toInt64) - (-1)) &&& ((M - 1).toInt64))) &&& ((L - (1 : Int32)).toInt64)).toInt32)), (.ref wc)])) _
    refine XS.aloadN X8.here hx rfl (hb hby d5_96) rfl rfl ?_
    show Steps p.tables e below (T8.setTop (mkF m 97 #[.val (.ref a1), .val (.long t1), .second, .val (.int L), .val (.ref wv), .val (.ref wc), .val (.int i), .val (.long ((-1) + (((i.toInt64) - (-1)) &&& ((M - 1).toInt64)))), .second, .val (.int ((((-1) + (((i.toInt64) - (-1)) &&& ((M - 1).toInt64))) &&& ((L - (1 : Int32)).toInt64)).toInt32))] [(.ref a1), (.int ((((-1) + (((i.toInt64) - (-1)) &&& ((M - 1).toInt64))) &&& ((L - (1 : Int32)).toInt64)).toInt32)), (.ref wc)])) _
    refine st10 _ ?_
    show Steps p.tables e below (T10.setTop (mkF m 100 #[.val (.ref a1), .val (.long t1), .second, .val (.int L), .val (.ref wv), .val (.ref wc), .val (.int i), .val (.long ((-1) + (((i.toInt64) - (-1)) &&& ((M - 1).toInt64)))), .second, .val (.int ((((-1) + (((i.toInt64) - (-1)) &&& ((M - 1).toInt64))) &&& ((L - (1 : Int32)).toInt64)).toInt32))] [(.ref ct), (.int ((((-1) + (((i.toInt64) - (-1)) &&& ((M - 1).toInt64))) &&& ((L - (1 : Int32)).toInt64)).toInt32)), (.ref wc)])) _
    refine XS.iload X10.here hx rfl (hb hby d5_100) rfl ?_
    show Steps p.tables e below (T10.setTop (mkF m 102 #[.val (.ref a1), .val (.long t1), .second, .val (.int L), .val (.ref wv), .val (.ref wc), .val (.int i), .val (.long ((-1) + (((i.toInt64) - (-1)) &&& ((M - 1).toInt64)))), .second, .val (.int ((((-1) + (((i.toInt64) - (-1)) &&& ((M - 1).toInt64))) &&& ((L - (1 : Int32)).toInt64)).toInt32))] [(.int i), (.ref ct), (.int ((((-1) + (((i.toInt64) - (-1)) &&& ((M - 1).toInt64))) &&& ((L - (1 : Int32)).toInt64)).toInt32)), (.ref wc)])) _
    refine X10.iaload hx (j := i) (v := (.int x11)) (by rw [e10]; exact Ac11.1) (State.isArrayOf_alike hZ.alike Ac11.2.1) Ac11.2.2 hin11 hat11 (g := (mkF m 102 #[.val (.ref a1), .val (.long t1), .second, .val (.int L), .val (.ref wv), .val (.ref wc), .val (.int i), .val (.long ((-1) + (((i.toInt64) - (-1)) &&& ((M - 1).toInt64)))), .second, .val (.int ((((-1) + (((i.toInt64) - (-1)) &&& ((M - 1).toInt64))) &&& ((L - (1 : Int32)).toInt64)).toInt32))] [(.int i), (.ref ct), (.int ((((-1) + (((i.toInt64) - (-1)) &&& ((M - 1).toInt64))) &&& ((L - (1 : Int32)).toInt64)).toInt32)), (.ref wc)])) rfl rfl (hb hby d5_102) _ ?_
    show Steps p.tables e below (T10.setTop (mkF m 103 #[.val (.ref a1), .val (.long t1), .second, .val (.int L), .val (.ref wv), .val (.ref wc), .val (.int i), .val (.long ((-1) + (((i.toInt64) - (-1)) &&& ((M - 1).toInt64)))), .second, .val (.int ((((-1) + (((i.toInt64) - (-1)) &&& ((M - 1).toInt64))) &&& ((L - (1 : Int32)).toInt64)).toInt32))] [(.int x11), (.int ((((-1) + (((i.toInt64) - (-1)) &&& ((M - 1).toInt64))) &&& ((L - (1 : Int32)).toInt64)).toInt32)), (.ref wc)])) _
    refine st13 _ ?_
    show Steps p.tables e below (T13.setTop (mkF m 104 #[.val (.ref a1), .val (.long t1), .second, .val (.int L), .val (.ref wv), .val (.ref wc), .val (.int i), .val (.long ((-1) + (((i.toInt64) - (-1)) &&& ((M - 1).toInt64)))), .second, .val (.int ((((-1) + (((i.toInt64) - (-1)) &&& ((M - 1).toInt64))) &&& ((L - (1 : Int32)).toInt64)).toInt32))] [])) _
    refine XS.iinc X13.here hx rfl (hb hby d5_104) rfl (l' := #[.val (.ref a1), .val (.long t1), .second, .val (.int L), .val (.ref wv), .val (.ref wc), .val (.int (i + (1 : Int32))), .val (.long ((-1) + (((i.toInt64) - (-1)) &&& ((M - 1).toInt64)))), .second, .val (.int ((((-1) + (((i.toInt64) - (-1)) &&& ((M - 1).toInt64))) &&& ((L - (1 : Int32)).toInt64)).toInt32))]) rfl ?_
    show Steps p.tables e below (T13.setTop (mkF m 107 #[.val (.ref a1), .val (.long t1), .second, .val (.int L), .val (.ref wv), .val (.ref wc), .val (.int (i + (1 : Int32))), .val (.long ((-1) + (((i.toInt64) - (-1)) &&& ((M - 1).toInt64)))), .second, .val (.int ((((-1) + (((i.toInt64) - (-1)) &&& ((M - 1).toInt64))) &&& ((L - (1 : Int32)).toInt64)).toInt32))] [])) _
    refine XS.goto X13.here hx rfl (pc0 := 107) (pc' := 39) rfl (hb hby d5_107) (by decide) (by decide) ?_
    exact kt
  · have Vc26 := hV
    obtain ⟨ce26, Ae26, Oe26, Se26, Ne26, He26⟩ := Vc26
    have hin26 : ¬ (((((-1) + (((i.toInt64) - (-1)) &&& ((M - 1).toInt64))) &&& ((L - (1 : Int32)).toInt64)).toInt32) < 0 ∨ ce26.slots.size ≤ (((((-1) + (((i.toInt64) - (-1)) &&& ((M - 1).toInt64))) &&& ((L - (1 : Int32)).toInt64)).toInt32)).toNatClampNeg) := inb_of Se26 (hto _)
    have f27 := Rr7
    obtain ⟨T26, h26, X26, e26, W26, st26⟩ := stR X6 hx hZ e6 Ae26 (j := ((((-1) + (((i.toInt64) - (-1)) &&& ((M - 1).toInt64))) &&& ((L - (1 : Int32)).toInt64)).toInt32)) hin26 rfl (Sto.ofVA Ae26 rfl Oe26 (Ins.self f27.choose_spec.2.2)) (g := (mkF m 91 #[.val (.ref a1), .val (.long t1), .second, .val (.int L), .val (.ref wv), .val (.ref wc), .val (.int i), .val (.long ((-1) + (((i.toInt64) - (-1)) &&& ((M - 1).toInt64)))), .second, .val (.int ((((-1) + (((i.toInt64) - (-1)) &&& ((M - 1).toInt64))) &&& ((L - (1 : Int32)).toInt64)).toInt32))] [(.ref r7), (.int ((((-1) + (((i.toInt64) - (-1)) &&& ((M - 1).toInt64))) &&& ((L - (1 : Int32)).toInt64)).toInt32)), (.ref wv)])) rfl rfl (hb hby d5_91)
    have V26 : Evs Z n0 h26 wv L := Evs.set Ae26 Oe26 Se26 Ne26 He26 hin26 W26 (Or.inr ⟨_, rfl, gr7, f27⟩)
    have O26 := O0.wr W26 gwv
    have N26 := Fr.snoc X26 N0 gwv
    have f28 := (F_counts.other W26 (Or.inl ne_a_wv))
    obtain ⟨T29, X29, e29, st29⟩ := getF X26 hx hZ hown (host := "") (Or.inl (hw _ (List.mem_of_getElem? (i := 14) rfl))) Via.refl e26 f28 (g := (mkF m 97 #[.val (.ref a1), .val (.long t1), .second, .val (.int L), .val (.ref wv), .val (.ref wc), .val (.int i), .val (.long ((-1) + (((i.toInt64) - (-1)) &&& ((M - 1).toInt64)))), .second, .val (.int ((((-1) + (((i.toInt64) - (-1)) &&& ((M - 1).toInt64))) &&& ((L - (1 : Int32)).toInt64)).toInt32))] [(.ref a1), (.int ((((-1) + (((i.toInt64) - (-1)) &&& ((M - 1).toInt64))) &&& ((L - (1 : Int32)).toInt64)).toInt32)), (.ref wc)])) rfl rfl (hb hby d5_97)
    have f31 := (Ct.other W26 (Ne.symm ne_wv_ct))
    have Vc30 := f31
    obtain ⟨cc30, Ac30, Sc30, Nc30, Hc30⟩ := Vc30
    have hin30 : ¬ (i < 0 ∨ cc30.slots.size ≤ (i).toNatClampNeg) := inb_of Sc30 ⟨hi0, hi⟩
    obtain ⟨x30, hat30, lo30, hi30⟩ := Hc30 _ hin30
    have f33 := (hC.other W26 (Ne.symm ne_wv_wc))
    have Vc32 := f33
    obtain ⟨cc32, Ac32, Sc32, Nc32, Hc32⟩ := Vc32
    have hin32 : ¬ (((((-1) + (((i.toInt64) - (-1)) &&& ((M - 1).toInt64))) &&& ((L - (1 : Int32)).toInt64)).toInt32) < 0 ∨ cc32.slots.size ≤ (((((-1) + (((i.toInt64) - (-1)) &&& ((M - 1).toInt64))) &&& ((L - (1 : Int32)).toInt64)).toInt32)).toNatClampNeg) := inb_of Sc32 (hto _)
    obtain ⟨T32, h32, X32, e32, W32, st32⟩ := stI X29 hx hZ e29 Ac32 (j := ((((-1) + (((i.toInt64) - (-1)) &&& ((M - 1).toInt64))) &&& ((L - (1 : Int32)).toInt64)).toInt32)) hin32 (g := (mkF m 103 #[.val (.ref a1), .val (.long t1), .second, .val (.int L), .val (.ref wv), .val (.ref wc), .val (.int i), .val (.long ((-1) + (((i.toInt64) - (-1)) &&& ((M - 1).toInt64)))), .second, .val (.int ((((-1) + (((i.toInt64) - (-1)) &&& ((M - 1).toInt64))) &&& ((L - (1 : Int32)).toInt64)).toInt32))] [(.int x30), (.int ((((-1) + (((i.toInt64) - (-1)) &&& ((M - 1).toInt64))) &&& ((L - (1 : Int32)).toInt64)).toInt32)), (.ref wc)])) rfl rfl (hb hby d5_103)
    have V32 : Cts Z h32 wc L k := Cts.set Ac32 Sc32 Nc32 Hc32 hin32 W32 lo30 hi30 (fun _ z => z)
    have O32 := O26.wr W32 gwc
    have N32 := Fr.snoc X32 N26 gwc
    have f34 := ((E_a1.wr W26).wr W32)
    have f35 := ((F_events.other W26 (Or.inl ne_a_wv)).other W32 (Or.inl ne_a_wc))
    have f36 := (f28.other W32 (Or.inl ne_a_wc))
    have f37 := ((F_mask.other W26 (Or.inl ne_a_wv)).other W32 (Or.inl ne_a_wc))
    have f38 := ((F_current.other W26 (Or.inl ne_a_wv)).other W32 (Or.inl ne_a_wc))
    have f39 := ((F_lastTick.other W26 (Or.inl ne_a_wv)).other W32 (Or.inl ne_a_wc))
    have f40 := ((F_pending.other W26 (Or.inl ne_a_wv)).other W32 (Or.inl ne_a_wc))
    have f41 := ((F_droppedLate.other W26 (Or.inl ne_a_wv)).other W32 (Or.inl ne_a_wc))
    have f42 := ((Ev.other W26 nev).other W32 ne_ev_wc)
    have f43 := (f31.other W32 nct)
    have f44 := (V26.other W32 ne_wv_wc)
    refine ⟨T32, _, _, ((-1) + (((i.toInt64) - (-1)) &&& ((M - 1).toInt64))), ((((-1) + (((i.toInt64) - (-1)) &&& ((M - 1).toInt64))) &&& ((L - (1 : Int32)).toInt64)).toInt32), X32, e32, O32, N32, ⟨gev, gct, f34, f35, f36, f37, f38, f39, f40, f41, f42, f43⟩, f44, V32, fun t kt => ?_⟩
    show Steps p.tables e below (T0.setTop (mkF m 39 #[.val (.ref a1), .val (.long t1), .second, .val (.int L), .val (.ref wv), .val (.ref wc), .val (.int i), .unset, .unset, .unset] [])) _
    refine XS.iload X0.here hx rfl (hb hby d5_39) rfl ?_
    show Steps p.tables e below (T0.setTop (mkF m 41 #[.val (.ref a1), .val (.long t1), .second, .val (.int L), .val (.ref wv), .val (.ref wc), .val (.int i), .unset, .unset, .unset] [(.int i)])) _
    refine XS.aloadN X0.here hx rfl (hb hby d5_41) rfl rfl ?_
    show Steps p.tables e below (T0.setTop (mkF m 42 #[.val (.ref a1), .val (.long t1), .second, .val (.int L), .val (.ref wv), .val (.ref wc), .val (.int i), .unset, .unset, .unset] [(.ref a1), (.int i)])) _
    refine st1 _ ?_
    show Steps p.tables e below (T1.setTop (mkF m 45 #[.val (.ref a1), .val (.long t1), .second, .val (.int L), .val (.ref wv), .val (.ref wc), .val (.int i), .unset, .unset, .unset] [(.ref ev), (.int i)])) _
    refine X1.arraylength hx (by rw [e1]; exact Ae2.1) (State.isArrayOf_alike hZ.alike Ae2.2.1) (g := (mkF m 45 #[.val (.ref a1), .val (.long t1), .second, .val (.int L), .val (.ref wv), .val (.ref wc), .val (.int i), .unset, .unset, .unset] [(.ref ev), (.int i)])) rfl rfl (hb hby d5_45) _ ?_
    rw [len_of Se2 Ne2]
    show Steps p.tables e below (T1.setTop (mkF m 46 #[.val (.ref a1), .val (.long t1), .second, .val (.int L), .val (.ref wv), .val (.ref wc), .val (.int i), .unset, .unset, .unset] [(.int M), (.int i)])) _
    refine XS.icmpNo X1.here hx rfl (hb hby d5_46) rfl (tlt hi).2.1 ?_
    show Steps p.tables e below (T1.setTop (mkF m 49 #[.val (.ref a1), .val (.long t1), .second, .val (.int L), .val (.ref wv), .val (.ref wc), .val (.int i), .unset, .unset, .unset] [])) _
    refine XS.aloadN X1.here hx rfl (hb hby d5_49) rfl rfl ?_
    show Steps p.tables e below (T1.setTop (mkF m 50 #[.val (.ref a1), .val (.long t1), .second, .val (.int L), .val (.ref wv), .val (.ref wc), .val (.int i), .unset, .unset, .unset] [(.ref a1)])) _
    refine st3 _ ?_
    show Steps p.tables e below (T3.setTop (mkF m 53 #[.val (.ref a1), .val (.long t1), .second, .val (.int L), .val (.ref wv), .val (.ref wc), .val (.int i), .unset, .unset, .unset] [(.long (-1))])) _
    refine XS.iload X3.here hx rfl (hb hby d5_53) rfl ?_
    show Steps p.tables e below (T3.setTop (mkF m 55 #[.val (.ref a1), .val (.long t1), .second, .val (.int L), .val (.ref wv), .val (.ref wc), .val (.int i), .unset, .unset, .unset] [(.int i), (.long (-1))])) _
    refine XS.i2l X3.here hx rfl (hb hby d5_55) rfl ?_
    show Steps p.tables e below (T3.setTop (mkF m 56 #[.val (.ref a1), .val (.long t1), .second, .val (.int L), .val (.ref wv), .val (.ref wc), .val (.int i), .unset, .unset, .unset] [(.long (i.toInt64)), (.long (-1))])) _
    refine XS.aloadN X3.here hx rfl (hb hby d5_56) rfl rfl ?_
    show Steps p.tables e below (T3.setTop (mkF m 57 #[.val (.ref a1), .val (.long t1), .second, .val (.int L), .val (.ref wv), .val (.ref wc), .val (.int i), .unset, .unset, .unset] [(.ref a1), (.long (i.toInt64)), (.long (-1))])) _
    refine st4 _ ?_
    show Steps p.tables e below (T4.setTop (mkF m 60 #[.val (.ref a1), .val (.long t1), .second, .val (.int L), .val (.ref wv), .val (.ref wc), .val (.int i), .unset, .unset, .unset] [(.long (-1)), (.long (i.toInt64)), (.long (-1))])) _
    refine XS.lsub X4.here hx rfl (hb hby d5_60) rfl ?_
    show Steps p.tables e below (T4.setTop (mkF m 61 #[.val (.ref a1), .val (.long t1), .second, .val (.int L), .val (.ref wv), .val (.ref wc), .val (.int i), .unset, .unset, .unset] [(.long ((i.toInt64) - (-1))), (.long (-1))])) _
    refine XS.aloadN X4.here hx rfl (hb hby d5_61) rfl rfl ?_
    show Steps p.tables e below (T4.setTop (mkF m 62 #[.val (.ref a1), .val (.long t1), .second, .val (.int L), .val (.ref wv), .val (.ref wc), .val (.int i), .unset, .unset, .unset] [(.ref a1), (.long ((i.toInt64) - (-1))), (.long (-1))])) _
    refine st5 _ ?_
    show Steps p.tables e below (T5.setTop (mkF m 65 #[.val (.ref a1), .val (.long t1), .second, .val (.int L), .val (.ref wv), .val (.ref wc), .val (.int i), .unset, .unset, .unset] [(.int (M - 1)), (.long ((i.toInt64) - (-1))), (.long (-1))])) _
    refine XS.i2l X5.here hx rfl (hb hby d5_65) rfl ?_
    show Steps p.tables e below (T5.setTop (mkF m 66 #[.val (.ref a1), .val (.long t1), .second, .val (.int L), .val (.ref wv), .val (.ref wc), .val (.int i), .unset, .unset, .unset] [(.long ((M - 1).toInt64)), (.long ((i.toInt64) - (-1))), (.long (-1))])) _
    refine XS.land X5.here hx rfl (hb hby d5_66) rfl ?_
    show Steps p.tables e below (T5.setTop (mkF m 67 #[.val (.ref a1), .val (.long t1), .second, .val (.int L), .val (.ref wv), .val (.ref wc), .val (.int i), .unset, .unset, .unset] [(.long (((i.toInt64) - (-1)) &&& ((M - 1).toInt64))), (.long (-1))])) _
    refine XS.ladd X5.here hx rfl (hb hby d5_67) rfl ?_
    show Steps p.tables e below (T5.setTop (mkF m 68 #[.val (.ref a1), .val (.long t1), .second, .val (.int L), .val (.ref wv), .val (.ref wc), .val (.int i), .unset, .unset, .unset] [(.long ((-1) + (((i.toInt64) - (-1)) &&& ((M - 1).toInt64))))])) _
    refine XS.lstore X5.here hx rfl (hb hby d5_68) rfl (l' := #[.val (.ref a1), .val (.long t1), .second, .val (.int L), .val (.ref wv), .val (.ref wc), .val (.int i), .val (.long ((-1) + (((i.toInt64) - (-1)) &&& ((M - 1).toInt64)))), .second, .unset]) rfl ?_
    show Steps p.tables e below (T5.setTop (mkF m 70 #[.val (.ref a1), .val (.long t1), .second, .val (.int L), .val (.ref wv), .val (.ref wc), .val (.int i), .val (.long ((-1) + (((i.toInt64) - (-1)) &&& ((M - 1).toInt64)))), .second, .unset] [])) _
    refine XS.lload X5.here hx rfl (hb hby d5_70) rfl ?_
    show Steps p.tables e below (T5.setTop (mkF m 72 #[.val (.ref a1), .val (.long t1), .second, .val (.int L), .val (.ref wv), .val (.ref wc), .val (.int i), .val (.long ((-1) + (((i.toInt64) - (-1)) &&& ((M - 1).toInt64)))), .second, .unset] [(.long ((-1) + (((i.toInt64) - (-1)) &&& ((M - 1).toInt64))))])) _
    refine XS.iloadN X5.here hx rfl (hb hby d5_72) rfl ?_
    show Steps p.tables e below (T5.setTop (mkF m 73 #[.val (.ref a1), .val (.long t1), .second, .val (.int L), .val (.ref wv), .val (.ref wc), .val (.int i), .val (.long ((-1) + (((i.toInt64) - (-1)) &&& ((M - 1).toInt64)))), .second, .unset] [(.int L), (.long ((-1) + (((i.toInt64) - (-1)) &&& ((M - 1).toInt64))))])) _
    refine XS.iconst X5.here hx rfl (hb hby d5_73) ?_
    show Steps p.tables e below (T5.setTop (mkF m 74 #[.val (.ref a1), .val (.long t1), .second, .val (.int L), .val (.ref wv), .val (.ref wc), .val (.int i), .val (.long ((-1) + (((i.toInt64) - (-1)) &&& ((M - 1).toInt64)))), .second, .unset] [(.int (1 : Int32)), (.int L), (.long ((-1) + (((i.toInt64) - (-1)) &&& ((M - 1).toInt64))))])) _
    refine XS.isub X5.here hx rfl (hb hby d5_74) rfl ?_
    show Steps p.tables e below (T5.setTop (mkF m 75 #[.val (.ref a1), .val (.long t1), .second, .val (.int L), .val (.ref wv), .val (.ref wc), .val (.int i), .val (.long ((-1) + (((i.toInt64) - (-1)) &&& ((M - 1).toInt64)))), .second, .unset] [(.int (L - (1 : Int32))), (.long ((-1) + (((i.toInt64) - (-1)) &&& ((M - 1).toInt64))))])) _
    refine XS.i2l X5.here hx rfl (hb hby d5_75) rfl ?_
    show Steps p.tables e below (T5.setTop (mkF m 76 #[.val (.ref a1), .val (.long t1), .second, .val (.int L), .val (.ref wv), .val (.ref wc), .val (.int i), .val (.long ((-1) + (((i.toInt64) - (-1)) &&& ((M - 1).toInt64)))), .second, .unset] [(.long ((L - (1 : Int32)).toInt64)), (.long ((-1) + (((i.toInt64) - (-1)) &&& ((M - 1).toInt64))))])) _
    refine XS.land X5.here hx rfl (hb hby d5_76) rfl ?_
    show Steps p.tables e below (T5.setTop (mkF m 77 #[.val (.ref a1), .val (.long t1), .second, .val (.int L), .val (.ref wv), .val (.ref wc), .val (.int i), .val (.long ((-1) + (((i.toInt64) - (-1)) &&& ((M - 1).toInt64)))), .second, .unset] [(.long (((-1) + (((i.toInt64) - (-1)) &&& ((M - 1).toInt64))) &&& ((L - (1 : Int32)).toInt64)))])) _
    refine XS.l2i X5.here hx rfl (hb hby d5_77) rfl ?_
    show Steps p.tables e below (T5.setTop (mkF m 78 #[.val (.ref a1), .val (.long t1), .second, .val (.int L), .val (.ref wv), .val (.ref wc), .val (.int i), .val (.long ((-1) + (((i.toInt64) - (-1)) &&& ((M - 1).toInt64)))), .second, .unset] [(.int ((((-1) + (((i.toInt64) - (-1)) &&& ((M - 1).toInt64))) &&& ((L - (1 : Int32)).toInt64)).toInt32))])) _
    refine XS.istore X5.here hx rfl (hb hby d5_78) rfl (l' := #[.val (.ref a1), .val (.long t1), .second, .val (.int L), .val (.ref wv), .val (.ref wc), .val (.int i), .val (.long ((-1) + (((i.toInt64) - (-1)) &&& ((M - 1).toInt64)))), .second, .val (.int ((((-1) + (((i.toInt64) - (-1)) &&& ((M - 1).toInt64))) &&& ((L - (1 : Int32)).toInt64)).toInt32))]) rfl ?_
    show Steps p.tables e below (T5.setTop (mkF m 80 #[.val (.ref a1), .val (.long t1), .second, .val (.int L), .val (.ref wv), .val (.ref wc), .val (.int i), .val (.long ((-1) + (((i.toInt64) - (-1)) &&& ((M - 1).toInt64)))), .second, .val (.int ((((-1) + (((i.toInt64) - (-1)) &&& ((M - 1).toInt64))) &&& ((L - (1 : Int32)).toInt64)).toInt32))] [])) _
    refine XS.aload X5.here hx rfl (hb hby d5_80) rfl rfl ?_
    show Steps p.tables e below (T5.setTop (mkF m 82 #[.val (.ref a1), .val (.long t1), .second, .val (.int L), .val (.ref wv), .val (.ref wc), .val (.int i), .val (.long ((-1) + (((i.toInt64) - (-1)) &&& ((M - 1).toInt64)))), .second, .val (.int ((((-1) + (((i.toInt64) - (-1)) &&& ((M - 1).toInt64))) &&& ((L - (1 : Int32)).toInt64)).toInt32))] [(.ref wv)])) _
    refine XS.iload X5.here hx rfl (hb hby d5_82) rfl ?_
    show Steps p.tables e below (T5.setTop (mkF m 84 #[.val (.ref a1), .val (.long t1), .second, .val (.int L), .val (.ref wv), .val (.ref wc), .val (.int i), .val (.long ((-1) + (((i.toInt64) - (-1)) &&& ((M - 1).toInt64)))), .second, .val (.int ((((-1) + (((i.toInt64) - (-1)) &&& ((M - 1).toInt64))) &&& ((L - (1 : Int32)).toInt64)).toInt32))] [(.int ((((-1) + (((i.toInt64) - (-1)) &&& ((M - 1).toInt64))) &&& ((L - (1 : Int32)).toInt64)).toInt32)), (.ref wv)])) _
    refine XS.aloadN X5.here hx rfl (hb hby d5_84) rfl rfl ?_
    show Steps p.tables e below (T5.setTop (mkF m 85 #[.val (.ref a1), .val (.long t1), .second, .val (.int L), .val (.ref wv), .val (.ref wc), .val (.int i), .val (.long ((-1) + (((i.toInt64) - (-1)) &&& ((M - 1).toInt64)))), .second, .val (.int ((((-1) + (((i.toInt64) - (-1)) &&& ((M - 1).toInt64))) &&& ((L - (1 : Int32)).toInt64)).toInt32))] [(.ref a1), (.int ((((-1) + (((i.toInt64) - (-1)) &&& ((M - 1).toInt64))) &&& ((L - (1 : Int32)).toInt64)).toInt32)), (.ref wv)])) _
    refine st6 _ ?_
    show Steps p.tables e below (T6.setTop (mkF m 88 #[.val (.ref a1), .val (.long t1), .second, .val (.int L), .val (.ref wv), .val (.ref wc), .val (.int i), .val (.long ((-1) + (((i.toInt64) - (-1)) &&& ((M - 1).toInt64)))), .second, .val (.int ((((-1) + (((i.toInt64) - (-1)) &&& ((M - 1).toInt64))) &&& ((L - (1 : Int32)).toInt64)).toInt32))] [(.ref ev), (.int ((((-1) + (((i.toInt64) - (-1)) &&& ((M - 1).toInt64))) &&& ((L - (1 : Int32)).toInt64)).toInt32)), (.ref wv)])) _
    refine XS.iload X6.here hx rfl (hb hby d5_88) rfl ?_
    show Steps p.tables e below (T6.setTop (mkF m 90 #[.val (.ref a1), .val (.long t1), .second, .val (.int L), .val (.ref wv), .val (.ref wc), .val (.int i), .val (.long ((-1) + (((i.toInt64) - (-1)) &&& ((M - 1).toInt64)))), .second, .val (.int ((((-1) + (((i.toInt64) - (-1)) &&& ((M - 1).toInt64))) &&& ((L - (1 : Int32)).toInt64)).toInt32))] [(.int i), (.ref ev), (.int ((((-1) + (((i.toInt64) - (-1)) &&& ((M - 1).toInt64))) &&& ((L - (1 : Int32)).toInt64)).toInt32)), (.ref wv)])) _
    refine X6.aaload hx (j := i) (v := (.ref r7)) (by rw [e6]; exact Ae7.1) (State.isArrayOf_alike hZ.alike Ae7.2.1) rfl Ae7.2.2 hin7 hat7 (g := (mkF m 90 #[.val (.ref a1), .val (.long t1), .second, .val (.int L), .val (.ref wv), .val (.ref wc), .val (.int i), .val (.long ((-1) + (((i.toInt64) - (-1)) &&& ((M - 1).toInt64)))), .second, .val (.int ((((-1) + (((i.toInt64) - (-1)) &&& ((M - 1).toInt64))) &&& ((L - (1 : Int32)).toInt64)).toInt32))] [(.int i), (.ref ev), (.int ((((-1) + (((i.toInt64) - (-1)) &&& ((M - 1).toInt64))) &&& ((L - (1 : Int32)).toInt64)).toInt32)), (.ref wv)])) rfl rfl (hb hby d5_90) _ ?_
    show Steps p.tables e below (T6.setTop (mkF m 91 #[.val (.ref a1), .val (.long t1), .second, .val (.int L), .val (.ref wv), .val (.ref wc), .val (.int i), .val (.long ((-1) + (((i.toInt64) - (-1)) &&& ((M - 1).toInt64)))), .second, .val (.int ((((-1) + (((i.toInt64) - (-1)) &&& ((M - 1).toInt64))) &&& ((L - (1 : Int32)).toInt64)).toInt32))] [(.ref r7), (.int ((((-1) + (((i.toInt64) - (-1)) &&& ((M - 1).toInt64))) &&& ((L - (1 : Int32)).toInt64)).toInt32)), (.ref wv)])) _
    refine st26 _ ?_
    show Steps p.tables e below (T26.setTop (mkF m 92 #[.val (.ref a1), .val (.long t1), .second, .val (.int L), .val (.ref wv), .val (.ref wc), .val (.int i), .val (.long ((-1) + (((i.toInt64) - (-1)) &&& ((M - 1).toInt64)))), .second, .val (.int ((((-1) + (((i.toInt64) - (-1)) &&& ((M - 1).toInt64))) &&& ((L - (1 : Int32)).toInt64)).toInt32))] [])) _
    refine XS.aload X26.here hx rfl (hb hby d5_92) rfl rfl ?_
    show Steps p.tables e below (T26.setTop (mkF m 94 #[.val (.ref a1), .val (.long t1), .second, .val (.int L), .val (.ref wv), .val (.ref wc), .val (.int i), .val (.long ((-1) + (((i.toInt64) - (-1)) &&& ((M - 1).toInt64)))), .second, .val (.int ((((-1) + (((i.toInt64) - (-1)) &&& ((M - 1).toInt64))) &&& ((L - (1 : Int32)).toInt64)).toInt32))] [(.ref wc)])) _
    refine XS.iload X26.here hx rfl (hb hby d5_94) rfl ?_
    show Steps p.tables e below (T26.setTop (mkF m 96 #[.val (.ref a1), .val (.long t1), .second, .val (.int L), .val (.ref wv), .val (.ref wc), .val (.int i), .val (.long ((-1) + (((i.toInt64) - (-1)) &&& ((M - 1).toInt64)))), .second, .val (.int ((((-1) + (((i.toInt64) - (-1)) &&& ((M - 1).toInt64))) &&& ((L - (1 : Int32)).toInt64)).toInt32))] [(.int ((((-1) + (((i.toInt64) - (-1)) &&& ((M - 1).toInt64))) &&& ((L - (1 : Int32)).toInt64)).toInt32)), (.ref wc)])) _
    refine XS.aloadN X26.here hx rfl (hb hby d5_96) rfl rfl ?_
    show Steps p.tables e below (T26.setTop (mkF m 97 #[.val (.ref a1), .val (.long t1), .second, .val (.int L), .val (.ref wv), .val (.ref wc), .val (.int i), .val (.long ((-1) + (((i.toInt64) - (-1)) &&& ((M - 1).toInt64)))), .second, .val (.int ((((-1) + (((i.toInt64) - (-1)) &&& ((M - 1).toInt64))) &&& ((L - (1 : Int32)).toInt64)).toInt32))] [(.ref a1), (.int ((((-1) + (((i.toInt64) - (-1)) &&& ((M - 1).toInt64))) &&& ((L - (1 : Int32)).toInt64)).toInt32)), (.ref wc)])) _
    refine st29 _ ?_
    show Steps p.tables e below (T29.setTop (mkF m 100 #[.val (.ref a1), .val (.long t1), .second, .val (.int L), .val (.ref wv), .val (.ref wc), .val (.int i), .val (.long ((-1) + (((i.toInt64) - (-1)) &&& ((M - 1).toInt64)))), .second, .val (.int ((((-1) + (((i.toInt64) - (-1)) &&& ((M - 1).toInt64))) &&& ((L - (1 : Int32)).toInt64)).toInt32))] [(.ref ct), (.int ((((-1) + (((i.toInt64) - (-1)) &&& ((M - 1).toInt64))) &&& ((L - (1 : Int32)).toInt64)).toInt32)), (.ref wc)])) _
    refine XS.iload X29.here hx rfl (hb hby d5_100) rfl ?_
    show Steps p.tables e below (T29.setTop (mkF m 102 #[.val (.ref a1), .val (.long t1), .second, .val (.int L), .val (.ref wv), .val (.ref wc), .val (.int i), .val (.long ((-1) + (((i.toInt64) - (-1)) &&& ((M - 1).toInt64)))), .second, .val (.int ((((-1) + (((i.toInt64) - (-1)) &&& ((M - 1).toInt64))) &&& ((L - (1 : Int32)).toInt64)).toInt32))] [(.int i), (.ref ct), (.int ((((-1) + (((i.toInt64) - (-1)) &&& ((M - 1).toInt64))) &&& ((L - (1 : Int32)).toInt64)).toInt32)), (.ref wc)])) _
    refine X29.iaload hx (j := i) (v := (.int x30)) (by rw [e29]; exact Ac30.1) (State.isArrayOf_alike hZ.alike Ac30.2.1) Ac30.2.2 hin30 hat30 (g := (mkF m 102 #[.val (.ref a1), .val (.long t1), .second, .val (.int L), .val (.ref wv), .val (.ref wc), .val (.int i), .val (.long ((-1) + (((i.toInt64) - (-1)) &&& ((M - 1).toInt64)))), .second, .val (.int ((((-1) + (((i.toInt64) - (-1)) &&& ((M - 1).toInt64))) &&& ((L - (1 : Int32)).toInt64)).toInt32))] [(.int i), (.ref ct), (.int ((((-1) + (((i.toInt64) - (-1)) &&& ((M - 1).toInt64))) &&& ((L - (1 : Int32)).toInt64)).toInt32)), (.ref wc)])) rfl rfl (hb hby d5_102) _ ?_
    show Steps p.tables e below (T29.setTop (mkF m 103 #[.val (.ref a1), .val (.long t1), .second, .val (.int L), .val (.ref wv), .val (.ref wc), .val (.int i), .val (.long ((-1) + (((i.toInt64) - (-1)) &&& ((M - 1).toInt64)))), .second, .val (.int ((((-1) + (((i.toInt64) - (-1)) &&& ((M - 1).toInt64))) &&& ((L - (1 : Int32)).toInt64)).toInt32))] [(.int x30), (.int ((((-1) + (((i.toInt64) - (-1)) &&& ((M - 1).toInt64))) &&& ((L - (1 : Int32)).toInt64)).toInt32)), (.ref wc)])) _
    refine st32 _ ?_
    show Steps p.tables e below (T32.setTop (mkF m 104 #[.val (.ref a1), .val (.long t1), .second, .val (.int L), .val (.ref wv), .val (.ref wc), .val (.int i), .val (.long ((-1) + (((i.toInt64) - (-1)) &&& ((M - 1).toInt64)))), .second, .val (.int ((((-1) + (((i.toInt64) - (-1)) &&& ((M - 1).toInt64))) &&& ((L - (1 : Int32)).toInt64)).toInt32))] [])) _
    refine XS.iinc X32.here hx rfl (hb hby d5_104) rfl (l' := #[.val (.ref a1), .val (.long t1), .second, .val (.int L), .val (.ref wv), .val (.ref wc), .val (.int (i + (1 : Int32))), .val (.long ((-1) + (((i.toInt64) - (-1)) &&& ((M - 1).toInt64)))), .second, .val (.int ((((-1) + (((i.toInt64) - (-1)) &&& ((M - 1).toInt64))) &&& ((L - (1 : Int32)).toInt64)).toInt32))]) rfl ?_
    show Steps p.tables e below (T32.setTop (mkF m 107 #[.val (.ref a1), .val (.long t1), .second, .val (.int L), .val (.ref wv), .val (.ref wc), .val (.int (i + (1 : Int32))), .val (.long ((-1) + (((i.toInt64) - (-1)) &&& ((M - 1).toInt64)))), .second, .val (.int ((((-1) + (((i.toInt64) - (-1)) &&& ((M - 1).toInt64))) &&& ((L - (1 : Int32)).toInt64)).toInt32))] [])) _
    refine XS.goto X32.here hx rfl (pc0 := 107) (pc' := 39) rfl (hb hby d5_107) (by decide) (by decide) ?_
    exact kt
set_option maxRecDepth 65536 in
set_option maxHeartbeats 40000000 in
theorem turnB {p : Program} {l : Launch} {e : Env} {R : Room} {s : State} {m : MethodId} {args : Array Value} {below : List Frame} {meth : Method} {c : Code} {T0 : State} {locs : List Loc} {cells slots : Nat} {Z : State} {a0 : Array Value} {h0 : Heap} {n0 : Nat} {a1 wv wc ev ct : Addr} {q1 t1 P hd : Int64} {M L k i to : Int32} {dd : Value}
    (X0 : Stand p l e R s m args below meth c T0 locs cells slots) (hx : p.tables.exec = Jvm.exec) (hZ : Z.Warmed39 s.vm) (hw : ∀ d ∈ tables_1, d.before a0 Z = true) (hby : c.code = prog_187_method_7_code) (hml : c.maxLocals = 10) (hown : s.vm.findClass "com/example/januswire/januswire/sim/DueEvents" = some m.cls) (e0 : T0.heap = h0) (O0 : Old Z n0 h0) (N0 : Fr n0 locs) (hD : DueF Z n0 h0 a1 q1 M P k ev ct dd) (hV : Evs Z n0 h0 wv L) (hC : Cts Z h0 wc L k) (g1 : n0 ≤ a1) (gwv : n0 ≤ wv) (gwc : n0 ≤ wc) (nev : ev ≠ wv) (nct : ct ≠ wc) (hto : ∀ x : Int64, ¬ ((x &&& ((L - (1 : Int32)).toInt64)).toInt32) < 0 ∧ ((x &&& ((L - (1 : Int32)).toInt64)).toInt32) < L) (hi0 : ¬ i < 0) (hi : i < M) :
    ∃ (T' : State) (h' : Heap) (locs' : List Loc) (hd' : Int64) (to' : Int32), Stand p l e R s m args below meth c T' locs' cells slots ∧ T'.heap = h' ∧ Old Z n0 h' ∧ Fr n0 locs' ∧ DueF Z n0 h' a1 q1 M P k ev ct dd ∧ Evs Z n0 h' wv L ∧ Cts Z h' wc L k ∧ ∀ t, Steps p.tables e below (T'.setTop (mkF m 39 #[.val (.ref a1), .val (.long t1), .second, .val (.int L), .val (.ref wv), .val (.ref wc), .val (.int (i + (1 : Int32))), .val (.long hd'), .second, .val (.int to')] [])) t → Steps p.tables e below (T0.setTop (mkF m 39 #[.val (.ref a1), .val (.long t1), .second, .val (.int L), .val (.ref wv), .val (.ref wc), .val (.int i), .val (.long hd), .second, .val (.int to)] [])) t := by
  have hD_ := hD; obtain ⟨gev, gct, E_a1, F_events, F_counts, F_mask, F_current, F_lastTick, F_pending, F_droppedLate, Ev, Ct⟩ := hD_
  have ne_d_e : a1 ≠ ev := own_de E_a1 (hw _ (List.mem_of_getElem? (i := 1) rfl)) Ev
  have ne_d_c : a1 ≠ ct := own_dc E_a1 (hw _ (List.mem_of_getElem? (i := 1) rfl)) Ct
  have ne_e_c : ev ≠ ct := own_ec Ev Ct
  have ne_a_wv : a1 ≠ wv := own_de E_a1 (hw _ (List.mem_of_getElem? (i := 1) rfl)) hV
  have ne_a_wc : a1 ≠ wc := own_dc E_a1 (hw _ (List.mem_of_getElem? (i := 1) rfl)) hC
  have ne_ev_wc : ev ≠ wc := own_ec Ev hC
  have ne_wv_ct : wv ≠ ct := own_ec hV Ct
  have ne_wv_wc : wv ≠ wc := own_ec hV hC
  obtain ⟨T1, X1, e1, st1⟩ := getF X0 hx hZ hown (host := "") (Or.inl (hw _ (List.mem_of_getElem? (i := 11) rfl))) Via.refl e0 F_events (g := (mkF m 42 #[.val (.ref a1), .val (.long t1), .second, .val (.int L), .val (.ref wv), .val (.ref wc), .val (.int i), .val (.long hd), .second, .val (.int to)] [(.ref a1), (.int i)])) rfl rfl (hb hby d5_42)
  have Vc2 := Ev
  obtain ⟨ce2, Ae2, Oe2, Se2, Ne2, He2⟩ := Vc2
  obtain ⟨T3, X3, e3, st3⟩ := getF X1 hx hZ hown (host := "") (Or.inl (hw _ (List.mem_of_getElem? (i := 19) rfl))) Via.refl e1 F_current (g := (mkF m 50 #[.val (.ref a1), .val (.long t1), .second, .val (.int L), .val (.ref wv), .val (.ref wc), .val (.int i), .val (.long hd), .second, .val (.int to)] [(.ref a1)])) rfl rfl (hb hby d5_50)
  obtain ⟨T4, X4, e4, st4⟩ := getF X3 hx hZ hown (host := "") (Or.inl (hw _ (List.mem_of_getElem? (i := 19) rfl))) Via.refl e3 F_current (g := (mkF m 57 #[.val (.ref a1), .val (.long t1), .second, .val (.int L), .val (.ref wv), .val (.ref wc), .val (.int i), .val (.long hd), .second, .val (.int to)] [(.ref a1), (.long (i.toInt64)), (.long (-1))])) rfl rfl (hb hby d5_57)
  obtain ⟨T5, X5, e5, st5⟩ := getF X4 hx hZ hown (host := "") (Or.inl (hw _ (List.mem_of_getElem? (i := 16) rfl))) Via.refl e4 F_mask (g := (mkF m 62 #[.val (.ref a1), .val (.long t1), .second, .val (.int L), .val (.ref wv), .val (.ref wc), .val (.int i), .val (.long hd), .second, .val (.int to)] [(.ref a1), (.long ((i.toInt64) - (-1))), (.long (-1))])) rfl rfl (hb hby d5_62)
  obtain ⟨T6, X6, e6, st6⟩ := getF X5 hx hZ hown (host := "") (Or.inl (hw _ (List.mem_of_getElem? (i := 11) rfl))) Via.refl e5 F_events (g := (mkF m 85 #[.val (.ref a1), .val (.long t1), .second, .val (.int L), .val (.ref wv), .val (.ref wc), .val (.int i), .val (.long ((-1) + (((i.toInt64) - (-1)) &&& ((M - 1).toInt64)))), .second, .val (.int ((((-1) + (((i.toInt64) - (-1)) &&& ((M - 1).toInt64))) &&& ((L - (1 : Int32)).toInt64)).toInt32))] [(.ref a1), (.int ((((-1) + (((i.toInt64) - (-1)) &&& ((M - 1).toInt64))) &&& ((L - (1 : Int32)).toInt64)).toInt32)), (.ref wv)])) rfl rfl (hb hby d5_85)
  have Vc7 := Ev
  obtain ⟨ce7, Ae7, Oe7, Se7, Ne7, He7⟩ := Vc7
  have hin7 : ¬ (i < 0 ∨ ce7.slots.size ≤ (i).toNatClampNeg) := inb_of Se7 ⟨hi0, hi⟩
  rcases He7 _ hin7 with hat7 | ⟨r7, hat7, gr7, Rr7⟩
  · have Vc8 := hV
    obtain ⟨ce8, Ae8, Oe8, Se8, Ne8, He8⟩ := Vc8
    have hin8 : ¬ (((((-1) + (((i.toInt64) - (-1)) &&& ((M - 1).toInt64))) &&& ((L - (1 : Int32)).toInt64)).toInt32) < 0 ∨ ce8.slots.size ≤ (((((-1) + (((i.toInt64) - (-1)) &&& ((M - 1).toInt64))) &&& ((L - (1 : Int32)).toInt64)).toInt32)).toNatClampNeg) := inb_of Se8 (hto _)
    obtain ⟨T8, h8, X8, e8, W8, st8⟩ := stR X6 hx hZ e6 Ae8 (j := ((((-1) + (((i.toInt64) - (-1)) &&& ((M - 1).toInt64))) &&& ((L - (1 : Int32)).toInt64)).toInt32)) hin8 rfl (Or.inl rfl) (g := (mkF m 91 #[.val (.ref a1), .val (.long t1), .second, .val (.int L), .val (.ref wv), .val (.ref wc), .val (.int i), .val (.long ((-1) + (((i.toInt64) - (-1)) &&& ((M - 1).toInt64)))), .second, .val (.int ((((-1) + (((i.toInt64) - (-1)) &&& ((M - 1).toInt64))) &&& ((L - (1 : Int32)).toInt64)).toInt32))] [.null, (.int ((((-1) + (((i.toInt64) - (-1)) &&& ((M - 1).toInt64))) &&& ((L - (1 : Int32)).toInt64)).toInt32)), (.ref wv)])) rfl rfl (hb hby d5_91)
    have V8 : Evs Z n0 h8 wv L := Evs.set Ae8 Oe8 Se8 Ne8 He8 hin8 W8 (Or.inl rfl)
    have O8 := O0.wr W8 gwv
    have N8 := Fr.snoc X8 N0 gwv
    have f9 := (F_counts.other W8 (Or.inl ne_a_wv))
    obtain ⟨T10, X10, e10, st10⟩ := getF X8 hx hZ hown (host := "") (Or.inl (hw _ (List.mem_of_getElem? (i := 14) rfl))) Via.refl e8 f9 (g := (mkF m 97 #[.val (.ref a1), .val (.long t1), .second, .val (.int L), .val (.ref wv), .val (.ref wc), .val (.int i), .val (.long ((-1) + (((i.toInt64) - (-1)) &&& ((M - 1).toInt64)))), .second, .val (.int ((((-1) + (((i.toInt64) - (-1)) &&& ((M - 1).toInt64))) &&& ((L - (1 : Int32)).toInt64)).toInt32))] [(.ref a1), (.int ((((-1) + (((i.toInt64) - (-1)) &&& ((M - 1).toInt64))) &&& ((L - (1 : Int32)).toInt64)).toInt32)), (.ref wc)])) rfl rfl (hb hby d5_97)
    have f12 := (Ct.other W8 (Ne.symm ne_wv_ct))
    have Vc11 := f12
    obtain ⟨cc11, Ac11, Sc11, Nc11, Hc11⟩ := Vc11
    have hin11 : ¬ (i < 0 ∨ cc11.slots.size ≤ (i).toNatClampNeg) := inb_of Sc11 ⟨hi0, hi⟩
    obtain ⟨x11, hat11, lo11, hi11⟩ := Hc11 _ hin11
    have f14 := (hC.other W8 (Ne.symm ne_wv_wc))
    have Vc13 := f14
    obtain ⟨cc13, Ac13, Sc13, Nc13, Hc13⟩ := Vc13
    have hin13 : ¬ (((((-1) + (((i.toInt64) - (-1)) &&& ((M - 1).toInt64))) &&& ((L - (1 : Int32)).toInt64)).toInt32) < 0 ∨ cc13.slots.size ≤ (((((-1) + (((i.toInt64) - (-1)) &&& ((M - 1).toInt64))) &&& ((L - (1 : Int32)).toInt64)).toInt32)).toNatClampNeg) := inb_of Sc13 (hto _)
    obtain ⟨T13, h13, X13, e13, W13, st13⟩ := stI X10 hx hZ e10 Ac13 (j := ((((-1) + (((i.toInt64) - (-1)) &&& ((M - 1).toInt64))) &&& ((L - (1 : Int32)).toInt64)).toInt32)) hin13 (g := (mkF m 103 #[.val (.ref a1), .val (.long t1), .second, .val (.int L), .val (.ref wv), .val (.ref wc), .val (.int i), .val (.long ((-1) + (((i.toInt64) - (-1)) &&& ((M - 1).toInt64)))), .second, .val (.int ((((-1) + (((i.toInt64) - (-1)) &&& ((M - 1).toInt64))) &&& ((L - (1 : Int32)).toInt64)).toInt32))] [(.int x11), (.int ((((-1) + (((i.toInt64) - (-1)) &&& ((M - 1).toInt64))) &&& ((L - (1 : Int32)).toInt64)).toInt32)), (.ref wc)])) rfl rfl (hb hby d5_103)
    have V13 : Cts Z h13 wc L k := Cts.set Ac13 Sc13 Nc13 Hc13 hin13 W13 lo11 hi11 (fun _ z => z)
    have O13 := O8.wr W13 gwc
    have N13 := Fr.snoc X13 N8 gwc
    have f15 := ((E_a1.wr W8).wr W13)
    have f16 := ((F_events.other W8 (Or.inl ne_a_wv)).other W13 (Or.inl ne_a_wc))
    have f17 := (f9.other W13 (Or.inl ne_a_wc))
    have f18 := ((F_mask.other W8 (Or.inl ne_a_wv)).other W13 (Or.inl ne_a_wc))
    have f19 := ((F_current.other W8 (Or.inl ne_a_wv)).other W13 (Or.inl ne_a_wc))
    have f20 := ((F_lastTick.other W8 (Or.inl ne_a_wv)).other W13 (Or.inl ne_a_wc))
    have f21 := ((F_pending.other W8 (Or.inl ne_a_wv)).other W13 (Or.inl ne_a_wc))
    have f22 := ((F_droppedLate.other W8 (Or.inl ne_a_wv)).other W13 (Or.inl ne_a_wc))
    have f23 := ((Ev.other W8 nev).other W13 ne_ev_wc)
    have f24 := (f12.other W13 nct)
    have f25 := (V8.other W13 ne_wv_wc)
    refine ⟨T13, _, _, ((-1) + (((i.toInt64) - (-1)) &&& ((M - 1).toInt64))), ((((-1) + (((i.toInt64) - (-1)) &&& ((M - 1).toInt64))) &&& ((L - (1 : Int32)).toInt64)).toInt32), X13, e13, O13, N13, ⟨gev, gct, f15, f16, f17, f18, f19, f20, f21, f22, f23, f24⟩, f25, V13, fun t kt => ?_⟩
    show Steps p.tables e below (T0.setTop (mkF m 39 #[.val (.ref a1), .val (.long t1), .second, .val (.int L), .val (.ref wv), .val (.ref wc), .val (.int i), .val (.long hd), .second, .val (.int to)] [])) _
    refine XS.iload X0.here hx rfl (hb hby d5_39) rfl ?_
    show Steps p.tables e below (T0.setTop (mkF m 41 #[.val (.ref a1), .val (.long t1), .second, .val (.int L), .val (.ref wv), .val (.ref wc), .val (.int i), .val (.long hd), .second, .val (.int to)] [(.int i)])) _
    refine XS.aloadN X0.here hx rfl (hb hby d5_41) rfl rfl ?_
    show Steps p.tables e below (T0.setTop (mkF m 42 #[.val (.ref a1), .val (.long t1), .second, .val (.int L), .val (.ref wv), .val (.ref wc), .val (.int i), .val (.long hd), .second, .val (.int to)] [(.ref a1), (.int i)])) _
    refine st1 _ ?_
    show Steps p.tables e below (T1.setTop (mkF m 45 #[.val (.ref a1), .val (.long t1), .second, .val (.int L), .val (.ref wv), .val (.ref wc), .val (.int i), .val (.long hd), .second, .val (.int to)] [(.ref ev), (.int i)])) _
    refine X1.arraylength hx (by rw [e1]; exact Ae2.1) (State.isArrayOf_alike hZ.alike Ae2.2.1) (g := (mkF m 45 #[.val (.ref a1), .val (.long t1), .second, .val (.int L), .val (.ref wv), .val (.ref wc), .val (.int i), .val (.long hd), .second, .val (.int to)] [(.ref ev), (.int i)])) rfl rfl (hb hby d5_45) _ ?_
    rw [len_of Se2 Ne2]
    show Steps p.tables e below (T1.setTop (mkF m 46 #[.val (.ref a1), .val (.long t1), .second, .val (.int L), .val (.ref wv), .val (.ref wc), .val (.int i), .val (.long hd), .second, .val (.int to)] [(.int M), (.int i)])) _
    refine XS.icmpNo X1.here hx rfl (hb hby d5_46) rfl (tlt hi).2.1 ?_
    show Steps p.tables e below (T1.setTop (mkF m 49 #[.val (.ref a1), .val (.long t1), .second, .val (.int L), .val (.ref wv), .val (.ref wc), .val (.int i), .val (.long hd), .second, .val (.int to)] [])) _
    refine XS.aloadN X1.here hx rfl (hb hby d5_49) rfl rfl ?_
    show Steps p.tables e below (T1.setTop (mkF m 50 #[.val (.ref a1), .val (.long t1), .second, .val (.int L), .val (.ref wv), .val (.ref wc), .val (.int i), .val (.long hd), .second, .val (.int to)] [(.ref a1)])) _
    refine st3 _ ?_
    show Steps p.tables e below (T3.setTop (mkF m 53 #[.val (.ref a1), .val (.long t1), .second, .val (.int L), .val (.ref wv), .val (.ref wc), .val (.int i), .val (.long hd), .second, .val (.int to)] [(.long (-1))])) _
    refine XS.iload X3.here hx rfl (hb hby d5_53) rfl ?_
    show Steps p.tables e below (T3.setTop (mkF m 55 #[.val (.ref a1), .val (.long t1), .second, .val (.int L), .val (.ref wv), .val (.ref wc), .val (.int i), .val (.long hd), .second, .val (.int to)] [(.int i), (.long (-1))])) _
    refine XS.i2l X3.here hx rfl (hb hby d5_55) rfl ?_
    show Steps p.tables e below (T3.setTop (mkF m 56 #[.val (.ref a1), .val (.long t1), .second, .val (.int L), .val (.ref wv), .val (.ref wc), .val (.int i), .val (.long hd), .second, .val (.int to)] [(.long (i.toInt64)), (.long (-1))])) _
    refine XS.aloadN X3.here hx rfl (hb hby d5_56) rfl rfl ?_
    show Steps p.tables e below (T3.setTop (mkF m 57 #[.val (.ref a1), .val (.long t1), .second, .val (.int L), .val (.ref wv), .val (.ref wc), .val (.int i), .val (.long hd), .second, .val (.int to)] [(.ref a1), (.long (i.toInt64)), (.long (-1))])) _
    refine st4 _ ?_
    show Steps p.tables e below (T4.setTop (mkF m 60 #[.val (.ref a1), .val (.long t1), .second, .val (.int L), .val (.ref wv), .val (.ref wc), .val (.int i), .val (.long hd), .second, .val (.int to)] [(.long (-1)), (.long (i.toInt64)), (.long (-1))])) _
    refine XS.lsub X4.here hx rfl (hb hby d5_60) rfl ?_
    show Steps p.tables e below (T4.setTop (mkF m 61 #[.val (.ref a1), .val (.long t1), .second, .val (.int L), .val (.ref wv), .val (.ref wc), .val (.int i), .val (.long hd), .second, .val (.int to)] [(.long ((i.toInt64) - (-1))), (.long (-1))])) _
    refine XS.aloadN X4.here hx rfl (hb hby d5_61) rfl rfl ?_
    show Steps p.tables e below (T4.setTop (mkF m 62 #[.val (.ref a1), .val (.long t1), .second, .val (.int L), .val (.ref wv), .val (.ref wc), .val (.int i), .val (.long hd), .second, .val (.int to)] [(.ref a1), (.long ((i.toInt64) - (-1))), (.long (-1))])) _
    refine st5 _ ?_
    show Steps p.tables e below (T5.setTop (mkF m 65 #[.val (.ref a1), .val (.long t1), .second, .val (.int L), .val (.ref wv), .val (.ref wc), .val (.int i), .val (.long hd), .second, .val (.int to)] [(.int (M - 1)), (.long ((i.toInt64) - (-1))), (.long (-1))])) _
    refine XS.i2l X5.here hx rfl (hb hby d5_65) rfl ?_
    show Steps p.tables e below (T5.setTop (mkF m 66 #[.val (.ref a1), .val (.long t1), .second, .val (.int L), .val (.ref wv), .val (.ref wc), .val (.int i), .val (.long hd), .second, .val (.int to)] [(.long ((M - 1).toInt64)), (.long ((i.toInt64) - (-1))), (.long (-1))])) _
    refine XS.land X5.here hx rfl (hb hby d5_66) rfl ?_
    show Steps p.tables e below (T5.setTop (mkF m 67 #[.val (.ref a1), .val (.long t1), .second, .val (.int L), .val (.ref wv), .val (.ref wc), .val (.int i), .val (.long hd), .second, .val (.int to)] [(.long (((i.toInt64) - (-1)) &&& ((M - 1).toInt64))), (.long (-1))])) _
    refine XS.ladd X5.here hx rfl (hb hby d5_67) rfl ?_
    show Steps p.tables e below (T5.setTop (mkF m 68 #[.val (.ref a1), .val (.long t1), .second, .val (.int L), .val (.ref wv), .val (.ref wc), .val (.int i), .val (.long hd), .second, .val (.int to)] [(.long ((-1) + (((i.toInt64) - (-1)) &&& ((M - 1).toInt64))))])) _
    refine XS.lstore X5.here hx rfl (hb hby d5_68) rfl (l' := #[.val (.ref a1), .val (.long t1), .second, .val (.int L), .val (.ref wv), .val (.ref wc), .val (.int i), .val (.long ((-1) + (((i.toInt64) - (-1)) &&& ((M - 1).toInt64)))), .second, .val (.int to)]) rfl ?_
    show Steps p.tables e below (T5.setTop (mkF m 70 #[.val (.ref a1), .val (.long t1), .second, .val (.int L), .val (.ref wv), .val (.ref wc), .val (.int i), .val (.long ((-1) + (((i.toInt64) - (-1)) &&& ((M - 1).toInt64)))), .second, .val (.int to)] [])) _
    refine XS.lload X5.here hx rfl (hb hby d5_70) rfl ?_
    show Steps p.tables e below (T5.setTop (mkF m 72 #[.val (.ref a1), .val (.long t1), .second, .val (.int L), .val (.ref wv), .val (.ref wc), .val (.int i), .val (.long ((-1) + (((i.toInt64) - (-1)) &&& ((M - 1).toInt64)))), .second, .val (.int to)] [(.long ((-1) + (((i.toInt64) - (-1)) &&& ((M - 1).toInt64))))])) _
    refine XS.iloadN X5.here hx rfl (hb hby d5_72) rfl ?_
    show Steps p.tables e below (T5.setTop (mkF m 73 #[.val (.ref a1), .val (.long t1), .second, .val (.int L), .val (.ref wv), .val (.ref wc), .val (.int i), .val (.long ((-1) + (((i.toInt64) - (-1)) &&& ((M - 1).toInt64)))), .second, .val (.int to)] [(.int L), (.long ((-1) + (((i.toInt64) - (-1)) &&& ((M - 1).toInt64))))])) _
    refine XS.iconst X5.here hx rfl (hb hby d5_73) ?_
    show Steps p.tables e below (T5.setTop (mkF m 74 #[.val (.ref a1), .val (.long t1), .second, .val (.int L), .val (.ref wv), .val (.ref wc), .val (.int i), .val (.long ((-1) + (((i.toInt64) - (-1)) &&& ((M - 1).toInt64)))), .second, .val (.int to)] [(.int (1 : Int32)), (.int L), (.long ((-1) + (((i.toInt64) - (-1)) &&& ((M - 1).toInt64))))])) _
    refine XS.isub X5.here hx rfl (hb hby d5_74) rfl ?_
    show Steps p.tables e below (T5.setTop (mkF m 75 #[.val (.ref a1), .val (.long t1), .second, .val (.int L), .val (.ref wv), .val (.ref wc), .val (.int i), .val (.long ((-1) + (((i.toInt64) - (-1)) &&& ((M - 1).toInt64)))), .second, .val (.int to)] [(.int (L - (1 : Int32))), (.long ((-1) + (((i.toInt64) - (-1)) &&& ((M - 1).toInt64))))])) _
    refine XS.i2l X5.here hx rfl (hb hby d5_75) rfl ?_
    show Steps p.tables e below (T5.setTop (mkF m 76 #[.val (.ref a1), .val (.long t1), .second, .val (.int L), .val (.ref wv), .val (.ref wc), .val (.int i), .val (.long ((-1) + (((i.toInt64) - (-1)) &&& ((M - 1).toInt64)))), .second, .val (.int to)] [(.long ((L - (1 : Int32)).toInt64)), (.long ((-1) + (((i.toInt64) - (-1)) &&& ((M - 1).toInt64))))])) _
    refine XS.land X5.here hx rfl (hb hby d5_76) rfl ?_
    show Steps p.tables e below (T5.setTop (mkF m 77 #[.val (.ref a1), .val (.long t1), .second, .val (.int L), .val (.ref wv), .val (.ref wc), .val (.int i), .val (.long ((-1) + (((i.toInt64) - (-1)) &&& ((M - 1).toInt64)))), .second, .val (.int to)] [(.long (((-1) + (((i.toInt64) - (-1)) &&& ((M - 1).toInt64))) &&& ((L - (1 : Int32)).toInt64)))])) _
    refine XS.l2i X5.here hx rfl (hb hby d5_77) rfl ?_
    show Steps p.tables e below (T5.setTop (mkF m 78 #[.val (.ref a1), .val (.long t1), .second, .val (.int L), .val (.ref wv), .val (.ref wc), .val (.int i), .val (.long ((-1) + (((i.toInt64) - (-1)) &&& ((M - 1).toInt64)))), .second, .val (.int to)] [(.int ((((-1) + (((i.toInt64) - (-1)) &&& ((M - 1).toInt64))) &&& ((L - (1 : Int32)).toInt64)).toInt32))])) _
    refine XS.istore X5.here hx rfl (hb hby d5_78) rfl (l' := #[.val (.ref a1), .val (.long t1), .second, .val (.int L), .val (.ref wv), .val (.ref wc), .val (.int i), .val (.long ((-1) + (((i.toInt64) - (-1)) &&& ((M - 1).toInt64)))), .second, .val (.int ((((-1) + (((i.toInt64) - (-1)) &&& ((M - 1).toInt64))) &&& ((L - (1 : Int32)).toInt64)).toInt32))]) rfl ?_
    show Steps p.tables e below (T5.setTop (mkF m 80 #[.val (.ref a1), .val (.long t1), .second, .val (.int L), .val (.ref wv), .val (.ref wc), .val (.int i), .val (.long ((-1) + (((i.toInt64) - (-1)) &&& ((M - 1).toInt64)))), .second, .val (.int ((((-1) + (((i.toInt64) - (-1)) &&& ((M - 1).toInt64))) &&& ((L - (1 : Int32)).toInt64)).toInt32))] [])) _
    refine XS.aload X5.here hx rfl (hb hby d5_80) rfl rfl ?_
    show Steps p.tables e below (T5.setTop (mkF m 82 #[.val (.ref a1), .val (.long t1), .second, .val (.int L), .val (.ref wv), .val (.ref wc), .val (.int i), .val (.long ((-1) + (((i.toInt64) - (-1)) &&& ((M - 1).toInt64)))), .second, .val (.int ((((-1) + (((i.toInt64) - (-1)) &&& ((M - 1).toInt64))) &&& ((L - (1 : Int32)).toInt64)).toInt32))] [(.ref wv)])) _
    refine XS.iload X5.here hx rfl (hb hby d5_82) rfl ?_
    show Steps p.tables e below (T5.setTop (mkF m 84 #[.val (.ref a1), .val (.long t1), .second, .val (.int L), .val (.ref wv), .val (.ref wc), .val (.int i), .val (.long ((-1) + (((i.toInt64) - (-1)) &&& ((M - 1).toInt64)))), .second, .val (.int ((((-1) + (((i.toInt64) - (-1)) &&& ((M - 1).toInt64))) &&& ((L - (1 : Int32)).toInt64)).toInt32))] [(.int ((((-1) + (((i.toInt64) - (-1)) &&& ((M - 1).toInt64))) &&& ((L - (1 : Int32)).toInt64)).toInt32)), (.ref wv)])) _
    refine XS.aloadN X5.here hx rfl (hb hby d5_84) rfl rfl ?_
    show Steps p.tables e below (T5.setTop (mkF m 85 #[.val (.ref a1), .val (.long t1), .second, .val (.int L), .val (.ref wv), .val (.ref wc), .val (.int i), .val (.long ((-1) + (((i.toInt64) - (-1)) &&& ((M - 1).toInt64)))), .second, .val (.int ((((-1) + (((i.toInt64) - (-1)) &&& ((M - 1).toInt64))) &&& ((L - (1 : Int32)).toInt64)).toInt32))] [(.ref a1), (.int ((((-1) + (((i.toInt64) - (-1)) &&& ((M - 1).toInt64))) &&& ((L - (1 : Int32)).toInt64)).toInt32)), (.ref wv)])) _
    refine st6 _ ?_
    show Steps p.tables e below (T6.setTop (mkF m 88 #[.val (.ref a1), .val (.long t1), .second, .val (.int L), .val (.ref wv), .val (.ref wc), .val (.int i), .val (.long ((-1) + (((i.toInt64) - (-1)) &&& ((M - 1).toInt64)))), .second, .val (.int ((((-1) + (((i.toInt64) - (-1)) &&& ((M - 1).toInt64))) &&& ((L - (1 : Int32)).toInt64)).toInt32))] [(.ref ev), (.int ((((-1) + (((i.toInt64) - (-1)) &&& ((M - 1).toInt64))) &&& ((L - (1 : Int32)).toInt64)).toInt32)), (.ref wv)])) _
    refine XS.iload X6.here hx rfl (hb hby d5_88) rfl ?_
    show Steps p.tables e below (T6.setTop (mkF m 90 #[.val (.ref a1), .val (.long t1), .second, .val (.int L), .val (.ref wv), .val (.ref wc), .val (.int i), .val (.long ((-1) + (((i.toInt64) - (-1)) &&& ((M - 1).toInt64)))), .second, .val (.int ((((-1) + (((i.toInt64) - (-1)) &&& ((M - 1).toInt64))) &&& ((L - (1 : Int32)).toInt64)).toInt32))] [(.int i), (.ref ev), (.int ((((-1) + (((i.toInt64) - (-1)) &&& ((M - 1).toInt64))) &&& ((L - (1 : Int32)).toInt64)).toInt32)), (.ref wv)])) _
    refine X6.aaload hx (j := i) (v := .null) (by rw [e6]; exact Ae7.1) (State.isArrayOf_alike hZ.alike Ae7.2.1) rfl Ae7.2.2 hin7 hat7 (g := (mkF m 90 #[.val (.ref a1), .val (.long t1), .second, .val (.int L), .val (.ref wv), .val (.ref wc), .val (.int i), .val (.long ((-1) + (((i.toInt64) - (-1)) &&& ((M - 1).toInt64)))), .second, .val (.int ((((-1) + (((i.toInt64) - (-1)) &&& ((M - 1).toInt64))) &&& ((L - (1 : Int32)).toInt64)).toInt32))] [(.int i), (.ref ev), (.int ((((-1) + (((i.toInt64) - (-1)) &&& ((M - 1).toInt64))) &&& ((L - (1 : Int32)).toInt64)).toInt32)), (.ref wv)])) rfl rfl (hb hby d5_90) _ ?_
    show Steps p.tables e below (T6.setTop (mkF m 91 #[.val (.ref a1), .val (.long t1), .second, .val (.int L), .val (.ref wv), .val (.ref wc), .val (.int i), .val (.long ((-1) + (((i.toInt64) - (-1)) &&& ((M - 1).toInt64)))), .second, .val (.int ((((-1) + (((i.toInt64) - (-1)) &&& ((M - 1).toInt64))) &&& ((L - (1 : Int32)).toInt64)).toInt32))] [.null, (.int ((((-1) + (((i.toInt64) - (-1)) &&& ((M - 1).toInt64))) &&& ((L - (1 : Int32)).toInt64)).toInt32)), (.ref wv)])) _
    refine st8 _ ?_
    show Steps p.tables e below (T8.setTop (mkF m 92 #[.val (.ref a1), .val (.long t1), .second, .val (.int L), .val (.ref wv), .val (.ref wc), .val (.int i), .val (.long ((-1) + (((i.toInt64) - (-1)) &&& ((M - 1).toInt64)))), .second, .val (.int ((((-1) + (((i.toInt64) - (-1)) &&& ((M - 1).toInt64))) &&& ((L - (1 : Int32)).toInt64)).toInt32))] [])) _
    refine XS.aload X8.here hx rfl (hb hby d5_92) rfl rfl ?_
    show Steps p.tables e below (T8.setTop (mkF m 94 #[.val (.ref a1), .val (.long t1), .second, .val (.int L), .val (.ref wv), .val (.ref wc), .val (.int i), .val (.long ((-1) + (((i.toInt64) - (-1)) &&& ((M - 1).toInt64)))), .second, .val (.int ((((-1) + (((i.toInt64) - (-1)) &&& ((M - 1).toInt64))) &&& ((L - (1 : Int32)).toInt64)).toInt32))] [(.ref wc)])) _
    refine XS.iload X8.here hx rfl (hb hby d5_94) rfl ?_
    show Steps p.tables e below (T8.setTop (mkF m 96 #[.val (.ref a1), .val (.long t1), .second, .val (.int L), .val (.ref wv), .val (.ref wc), .val (.int i), .val (.long ((-1) + (((i.toInt64) - (-1)) &&& ((M - 1).toInt64)))), .second, .val (.int ((((-1) + (((i.toInt64) - (-1)) &&& ((M - 1).toInt64))) &&& ((L - (1 : Int32)).toInt64)).toInt32))] [(.int ((((-1) + (((i.toInt64) - (-1)) &&& ((M - 1).toInt64))) &&& ((L - (1 : Int32)).toInt64)).toInt32)), (.ref wc)])) _
    refine XS.aloadN X8.here hx rfl (hb hby d5_96) rfl rfl ?_
    show Steps p.tables e below (T8.setTop (mkF m 97 #[.val (.ref a1), .val (.long t1), .second, .val (.int L), .val (.ref wv), .val (.ref wc), .val (.int i), .val (.long ((-1) + (((i.toInt64) - (-1)) &&& ((M - 1).toInt64)))), .second, .val (.int ((((-1) + (((i.toInt64) - (-1)) &&& ((M - 1).toInt64))) &&& ((L - (1 : Int32)).toInt64)).toInt32))] [(.ref a1), (.int ((((-1) + (((i.toInt64) - (-1)) &&& ((M - 1).toInt64))) &&& ((L - (1 : Int32)).toInt64)).toInt32)), (.ref wc)])) _
    refine st10 _ ?_
    show Steps p.tables e below (T10.setTop (mkF m 100 #[.val (.ref a1), .val (.long t1), .second, .val (.int L), .val (.ref wv), .val (.ref wc), .val (.int i), .val (.long ((-1) + (((i.toInt64) - (-1)) &&& ((M - 1).toInt64)))), .second, .val (.int ((((-1) + (((i.toInt64) - (-1)) &&& ((M - 1).toInt64))) &&& ((L - (1 : Int32)).toInt64)).toInt32))] [(.ref ct), (.int ((((-1) + (((i.toInt64) - (-1)) &&& ((M - 1).toInt64))) &&& ((L - (1 : Int32)).toInt64)).toInt32)), (.ref wc)])) _
    refine XS.iload X10.here hx rfl (hb hby d5_100) rfl ?_
    show Steps p.tables e below (T10.setTop (mkF m 102 #[.val (.ref a1), .val (.long t1), .second, .val (.int L), .val (.ref wv), .val (.ref wc), .val (.int i), .val (.long ((-1) + (((i.toInt64) - (-1)) &&& ((M - 1).toInt64)))), .second, .val (.int ((((-1) + (((i.toInt64) - (-1)) &&& ((M - 1).toInt64))) &&& ((L - (1 : Int32)).toInt64)).toInt32))] [(.int i), (.ref ct), (.int ((((-1) + (((i.toInt64) - (-1)) &&& ((M - 1).toInt64))) &&& ((L - (1 : Int32)).toInt64)).toInt32)), (.ref wc)])) _
    refine X10.iaload hx (j := i) (v := (.int x11)) (by rw [e10]; exact Ac11.1) (State.isArrayOf_alike hZ.alike Ac11.2.1) Ac11.2.2 hin11 hat11 (g := (mkF m 102 #[.val (.ref a1), .val (.long t1), .second, .val (.int L), .val (.ref wv), .val (.ref wc), .val (.int i), .val (.long ((-1) + (((i.toInt64) - (-1)) &&& ((M - 1).toInt64)))), .second, .val (.int ((((-1) + (((i.toInt64) - (-1)) &&& ((M - 1).toInt64))) &&& ((L - (1 : Int32)).toInt64)).toInt32))] [(.int i), (.ref ct), (.int ((((-1) + (((i.toInt64) - (-1)) &&& ((M - 1).toInt64))) &&& ((L - (1 : Int32)).toInt64)).toInt32)), (.ref wc)])) rfl rfl (hb hby d5_102) _ ?_
    show Steps p.tables e below (T10.setTop (mkF m 103 #[.val (.ref a1), .val (.long t1), .second, .val (.int L), .val (.ref wv), .val (.ref wc), .val (.int i), .val (.long ((-1) + (((i.toInt64) - (-1)) &&& ((M - 1).toInt64)))), .second, .val (.int ((((-1) + (((i.toInt64) - (-1)) &&& ((M - 1).toInt64))) &&& ((L - (1 : Int32)).toInt64)).toInt32))] [(.int x11), (.int ((((-1) + (((i.toInt64) - (-1)) &&& ((M - 1).toInt64))) &&& ((L - (1 : Int32)).toInt64)).toInt32)), (.ref wc)])) _
    refine st13 _ ?_
    show Steps p.tables e below (T13.setTop (mkF m 104 #[.val (.ref a1), .val (.long t1), .second, .val (.int L), .val (.ref wv), .val (.ref wc), .val (.int i), .val (.long ((-1) + (((i.toInt64) - (-1)) &&& ((M - 1).toInt64)))), .second, .val (.int ((((-1) + (((i.toInt64) - (-1)) &&& ((M - 1).toInt64))) &&& ((L - (1 : Int32)).toInt64)).toInt32))] [])) _
    refine XS.iinc X13.here hx rfl (hb hby d5_104) rfl (l' := #[.val (.ref a1), .val (.long t1), .second, .val (.int L), .val (.ref wv), .val (.ref wc), .val (.int (i + (1 : Int32))), .val (.long ((-1) + (((i.toInt64) - (-1)) &&& ((M - 1).toInt64)))), .second, .val (.int ((((-1) + (((i.toInt64) - (-1)) &&& ((M - 1).toInt64))) &&& ((L - (1 : Int32)).toInt64)).toInt32))]) rfl ?_
    show Steps p.tables e below (T13.setTop (mkF m 107 #[.val (.ref a1), .val (.long t1), .second, .val (.int L), .val (.ref wv), .val (.ref wc), .val (.int (i + (1 : Int32))), .val (.long ((-1) + (((i.toInt64) - (-1)) &&& ((M - 1).toInt64)))), .second, .val (.int ((((-1) + (((i.toInt64) - (-1)) &&& ((M - 1).toInt64))) &&& ((L - (1 : Int32)).toInt64)).toInt32))] [])) _
    refine XS.goto X13.here hx rfl (pc0 := 107) (pc' := 39) rfl (hb hby d5_107) (by decide) (by decide) ?_
    exact kt
  · have Vc26 := hV
    obtain ⟨ce26, Ae26, Oe26, Se26, Ne26, He26⟩ := Vc26
    have hin26 : ¬ (((((-1) + (((i.toInt64) - (-1)) &&& ((M - 1).toInt64))) &&& ((L - (1 : Int32)).toInt64)).toInt32) < 0 ∨ ce26.slots.size ≤ (((((-1) + (((i.toInt64) - (-1)) &&& ((M - 1).toInt64))) &&& ((L - (1 : Int32)).toInt64)).toInt32)).toNatClampNeg) := inb_of Se26 (hto _)
    have f27 := Rr7
    obtain ⟨T26, h26, X26, e26, W26, st26⟩ := stR X6 hx hZ e6 Ae26 (j := ((((-1) + (((i.toInt64) - (-1)) &&& ((M - 1).toInt64))) &&& ((L - (1 : Int32)).toInt64)).toInt32)) hin26 rfl (Sto.ofVA Ae26 rfl Oe26 (Ins.self f27.choose_spec.2.2)) (g := (mkF m 91 #[.val (.ref a1), .val (.long t1), .second, .val (.int L), .val (.ref wv), .val (.ref wc), .val (.int i), .val (.long ((-1) + (((i.toInt64) - (-1)) &&& ((M - 1).toInt64)))), .second, .val (.int ((((-1) + (((i.toInt64) - (-1)) &&& ((M - 1).toInt64))) &&& ((L - (1 : Int32)).toInt64)).toInt32))] [(.ref r7), (.int ((((-1) + (((i.toInt64) - (-1)) &&& ((M - 1).toInt64))) &&& ((L - (1 : Int32)).toInt64)).toInt32)), (.ref wv)])) rfl rfl (hb hby d5_91)
    have V26 : Evs Z n0 h26 wv L := Evs.set Ae26 Oe26 Se26 Ne26 He26 hin26 W26 (Or.inr ⟨_, rfl, gr7, f27⟩)
    have O26 := O0.wr W26 gwv
    have N26 := Fr.snoc X26 N0 gwv
    have f28 := (F_counts.other W26 (Or.inl ne_a_wv))
    obtain ⟨T29, X29, e29, st29⟩ := getF X26 hx hZ hown (host := "") (Or.inl (hw _ (List.mem_of_getElem? (i := 14) rfl))) Via.refl e26 f28 (g := (mkF m 97 #[.val (.ref a1), .val (.long t1), .second, .val (.int L), .val (.ref wv), .val (.ref wc), .val (.int i), .val (.long ((-1) + (((i.toInt64) - (-1)) &&& ((M - 1).toInt64)))), .second, .val (.int ((((-1) + (((i.toInt64) - (-1)) &&& ((M - 1).toInt64))) &&& ((L - (1 : Int32)).toInt64)).toInt32))] [(.ref a1), (.int ((((-1) + (((i.toInt64) - (-1)) &&& ((M - 1).toInt64))) &&& ((L - (1 : Int32)).toInt64)).toInt32)), (.ref wc)])) rfl rfl (hb hby d5_97)
    have f31 := (Ct.other W26 (Ne.symm ne_wv_ct))
    have Vc30 := f31
    obtain ⟨cc30, Ac30, Sc30, Nc30, Hc30⟩ := Vc30
    have hin30 : ¬ (i < 0 ∨ cc30.slots.size ≤ (i).toNatClampNeg) := inb_of Sc30 ⟨hi0, hi⟩
    obtain ⟨x30, hat30, lo30, hi30⟩ := Hc30 _ hin30
    have f33 := (hC.other W26 (Ne.symm ne_wv_wc))
    have Vc32 := f33
    obtain ⟨cc32, Ac32, Sc32, Nc32, Hc32⟩ := Vc32
    have hin32 : ¬ (((((-1) + (((i.toInt64) - (-1)) &&& ((M - 1).toInt64))) &&& ((L - (1 : Int32)).toInt64)).toInt32) < 0 ∨ cc32.slots.size ≤ (((((-1) + (((i.toInt64) - (-1)) &&& ((M - 1).toInt64))) &&& ((L - (1 : Int32)).toInt64)).toInt32)).toNatClampNeg) := inb_of Sc32 (hto _)
    obtain ⟨T32, h32, X32, e32, W32, st32⟩ := stI X29 hx hZ e29 Ac32 (j := ((((-1) + (((i.toInt64) - (-1)) &&& ((M - 1).toInt64))) &&& ((L - (1 : Int32)).toInt64)).toInt32)) hin32 (g := (mkF m 103 #[.val (.ref a1), .val (.long t1), .second, .val (.int L), .val (.ref wv), .val (.ref wc), .val (.int i), .val (.long ((-1) + (((i.toInt64) - (-1)) &&& ((M - 1).toInt64)))), .second, .val (.int ((((-1) + (((i.toInt64) - (-1)) &&& ((M - 1).toInt64))) &&& ((L - (1 : Int32)).toInt64)).toInt32))] [(.int x30), (.int ((((-1) + (((i.toInt64) - (-1)) &&& ((M - 1).toInt64))) &&& ((L - (1 : Int32)).toInt64)).toInt32)), (.ref wc)])) rfl rfl (hb hby d5_103)
    have V32 : Cts Z h32 wc L k := Cts.set Ac32 Sc32 Nc32 Hc32 hin32 W32 lo30 hi30 (fun _ z => z)
    have O32 := O26.wr W32 gwc
    have N32 := Fr.snoc X32 N26 gwc
    have f34 := ((E_a1.wr W26).wr W32)
    have f35 := ((F_events.other W26 (Or.inl ne_a_wv)).other W32 (Or.inl ne_a_wc))
    have f36 := (f28.other W32 (Or.inl ne_a_wc))
    have f37 := ((F_mask.other W26 (Or.inl ne_a_wv)).other W32 (Or.inl ne_a_wc))
    have f38 := ((F_current.other W26 (Or.inl ne_a_wv)).other W32 (Or.inl ne_a_wc))
    have f39 := ((F_lastTick.other W26 (Or.inl ne_a_wv)).other W32 (Or.inl ne_a_wc))
    have f40 := ((F_pending.other W26 (Or.inl ne_a_wv)).other W32 (Or.inl ne_a_wc))
    have f41 := ((F_droppedLate.other W26 (Or.inl ne_a_wv)).other W32 (Or.inl ne_a_wc))
    have f42 := ((Ev.other W26 nev).other W32 ne_ev_wc)
    have f43 := (f31.other W32 nct)
    have f44 := (V26.other W32 ne_wv_wc)
    refine ⟨T32, _, _, ((-1) + (((i.toInt64) - (-1)) &&& ((M - 1).toInt64))), ((((-1) + (((i.toInt64) - (-1)) &&& ((M - 1).toInt64))) &&& ((L - (1 : Int32)).toInt64)).toInt32), X32, e32, O32, N32, ⟨gev, gct, f34, f35, f36, f37, f38, f39, f40, f41, f42, f43⟩, f44, V32, fun t kt => ?_⟩
    show Steps p.tables e below (T0.setTop (mkF m 39 #[.val (.ref a1), .val (.long t1), .second, .val (.int L), .val (.ref wv), .val (.ref wc), .val (.int i), .val (.long hd), .second, .val (.int to)] [])) _
    refine XS.iload X0.here hx rfl (hb hby d5_39) rfl ?_
    show Steps p.tables e below (T0.setTop (mkF m 41 #[.val (.ref a1), .val (.long t1), .second, .val (.int L), .val (.ref wv), .val (.ref wc), .val (.int i), .val (.long hd), .second, .val (.int to)] [(.int i)])) _
    refine XS.aloadN X0.here hx rfl (hb hby d5_41) rfl rfl ?_
    show Steps p.tables e below (T0.setTop (mkF m 42 #[.val (.ref a1), .val (.long t1), .second, .val (.int L), .val (.ref wv), .val (.ref wc), .val (.int i), .val (.long hd), .second, .val (.int to)] [(.ref a1), (.int i)])) _
    refine st1 _ ?_
    show Steps p.tables e below (T1.setTop (mkF m 45 #[.val (.ref a1), .val (.long t1), .second, .val (.int L), .val (.ref wv), .val (.ref wc), .val (.int i), .val (.long hd), .second, .val (.int to)] [(.ref ev), (.int i)])) _
    refine X1.arraylength hx (by rw [e1]; exact Ae2.1) (State.isArrayOf_alike hZ.alike Ae2.2.1) (g := (mkF m 45 #[.val (.ref a1), .val (.long t1), .second, .val (.int L), .val (.ref wv), .val (.ref wc), .val (.int i), .val (.long hd), .second, .val (.int to)] [(.ref ev), (.int i)])) rfl rfl (hb hby d5_45) _ ?_
    rw [len_of Se2 Ne2]
    show Steps p.tables e below (T1.setTop (mkF m 46 #[.val (.ref a1), .val (.long t1), .second, .val (.int L), .val (.ref wv), .val (.ref wc), .val (.int i), .val (.long hd), .second, .val (.int to)] [(.int M), (.int i)])) _
    refine XS.icmpNo X1.here hx rfl (hb hby d5_46) rfl (tlt hi).2.1 ?_
    show Steps p.tables e below (T1.setTop (mkF m 49 #[.val (.ref a1), .val (.long t1), .second, .val (.int L), .val (.ref wv), .val (.ref wc), .val (.int i), .val (.long hd), .second, .val (.int to)] [])) _
    refine XS.aloadN X1.here hx rfl (hb hby d5_49) rfl rfl ?_
    show Steps p.tables e below (T1.setTop (mkF m 50 #[.val (.ref a1), .val (.long t1), .second, .val (.int L), .val (.ref wv), .val (.ref wc), .val (.int i), .val (.long hd), .second, .val (.int to)] [(.ref a1)])) _
    refine st3 _ ?_
    show Steps p.tables e below (T3.setTop (mkF m 53 #[.val (.ref a1), .val (.long t1), .second, .val (.int L), .val (.ref wv), .val (.ref wc), .val (.int i), .val (.long hd), .second, .val (.int to)] [(.long (-1))])) _
    refine XS.iload X3.here hx rfl (hb hby d5_53) rfl ?_
    show Steps p.tables e below (T3.setTop (mkF m 55 #[.val (.ref a1), .val (.long t1), .second, .val (.int L), .val (.ref wv), .val (.ref wc), .val (.int i), .val (.long hd), .second, .val (.int to)] [(.int i), (.long (-1))])) _
    refine XS.i2l X3.here hx rfl (hb hby d5_55) rfl ?_
    show Steps p.tables e below (T3.setTop (mkF m 56 #[.val (.ref a1), .val (.long t1), .second, .val (.int L), .val (.ref wv), .val (.ref wc), .val (.int i), .val (.long hd), .second, .val (.int to)] [(.long (i.toInt64)), (.long (-1))])) _
    refine XS.aloadN X3.here hx rfl (hb hby d5_56) rfl rfl ?_
    show Steps p.tables e below (T3.setTop (mkF m 57 #[.val (.ref a1), .val (.long t1), .second, .val (.int L), .val (.ref wv), .val (.ref wc), .val (.int i), .val (.long hd), .second, .val (.int to)] [(.ref a1), (.long (i.toInt64)), (.long (-1))])) _
    refine st4 _ ?_
    show Steps p.tables e below (T4.setTop (mkF m 60 #[.val (.ref a1), .val (.long t1), .second, .val (.int L), .val (.ref wv), .val (.ref wc), .val (.int i), .val (.long hd), .second, .val (.int to)] [(.long (-1)), (.long (i.toInt64)), (.long (-1))])) _
    refine XS.lsub X4.here hx rfl (hb hby d5_60) rfl ?_
    show Steps p.tables e below (T4.setTop (mkF m 61 #[.val (.ref a1), .val (.long t1), .second, .val (.int L), .val (.ref wv), .val (.ref wc), .val (.int i), .val (.long hd), .second, .val (.int to)] [(.long ((i.toInt64) - (-1))), (.long (-1))])) _
    refine XS.aloadN X4.here hx rfl (hb hby d5_61) rfl rfl ?_
    show Steps p.tables e below (T4.setTop (mkF m 62 #[.val (.ref a1), .val (.long t1), .second, .val (.int L), .val (.ref wv), .val (.ref wc), .val (.int i), .val (.long hd), .second, .val (.int to)] [(.ref a1), (.long ((i.toInt64) - (-1))), (.long (-1))])) _
    refine st5 _ ?_
    show Steps p.tables e below (T5.setTop (mkF m 65 #[.val (.ref a1), .val (.long t1), .second, .val (.int L), .val (.ref wv), .val (.ref wc), .val (.int i), .val (.long hd), .second, .val (.int to)] [(.int (M - 1)), (.long ((i.toInt64) - (-1))), (.long (-1))])) _
    refine XS.i2l X5.here hx rfl (hb hby d5_65) rfl ?_
    show Steps p.tables e below (T5.setTop (mkF m 66 #[.val (.ref a1), .val (.long t1), .second, .val (.int L), .val (.ref wv), .val (.ref wc), .val (.int i), .val (.long hd), .second, .val (.int to)] [(.long ((M - 1).toInt64)), (.long ((i.toInt64) - (-1))), (.long (-1))])) _
    refine XS.land X5.here hx rfl (hb hby d5_66) rfl ?_
    show Steps p.tables e below (T5.setTop (mkF m 67 #[.val (.ref a1), .val (.long t1), .second, .val (.int L), .val (.ref wv), .val (.ref wc), .val (.int i), .val (.long hd), .second, .val (.int to)] [(.long (((i.toInt64) - (-1)) &&& ((M - 1).toInt64))), (.long (-1))])) _
    refine XS.ladd X5.here hx rfl (hb hby d5_67) rfl ?_
    show Steps p.tables e below (T5.setTop (mkF m 68 #[.val (.ref a1), .val (.long t1), .second, .val (.int L), .val (.ref wv), .val (.ref wc), .val (.int i), .val (.long hd), .second, .val (.int to)] [(.long ((-1) + (((i.toInt64) - (-1)) &&& ((M - 1).toInt64))))])) _
    refine XS.lstore X5.here hx rfl (hb hby d5_68) rfl (l' := #[.val (.ref a1), .val (.long t1), .second, .val (.int L), .val (.ref wv), .val (.ref wc), .val (.int i), .val (.long ((-1) + (((i.toInt64) - (-1)) &&& ((M - 1).toInt64)))), .second, .val (.int to)]) rfl ?_
    show Steps p.tables e below (T5.setTop (mkF m 70 #[.val (.ref a1), .val (.long t1), .second, .val (.int L), .val (.ref wv), .val (.ref wc), .val (.int i), .val (.long ((-1) + (((i.toInt64) - (-1)) &&& ((M - 1).toInt64)))), .second, .val (.int to)] [])) _
    refine XS.lload X5.here hx rfl (hb hby d5_70) rfl ?_
    show Steps p.tables e below (T5.setTop (mkF m 72 #[.val (.ref a1), .val (.long t1), .second, .val (.int L), .val (.ref wv), .val (.ref wc), .val (.int i), .val (.long ((-1) + (((i.toInt64) - (-1)) &&& ((M - 1).toInt64)))), .second, .val (.int to)] [(.long ((-1) + (((i.toInt64) - (-1)) &&& ((M - 1).toInt64))))])) _
    refine XS.iloadN X5.here hx rfl (hb hby d5_72) rfl ?_
    show Steps p.tables e below (T5.setTop (mkF m 73 #[.val (.ref a1), .val (.long t1), .second, .val (.int L), .val (.ref wv), .val (.ref wc), .val (.int i), .val (.long ((-1) + (((i.toInt64) - (-1)) &&& ((M - 1).toInt64)))), .second, .val (.int to)] [(.int L), (.long ((-1) + (((i.toInt64) - (-1)) &&& ((M - 1).toInt64))))])) _
    refine XS.iconst X5.here hx rfl (hb hby d5_73) ?_
    show Steps p.tables e below (T5.setTop (mkF m 74 #[.val (.ref a1), .val (.long t1), .second, .val (.int L), .val (.ref wv), .val (.ref wc), .val (.int i), .val (.long ((-1) + (((i.toInt64) - (-1)) &&& ((M - 1).toInt64)))), .second, .val (.int to)] [(.int (1 : Int32)), (.int L), (.long ((-1) + (((i.toInt64) - (-1)) &&& ((M - 1).toInt64))))])) _
    refine XS.isub X5.here hx rfl (hb hby d5_74) rfl ?_
    show Steps p.tables e below (T5.setTop (mkF m 75 #[.val (.ref a1), .val (.long t1), .second, .val (.int L), .val (.ref wv), .val (.ref wc), .val (.int i), .val (.long ((-1) + (((i.toInt64) - (-1)) &&& ((M - 1).toInt64)))), .second, .val (.int to)] [(.int (L - (1 : Int32))), (.long ((-1) + (((i.toInt64) - (-1)) &&& ((M - 1).toInt64))))])) _
    refine XS.i2l X5.here hx rfl (hb hby d5_75) rfl ?_
    show Steps p.tables e below (T5.setTop (mkF m 76 #[.val (.ref a1), .val (.long t1), .second, .val (.int L), .val (.ref wv), .val (.ref wc), .val (.int i), .val (.long ((-1) + (((i.toInt64) - (-1)) &&& ((M - 1).toInt64)))), .second, .val (.int to)] [(.long ((L - (1 : Int32)).toInt64)), (.long ((-1) + (((i.toInt64) - (-1)) &&& ((M - 1).toInt64))))])) _
    refine XS.land X5.here hx rfl (hb hby d5_76) rfl ?_
    show Steps p.tables e below (T5.setTop (mkF m 77 #[.val (.ref a1), .val (.long t1), .second, .val (.int L), .val (.ref wv), .val (.ref wc), .val (.int i), .val (.long ((-1) + (((i.toInt64) - (-1)) &&& ((M - 1).toInt64)))), .second, .val (.int to)] [(.long (((-1) + (((i.toInt64) - (-1)) &&& ((M - 1).toInt64))) &&& ((L - (1 : Int32)).toInt64)))])) _
    refine XS.l2i X5.here hx rfl (hb hby d5_77) rfl ?_
    show Steps p.tables e below (T5.setTop (mkF m 78 #[.val (.ref a1), .val (.long t1), .second, .val (.int L), .val (.ref wv), .val (.ref wc), .val (.int i), .val (.long ((-1) + (((i.toInt64) - (-1)) &&& ((M - 1).toInt64)))), .second, .val (.int to)] [(.int ((((-1) + (((i.toInt64) - (-1)) &&& ((M - 1).toInt64))) &&& ((L - (1 : Int32)).toInt64)).toInt32))])) _
    refine XS.istore X5.here hx rfl (hb hby d5_78) rfl (l' := #[.val (.ref a1), .val (.long t1), .second, .val (.int L), .val (.ref wv), .val (.ref wc), .val (.int i), .val (.long ((-1) + (((i.toInt64) - (-1)) &&& ((M - 1).toInt64)))), .second, .val (.int ((((-1) + (((i.toInt64) - (-1)) &&& ((M - 1).toInt64))) &&& ((L - (1 : Int32)).toInt64)).toInt32))]) rfl ?_
    show Steps p.tables e below (T5.setTop (mkF m 80 #[.val (.ref a1), .val (.long t1), .second, .val (.int L), .val (.ref wv), .val (.ref wc), .val (.int i), .val (.long ((-1) + (((i.toInt64) - (-1)) &&& ((M - 1).toInt64)))), .second, .val (.int ((((-1) + (((i.toInt64) - (-1)) &&& ((M - 1).toInt64))) &&& ((L - (1 : Int32)).toInt64)).toInt32))] [])) _
    refine XS.aload X5.here hx rfl (hb hby d5_80) rfl rfl ?_
    show Steps p.tables e below (T5.setTop (mkF m 82 #[.val (.ref a1), .val (.long t1), .second, .val (.int L), .val (.ref wv), .val (.ref wc), .val (.int i), .val (.long ((-1) + (((i.toInt64) - (-1)) &&& ((M - 1).toInt64)))), .second, .val (.int ((((-1) + (((i.toInt64) - (-1)) &&& ((M - 1).toInt64))) &&& ((L - (1 : Int32)).toInt64)).toInt32))] [(.ref wv)])) _
    refine XS.iload X5.here hx rfl (hb hby d5_82) rfl ?_
    show Steps p.tables e below (T5.setTop (mkF m 84 #[.val (.ref a1), .val (.long t1), .second, .val (.int L), .val (.ref wv), .val (.ref wc), .val (.int i), .val (.long ((-1) + (((i.toInt64) - (-1)) &&& ((M - 1).toInt64)))), .second, .val (.int ((((-1) + (((i.toInt64) - (-1)) &&& ((M - 1).toInt64))) &&& ((L - (1 : Int32)).toInt64)).toInt32))] [(.int ((((-1) + (((i.toInt64) - (-1)) &&& ((M - 1).toInt64))) &&& ((L - (1 : Int32)).toInt64)).toInt32)), (.ref wv)])) _
    refine XS.aloadN X5.here hx rfl (hb hby d5_84) rfl rfl ?_
    show Steps p.tables e below (T5.setTop (mkF m 85 #[.val (.ref a1), .val (.long t1), .second, .val (.int L), .val (.ref wv), .val (.ref wc), .val (.int i), .val (.long ((-1) + (((i.toInt64) - (-1)) &&& ((M - 1).toInt64)))), .second, .val (.int ((((-1) + (((i.toInt64) - (-1)) &&& ((M - 1).toInt64))) &&& ((L - (1 : Int32)).toInt64)).toInt32))] [(.ref a1), (.int ((((-1) + (((i.toInt64) - (-1)) &&& ((M - 1).toInt64))) &&& ((L - (1 : Int32)).toInt64)).toInt32)), (.ref wv)])) _
    refine st6 _ ?_
    show Steps p.tables e below (T6.setTop (mkF m 88 #[.val (.ref a1), .val (.long t1), .second, .val (.int L), .val (.ref wv), .val (.ref wc), .val (.int i), .val (.long ((-1) + (((i.toInt64) - (-1)) &&& ((M - 1).toInt64)))), .second, .val (.int ((((-1) + (((i.toInt64) - (-1)) &&& ((M - 1).toInt64))) &&& ((L - (1 : Int32)).toInt64)).toInt32))] [(.ref ev), (.int ((((-1) + (((i.toInt64) - (-1)) &&& ((M - 1).toInt64))) &&& ((L - (1 : Int32)).toInt64)).toInt32)), (.ref wv)])) _
    refine XS.iload X6.here hx rfl (hb hby d5_88) rfl ?_
    show Steps p.tables e below (T6.setTop (mkF m 90 #[.val (.ref a1), .val (.long t1), .second, .val (.int L), .val (.ref wv), .val (.ref wc), .val (.int i), .val (.long ((-1) + (((i.toInt64) - (-1)) &&& ((M - 1).toInt64)))), .second, .val (.int ((((-1) + (((i.toInt64) - (-1)) &&& ((M - 1).toInt64))) &&& ((L - (1 : Int32)).toInt64)).toInt32))] [(.int i), (.ref ev), (.int ((((-1) + (((i.toInt64) - (-1)) &&& ((M - 1).toInt64))) &&& ((L - (1 : Int32)).toInt64)).toInt32)), (.ref wv)])) _
    refine X6.aaload hx (j := i) (v := (.ref r7)) (by rw [e6]; exact Ae7.1) (State.isArrayOf_alike hZ.alike Ae7.2.1) rfl Ae7.2.2 hin7 hat7 (g := (mkF m 90 #[.val (.ref a1), .val (.long t1), .second, .val (.int L), .val (.ref wv), .val (.ref wc), .val (.int i), .val (.long ((-1) + (((i.toInt64) - (-1)) &&& ((M - 1).toInt64)))), .second, .val (.int ((((-1) + (((i.toInt64) - (-1)) &&& ((M - 1).toInt64))) &&& ((L - (1 : Int32)).toInt64)).toInt32))] [(.int i), (.ref ev), (.int ((((-1) + (((i.toInt64) - (-1)) &&& ((M - 1).toInt64))) &&& ((L - (1 : Int32)).toInt64)).toInt32)), (.ref wv)])) rfl rfl (hb hby d5_90) _ ?_
    show Steps p.tables e below (T6.setTop (mkF m 91 #[.val (.ref a1), .val (.long t1), .second, .val (.int L), .val (.ref wv), .val (.ref wc), .val (.int i), .val (.long ((-1) + (((i.toInt64) - (-1)) &&& ((M - 1).toInt64)))), .second, .val (.int ((((-1) + (((i.toInt64) - (-1)) &&& ((M - 1).toInt64))) &&& ((L - (1 : Int32)).toInt64)).toInt32))] [(.ref r7), (.int ((((-1) + (((i.toInt64) - (-1)) &&& ((M - 1).toInt64))) &&& ((L - (1 : Int32)).toInt64)).toInt32)), (.ref wv)])) _
    refine st26 _ ?_
    show Steps p.tables e below (T26.setTop (mkF m 92 #[.val (.ref a1), .val (.long t1), .second, .val (.int L), .val (.ref wv), .val (.ref wc), .val (.int i), .val (.long ((-1) + (((i.toInt64) - (-1)) &&& ((M - 1).toInt64)))), .second, .val (.int ((((-1) + (((i.toInt64) - (-1)) &&& ((M - 1).toInt64))) &&& ((L - (1 : Int32)).toInt64)).toInt32))] [])) _
    refine XS.aload X26.here hx rfl (hb hby d5_92) rfl rfl ?_
    show Steps p.tables e below (T26.setTop (mkF m 94 #[.val (.ref a1), .val (.long t1), .second, .val (.int L), .val (.ref wv), .val (.ref wc), .val (.int i), .val (.long ((-1) + (((i.toInt64) - (-1)) &&& ((M - 1).toInt64)))), .second, .val (.int ((((-1) + (((i.toInt64) - (-1)) &&& ((M - 1).toInt64))) &&& ((L - (1 : Int32)).toInt64)).toInt32))] [(.ref wc)])) _
    refine XS.iload X26.here hx rfl (hb hby d5_94) rfl ?_
    show Steps p.tables e below (T26.setTop (mkF m 96 #[.val (.ref a1), .val (.long t1), .second, .val (.int L), .val (.ref wv), .val (.ref wc), .val (.int i), .val (.long ((-1) + (((i.toInt64) - (-1)) &&& ((M - 1).toInt64)))), .second, .val (.int ((((-1) + (((i.toInt64) - (-1)) &&& ((M - 1).toInt64))) &&& ((L - (1 : Int32)).toInt64)).toInt32))] [(.int ((((-1) + (((i.toInt64) - (-1)) &&& ((M - 1).toInt64))) &&& ((L - (1 : Int32)).toInt64)).toInt32)), (.ref wc)])) _
    refine XS.aloadN X26.here hx rfl (hb hby d5_96) rfl rfl ?_
    show Steps p.tables e below (T26.setTop (mkF m 97 #[.val (.ref a1), .val (.long t1), .second, .val (.int L), .val (.ref wv), .val (.ref wc), .val (.int i), .val (.long ((-1) + (((i.toInt64) - (-1)) &&& ((M - 1).toInt64)))), .second, .val (.int ((((-1) + (((i.toInt64) - (-1)) &&& ((M - 1).toInt64))) &&& ((L - (1 : Int32)).toInt64)).toInt32))] [(.ref a1), (.int ((((-1) + (((i.toInt64) - (-1)) &&& ((M - 1).toInt64))) &&& ((L - (1 : Int32)).toInt64)).toInt32)), (.ref wc)])) _
    refine st29 _ ?_
    show Steps p.tables e below (T29.setTop (mkF m 100 #[.val (.ref a1), .val (.long t1), .second, .val (.int L), .val (.ref wv), .val (.ref wc), .val (.int i), .val (.long ((-1) + (((i.toInt64) - (-1)) &&& ((M - 1).toInt64)))), .second, .val (.int ((((-1) + (((i.toInt64) - (-1)) &&& ((M - 1).toInt64))) &&& ((L - (1 : Int32)).toInt64)).toInt32))] [(.ref ct), (.int ((((-1) + (((i.toInt64) - (-1)) &&& ((M - 1).toInt64))) &&& ((L - (1 : Int32)).toInt64)).toInt32)), (.ref wc)])) _
    refine XS.iload X29.here hx rfl (hb hby d5_100) rfl ?_
    show Steps p.tables e below (T29.setTop (mkF m 102 #[.val (.ref a1), .val (.long t1), .second, .val (.int L), .val (.ref wv), .val (.ref wc), .val (.int i), .val (.long ((-1) + (((i.toInt64) - (-1)) &&& ((M - 1).toInt64)))), .second, .val (.int ((((-1) + (((i.toInt64) - (-1)) &&& ((M - 1).toInt64))) &&& ((L - (1 : Int32)).toInt64)).toInt32))] [(.int i), (.ref ct), (.int ((((-1) + (((i.toInt64) - (-1)) &&& ((M - 1).toInt64))) &&& ((L - (1 : Int32)).toInt64)).toInt32)), (.ref wc)])) _
    refine X29.iaload hx (j := i) (v := (.int x30)) (by rw [e29]; exact Ac30.1) (State.isArrayOf_alike hZ.alike Ac30.2.1) Ac30.2.2 hin30 hat30 (g := (mkF m 102 #[.val (.ref a1), .val (.long t1), .second, .val (.int L), .val (.ref wv), .val (.ref wc), .val (.int i), .val (.long ((-1) + (((i.toInt64) - (-1)) &&& ((M - 1).toInt64)))), .second, .val (.int ((((-1) + (((i.toInt64) - (-1)) &&& ((M - 1).toInt64))) &&& ((L - (1 : Int32)).toInt64)).toInt32))] [(.int i), (.ref ct), (.int ((((-1) + (((i.toInt64) - (-1)) &&& ((M - 1).toInt64))) &&& ((L - (1 : Int32)).toInt64)).toInt32)), (.ref wc)])) rfl rfl (hb hby d5_102) _ ?_
    show Steps p.tables e below (T29.setTop (mkF m 103 #[.val (.ref a1), .val (.long t1), .second, .val (.int L), .val (.ref wv), .val (.ref wc), .val (.int i), .val (.long ((-1) + (((i.toInt64) - (-1)) &&& ((M - 1).toInt64)))), .second, .val (.int ((((-1) + (((i.toInt64) - (-1)) &&& ((M - 1).toInt64))) &&& ((L - (1 : Int32)).toInt64)).toInt32))] [(.int x30), (.int ((((-1) + (((i.toInt64) - (-1)) &&& ((M - 1).toInt64))) &&& ((L - (1 : Int32)).toInt64)).toInt32)), (.ref wc)])) _
    refine st32 _ ?_
    show Steps p.tables e below (T32.setTop (mkF m 104 #[.val (.ref a1), .val (.long t1), .second, .val (.int L), .val (.ref wv), .val (.ref wc), .val (.int i), .val (.long ((-1) + (((i.toInt64) - (-1)) &&& ((M - 1).toInt64)))), .second, .val (.int ((((-1) + (((i.toInt64) - (-1)) &&& ((M - 1).toInt64))) &&& ((L - (1 : Int32)).toInt64)).toInt32))] [])) _
    refine XS.iinc X32.here hx rfl (hb hby d5_104) rfl (l' := #[.val (.ref a1), .val (.long t1), .second, .val (.int L), .val (.ref wv), .val (.ref wc), .val (.int (i + (1 : Int32))), .val (.long ((-1) + (((i.toInt64) - (-1)) &&& ((M - 1).toInt64)))), .second, .val (.int ((((-1) + (((i.toInt64) - (-1)) &&& ((M - 1).toInt64))) &&& ((L - (1 : Int32)).toInt64)).toInt32))]) rfl ?_
    show Steps p.tables e below (T32.setTop (mkF m 107 #[.val (.ref a1), .val (.long t1), .second, .val (.int L), .val (.ref wv), .val (.ref wc), .val (.int (i + (1 : Int32))), .val (.long ((-1) + (((i.toInt64) - (-1)) &&& ((M - 1).toInt64)))), .second, .val (.int ((((-1) + (((i.toInt64) - (-1)) &&& ((M - 1).toInt64))) &&& ((L - (1 : Int32)).toInt64)).toInt32))] [])) _
    refine XS.goto X32.here hx rfl (pc0 := 107) (pc' := 39) rfl (hb hby d5_107) (by decide) (by decide) ?_
    exact kt
theorem own_up {i M : Int32} (h0 : ¬ i < 0) (hi : i < M) : (i + (1 : Int32)).toInt = i.toInt + 1 ∧ ¬ (i + (1 : Int32)) < 0 ∧ ¬ M < (i + (1 : Int32)) := by
  have a1 := c_iadd i 1
  have r1 := rng32 i
  have r2 := rng32 M
  have r3 := rng32 (i + 1)
  have e1 : (1 : Int32).toInt = 1 := rfl
  have e0 : (0 : Int32).toInt = 0 := rfl
  simp only [Int32.lt_iff_toInt_lt] at *
  refine ⟨by omega, by omega, by omega⟩
set_option maxHeartbeats 4000000 in
theorem loopB {p : Program} {l : Launch} {e : Env} {R : Room} {s : State} {m : MethodId} {args : Array Value} {below : List Frame} {meth : Method} {c : Code} {cells slots : Nat} {Z : State} {a0 : Array Value} {n0 : Nat} {a1 wv wc ev ct : Addr} {q1 t1 P : Int64} {M L k : Int32} {dd : Value}
    (hx : p.tables.exec = Jvm.exec) (hZ : Z.Warmed39 s.vm) (hw : ∀ d ∈ tables_1, d.before a0 Z = true) (hby : c.code = prog_187_method_7_code) (hml : c.maxLocals = 10) (hown : s.vm.findClass "com/example/januswire/januswire/sim/DueEvents" = some m.cls) (g1 : n0 ≤ a1) (gwv : n0 ≤ wv) (gwc : n0 ≤ wc) (nev : ev ≠ wv) (nct : ct ≠ wc) (hto : ∀ x : Int64, ¬ ((x &&& ((L - (1 : Int32)).toInt64)).toInt32) < 0 ∧ ((x &&& ((L - (1 : Int32)).toInt64)).toInt32) < L) :
    ∀ (n : Nat) {T0 : State} {h0 : Heap} {locs : List Loc} {i to : Int32} {hd : Int64} (X0 : Stand p l e R s m args below meth c T0 locs cells slots) (e0 : T0.heap = h0) (O0 : Old Z n0 h0) (N0 : Fr n0 locs) (hD : DueF Z n0 h0 a1 q1 M P k ev ct dd) (hV : Evs Z n0 h0 wv L) (hC : Cts Z h0 wc L k) (hi0 : ¬ i < 0) (hiM : ¬ M < i) (hn : M.toInt - i.toInt = (n : Int)),
    ∃ (T' : State) (h' : Heap) (locs' : List Loc) (hd' : Int64) (to' : Int32), Stand p l e R s m args below meth c T' locs' cells slots ∧ T'.heap = h' ∧ Old Z n0 h' ∧ Fr n0 locs' ∧ DueF Z n0 h' a1 q1 M P k ev ct dd ∧ Evs Z n0 h' wv L ∧ Cts Z h' wc L k ∧ ∀ t, Steps p.tables e below (T'.setTop (mkF m 39 #[.val (.ref a1), .val (.long t1), .second, .val (.int L), .val (.ref wv), .val (.ref wc), .val (.int M), .val (.long hd'), .second, .val (.int to')] [])) t → Steps p.tables e below (T0.setTop (mkF m 39 #[.val (.ref a1), .val (.long t1), .second, .val (.int L), .val (.ref wv), .val (.ref wc), .val (.int i), .val (.long hd), .second, .val (.int to)] [])) t := by
  intro n
  induction n with
  | zero =>
    intro T0 h0 locs i to hd X0 e0 O0 N0 hD hV hC hi0 hiM hn
    have q : i = M := Int32.toInt_inj.mp (by omega)
    subst q
    exact ⟨T0, h0, locs, hd, to, X0, e0, O0, N0, hD, hV, hC, fun t kt => kt⟩
  | succ n ih =>
    intro T0 h0 locs i to hd X0 e0 O0 N0 hD hV hC hi0 hiM hn
    have hi : i < M := by rw [Int32.lt_iff_toInt_lt]; omega
    obtain ⟨T1, h1, locs1, hd1, to1, X1, e1, O1, N1, D1, V1, C1, st1⟩ := turnB X0 hx hZ hw hby hml hown e0 O0 N0 (hd := hd) (to := to) (t1 := t1) hD hV hC g1 gwv gwc nev nct hto hi0 hi
    obtain ⟨u1, u2, u3⟩ := own_up hi0 hi
    obtain ⟨T2, h2, locs2, hd2, to2, X2, e2, O2, N2, D2, V2, C2, st2⟩ := ih X1 e1 O1 N1 D1 V1 C1 u2 u3 (by omega)
    exact ⟨T2, h2, locs2, hd2, to2, X2, e2, O2, N2, D2, V2, C2, fun t kt => st1 t (st2 t kt)⟩

theorem ef_wid_16_32 (m : MethodId) (a1 : Addr) (t1 : Int64) : entryFrame m #[(.ref a1), (.long t1)] 10 = mkF m 0 #[.val (.ref a1), .val (.long t1), .second, .unset, .unset, .unset, .unset, .unset, .unset, .unset] [] := by first | (simp [entryFrame, mkF, argsToLocals, Value.category]; done) | rfl
def Q_wid_16_32 (Z : State) (a1 : Addr) (t1 q1 P : Int64) (k : Int32) (h0 : Heap) (n0 : Nat) (v : Option Value) (h : Heap) (L : List Loc) : Prop := v = none ∧ Fr n0 L ∧ Old Z n0 h ∧ Due Z n0 h a1 q1 (32 : Int32) P k
set_option maxRecDepth 65536 in
set_option maxHeartbeats 40000000 in
theorem wid_16_32 (l : Launch) (Z : State) (a0 : Array Value) (hw : ∀ d ∈ tables_1, d.before a0 Z = true) (ws : List Jvm.Cond) (a1 : Addr) (t1 q1 P : Int64) (k : Int32) (h0 : Heap) (n0 : Nat) (O0 : Old Z n0 h0) (hD : Due Z n0 h0 a1 q1 (16 : Int32) P k) (g1 : n0 ≤ a1) (hk0 : ¬ k < 0) (hl16 : ¬ ((lcmpW (t1 - (-1)) ((16 : Int32).toInt64)) < (0 : Int32))) (hl32 : (lcmpW (t1 - (-1)) ((32 : Int32).toInt64)) < (0 : Int32)) :
    MetFree l (⟨"com/example/januswire/januswire/sim/DueEvents", "widen", "(J)V"⟩ : MethodName) (head1 (Jvm.Cond.code (⟨"com/example/januswire/januswire/sim/DueEvents", "widen", "(J)V"⟩ : MethodName) prog_187_method_7_code 10 none :: ws) ({ frames := 0, cells := 2, slots := 64, locals := 0 } : Room)) (fun a U => a = #[(.ref a1), (.long t1)] ∧ Z.Warmed39 U.vm ∧ U.heap = h0) (fun _ _ _ _ _ => True) (fun _ U o U' => ∃ v L, o = .returned v ∧ Q_wid_16_32 Z a1 t1 q1 P k h0 n0 v U'.heap L ∧ FrameEnd U o U' L ({ frames := 0, cells := 2, slots := 64, locals := 0 } : Room).cells ({ frames := 0, cells := 2, slots := 64, locals := 0 } : Room).slots) := by
  refine MetFree.of_bodySF (plainFor_of_name pn_com_example_januswire_januswire_sim_DueEvents) hisR ?_
  intro p e s m args below meth c s₁ Bd hml0 hP hK
  obtain ⟨rfl, hZ, hh⟩ := hP
  have hx := Bd.exec
  have hby := Bd.bytes
  have hml : c.maxLocals = 10 := hml0
  have hown : s.vm.findClass "com/example/januswire/januswire/sim/DueEvents" = some m.cls := findClass_of_methodNamed Bd.named
  have hnm := (name_of_methodNamed Bd.named Bd.method).1
  have X0 : Stand p l e ({ frames := 0, cells := 2, slots := 64, locals := 0 } : Room) s m #[(.ref a1), (.long t1)] below meth c s₁ [] 0 0 := Stand.of_body Bd
  have e0 : s₁.heap = h0 := by rw [← hh, Bd.state]; rfl
  have N0 := Fr.nil n0
  have pre0 : ∀ t, Steps p.tables e below (s₁.setTop (mkF m 0 #[.val (.ref a1), .val (.long t1), .second, .unset, .unset, .unset, .unset, .unset, .unset, .unset] [])) t → Steps p.tables e below (s₁.setTop (entryFrame m #[(.ref a1), (.long t1)] 10)) t := fun t k => castTop (ef_wid_16_32 m a1 t1) k
  have hD__ := hD; obtain ⟨ev, ct, dd, hDF⟩ := hD__
  have hD_ := hDF; obtain ⟨gev, gct, E_a1, F_events, F_counts, F_mask, F_current, F_lastTick, F_pending, F_droppedLate, Ev, Ct⟩ := hD_
  have ne_d_e : a1 ≠ ev := own_de E_a1 (hw _ (List.mem_of_getElem? (i := 1) rfl)) Ev
  have ne_d_c : a1 ≠ ct := own_dc E_a1 (hw _ (List.mem_of_getElem? (i := 1) rfl)) Ct
  have ne_e_c : ev ≠ ct := own_ec Ev Ct
  obtain ⟨T1, X1, e1, st1⟩ := getF X0 hx hZ hown (host := "") (Or.inl (hw _ (List.mem_of_getElem? (i := 11) rfl))) Via.refl e0 F_events (g := (mkF m 1 #[.val (.ref a1), .val (.long t1), .second, .unset, .unset, .unset, .unset, .unset, .unset, .unset] [(.ref a1)])) rfl rfl (hb hby d5_1)
  have Vc2 := Ev
  obtain ⟨ce2, Ae2, Oe2, Se2, Ne2, He2⟩ := Vc2
  obtain ⟨T3, X3, e3, st3⟩ := getF X1 hx hZ hown (host := "") (Or.inl (hw _ (List.mem_of_getElem? (i := 19) rfl))) Via.refl e1 F_current (g := (mkF m 8 #[.val (.ref a1), .val (.long t1), .second, .val (.int (16 : Int32)), .unset, .unset, .unset, .unset, .unset, .unset] [(.ref a1), (.long t1)])) rfl rfl (hb hby d5_8)
  obtain ⟨T4, X4, e4, st4⟩ := getF X3 hx hZ hown (host := "") (Or.inl (hw _ (List.mem_of_getElem? (i := 19) rfl))) Via.refl e3 F_current (g := (mkF m 8 #[.val (.ref a1), .val (.long t1), .second, .val (.int (32 : Int32)), .unset, .unset, .unset, .unset, .unset, .unset] [(.ref a1), (.long t1)])) rfl rfl (hb hby d5_8)
  obtain ⟨T5, h5, k5, X5, e5, E5, A5, Xa5, Ov5, st5⟩ := newRA X4 hx hZ (ty := .object "java/lang/Runnable") hown (by decide) (hw _ (List.mem_of_getElem? (i := 9) rfl)) (hw _ (List.mem_of_getElem? (i := 10) rfl)) e4 (g := (mkF m 26 #[.val (.ref a1), .val (.long t1), .second, .val (.int (32 : Int32)), .unset, .unset, .unset, .unset, .unset, .unset] [(.int (32 : Int32))])) rfl (hb hby d5_26) rfl (by decide) (cap := 32) (by decide) (by decide) (by decide) (by decide) (ad := "[[Ljava/lang/Runnable;") (by decide)
  obtain ⟨b5, g5⟩ : ∃ z, z = h0.size := ⟨_, rfl⟩
  rw [← g5] at A5 Xa5 st5
  have ne_a1_b5 : a1 ≠ b5 := Nat.ne_of_lt (Nat.lt_of_lt_of_le E_a1.lt (Nat.le_of_eq g5.symm))
  have ne_ev_b5 : ev ≠ b5 := Nat.ne_of_lt (Nat.lt_of_lt_of_le Ev.lt (Nat.le_of_eq g5.symm))
  have ne_ct_b5 : ct ≠ b5 := Nat.ne_of_lt (Nat.lt_of_lt_of_le Ct.lt (Nat.le_of_eq g5.symm))
  have g_b5 : n0 ≤ b5 := Nat.le_trans (own_le O0) (Nat.le_of_eq g5.symm)
  have O5 := O0.ext E5
  have V5 : Evs Z n0 h5 b5 (32 : Int32) := Evs.new A5 Ov5 (by decide)
  obtain ⟨T6, h6, k6, X6, e6, E6, A6, st6⟩ := newP X5 hx hZ (hw _ (List.mem_of_getElem? (i := 13) rfl)) e5 (g := (mkF m 32 #[.val (.ref a1), .val (.long t1), .second, .val (.int (32 : Int32)), .val (.ref b5), .unset, .unset, .unset, .unset, .unset] [(.int (32 : Int32))])) rfl (hb hby d5_32) rfl (by decide) (cap := 32) (by decide) (by decide) (by decide) (by decide)
  obtain ⟨b6, g6⟩ : ∃ z, z = h5.size := ⟨_, rfl⟩
  rw [← g6] at A6 st6
  have f7 := (E_a1.ext E5)
  have ne_a1_b6 : a1 ≠ b6 := Nat.ne_of_lt (Nat.lt_of_lt_of_le f7.lt (Nat.le_of_eq g6.symm))
  have f8 := (Ev.ext E5)
  have ne_ev_b6 : ev ≠ b6 := Nat.ne_of_lt (Nat.lt_of_lt_of_le f8.lt (Nat.le_of_eq g6.symm))
  have f9 := (Ct.ext E5)
  have ne_ct_b6 : ct ≠ b6 := Nat.ne_of_lt (Nat.lt_of_lt_of_le f9.lt (Nat.le_of_eq g6.symm))
  have ne_b5_b6 : b5 ≠ b6 := Nat.ne_of_lt (Nat.lt_of_lt_of_le V5.lt (Nat.le_of_eq g6.symm))
  have g_b6 : n0 ≤ b6 := Nat.le_trans (own_le O5) (Nat.le_of_eq g6.symm)
  have O6 := O5.ext E6
  have V6 : Cts Z h6 b6 (32 : Int32) k := Cts.new A6 (by decide) hk0
  have pre10 : ∀ t, Steps p.tables e below (T6.setTop (mkF m 39 #[.val (.ref a1), .val (.long t1), .second, .val (.int (32 : Int32)), .val (.ref b5), .val (.ref b6), .val (.int (0 : Int32)), .unset, .unset, .unset] [])) t → Steps p.tables e below (s₁.setTop (entryFrame m #[(.ref a1), (.long t1)] 10)) t := by
    intro t kt
    refine pre0 _ ?_
    show Steps p.tables e below (s₁.setTop (mkF m 0 #[.val (.ref a1), .val (.long t1), .second, .unset, .unset, .unset, .unset, .unset, .unset, .unset] [])) _
    refine XS.aloadN X0.here hx rfl (hb hby d5_0) rfl rfl ?_
    show Steps p.tables e below (s₁.setTop (mkF m 1 #[.val (.ref a1), .val (.long t1), .second, .unset, .unset, .unset, .unset, .unset, .unset, .unset] [(.ref a1)])) _
    refine st1 _ ?_
    show Steps p.tables e below (T1.setTop (mkF m 4 #[.val (.ref a1), .val (.long t1), .second, .unset, .unset, .unset, .unset, .unset, .unset, .unset] [(.ref ev)])) _
    refine X1.arraylength hx (by rw [e1]; exact Ae2.1) (State.isArrayOf_alike hZ.alike Ae2.2.1) (g := (mkF m 4 #[.val (.ref a1), .val (.long t1), .second, .unset, .unset, .unset, .unset, .unset, .unset, .unset] [(.ref ev)])) rfl rfl (hb hby d5_4) _ ?_
    rw [len_of Se2 Ne2]
    show Steps p.tables e below (T1.setTop (mkF m 5 #[.val (.ref a1), .val (.long t1), .second, .unset, .unset, .unset, .unset, .unset, .unset, .unset] [(.int (16 : Int32))])) _
    refine XS.istoreN X1.here hx rfl (hb hby d5_5) rfl (l' := #[.val (.ref a1), .val (.long t1), .second, .val (.int (16 : Int32)), .unset, .unset, .unset, .unset, .unset, .unset]) rfl ?_
    show Steps p.tables e below (T1.setTop (mkF m 6 #[.val (.ref a1), .val (.long t1), .second, .val (.int (16 : Int32)), .unset, .unset, .unset, .unset, .unset, .unset] [])) _
    refine XS.lloadN X1.here hx rfl (hb hby d5_6) rfl ?_
    show Steps p.tables e below (T1.setTop (mkF m 7 #[.val (.ref a1), .val (.long t1), .second, .val (.int (16 : Int32)), .unset, .unset, .unset, .unset, .unset, .unset] [(.long t1)])) _
    refine XS.aloadN X1.here hx rfl (hb hby d5_7) rfl rfl ?_
    show Steps p.tables e below (T1.setTop (mkF m 8 #[.val (.ref a1), .val (.long t1), .second, .val (.int (16 : Int32)), .unset, .unset, .unset, .unset, .unset, .unset] [(.ref a1), (.long t1)])) _
    refine st3 _ ?_
    show Steps p.tables e below (T3.setTop (mkF m 11 #[.val (.ref a1), .val (.long t1), .second, .val (.int (16 : Int32)), .unset, .unset, .unset, .unset, .unset, .unset] [(.long (-1)), (.long t1)])) _
    refine XS.lsub X3.here hx rfl (hb hby d5_11) rfl ?_
    show Steps p.tables e below (T3.setTop (mkF m 12 #[.val (.ref a1), .val (.long t1), .second, .val (.int (16 : Int32)), .unset, .unset, .unset, .unset, .unset, .unset] [(.long (t1 - (-1)))])) _
    refine XS.iloadN X3.here hx rfl (hb hby d5_12) rfl ?_
    show Steps p.tables e below (T3.setTop (mkF m 13 #[.val (.ref a1), .val (.long t1), .second, .val (.int (16 : Int32)), .unset, .unset, .unset, .unset, .unset, .unset] [(.int (16 : Int32)), (.long (t1 - (-1)))])) _
    refine XS.i2l X3.here hx rfl (hb hby d5_13) rfl ?_
    show Steps p.tables e below (T3.setTop (mkF m 14 #[.val (.ref a1), .val (.long t1), .second, .val (.int (16 : Int32)), .unset, .unset, .unset, .unset, .unset, .unset] [(.long ((16 : Int32).toInt64)), (.long (t1 - (-1)))])) _
    refine XS.lcmp X3.here hx rfl (hb hby d5_14) rfl ?_
    show Steps p.tables e below (T3.setTop (mkF m 15 #[.val (.ref a1), .val (.long t1), .second, .val (.int (16 : Int32)), .unset, .unset, .unset, .unset, .unset, .unset] [(.int (lcmpW (t1 - (-1)) ((16 : Int32).toInt64)))])) _
    refine XS.ifNo X3.here hx rfl (hb hby d5_15) rfl ((if0 _ _).trans (flt hl16).1) ?_
    show Steps p.tables e below (T3.setTop (mkF m 18 #[.val (.ref a1), .val (.long t1), .second, .val (.int (16 : Int32)), .unset, .unset, .unset, .unset, .unset, .unset] [])) _
    refine XS.iloadN X3.here hx rfl (hb hby d5_18) rfl ?_
    show Steps p.tables e below (T3.setTop (mkF m 19 #[.val (.ref a1), .val (.long t1), .second, .val (.int (16 : Int32)), .unset, .unset, .unset, .unset, .unset, .unset] [(.int (16 : Int32))])) _
    refine XS.iconst X3.here hx rfl (hb hby d5_19) ?_
    show Steps p.tables e below (T3.setTop (mkF m 20 #[.val (.ref a1), .val (.long t1), .second, .val (.int (16 : Int32)), .unset, .unset, .unset, .unset, .unset, .unset] [(.int (2 : Int32)), (.int (16 : Int32))])) _
    refine XS.imul X3.here hx rfl (hb hby d5_20) rfl ?_
    show Steps p.tables e below (T3.setTop (mkF m 21 #[.val (.ref a1), .val (.long t1), .second, .val (.int (16 : Int32)), .unset, .unset, .unset, .unset, .unset, .unset] [(.int (32 : Int32))])) _
    refine XS.istoreN X3.here hx rfl (hb hby d5_21) rfl (l' := #[.val (.ref a1), .val (.long t1), .second, .val (.int (32 : Int32)), .unset, .unset, .unset, .unset, .unset, .unset]) rfl ?_
    show Steps p.tables e below (T3.setTop (mkF m 22 #[.val (.ref a1), .val (.long t1), .second, .val (.int (32 : Int32)), .unset, .unset, .unset, .unset, .unset, .unset] [])) _
    refine XS.goto X3.here hx rfl (pc0 := 22) (pc' := 6) rfl (hb hby d5_22) (by decide) (by decide) ?_
    show Steps p.tables e below (T3.setTop (mkF m 6 #[.val (.ref a1), .val (.long t1), .second, .val (.int (32 : Int32)), .unset, .unset, .unset, .unset, .unset, .unset] [])) _
    refine XS.lloadN X3.here hx rfl (hb hby d5_6) rfl ?_
    show Steps p.tables e below (T3.setTop (mkF m 7 #[.val (.ref a1), .val (.long t1), .second, .val (.int (32 : Int32)), .unset, .unset, .unset, .unset, .unset, .unset] [(.long t1)])) _
    refine XS.aloadN X3.here hx rfl (hb hby d5_7) rfl rfl ?_
    show Steps p.tables e below (T3.setTop (mkF m 8 #[.val (.ref a1), .val (.long t1), .second, .val (.int (32 : Int32)), .unset, .unset, .unset, .unset, .unset, .unset] [(.ref a1), (.long t1)])) _
    refine st4 _ ?_
    show Steps p.tables e below (T4.setTop (mkF m 11 #[.val (.ref a1), .val (.long t1), .second, .val (.int (32 : Int32)), .unset, .unset, .unset, .unset, .unset, .unset] [(.long (-1)), (.long t1)])) _
    refine XS.lsub X4.here hx rfl (hb hby d5_11) rfl ?_
    show Steps p.tables e below (T4.setTop (mkF m 12 #[.val (.ref a1), .val (.long t1), .second, .val (.int (32 : Int32)), .unset, .unset, .unset, .unset, .unset, .unset] [(.long (t1 - (-1)))])) _
    refine XS.iloadN X4.here hx rfl (hb hby d5_12) rfl ?_
    show Steps p.tables e below (T4.setTop (mkF m 13 #[.val (.ref a1), .val (.long t1), .second, .val (.int (32 : Int32)), .unset, .unset, .unset, .unset, .unset, .unset] [(.int (32 : Int32)), (.long (t1 - (-1)))])) _
    refine XS.i2l X4.here hx rfl (hb hby d5_13) rfl ?_
    show Steps p.tables e below (T4.setTop (mkF m 14 #[.val (.ref a1), .val (.long t1), .second, .val (.int (32 : Int32)), .unset, .unset, .unset, .unset, .unset, .unset] [(.long ((32 : Int32).toInt64)), (.long (t1 - (-1)))])) _
    refine XS.lcmp X4.here hx rfl (hb hby d5_14) rfl ?_
    show Steps p.tables e below (T4.setTop (mkF m 15 #[.val (.ref a1), .val (.long t1), .second, .val (.int (32 : Int32)), .unset, .unset, .unset, .unset, .unset, .unset] [(.int (lcmpW (t1 - (-1)) ((32 : Int32).toInt64)))])) _
    refine XS.ifYes X4.here hx rfl (pc0 := 15) (pc' := 25) rfl (hb hby d5_15) rfl ((if0 _ _).trans (tlt hl32).1) (by decide) (by decide) ?_
    show Steps p.tables e below (T4.setTop (mkF m 25 #[.val (.ref a1), .val (.long t1), .second, .val (.int (32 : Int32)), .unset, .unset, .unset, .unset, .unset, .unset] [])) _
    refine XS.iloadN X4.here hx rfl (hb hby d5_25) rfl ?_
    show Steps p.tables e below (T4.setTop (mkF m 26 #[.val (.ref a1), .val (.long t1), .second, .val (.int (32 : Int32)), .unset, .unset, .unset, .unset, .unset, .unset] [(.int (32 : Int32))])) _
    refine st5 _ ?_
    show Steps p.tables e below (T5.setTop (mkF m 29 #[.val (.ref a1), .val (.long t1), .second, .val (.int (32 : Int32)), .unset, .unset, .unset, .unset, .unset, .unset] [(.ref b5)])) _
    refine XS.astore X5.here hx rfl (hb hby d5_29) rfl rfl (l' := #[.val (.ref a1), .val (.long t1), .second, .val (.int (32 : Int32)), .val (.ref b5), .unset, .unset, .unset, .unset, .unset]) rfl ?_
    show Steps p.tables e below (T5.setTop (mkF m 31 #[.val (.ref a1), .val (.long t1), .second, .val (.int (32 : Int32)), .val (.ref b5), .unset, .unset, .unset, .unset, .unset] [])) _
    refine XS.iloadN X5.here hx rfl (hb hby d5_31) rfl ?_
    show Steps p.tables e below (T5.setTop (mkF m 32 #[.val (.ref a1), .val (.long t1), .second, .val (.int (32 : Int32)), .val (.ref b5), .unset, .unset, .unset, .unset, .unset] [(.int (32 : Int32))])) _
    refine st6 _ ?_
    show Steps p.tables e below (T6.setTop (mkF m 34 #[.val (.ref a1), .val (.long t1), .second, .val (.int (32 : Int32)), .val (.ref b5), .unset, .unset, .unset, .unset, .unset] [(.ref b6)])) _
    refine XS.astore X6.here hx rfl (hb hby d5_34) rfl rfl (l' := #[.val (.ref a1), .val (.long t1), .second, .val (.int (32 : Int32)), .val (.ref b5), .val (.ref b6), .unset, .unset, .unset, .unset]) rfl ?_
    show Steps p.tables e below (T6.setTop (mkF m 36 #[.val (.ref a1), .val (.long t1), .second, .val (.int (32 : Int32)), .val (.ref b5), .val (.ref b6), .unset, .unset, .unset, .unset] [])) _
    refine XS.iconst X6.here hx rfl (hb hby d5_36) ?_
    show Steps p.tables e below (T6.setTop (mkF m 37 #[.val (.ref a1), .val (.long t1), .second, .val (.int (32 : Int32)), .val (.ref b5), .val (.ref b6), .unset, .unset, .unset, .unset] [(.int (0 : Int32))])) _
    refine XS.istore X6.here hx rfl (hb hby d5_37) rfl (l' := #[.val (.ref a1), .val (.long t1), .second, .val (.int (32 : Int32)), .val (.ref b5), .val (.ref b6), .val (.int (0 : Int32)), .unset, .unset, .unset]) rfl ?_
    exact kt
  have f12 := (f7.ext E6)
  have f13 := ((F_events.ext E5).ext E6)
  have f14 := ((F_counts.ext E5).ext E6)
  have f15 := ((F_mask.ext E5).ext E6)
  have f16 := ((F_current.ext E5).ext E6)
  have f17 := ((F_lastTick.ext E5).ext E6)
  have f18 := ((F_pending.ext E5).ext E6)
  have f19 := ((F_droppedLate.ext E5).ext E6)
  have f20 := (f8.ext E6)
  have f21 := (f9.ext E6)
  have hDF11 : DueF Z n0 h6 a1 q1 (16 : Int32) P k ev ct dd := ⟨gev, gct, f12, f13, f14, f15, f16, f17, f18, f19, f20, f21⟩
  have f22 := (V5.ext E6)
  obtain ⟨Ta, ha, locsa, hda, toa, Xa, ea, Oa, Na, Da, Va, Ca, sta⟩ := turnA X6 hx hZ hw hby hml hown e6 O6 N0 (t1 := t1) hDF11 f22 V6 g1 g_b5 g_b6 ne_ev_b5 ne_ct_b6 (own_to32) (i := (0 : Int32)) (by decide) (by decide)
  obtain ⟨Tb, hb_, locsb, hdb, tob, Xb, eb, Ob, Nb, Db, Vb, Cb, stb⟩ := loopB hx hZ hw hby hml hown g1 g_b5 g_b6 ne_ev_b5 ne_ct_b6 own_to32 15 (t1 := t1) (i := ((0 : Int32) + (1 : Int32))) (to := toa) (hd := hda) Xa ea Oa Na Da Va Ca (by decide) (by decide) (by decide)
  have hD_ := Db; obtain ⟨gevb, gctb, E_a1b, F_eventsb, F_countsb, F_maskb, F_currentb, F_lastTickb, F_pendingb, F_droppedLateb, Evb, Ctb⟩ := hD_
  obtain ⟨T23, X23, e23, st23⟩ := getF Xb hx hZ hown (host := "") (Or.inl (hw _ (List.mem_of_getElem? (i := 11) rfl))) Via.refl eb F_eventsb (g := (mkF m 42 #[.val (.ref a1), .val (.long t1), .second, .val (.int (32 : Int32)), .val (.ref b5), .val (.ref b6), .val (.int (16 : Int32)), .val (.long hdb), .second, .val (.int tob)] [(.ref a1), (.int (16 : Int32))])) rfl rfl (hb hby d5_42)
  have Vc24 := Evb
  obtain ⟨ce24, Ae24, Oe24, Se24, Ne24, He24⟩ := Vc24
  obtain ⟨T25, h25, X25, e25, W25, st25⟩ := putF X23 hx hZ hown (host := "") (Or.inl (hw _ (List.mem_of_getElem? (i := 11) rfl))) Via.refl e23 F_eventsb E_a1b (Or.inl (hw _ (List.mem_of_getElem? (i := 12) rfl))) (hw _ (List.mem_of_getElem? (i := 1) rfl)) (ty := (.array (.array (.object "java/lang/Runnable")))) (by decide) rfl rfl (g := (mkF m 113 #[.val (.ref a1), .val (.long t1), .second, .val (.int (32 : Int32)), .val (.ref b5), .val (.ref b6), .val (.int (16 : Int32)), .val (.long hdb), .second, .val (.int tob)] [(.ref b5), (.ref a1)])) rfl rfl (hb hby d5_113)
  have Fw25 := F_eventsb.same W25
  have O25 := Ob.wr W25 g1
  have N25 := Fr.snoc X25 Nb g1
  have f26 := (E_a1b.wr W25)
  have f27 := (F_countsb.other W25 (Or.inr (slot_ne (Or.inl (hw _ (List.mem_of_getElem? (i := 15) rfl))) (Or.inl (hw _ (List.mem_of_getElem? (i := 12) rfl))) (by decide) (t := (.array .int)) (t' := (.array (.array (.object "java/lang/Runnable")))) (by decide) (by decide))))
  obtain ⟨T28, h28, X28, e28, W28, st28⟩ := putF X25 hx hZ hown (host := "") (Or.inl (hw _ (List.mem_of_getElem? (i := 14) rfl))) Via.refl e25 f27 f26 (Or.inl (hw _ (List.mem_of_getElem? (i := 15) rfl))) (hw _ (List.mem_of_getElem? (i := 1) rfl)) (ty := (.array .int)) (by decide) rfl rfl (g := (mkF m 119 #[.val (.ref a1), .val (.long t1), .second, .val (.int (32 : Int32)), .val (.ref b5), .val (.ref b6), .val (.int (16 : Int32)), .val (.long hdb), .second, .val (.int tob)] [(.ref b6), (.ref a1)])) rfl rfl (hb hby d5_119)
  have Fw28 := f27.same W28
  have O28 := O25.wr W28 g1
  have N28 := Fr.snoc X28 N25 g1
  have f29 := (f26.wr W28)
  have f30 := ((F_maskb.other W25 (Or.inr (slot_ne (Or.inl (hw _ (List.mem_of_getElem? (i := 17) rfl))) (Or.inl (hw _ (List.mem_of_getElem? (i := 12) rfl))) (by decide) (t := .int) (t' := (.array (.array (.object "java/lang/Runnable")))) (by decide) (by decide)))).other W28 (Or.inr (slot_ne (Or.inl (hw _ (List.mem_of_getElem? (i := 17) rfl))) (Or.inl (hw _ (List.mem_of_getElem? (i := 15) rfl))) (by decide) (t := .int) (t' := (.array .int)) (by decide) (by decide))))
  obtain ⟨T31, h31, X31, e31, W31, st31⟩ := putF X28 hx hZ hown (host := "") (Or.inl (hw _ (List.mem_of_getElem? (i := 16) rfl))) Via.refl e28 f30 f29 (Or.inl (hw _ (List.mem_of_getElem? (i := 17) rfl))) (hw _ (List.mem_of_getElem? (i := 1) rfl)) (ty := .int) (by decide) rfl rfl (g := (mkF m 126 #[.val (.ref a1), .val (.long t1), .second, .val (.int (32 : Int32)), .val (.ref b5), .val (.ref b6), .val (.int (16 : Int32)), .val (.long hdb), .second, .val (.int tob)] [(.int ((32 : Int32) - (1 : Int32))), (.ref a1)])) rfl rfl (hb hby d5_126)
  have Fw31 := f30.same W31
  have O31 := O28.wr W31 g1
  have N31 := Fr.snoc X31 N28 g1
  have f32 := (f29.wr W31)
  have f33 := ((Fw25.other W28 (Or.inr (slot_ne (Or.inl (hw _ (List.mem_of_getElem? (i := 12) rfl))) (Or.inl (hw _ (List.mem_of_getElem? (i := 15) rfl))) (by decide) (t := (.array (.array (.object "java/lang/Runnable")))) (t' := (.array .int)) (by decide) (by decide)))).other W31 (Or.inr (slot_ne (Or.inl (hw _ (List.mem_of_getElem? (i := 12) rfl))) (Or.inl (hw _ (List.mem_of_getElem? (i := 17) rfl))) (by decide) (t := (.array (.array (.object "java/lang/Runnable")))) (t' := .int) (by decide) (by decide))))
  have f34 := (Fw28.other W31 (Or.inr (slot_ne (Or.inl (hw _ (List.mem_of_getElem? (i := 15) rfl))) (Or.inl (hw _ (List.mem_of_getElem? (i := 17) rfl))) (by decide) (t := (.array .int)) (t' := .int) (by decide) (by decide))))
  have f35 := (((F_currentb.other W25 (Or.inr (slot_ne (Or.inl (hw _ (List.mem_of_getElem? (i := 20) rfl))) (Or.inl (hw _ (List.mem_of_getElem? (i := 12) rfl))) (by decide) (t := .long) (t' := (.array (.array (.object "java/lang/Runnable")))) (by decide) (by decide)))).other W28 (Or.inr (slot_ne (Or.inl (hw _ (List.mem_of_getElem? (i := 20) rfl))) (Or.inl (hw _ (List.mem_of_getElem? (i := 15) rfl))) (by decide) (t := .long) (t' := (.array .int)) (by decide) (by decide)))).other W31 (Or.inr (slot_ne (Or.inl (hw _ (List.mem_of_getElem? (i := 20) rfl))) (Or.inl (hw _ (List.mem_of_getElem? (i := 17) rfl))) (by decide) (t := .long) (t' := .int) (by decide) (by decide))))
  have f36 := (((F_lastTickb.other W25 (Or.inr (slot_ne (Or.inr (hw _ (List.mem_of_getElem? (i := 22) rfl))) (Or.inl (hw _ (List.mem_of_getElem? (i := 12) rfl))) (by decide) (t := .long) (t' := (.array (.array (.object "java/lang/Runnable")))) (by decide) (by decide)))).other W28 (Or.inr (slot_ne (Or.inr (hw _ (List.mem_of_getElem? (i := 22) rfl))) (Or.inl (hw _ (List.mem_of_getElem? (i := 15) rfl))) (by decide) (t := .long) (t' := (.array .int)) (by decide) (by decide)))).other W31 (Or.inr (slot_ne (Or.inr (hw _ (List.mem_of_getElem? (i := 22) rfl))) (Or.inl (hw _ (List.mem_of_getElem? (i := 17) rfl))) (by decide) (t := .long) (t' := .int) (by decide) (by decide))))
  have f37 := (((F_pendingb.other W25 (Or.inr (slot_ne (Or.inl (hw _ (List.mem_of_getElem? (i := 29) rfl))) (Or.inl (hw _ (List.mem_of_getElem? (i := 12) rfl))) (by decide) (t := .long) (t' := (.array (.array (.object "java/lang/Runnable")))) (by decide) (by decide)))).other W28 (Or.inr (slot_ne (Or.inl (hw _ (List.mem_of_getElem? (i := 29) rfl))) (Or.inl (hw _ (List.mem_of_getElem? (i := 15) rfl))) (by decide) (t := .long) (t' := (.array .int)) (by decide) (by decide)))).other W31 (Or.inr (slot_ne (Or.inl (hw _ (List.mem_of_getElem? (i := 29) rfl))) (Or.inl (hw _ (List.mem_of_getElem? (i := 17) rfl))) (by decide) (t := .long) (t' := .int) (by decide) (by decide))))
  have f38 := (((F_droppedLateb.other W25 (Or.inr (slot_ne (Or.inl (hw _ (List.mem_of_getElem? (i := 43) rfl))) (Or.inl (hw _ (List.mem_of_getElem? (i := 12) rfl))) (by decide) (t := .boolean) (t' := (.array (.array (.object "java/lang/Runnable")))) (by decide) (by decide)))).other W28 (Or.inr (slot_ne (Or.inl (hw _ (List.mem_of_getElem? (i := 43) rfl))) (Or.inl (hw _ (List.mem_of_getElem? (i := 15) rfl))) (by decide) (t := .boolean) (t' := (.array .int)) (by decide) (by decide)))).other W31 (Or.inr (slot_ne (Or.inl (hw _ (List.mem_of_getElem? (i := 43) rfl))) (Or.inl (hw _ (List.mem_of_getElem? (i := 17) rfl))) (by decide) (t := .boolean) (t' := .int) (by decide) (by decide))))
  have f39 := (((Vb.other W25 (Ne.symm ne_a1_b5)).other W28 (Ne.symm ne_a1_b5)).other W31 (Ne.symm ne_a1_b5))
  have f40 := (((Cb.other W25 (Ne.symm ne_a1_b6)).other W28 (Ne.symm ne_a1_b6)).other W31 (Ne.symm ne_a1_b6))
  obtain ⟨fs, hr, hrun, hended, hW, hsame⟩ := X31.leave (v := none) (fun _ => rfl)
  refine ⟨_, _, pre10 _ ?_, hrun, hended, _, _, rfl, ?_, ⟨_, rfl⟩, hW, hsame.mono (by decide) (by decide)⟩
  · show Steps p.tables e below (T6.setTop (mkF m 39 #[.val (.ref a1), .val (.long t1), .second, .val (.int (32 : Int32)), .val (.ref b5), .val (.ref b6), .val (.int (0 : Int32)), .unset, .unset, .unset] [])) _
    refine sta _ ?_
    refine stb _ ?_
    show Steps p.tables e below (Tb.setTop (mkF m 39 #[.val (.ref a1), .val (.long t1), .second, .val (.int (32 : Int32)), .val (.ref b5), .val (.ref b6), .val (.int (16 : Int32)), .val (.long hdb), .second, .val (.int tob)] [])) _
    refine XS.iload Xb.here hx rfl (hb hby d5_39) rfl ?_
    show Steps p.tables e below (Tb.setTop (mkF m 41 #[.val (.ref a1), .val (.long t1), .second, .val (.int (32 : Int32)), .val (.ref b5), .val (.ref b6), .val (.int (16 : Int32)), .val (.long hdb), .second, .val (.int tob)] [(.int (16 : Int32))])) _
    refine XS.aloadN Xb.here hx rfl (hb hby d5_41) rfl rfl ?_
    show Steps p.tables e below (Tb.setTop (mkF m 42 #[.val (.ref a1), .val (.long t1), .second, .val (.int (32 : Int32)), .val (.ref b5), .val (.ref b6), .val (.int (16 : Int32)), .val (.long hdb), .second, .val (.int tob)] [(.ref a1), (.int (16 : Int32))])) _
    refine st23 _ ?_
    show Steps p.tables e below (T23.setTop (mkF m 45 #[.val (.ref a1), .val (.long t1), .second, .val (.int (32 : Int32)), .val (.ref b5), .val (.ref b6), .val (.int (16 : Int32)), .val (.long hdb), .second, .val (.int tob)] [(.ref ev), (.int (16 : Int32))])) _
    refine X23.arraylength hx (by rw [e23]; exact Ae24.1) (State.isArrayOf_alike hZ.alike Ae24.2.1) (g := (mkF m 45 #[.val (.ref a1), .val (.long t1), .second, .val (.int (32 : Int32)), .val (.ref b5), .val (.ref b6), .val (.int (16 : Int32)), .val (.long hdb), .second, .val (.int tob)] [(.ref ev), (.int (16 : Int32))])) rfl rfl (hb hby d5_45) _ ?_
    rw [len_of Se24 Ne24]
    show Steps p.tables e below (T23.setTop (mkF m 46 #[.val (.ref a1), .val (.long t1), .second, .val (.int (32 : Int32)), .val (.ref b5), .val (.ref b6), .val (.int (16 : Int32)), .val (.long hdb), .second, .val (.int tob)] [(.int (16 : Int32)), (.int (16 : Int32))])) _
    refine XS.icmpYes X23.here hx rfl (pc0 := 46) (pc' := 110) rfl (hb hby d5_46) rfl (flt (by decide : ¬ ((16 : Int32) < (16 : Int32)))).2.1 (by decide) (by decide) ?_
    show Steps p.tables e below (T23.setTop (mkF m 110 #[.val (.ref a1), .val (.long t1), .second, .val (.int (32 : Int32)), .val (.ref b5), .val (.ref b6), .val (.int (16 : Int32)), .val (.long hdb), .second, .val (.int tob)] [])) _
    refine XS.aloadN X23.here hx rfl (hb hby d5_110) rfl rfl ?_
    show Steps p.tables e below (T23.setTop (mkF m 111 #[.val (.ref a1), .val (.long t1), .second, .val (.int (32 : Int32)), .val (.ref b5), .val (.ref b6), .val (.int (16 : Int32)), .val (.long hdb), .second, .val (.int tob)] [(.ref a1)])) _
    refine XS.aload X23.here hx rfl (hb hby d5_111) rfl rfl ?_
    show Steps p.tables e below (T23.setTop (mkF m 113 #[.val (.ref a1), .val (.long t1), .second, .val (.int (32 : Int32)), .val (.ref b5), .val (.ref b6), .val (.int (16 : Int32)), .val (.long hdb), .second, .val (.int tob)] [(.ref b5), (.ref a1)])) _
    refine st25 _ ?_
    show Steps p.tables e below (T25.setTop (mkF m 116 #[.val (.ref a1), .val (.long t1), .second, .val (.int (32 : Int32)), .val (.ref b5), .val (.ref b6), .val (.int (16 : Int32)), .val (.long hdb), .second, .val (.int tob)] [])) _
    refine XS.aloadN X25.here hx rfl (hb hby d5_116) rfl rfl ?_
    show Steps p.tables e below (T25.setTop (mkF m 117 #[.val (.ref a1), .val (.long t1), .second, .val (.int (32 : Int32)), .val (.ref b5), .val (.ref b6), .val (.int (16 : Int32)), .val (.long hdb), .second, .val (.int tob)] [(.ref a1)])) _
    refine XS.aload X25.here hx rfl (hb hby d5_117) rfl rfl ?_
    show Steps p.tables e below (T25.setTop (mkF m 119 #[.val (.ref a1), .val (.long t1), .second, .val (.int (32 : Int32)), .val (.ref b5), .val (.ref b6), .val (.int (16 : Int32)), .val (.long hdb), .second, .val (.int tob)] [(.ref b6), (.ref a1)])) _
    refine st28 _ ?_
    show Steps p.tables e below (T28.setTop (mkF m 122 #[.val (.ref a1), .val (.long t1), .second, .val (.int (32 : Int32)), .val (.ref b5), .val (.ref b6), .val (.int (16 : Int32)), .val (.long hdb), .second, .val (.int tob)] [])) _
    refine XS.aloadN X28.here hx rfl (hb hby d5_122) rfl rfl ?_
    show Steps p.tables e below (T28.setTop (mkF m 123 #[.val (.ref a1), .val (.long t1), .second, .val (.int (32 : Int32)), .val (.ref b5), .val (.ref b6), .val (.int (16 : Int32)), .val (.long hdb), .second, .val (.int tob)] [(.ref a1)])) _
    refine XS.iloadN X28.here hx rfl (hb hby d5_123) rfl ?_
    show Steps p.tables e below (T28.setTop (mkF m 124 #[.val (.ref a1), .val (.long t1), .second, .val (.int (32 : Int32)), .val (.ref b5), .val (.ref b6), .val (.int (16 : Int32)), .val (.long hdb), .second, .val (.int tob)] [(.int (32 : Int32)), (.ref a1)])) _
    refine XS.iconst X28.here hx rfl (hb hby d5_124) ?_
    show Steps p.tables e below (T28.setTop (mkF m 125 #[.val (.ref a1), .val (.long t1), .second, .val (.int (32 : Int32)), .val (.ref b5), .val (.ref b6), .val (.int (16 : Int32)), .val (.long hdb), .second, .val (.int tob)] [(.int (1 : Int32)), (.int (32 : Int32)), (.ref a1)])) _
    refine XS.isub X28.here hx rfl (hb hby d5_125) rfl ?_
    show Steps p.tables e below (T28.setTop (mkF m 126 #[.val (.ref a1), .val (.long t1), .second, .val (.int (32 : Int32)), .val (.ref b5), .val (.ref b6), .val (.int (16 : Int32)), .val (.long hdb), .second, .val (.int tob)] [(.int ((32 : Int32) - (1 : Int32))), (.ref a1)])) _
    refine st31 _ ?_
    show Steps p.tables e below (T31.setTop (mkF m 129 #[.val (.ref a1), .val (.long t1), .second, .val (.int (32 : Int32)), .val (.ref b5), .val (.ref b6), .val (.int (16 : Int32)), .val (.long hdb), .second, .val (.int tob)] [])) _
    exact X31.returnOut hx Bd.returns (hb hby d5_129) hr
  · show Q_wid_16_32 Z a1 t1 q1 P k h0 n0 _ T31.heap _
    rw [e31]
    exact ⟨rfl, N31, O31, ⟨b5, b6, _, g_b5, g_b6, f32, f33, f34, Fw31, f35, f36, f37, f38, f39, f40⟩⟩
theorem ef_wid_16_64 (m : MethodId) (a1 : Addr) (t1 : Int64) : entryFrame m #[(.ref a1), (.long t1)] 10 = mkF m 0 #[.val (.ref a1), .val (.long t1), .second, .unset, .unset, .unset, .unset, .unset, .unset, .unset] [] := by first | (simp [entryFrame, mkF, argsToLocals, Value.category]; done) | rfl
def Q_wid_16_64 (Z : State) (a1 : Addr) (t1 q1 P : Int64) (k : Int32) (h0 : Heap) (n0 : Nat) (v : Option Value) (h : Heap) (L : List Loc) : Prop := v = none ∧ Fr n0 L ∧ Old Z n0 h ∧ Due Z n0 h a1 q1 (64 : Int32) P k
set_option maxRecDepth 65536 in
set_option maxHeartbeats 40000000 in
theorem wid_16_64 (l : Launch) (Z : State) (a0 : Array Value) (hw : ∀ d ∈ tables_1, d.before a0 Z = true) (ws : List Jvm.Cond) (a1 : Addr) (t1 q1 P : Int64) (k : Int32) (h0 : Heap) (n0 : Nat) (O0 : Old Z n0 h0) (hD : Due Z n0 h0 a1 q1 (16 : Int32) P k) (g1 : n0 ≤ a1) (hk0 : ¬ k < 0) (hl16 : ¬ ((lcmpW (t1 - (-1)) ((16 : Int32).toInt64)) < (0 : Int32))) (hl32 : ¬ ((lcmpW (t1 - (-1)) ((32 : Int32).toInt64)) < (0 : Int32))) (hl64 : (lcmpW (t1 - (-1)) ((64 : Int32).toInt64)) < (0 : Int32)) :
    MetFree l (⟨"com/example/januswire/januswire/sim/DueEvents", "widen", "(J)V"⟩ : MethodName) (head1 (Jvm.Cond.code (⟨"com/example/januswire/januswire/sim/DueEvents", "widen", "(J)V"⟩ : MethodName) prog_187_method_7_code 10 none :: ws) ({ frames := 0, cells := 2, slots := 128, locals := 0 } : Room)) (fun a U => a = #[(.ref a1), (.long t1)] ∧ Z.Warmed39 U.vm ∧ U.heap = h0) (fun _ _ _ _ _ => True) (fun _ U o U' => ∃ v L, o = .returned v ∧ Q_wid_16_64 Z a1 t1 q1 P k h0 n0 v U'.heap L ∧ FrameEnd U o U' L ({ frames := 0, cells := 2, slots := 128, locals := 0 } : Room).cells ({ frames := 0, cells := 2, slots := 128, locals := 0 } : Room).slots) := by
  refine MetFree.of_bodySF (plainFor_of_name pn_com_example_januswire_januswire_sim_DueEvents) hisR ?_
  intro p e s m args below meth c s₁ Bd hml0 hP hK
  obtain ⟨rfl, hZ, hh⟩ := hP
  have hx := Bd.exec
  have hby := Bd.bytes
  have hml : c.maxLocals = 10 := hml0
  have hown : s.vm.findClass "com/example/januswire/januswire/sim/DueEvents" = some m.cls := findClass_of_methodNamed Bd.named
  have hnm := (name_of_methodNamed Bd.named Bd.method).1
  have X0 : Stand p l e ({ frames := 0, cells := 2, slots := 128, locals := 0 } : Room) s m #[(.ref a1), (.long t1)] below meth c s₁ [] 0 0 := Stand.of_body Bd
  have e0 : s₁.heap = h0 := by rw [← hh, Bd.state]; rfl
  have N0 := Fr.nil n0
  have pre0 : ∀ t, Steps p.tables e below (s₁.setTop (mkF m 0 #[.val (.ref a1), .val (.long t1), .second, .unset, .unset, .unset, .unset, .unset, .unset, .unset] [])) t → Steps p.tables e below (s₁.setTop (entryFrame m #[(.ref a1), (.long t1)] 10)) t := fun t k => castTop (ef_wid_16_64 m a1 t1) k
  have hD__ := hD; obtain ⟨ev, ct, dd, hDF⟩ := hD__
  have hD_ := hDF; obtain ⟨gev, gct, E_a1, F_events, F_counts, F_mask, F_current, F_lastTick, F_pending, F_droppedLate, Ev, Ct⟩ := hD_
  have ne_d_e : a1 ≠ ev := own_de E_a1 (hw _ (List.mem_of_getElem? (i := 1) rfl)) Ev
  have ne_d_c : a1 ≠ ct := own_dc E_a1 (hw _ (List.mem_of_getElem? (i := 1) rfl)) Ct
  have ne_e_c : ev ≠ ct := own_ec Ev Ct
  obtain ⟨T1, X1, e1, st1⟩ := getF X0 hx hZ hown (host := "") (Or.inl (hw _ (List.mem_of_getElem? (i := 11) rfl))) Via.refl e0 F_events (g := (mkF m 1 #[.val (.ref a1), .val (.long t1), .second, .unset, .unset, .unset, .unset, .unset, .unset, .unset] [(.ref a1)])) rfl rfl (hb hby d5_1)
  have Vc2 := Ev
  obtain ⟨ce2, Ae2, Oe2, Se2, Ne2, He2⟩ := Vc2
  obtain ⟨T3, X3, e3, st3⟩ := getF X1 hx hZ hown (host := "") (Or.inl (hw _ (List.mem_of_getElem? (i := 19) rfl))) Via.refl e1 F_current (g := (mkF m 8 #[.val (.ref a1), .val (.long t1), .second, .val (.int (16 : Int32)), .unset, .unset, .unset, .unset, .unset, .unset] [(.ref a1), (.long t1)])) rfl rfl (hb hby d5_8)
  obtain ⟨T4, X4, e4, st4⟩ := getF X3 hx hZ hown (host := "") (Or.inl (hw _ (List.mem_of_getElem? (i := 19) rfl))) Via.refl e3 F_current (g := (mkF m 8 #[.val (.ref a1), .val (.long t1), .second, .val (.int (32 : Int32)), .unset, .unset, .unset, .unset, .unset, .unset] [(.ref a1), (.long t1)])) rfl rfl (hb hby d5_8)
  obtain ⟨T5, X5, e5, st5⟩ := getF X4 hx hZ hown (host := "") (Or.inl (hw _ (List.mem_of_getElem? (i := 19) rfl))) Via.refl e4 F_current (g := (mkF m 8 #[.val (.ref a1), .val (.long t1), .second, .val (.int (64 : Int32)), .unset, .unset, .unset, .unset, .unset, .unset] [(.ref a1), (.long t1)])) rfl rfl (hb hby d5_8)
  obtain ⟨T6, h6, k6, X6, e6, E6, A6, Xa6, Ov6, st6⟩ := newRA X5 hx hZ (ty := .object "java/lang/Runnable") hown (by decide) (hw _ (List.mem_of_getElem? (i := 9) rfl)) (hw _ (List.mem_of_getElem? (i := 10) rfl)) e5 (g := (mkF m 26 #[.val (.ref a1), .val (.long t1), .second, .val (.int (64 : Int32)), .unset, .unset, .unset, .unset, .unset, .unset] [(.int (64 : Int32))])) rfl (hb hby d5_26) rfl (by decide) (cap := 64) (by decide) (by decide) (by decide) (by decide) (ad := "[[Ljava/lang/Runnable;") (by decide)
  obtain ⟨b6, g6⟩ : ∃ z, z = h0.size := ⟨_, rfl⟩
  rw [← g6] at A6 Xa6 st6
  have ne_a1_b6 : a1 ≠ b6 := Nat.ne_of_lt (Nat.lt_of_lt_of_le E_a1.lt (Nat.le_of_eq g6.symm))
  have ne_ev_b6 : ev ≠ b6 := Nat.ne_of_lt (Nat.lt_of_lt_of_le Ev.lt (Nat.le_of_eq g6.symm))
  have ne_ct_b6 : ct ≠ b6 := Nat.ne_of_lt (Nat.lt_of_lt_of_le Ct.lt (Nat.le_of_eq g6.symm))
  have g_b6 : n0 ≤ b6 := Nat.le_trans (own_le O0) (Nat.le_of_eq g6.symm)
  have O6 := O0.ext E6
  have V6 : Evs Z n0 h6 b6 (64 : Int32) := Evs.new A6 Ov6 (by decide)
  obtain ⟨T7, h7, k7, X7, e7, E7, A7, st7⟩ := newP X6 hx hZ (hw _ (List.mem_of_getElem? (i := 13) rfl)) e6 (g := (mkF m 32 #[.val (.ref a1), .val (.long t1), .second, .val (.int (64 : Int32)), .val (.ref b6), .unset, .unset, .unset, .unset, .unset] [(.int (64 : Int32))])) rfl (hb hby d5_32) rfl (by decide) (cap := 64) (by decide) (by decide) (by decide) (by decide)
  obtain ⟨b7, g7⟩ : ∃ z, z = h6.size := ⟨_, rfl⟩
  rw [← g7] at A7 st7
  have f8 := (E_a1.ext E6)
  have ne_a1_b7 : a1 ≠ b7 := Nat.ne_of_lt (Nat.lt_of_lt_of_le f8.lt (Nat.le_of_eq g7.symm))
  have f9 := (Ev.ext E6)
  have ne_ev_b7 : ev ≠ b7 := Nat.ne_of_lt (Nat.lt_of_lt_of_le f9.lt (Nat.le_of_eq g7.symm))
  have f10 := (Ct.ext E6)
  have ne_ct_b7 : ct ≠ b7 := Nat.ne_of_lt (Nat.lt_of_lt_of_le f10.lt (Nat.le_of_eq g7.symm))
  have ne_b6_b7 : b6 ≠ b7 := Nat.ne_of_lt (Nat.lt_of_lt_of_le V6.lt (Nat.le_of_eq g7.symm))
  have g_b7 : n0 ≤ b7 := Nat.le_trans (own_le O6) (Nat.le_of_eq g7.symm)
  have O7 := O6.ext E7
  have V7 : Cts Z h7 b7 (64 : Int32) k := Cts.new A7 (by decide) hk0
  have pre11 : ∀ t, Steps p.tables e below (T7.setTop (mkF m 39 #[.val (.ref a1), .val (.long t1), .second, .val (.int (64 : Int32)), .val (.ref b6), .val (.ref b7), .val (.int (0 : Int32)), .unset, .unset, .unset] [])) t → Steps p.tables e below (s₁.setTop (entryFrame m #[(.ref a1), (.long t1)] 10)) t := by
    intro t kt
    refine pre0 _ ?_
    show Steps p.tables e below (s₁.setTop (mkF m 0 #[.val (.ref a1), .val (.long t1), .second, .unset, .unset, .unset, .unset, .unset, .unset, .unset] [])) _
    refine XS.aloadN X0.here hx rfl (hb hby d5_0) rfl rfl ?_
    show Steps p.tables e below (s₁.setTop (mkF m 1 #[.val (.ref a1), .val (.long t1), .second, .unset, .unset, .unset, .unset, .unset, .unset, .unset] [(.ref a1)])) _
    refine st1 _ ?_
    show Steps p.tables e below (T1.setTop (mkF m 4 #[.val (.ref a1), .val (.long t1), .second, .unset, .unset, .unset, .unset, .unset, .unset, .unset] [(.ref ev)])) _
    refine X1.arraylength hx (by rw [e1]; exact Ae2.1) (State.isArrayOf_alike hZ.alike Ae2.2.1) (g := (mkF m 4 #[.val (.ref a1), .val (.long t1), .second, .unset, .unset, .unset, .unset, .unset, .unset, .unset] [(.ref ev)])) rfl rfl (hb hby d5_4) _ ?_
    rw [len_of Se2 Ne2]
    show Steps p.tables e below (T1.setTop (mkF m 5 #[.val (.ref a1), .val (.long t1), .second, .unset, .unset, .unset, .unset, .unset, .unset, .unset] [(.int (16 : Int32))])) _
    refine XS.istoreN X1.here hx rfl (hb hby d5_5) rfl (l' := #[.val (.ref a1), .val (.long t1), .second, .val (.int (16 : Int32)), .unset, .unset, .unset, .unset, .unset, .unset]) rfl ?_
    show Steps p.tables e below (T1.setTop (mkF m 6 #[.val (.ref a1), .val (.long t1), .second, .val (.int (16 : Int32)), .unset, .unset, .unset, .unset, .unset, .unset] [])) _
    refine XS.lloadN X1.here hx rfl (hb hby d5_6) rfl ?_
    show Steps p.tables e below (T1.setTop (mkF m 7 #[.val (.ref a1), .val (.long t1), .second, .val (.int (16 : Int32)), .unset, .unset, .unset, .unset, .unset, .unset] [(.long t1)])) _
    refine XS.aloadN X1.here hx rfl (hb hby d5_7) rfl rfl ?_
    show Steps p.tables e below (T1.setTop (mkF m 8 #[.val (.ref a1), .val (.long t1), .second, .val (.int (16 : Int32)), .unset, .unset, .unset, .unset, .unset, .unset] [(.ref a1), (.long t1)])) _
    refine st3 _ ?_
    show Steps p.tables e below (T3.setTop (mkF m 11 #[.val (.ref a1), .val (.long t1), .second, .val (.int (16 : Int32)), .unset, .unset, .unset, .unset, .unset, .unset] [(.long (-1)), (.long t1)])) _
    refine XS.lsub X3.here hx rfl (hb hby d5_11) rfl ?_
    show Steps p.tables e below (T3.setTop (mkF m 12 #[.val (.ref a1), .val (.long t1), .second, .val (.int (16 : Int32)), .unset, .unset, .unset, .unset, .unset, .unset] [(.long (t1 - (-1)))])) _
    refine XS.iloadN X3.here hx rfl (hb hby d5_12) rfl ?_
    show Steps p.tables e below (T3.setTop (mkF m 13 #[.val (.ref a1), .val (.long t1), .second, .val (.int (16 : Int32)), .unset, .unset, .unset, .unset, .unset, .unset] [(.int (16 : Int32)), (.long (t1 - (-1)))])) _
    refine XS.i2l X3.here hx rfl (hb hby d5_13) rfl ?_
    show Steps p.tables e below (T3.setTop (mkF m 14 #[.val (.ref a1), .val (.long t1), .second, .val (.int (16 : Int32)), .unset, .unset, .unset, .unset, .unset, .unset] [(.long ((16 : Int32).toInt64)), (.long (t1 - (-1)))])) _
    refine XS.lcmp X3.here hx rfl (hb hby d5_14) rfl ?_
    show Steps p.tables e below (T3.setTop (mkF m 15 #[.val (.ref a1), .val (.long t1), .second, .val (.int (16 : Int32)), .unset, .unset, .unset, .unset, .unset, .unset] [(.int (lcmpW (t1 - (-1)) ((16 : Int32).toInt64)))])) _
    refine XS.ifNo X3.here hx rfl (hb hby d5_15) rfl ((if0 _ _).trans (flt hl16).1) ?_
    show Steps p.tables e below (T3.setTop (mkF m 18 #[.val (.ref a1), .val (.long t1), .second, .val (.int (16 : Int32)), .unset, .unset, .unset, .unset, .unset, .unset] [])) _
    refine XS.iloadN X3.here hx rfl (hb hby d5_18) rfl ?_
    show Steps p.tables e below (T3.setTop (mkF m 19 #[.val (.ref a1), .val (.long t1), .second, .val (.int (16 : Int32)), .unset, .unset, .unset, .unset, .unset, .unset] [(.int (16 : Int32))])) _
    refine XS.iconst X3.here hx rfl (hb hby d5_19) ?_
    show Steps p.tables e below (T3.setTop (mkF m 20 #[.val (.ref a1), .val (.long t1), .second, .val (.int (16 : Int32)), .unset, .unset, .unset, .unset, .unset, .unset] [(.int (2 : Int32)), (.int (16 : Int32))])) _
    refine XS.imul X3.here hx rfl (hb hby d5_20) rfl ?_
    show Steps p.tables e below (T3.setTop (mkF m 21 #[.val (.ref a1), .val (.long t1), .second, .val (.int (16 : Int32)), .unset, .unset, .unset, .unset, .unset, .unset] [(.int (32 : Int32))])) _
    refine XS.istoreN X3.here hx rfl (hb hby d5_21) rfl (l' := #[.val (.ref a1), .val (.long t1), .second, .val (.int (32 : Int32)), .unset, .unset, .unset, .unset, .unset, .unset]) rfl ?_
    show Steps p.tables e below (T3.setTop (mkF m 22 #[.val (.ref a1), .val (.long t1), .second, .val (.int (32 : Int32)), .unset, .unset, .unset, .unset, .unset, .unset] [])) _
    refine XS.goto X3.here hx rfl (pc0 := 22) (pc' := 6) rfl (hb hby d5_22) (by decide) (by decide) ?_
    show Steps p.tables e below (T3.setTop (mkF m 6 #[.val (.ref a1), .val (.long t1), .second, .val (.int (32 : Int32)), .unset, .unset, .unset, .unset, .unset, .unset] [])) _
    refine XS.lloadN X3.here hx rfl (hb hby d5_6) rfl ?_
    show Steps p.tables e below (T3.setTop (mkF m 7 #[.val (.ref a1), .val (.long t1), .second, .val (.int (32 : Int32)), .unset, .unset, .unset, .unset, .unset, .unset] [(.long t1)])) _
    refine XS.aloadN X3.here hx rfl (hb hby d5_7) rfl rfl ?_
    show Steps p.tables e below (T3.setTop (mkF m 8 #[.val (.ref a1), .val (.long t1), .second, .val (.int (32 : Int32)), .unset, .unset, .unset, .unset, .unset, .unset] [(.ref a1), (.long t1)])) _
    refine st4 _ ?_
    show Steps p.tables e below (T4.setTop (mkF m 11 #[.val (.ref a1), .val (.long t1), .second, .val (.int (32 : Int32)), .unset, .unset, .unset, .unset, .unset, .unset] [(.long (-1)), (.long t1)])) _
    refine XS.lsub X4.here hx rfl (hb hby d5_11) rfl ?_
    show Steps p.tables e below (T4.setTop (mkF m 12 #[.val (.ref a1), .val (.long t1), .second, .val (.int (32 : Int32)), .unset, .unset, .unset, .unset, .unset, .unset] [(.long (t1 - (-1)))])) _
    refine XS.iloadN X4.here hx rfl (hb hby d5_12) rfl ?_
    show Steps p.tables e below (T4.setTop (mkF m 13 #[.val (.ref a1), .val (.long t1), .second, .val (.int (32 : Int32)), .unset, .unset, .unset, .unset, .unset, .unset] [(.int (32 : Int32)), (.long (t1 - (-1)))])) _
    refine XS.i2l X4.here hx rfl (hb hby d5_13) rfl ?_
    show Steps p.tables e below (T4.setTop (mkF m 14 #[.val (.ref a1), .val (.long t1), .second, .val (.int (32 : Int32)), .unset, .unset, .unset, .unset, .unset, .unset] [(.long ((32 : Int32).toInt64)), (.long (t1 - (-1)))])) _
    refine XS.lcmp X4.here hx rfl (hb hby d5_14) rfl ?_
    show Steps p.tables e below (T4.setTop (mkF m 15 #[.val (.ref a1), .val (.long t1), .second, .val (.int (32 : Int32)), .unset, .unset, .unset, .unset, .unset, .unset] [(.int (lcmpW (t1 - (-1)) ((32 : Int32).toInt64)))])) _
    refine XS.ifNo X4.here hx rfl (hb hby d5_15) rfl ((if0 _ _).trans (flt hl32).1) ?_
    show Steps p.tables e below (T4.setTop (mkF m 18 #[.val (.ref a1), .val (.long t1), .second, .val (.int (32 : Int32)), .unset, .unset, .unset, .unset, .unset, .unset] [])) _
    refine XS.iloadN X4.here hx rfl (hb hby d5_18) rfl ?_
    show Steps p.tables e below (T4.setTop (mkF m 19 #[.val (.ref a1), .val (.long t1), .second, .val (.int (32 : Int32)), .unset, .unset, .unset, .unset, .unset, .unset] [(.int (32 : Int32))])) _
    refine XS.iconst X4.here hx rfl (hb hby d5_19) ?_
    show Steps p.tables e below (T4.setTop (mkF m 20 #[.val (.ref a1), .val (.long t1), .second, .val (.int (32 : Int32)), .unset, .unset, .unset, .unset, .unset, .unset] [(.int (2 : Int32)), (.int (32 : Int32))])) _
    refine XS.imul X4.here hx rfl (hb hby d5_20) rfl ?_
    show Steps p.tables e below (T4.setTop (mkF m 21 #[.val (.ref a1), .val (.long t1), .second, .val (.int (32 : Int32)), .unset, .unset, .unset, .unset, .unset, .unset] [(.int (64 : Int32))])) _
    refine XS.istoreN X4.here hx rfl (hb hby d5_21) rfl (l' := #[.val (.ref a1), .val (.long t1), .second, .val (.int (64 : Int32)), .unset, .unset, .unset, .unset, .unset, .unset]) rfl ?_
    show Steps p.tables e below (T4.setTop (mkF m 22 #[.val (.ref a1), .val (.long t1), .second, .val (.int (64 : Int32)), .unset, .unset, .unset, .unset, .unset, .unset] [])) _
    refine XS.goto X4.here hx rfl (pc0 := 22) (pc' := 6) rfl (hb hby d5_22) (by decide) (by decide) ?_
    show Steps p.tables e below (T4.setTop (mkF m 6 #[.val (.ref a1), .val (.long t1), .second, .val (.int (64 : Int32)), .unset, .unset, .unset, .unset, .unset, .unset] [])) _
    refine XS.lloadN X4.here hx rfl (hb hby d5_6) rfl ?_
    show Steps p.tables e below (T4.setTop (mkF m 7 #[.val (.ref a1), .val (.long t1), .second, .val (.int (64 : Int32)), .unset, .unset, .unset, .unset, .unset, .unset] [(.long t1)])) _
    refine XS.aloadN X4.here hx rfl (hb hby d5_7) rfl rfl ?_
    show Steps p.tables e below (T4.setTop (mkF m 8 #[.val (.ref a1), .val (.long t1), .second, .val (.int (64 : Int32)), .unset, .unset, .unset, .unset, .unset, .unset] [(.ref a1), (.long t1)])) _
    refine st5 _ ?_
    show Steps p.tables e below (T5.setTop (mkF m 11 #[.val (.ref a1), .val (.long t1), .second, .val (.int (64 : Int32)), .unset, .unset, .unset, .unset, .unset, .unset] [(.long (-1)), (.long t1)])) _
    refine XS.lsub X5.here hx rfl (hb hby d5_11) rfl ?_
    show Steps p.tables e below (T5.setTop (mkF m 12 #[.val (.ref a1), .val (.long t1), .second, .val (.int (64 : Int32)), .unset, .unset, .unset, .unset, .unset, .unset] [(.long (t1 - (-1)))])) _
    refine XS.iloadN X5.here hx rfl (hb hby d5_12) rfl ?_
    show Steps p.tables e below (T5.setTop (mkF m 13 #[.val (.ref a1), .val (.long t1), .second, .val (.int (64 : Int32)), .unset, .unset, .unset, .unset, .unset, .unset] [(.int (64 : Int32)), (.long (t1 - (-1)))])) _
    refine XS.i2l X5.here hx rfl (hb hby d5_13) rfl ?_
    show Steps p.tables e below (T5.setTop (mkF m 14 #[.val (.ref a1), .val (.long t1), .second, .val (.int (64 : Int32)), .unset, .unset, .unset, .unset, .unset, .unset] [(.long ((64 : Int32).toInt64)), (.long (t1 - (-1)))])) _
    refine XS.lcmp X5.here hx rfl (hb hby d5_14) rfl ?_
    show Steps p.tables e below (T5.setTop (mkF m 15 #[.val (.ref a1), .val (.long t1), .second, .val (.int (64 : Int32)), .unset, .unset, .unset, .unset, .unset, .unset] [(.int (lcmpW (t1 - (-1)) ((64 : Int32).toInt64)))])) _
    refine XS.ifYes X5.here hx rfl (pc0 := 15) (pc' := 25) rfl (hb hby d5_15) rfl ((if0 _ _).trans (tlt hl64).1) (by decide) (by decide) ?_
    show Steps p.tables e below (T5.setTop (mkF m 25 #[.val (.ref a1), .val (.long t1), .second, .val (.int (64 : Int32)), .unset, .unset, .unset, .unset, .unset, .unset] [])) _
    refine XS.iloadN X5.here hx rfl (hb hby d5_25) rfl ?_
    show Steps p.tables e below (T5.setTop (mkF m 26 #[.val (.ref a1), .val (.long t1), .second, .val (.int (64 : Int32)), .unset, .unset, .unset, .unset, .unset, .unset] [(.int (64 : Int32))])) _
    refine st6 _ ?_
    show Steps p.tables e below (T6.setTop (mkF m 29 #[.val (.ref a1), .val (.long t1), .second, .val (.int (64 : Int32)), .unset, .unset, .unset, .unset, .unset, .unset] [(.ref b6)])) _
    refine XS.astore X6.here hx rfl (hb hby d5_29) rfl rfl (l' := #[.val (.ref a1), .val (.long t1), .second, .val (.int (64 : Int32)), .val (.ref b6), .unset, .unset, .unset, .unset, .unset]) rfl ?_
    show Steps p.tables e below (T6.setTop (mkF m 31 #[.val (.ref a1), .val (.long t1), .second, .val (.int (64 : Int32)), .val (.ref b6), .unset, .unset, .unset, .unset, .unset] [])) _
    refine XS.iloadN X6.here hx rfl (hb hby d5_31) rfl ?_
    show Steps p.tables e below (T6.setTop (mkF m 32 #[.val (.ref a1), .val (.long t1), .second, .val (.int (64 : Int32)), .val (.ref b6), .unset, .unset, .unset, .unset, .unset] [(.int (64 : Int32))])) _
    refine st7 _ ?_
    show Steps p.tables e below (T7.setTop (mkF m 34 #[.val (.ref a1), .val (.long t1), .second, .val (.int (64 : Int32)), .val (.ref b6), .unset, .unset, .unset, .unset, .unset] [(.ref b7)])) _
    refine XS.astore X7.here hx rfl (hb hby d5_34) rfl rfl (l' := #[.val (.ref a1), .val (.long t1), .second, .val (.int (64 : Int32)), .val (.ref b6), .val (.ref b7), .unset, .unset, .unset, .unset]) rfl ?_
    show Steps p.tables e below (T7.setTop (mkF m 36 #[.val (.ref a1), .val (.long t1), .second, .val (.int (64 : Int32)), .val (.ref b6), .val (.ref b7), .unset, .unset, .unset, .unset] [])) _
    refine XS.iconst X7.here hx rfl (hb hby d5_36) ?_
    show Steps p.tables e below (T7.setTop (mkF m 37 #[.val (.ref a1), .val (.long t1), .second, .val (.int (64 : Int32)), .val (.ref b6), .val (.ref b7), .unset, .unset, .unset, .unset] [(.int (0 : Int32))])) _
    refine XS.istore X7.here hx rfl (hb hby d5_37) rfl (l' := #[.val (.ref a1), .val (.long t1), .second, .val (.int (64 : Int32)), .val (.ref b6), .val (.ref b7), .val (.int (0 : Int32)), .unset, .unset, .unset]) rfl ?_
    exact kt
  have f13 := (f8.ext E7)
  have f14 := ((F_events.ext E6).ext E7)
  have f15 := ((F_counts.ext E6).ext E7)
  have f16 := ((F_mask.ext E6).ext E7)
  have f17 := ((F_current.ext E6).ext E7)
  have f18 := ((F_lastTick.ext E6).ext E7)
  have f19 := ((F_pending.ext E6).ext E7)
  have f20 := ((F_droppedLate.ext E6).ext E7)
  have f21 := (f9.ext E7)
  have f22 := (f10.ext E7)
  have hDF12 : DueF Z n0 h7 a1 q1 (16 : Int32) P k ev ct dd := ⟨gev, gct, f13, f14, f15, f16, f17, f18, f19, f20, f21, f22⟩
  have f23 := (V6.ext E7)
  obtain ⟨Ta, ha, locsa, hda, toa, Xa, ea, Oa, Na, Da, Va, Ca, sta⟩ := turnA X7 hx hZ hw hby hml hown e7 O7 N0 (t1 := t1) hDF12 f23 V7 g1 g_b6 g_b7 ne_ev_b6 ne_ct_b7 (own_to64) (i := (0 : Int32)) (by decide) (by decide)
  obtain ⟨Tb, hb_, locsb, hdb, tob, Xb, eb, Ob, Nb, Db, Vb, Cb, stb⟩ := loopB hx hZ hw hby hml hown g1 g_b6 g_b7 ne_ev_b6 ne_ct_b7 own_to64 15 (t1 := t1) (i := ((0 : Int32) + (1 : Int32))) (to := toa) (hd := hda) Xa ea Oa Na Da Va Ca (by decide) (by decide) (by decide)
  have hD_ := Db; obtain ⟨gevb, gctb, E_a1b, F_eventsb, F_countsb, F_maskb, F_currentb, F_lastTickb, F_pendingb, F_droppedLateb, Evb, Ctb⟩ := hD_
  obtain ⟨T24, X24, e24, st24⟩ := getF Xb hx hZ hown (host := "") (Or.inl (hw _ (List.mem_of_getElem? (i := 11) rfl))) Via.refl eb F_eventsb (g := (mkF m 42 #[.val (.ref a1), .val (.long t1), .second, .val (.int (64 : Int32)), .val (.ref b6), .val (.ref b7), .val (.int (16 : Int32)), .val (.long hdb), .second, .val (.int tob)] [(.ref a1), (.int (16 : Int32))])) rfl rfl (hb hby d5_42)
  have Vc25 := Evb
  obtain ⟨ce25, Ae25, Oe25, Se25, Ne25, He25⟩ := Vc25
  obtain ⟨T26, h26, X26, e26, W26, st26⟩ := putF X24 hx hZ hown (host := "") (Or.inl (hw _ (List.mem_of_getElem? (i := 11) rfl))) Via.refl e24 F_eventsb E_a1b (Or.inl (hw _ (List.mem_of_getElem? (i := 12) rfl))) (hw _ (List.mem_of_getElem? (i := 1) rfl)) (ty := (.array (.array (.object "java/lang/Runnable")))) (by decide) rfl rfl (g := (mkF m 113 #[.val (.ref a1), .val (.long t1), .second, .val (.int (64 : Int32)), .val (.ref b6), .val (.ref b7), .val (.int (16 : Int32)), .val (.long hdb), .second, .val (.int tob)] [(.ref b6), (.ref a1)])) rfl rfl (hb hby d5_113)
  have Fw26 := F_eventsb.same W26
  have O26 := Ob.wr W26 g1
  have N26 := Fr.snoc X26 Nb g1
  have f27 := (E_a1b.wr W26)
  have f28 := (F_countsb.other W26 (Or.inr (slot_ne (Or.inl (hw _ (List.mem_of_getElem? (i := 15) rfl))) (Or.inl (hw _ (List.mem_of_getElem? (i := 12) rfl))) (by decide) (t := (.array .int)) (t' := (.array (.array (.object "java/lang/Runnable")))) (by decide) (by decide))))
  obtain ⟨T29, h29, X29, e29, W29, st29⟩ := putF X26 hx hZ hown (host := "") (Or.inl (hw _ (List.mem_of_getElem? (i := 14) rfl))) Via.refl e26 f28 f27 (Or.inl (hw _ (List.mem_of_getElem? (i := 15) rfl))) (hw _ (List.mem_of_getElem? (i := 1) rfl)) (ty := (.array .int)) (by decide) rfl rfl (g := (mkF m 119 #[.val (.ref a1), .val (.long t1), .second, .val (.int (64 : Int32)), .val (.ref b6), .val (.ref b7), .val (.int (16 : Int32)), .val (.long hdb), .second, .val (.int tob)] [(.ref b7), (.ref a1)])) rfl rfl (hb hby d5_119)
  have Fw29 := f28.same W29
  have O29 := O26.wr W29 g1
  have N29 := Fr.snoc X29 N26 g1
  have f30 := (f27.wr W29)
  have f31 := ((F_maskb.other W26 (Or.inr (slot_ne (Or.inl (hw _ (List.mem_of_getElem? (i := 17) rfl))) (Or.inl (hw _ (List.mem_of_getElem? (i := 12) rfl))) (by decide) (t := .int) (t' := (.array (.array (.object "java/lang/Runnable")))) (by decide) (by decide)))).other W29 (Or.inr (slot_ne (Or.inl (hw _ (List.mem_of_getElem? (i := 17) rfl))) (Or.inl (hw _ (List.mem_of_getElem? (i := 15) rfl))) (by decide) (t := .int) (t' := (.array .int)) (by decide) (by decide))))
  obtain ⟨T32, h32, X32, e32, W32, st32⟩ := putF X29 hx hZ hown (host := "") (Or.inl (hw _ (List.mem_of_getElem? (i := 16) rfl))) Via.refl e29 f31 f30 (Or.inl (hw _ (List.mem_of_getElem? (i := 17) rfl))) (hw _ (List.mem_of_getElem? (i := 1) rfl)) (ty := .int) (by decide) rfl rfl (g := (mkF m 126 #[.val (.ref a1), .val (.long t1), .second, .val (.int (64 : Int32)), .val (.ref b6), .val (.ref b7), .val (.int (16 : Int32)), .val (.long hdb), .second, .val (.int tob)] [(.int ((64 : Int32) - (1 : Int32))), (.ref a1)])) rfl rfl (hb hby d5_126)
  have Fw32 := f31.same W32
  have O32 := O29.wr W32 g1
  have N32 := Fr.snoc X32 N29 g1
  have f33 := (f30.wr W32)
  have f34 := ((Fw26.other W29 (Or.inr (slot_ne (Or.inl (hw _ (List.mem_of_getElem? (i := 12) rfl))) (Or.inl (hw _ (List.mem_of_getElem? (i := 15) rfl))) (by decide) (t := (.array (.array (.object "java/lang/Runnable")))) (t' := (.array .int)) (by decide) (by decide)))).other W32 (Or.inr (slot_ne (Or.inl (hw _ (List.mem_of_getElem? (i := 12) rfl))) (Or.inl (hw _ (List.mem_of_getElem? (i := 17) rfl))) (by decide) (t := (.array (.array (.object "java/lang/Runnable")))) (t' := .int) (by decide) (by decide))))
  have f35 := (Fw29.other W32 (Or.inr (slot_ne (Or.inl (hw _ (List.mem_of_getElem? (i := 15) rfl))) (Or.inl (hw _ (List.mem_of_getElem? (i := 17) rfl))) (by decide) (t := (.array .int)) (t' := .int) (by decide) (by decide))))
  have f36 := (((F_currentb.other W26 (Or.inr (slot_ne (Or.inl (hw _ (List.mem_of_getElem? (i := 20) rfl))) (Or.inl (hw _ (List.mem_of_getElem? (i := 12) rfl))) (by decide) (t := .long) (t' := (.array (.array (.object "java/lang/Runnable")))) (by decide) (by decide)))).other W29 (Or.inr (slot_ne (Or.inl (hw _ (List.mem_of_getElem? (i := 20) rfl))) (Or.inl (hw _ (List.mem_of_getElem? (i := 15) rfl))) (by decide) (t := .long) (t' := (.array .int)) (by decide) (by decide)))).other W32 (Or.inr (slot_ne (Or.inl (hw _ (List.mem_of_getElem? (i := 20) rfl))) (Or.inl (hw _ (List.mem_of_getElem? (i := 17) rfl))) (by decide) (t := .long) (t' := .int) (by decide) (by decide))))
  have f37 := (((F_lastTickb.other W26 (Or.inr (slot_ne (Or.inr (hw _ (List.mem_of_getElem? (i := 22) rfl))) (Or.inl (hw _ (List.mem_of_getElem? (i := 12) rfl))) (by decide) (t := .long) (t' := (.array (.array (.object "java/lang/Runnable")))) (by decide) (by decide)))).other W29 (Or.inr (slot_ne (Or.inr (hw _ (List.mem_of_getElem? (i := 22) rfl))) (Or.inl (hw _ (List.mem_of_getElem? (i := 15) rfl))) (by decide) (t := .long) (t' := (.array .int)) (by decide) (by decide)))).other W32 (Or.inr (slot_ne (Or.inr (hw _ (List.mem_of_getElem? (i := 22) rfl))) (Or.inl (hw _ (List.mem_of_getElem? (i := 17) rfl))) (by decide) (t := .long) (t' := .int) (by decide) (by decide))))
  have f38 := (((F_pendingb.other W26 (Or.inr (slot_ne (Or.inl (hw _ (List.mem_of_getElem? (i := 29) rfl))) (Or.inl (hw _ (List.mem_of_getElem? (i := 12) rfl))) (by decide) (t := .long) (t' := (.array (.array (.object "java/lang/Runnable")))) (by decide) (by decide)))).other W29 (Or.inr (slot_ne (Or.inl (hw _ (List.mem_of_getElem? (i := 29) rfl))) (Or.inl (hw _ (List.mem_of_getElem? (i := 15) rfl))) (by decide) (t := .long) (t' := (.array .int)) (by decide) (by decide)))).other W32 (Or.inr (slot_ne (Or.inl (hw _ (List.mem_of_getElem? (i := 29) rfl))) (Or.inl (hw _ (List.mem_of_getElem? (i := 17) rfl))) (by decide) (t := .long) (t' := .int) (by decide) (by decide))))
  have f39 := (((F_droppedLateb.other W26 (Or.inr (slot_ne (Or.inl (hw _ (List.mem_of_getElem? (i := 43) rfl))) (Or.inl (hw _ (List.mem_of_getElem? (i := 12) rfl))) (by decide) (t := .boolean) (t' := (.array (.array (.object "java/lang/Runnable")))) (by decide) (by decide)))).other W29 (Or.inr (slot_ne (Or.inl (hw _ (List.mem_of_getElem? (i := 43) rfl))) (Or.inl (hw _ (List.mem_of_getElem? (i := 15) rfl))) (by decide) (t := .boolean) (t' := (.array .int)) (by decide) (by decide)))).other W32 (Or.inr (slot_ne (Or.inl (hw _ (List.mem_of_getElem? (i := 43) rfl))) (Or.inl (hw _ (List.mem_of_getElem? (i := 17) rfl))) (by decide) (t := .boolean) (t' := .int) (by decide) (by decide))))
  have f40 := (((Vb.other W26 (Ne.symm ne_a1_b6)).other W29 (Ne.symm ne_a1_b6)).other W32 (Ne.symm ne_a1_b6))
  have f41 := (((Cb.other W26 (Ne.symm ne_a1_b7)).other W29 (Ne.symm ne_a1_b7)).other W32 (Ne.symm ne_a1_b7))
  obtain ⟨fs, hr, hrun, hended, hW, hsame⟩ := X32.leave (v := none) (fun _ => rfl)
  refine ⟨_, _, pre11 _ ?_, hrun, hended, _, _, rfl, ?_, ⟨_, rfl⟩, hW, hsame.mono (by decide) (by decide)⟩
  · show Steps p.tables e below (T7.setTop (mkF m 39 #[.val (.ref a1), .val (.long t1), .second, .val (.int (64 : Int32)), .val (.ref b6), .val (.ref b7), .val (.int (0 : Int32)), .unset, .unset, .unset] [])) _
    refine sta _ ?_
    refine stb _ ?_
    show Steps p.tables e below (Tb.setTop (mkF m 39 #[.val (.ref a1), .val (.long t1), .second, .val (.int (64 : Int32)), .val (.ref b6), .val (.ref b7), .val (.int (16 : Int32)), .val (.long hdb), .second, .val (.int tob)] [])) _
    refine XS.iload Xb.here hx rfl (hb hby d5_39) rfl ?_
    show Steps p.tables e below (Tb.setTop (mkF m 41 #[.val (.ref a1), .val (.long t1), .second, .val (.int (64 : Int32)), .val (.ref b6), .val (.ref b7), .val (.int (16 : Int32)), .val (.long hdb), .second, .val (.int tob)] [(.int (16 : Int32))])) _
    refine XS.aloadN Xb.here hx rfl (hb hby d5_41) rfl rfl ?_
    show Steps p.tables e below (Tb.setTop (mkF m 42 #[.val (.ref a1), .val (.long t1), .second, .val (.int (64 : Int32)), .val (.ref b6), .val (.ref b7), .val (.int (16 : Int32)), .val (.long hdb), .second, .val (.int tob)] [(.ref a1), (.int (16 : Int32))])) _
    refine st24 _ ?_
    show Steps p.tables e below (T24.setTop (mkF m 45 #[.val (.ref a1), .val (.long t1), .second, .val (.int (64 : Int32)), .val (.ref b6), .val (.ref b7), .val (.int (16 : Int32)), .val (.long hdb), .second, .val (.int tob)] [(.ref ev), (.int (16 : Int32))])) _
    refine X24.arraylength hx (by rw [e24]; exact Ae25.1) (State.isArrayOf_alike hZ.alike Ae25.2.1) (g := (mkF m 45 #[.val (.ref a1), .val (.long t1), .second, .val (.int (64 : Int32)), .val (.ref b6), .val (.ref b7), .val (.int (16 : Int32)), .val (.long hdb), .second, .val (.int tob)] [(.ref ev), (.int (16 : Int32))])) rfl rfl (hb hby d5_45) _ ?_
    rw [len_of Se25 Ne25]
    show Steps p.tables e below (T24.setTop (mkF m 46 #[.val (.ref a1), .val (.long t1), .second, .val (.int (64 : Int32)), .val (.ref b6), .val (.ref b7), .val (.int (16 : Int32)), .val (.long hdb), .second, .val (.int tob)] [(.int (16 : Int32)), (.int (16 : Int32))])) _
    refine XS.icmpYes X24.here hx rfl (pc0 := 46) (pc' := 110) rfl (hb hby d5_46) rfl (flt (by decide : ¬ ((16 : Int32) < (16 : Int32)))).2.1 (by decide) (by decide) ?_
    show Steps p.tables e below (T24.setTop (mkF m 110 #[.val (.ref a1), .val (.long t1), .second, .val (.int (64 : Int32)), .val (.ref b6), .val (.ref b7), .val (.int (16 : Int32)), .val (.long hdb), .second, .val (.int tob)] [])) _
    refine XS.aloadN X24.here hx rfl (hb hby d5_110) rfl rfl ?_
    show Steps p.tables e below (T24.setTop (mkF m 111 #[.val (.ref a1), .val (.long t1), .second, .val (.int (64 : Int32)), .val (.ref b6), .val (.ref b7), .val (.int (16 : Int32)), .val (.long hdb), .second, .val (.int tob)] [(.ref a1)])) _
    refine XS.aload X24.here hx rfl (hb hby d5_111) rfl rfl ?_
    show Steps p.tables e below (T24.setTop (mkF m 113 #[.val (.ref a1), .val (.long t1), .second, .val (.int (64 : Int32)), .val (.ref b6), .val (.ref b7), .val (.int (16 : Int32)), .val (.long hdb), .second, .val (.int tob)] [(.ref b6), (.ref a1)])) _
    refine st26 _ ?_
    show Steps p.tables e below (T26.setTop (mkF m 116 #[.val (.ref a1), .val (.long t1), .second, .val (.int (64 : Int32)), .val (.ref b6), .val (.ref b7), .val (.int (16 : Int32)), .val (.long hdb), .second, .val (.int tob)] [])) _
    refine XS.aloadN X26.here hx rfl (hb hby d5_116) rfl rfl ?_
    show Steps p.tables e below (T26.setTop (mkF m 117 #[.val (.ref a1), .val (.long t1), .second, .val (.int (64 : Int32)), .val (.ref b6), .val (.ref b7), .val (.int (16 : Int32)), .val (.long hdb), .second, .val (.int tob)] [(.ref a1)])) _
    refine XS.aload X26.here hx rfl (hb hby d5_117) rfl rfl ?_
    show Steps p.tables e below (T26.setTop (mkF m 119 #[.val (.ref a1), .val (.long t1), .second, .val (.int (64 : Int32)), .val (.ref b6), .val (.ref b7), .val (.int (16 : Int32)), .val (.long hdb), .second, .val (.int tob)] [(.ref b7), (.ref a1)])) _
    refine st29 _ ?_
    show Steps p.tables e below (T29.setTop (mkF m 122 #[.val (.ref a1), .val (.long t1), .second, .val (.int (64 : Int32)), .val (.ref b6), .val (.ref b7), .val (.int (16 : Int32)), .val (.long hdb), .second, .val (.int tob)] [])) _
    refine XS.aloadN X29.here hx rfl (hb hby d5_122) rfl rfl ?_
    show Steps p.tables e below (T29.setTop (mkF m 123 #[.val (.ref a1), .val (.long t1), .second, .val (.int (64 : Int32)), .val (.ref b6), .val (.ref b7), .val (.int (16 : Int32)), .val (.long hdb), .second, .val (.int tob)] [(.ref a1)])) _
    refine XS.iloadN X29.here hx rfl (hb hby d5_123) rfl ?_
    show Steps p.tables e below (T29.setTop (mkF m 124 #[.val (.ref a1), .val (.long t1), .second, .val (.int (64 : Int32)), .val (.ref b6), .val (.ref b7), .val (.int (16 : Int32)), .val (.long hdb), .second, .val (.int tob)] [(.int (64 : Int32)), (.ref a1)])) _
    refine XS.iconst X29.here hx rfl (hb hby d5_124) ?_
    show Steps p.tables e below (T29.setTop (mkF m 125 #[.val (.ref a1), .val (.long t1), .second, .val (.int (64 : Int32)), .val (.ref b6), .val (.ref b7), .val (.int (16 : Int32)), .val (.long hdb), .second, .val (.int tob)] [(.int (1 : Int32)), (.int (64 : Int32)), (.ref a1)])) _
    refine XS.isub X29.here hx rfl (hb hby d5_125) rfl ?_
    show Steps p.tables e below (T29.setTop (mkF m 126 #[.val (.ref a1), .val (.long t1), .second, .val (.int (64 : Int32)), .val (.ref b6), .val (.ref b7), .val (.int (16 : Int32)), .val (.long hdb), .second, .val (.int tob)] [(.int ((64 : Int32) - (1 : Int32))), (.ref a1)])) _
    refine st32 _ ?_
    show Steps p.tables e below (T32.setTop (mkF m 129 #[.val (.ref a1), .val (.long t1), .second, .val (.int (64 : Int32)), .val (.ref b6), .val (.ref b7), .val (.int (16 : Int32)), .val (.long hdb), .second, .val (.int tob)] [])) _
    exact X32.returnOut hx Bd.returns (hb hby d5_129) hr
  · show Q_wid_16_64 Z a1 t1 q1 P k h0 n0 _ T32.heap _
    rw [e32]
    exact ⟨rfl, N32, O32, ⟨b6, b7, _, g_b6, g_b7, f33, f34, f35, Fw32, f36, f37, f38, f39, f40, f41⟩⟩
theorem ef_wid_16_128 (m : MethodId) (a1 : Addr) (t1 : Int64) : entryFrame m #[(.ref a1), (.long t1)] 10 = mkF m 0 #[.val (.ref a1), .val (.long t1), .second, .unset, .unset, .unset, .unset, .unset, .unset, .unset] [] := by first | (simp [entryFrame, mkF, argsToLocals, Value.category]; done) | rfl
def Q_wid_16_128 (Z : State) (a1 : Addr) (t1 q1 P : Int64) (k : Int32) (h0 : Heap) (n0 : Nat) (v : Option Value) (h : Heap) (L : List Loc) : Prop := v = none ∧ Fr n0 L ∧ Old Z n0 h ∧ Due Z n0 h a1 q1 (128 : Int32) P k
set_option maxRecDepth 65536 in
set_option maxHeartbeats 40000000 in
theorem wid_16_128 (l : Launch) (Z : State) (a0 : Array Value) (hw : ∀ d ∈ tables_1, d.before a0 Z = true) (ws : List Jvm.Cond) (a1 : Addr) (t1 q1 P : Int64) (k : Int32) (h0 : Heap) (n0 : Nat) (O0 : Old Z n0 h0) (hD : Due Z n0 h0 a1 q1 (16 : Int32) P k) (g1 : n0 ≤ a1) (hk0 : ¬ k < 0) (hl16 : ¬ ((lcmpW (t1 - (-1)) ((16 : Int32).toInt64)) < (0 : Int32))) (hl32 : ¬ ((lcmpW (t1 - (-1)) ((32 : Int32).toInt64)) < (0 : Int32))) (hl64 : ¬ ((lcmpW (t1 - (-1)) ((64 : Int32).toInt64)) < (0 : Int32))) (hl128 : (lcmpW (t1 - (-1)) ((128 : Int32).toInt64)) < (0 : Int32)) :
    MetFree l (⟨"com/example/januswire/januswire/sim/DueEvents", "widen", "(J)V"⟩ : MethodName) (head1 (Jvm.Cond.code (⟨"com/example/januswire/januswire/sim/DueEvents", "widen", "(J)V"⟩ : MethodName) prog_187_method_7_code 10 none :: ws) ({ frames := 0, cells := 2, slots := 256, locals := 0 } : Room)) (fun a U => a = #[(.ref a1), (.long t1)] ∧ Z.Warmed39 U.vm ∧ U.heap = h0) (fun _ _ _ _ _ => True) (fun _ U o U' => ∃ v L, o = .returned v ∧ Q_wid_16_128 Z a1 t1 q1 P k h0 n0 v U'.heap L ∧ FrameEnd U o U' L ({ frames := 0, cells := 2, slots := 256, locals := 0 } : Room).cells ({ frames := 0, cells := 2, slots := 256, locals := 0 } : Room).slots) := by
  refine MetFree.of_bodySF (plainFor_of_name pn_com_example_januswire_januswire_sim_DueEvents) hisR ?_
  intro p e s m args below meth c s₁ Bd hml0 hP hK
  obtain ⟨rfl, hZ, hh⟩ := hP
  have hx := Bd.exec
  have hby := Bd.bytes
  have hml : c.maxLocals = 10 := hml0
  have hown : s.vm.findClass "com/example/januswire/januswire/sim/DueEvents" = some m.cls := findClass_of_methodNamed Bd.named
  have hnm := (name_of_methodNamed Bd.named Bd.method).1
  have X0 : Stand p l e ({ frames := 0, cells := 2, slots := 256, locals := 0 } : Room) s m #[(.ref a1), (.long t1)] below meth c s₁ [] 0 0 := Stand.of_body Bd
  have e0 : s₁.heap = h0 := by rw [← hh, Bd.state]; rfl
  have N0 := Fr.nil n0
  have pre0 : ∀ t, Steps p.tables e below (s₁.setTop (mkF m 0 #[.val (.ref a1), .val (.long t1), .second, .unset, .unset, .unset, .unset, .unset, .unset, .unset] [])) t → Steps p.tables e below (s₁.setTop (entryFrame m #[(.ref a1), (.long t1)] 10)) t := fun t k => castTop (ef_wid_16_128 m a1 t1) k
  have hD__ := hD; obtain ⟨ev, ct, dd, hDF⟩ := hD__
  have hD_ := hDF; obtain ⟨gev, gct, E_a1, F_events, F_counts, F_mask, F_current, F_lastTick, F_pending, F_droppedLate, Ev, Ct⟩ := hD_
  have ne_d_e : a1 ≠ ev := own_de E_a1 (hw _ (List.mem_of_getElem? (i := 1) rfl)) Ev
  have ne_d_c : a1 ≠ ct := own_dc E_a1 (hw _ (List.mem_of_getElem? (i := 1) rfl)) Ct
  have ne_e_c : ev ≠ ct := own_ec Ev Ct
  obtain ⟨T1, X1, e1, st1⟩ := getF X0 hx hZ hown (host := "") (Or.inl (hw _ (List.mem_of_getElem? (i := 11) rfl))) Via.refl e0 F_events (g := (mkF m 1 #[.val (.ref a1), .val (.long t1), .second, .unset, .unset, .unset, .unset, .unset, .unset, .unset] [(.ref a1)])) rfl rfl (hb hby d5_1)
  have Vc2 := Ev
  obtain ⟨ce2, Ae2, Oe2, Se2, Ne2, He2⟩ := Vc2
  obtain ⟨T3, X3, e3, st3⟩ := getF X1 hx hZ hown (host := "") (Or.inl (hw _ (List.mem_of_getElem? (i := 19) rfl))) Via.refl e1 F_current (g := (mkF m 8 #[.val (.ref a1), .val (.long t1), .second, .val (.int (16 : Int32)), .unset, .unset, .unset, .unset, .unset, .unset] [(.ref a1), (.long t1)])) rfl rfl (hb hby d5_8)
  obtain ⟨T4, X4, e4, st4⟩ := getF X3 hx hZ hown (host := "") (Or.inl (hw _ (List.mem_of_getElem? (i := 19) rfl))) Via.refl e3 F_current (g := (mkF m 8 #[.val (.ref a1), .val (.long t1), .second, .val (.int (32 : Int32)), .unset, .unset, .unset, .unset, .unset, .unset] [(.ref a1), (.long t1)])) rfl rfl (hb hby d5_8)
  obtain ⟨T5, X5, e5, st5⟩ := getF X4 hx hZ hown (host := "") (Or.inl (hw _ (List.mem_of_getElem? (i := 19) rfl))) Via.refl e4 F_current (g := (mkF m 8 #[.val (.ref a1), .val (.long t1), .second, .val (.int (64 : Int32)), .unset, .unset, .unset, .unset, .unset, .unset] [(.ref a1), (.long t1)])) rfl rfl (hb hby d5_8)
  obtain ⟨T6, X6, e6, st6⟩ := getF X5 hx hZ hown (host := "") (Or.inl (hw _ (List.mem_of_getElem? (i := 19) rfl))) Via.refl e5 F_current (g := (mkF m 8 #[.val (.ref a1), .val (.long t1), .second, .val (.int (128 : Int32)), .unset, .unset, .unset, .unset, .unset, .unset] [(.ref a1), (.long t1)])) rfl rfl (hb hby d5_8)
  obtain ⟨T7, h7, k7, X7, e7, E7, A7, Xa7, Ov7, st7⟩ := newRA X6 hx hZ (ty := .object "java/lang/Runnable") hown (by decide) (hw _ (List.mem_of_getElem? (i := 9) rfl)) (hw _ (List.mem_of_getElem? (i := 10) rfl)) e6 (g := (mkF m 26 #[.val (.ref a1), .val (.long t1), .second, .val (.int (128 : Int32)), .unset, .unset, .unset, .unset, .unset, .unset] [(.int (128 : Int32))])) rfl (hb hby d5_26) rfl (by decide) (cap := 128) (by decide) (by decide) (by decide) (by decide) (ad := "[[Ljava/lang/Runnable;") (by decide)
  obtain ⟨b7, g7⟩ : ∃ z, z = h0.size := ⟨_, rfl⟩
  rw [← g7] at A7 Xa7 st7
  have ne_a1_b7 : a1 ≠ b7 := Nat.ne_of_lt (Nat.lt_of_lt_of_le E_a1.lt (Nat.le_of_eq g7.symm))
  have ne_ev_b7 : ev ≠ b7 := Nat.ne_of_lt (Nat.lt_of_lt_of_le Ev.lt (Nat.le_of_eq g7.symm))
  have ne_ct_b7 : ct ≠ b7 := Nat.ne_of_lt (Nat.lt_of_lt_of_le Ct.lt (Nat.le_of_eq g7.symm))
  have g_b7 : n0 ≤ b7 := Nat.le_trans (own_le O0) (Nat.le_of_eq g7.symm)
  have O7 := O0.ext E7
  have V7 : Evs Z n0 h7 b7 (128 : Int32) := Evs.new A7 Ov7 (by decide)
  obtain ⟨T8, h8, k8, X8, e8, E8, A8, st8⟩ := newP X7 hx hZ (hw _ (List.mem_of_getElem? (i := 13) rfl)) e7 (g := (mkF m 32 #[.val (.ref a1), .val (.long t1), .second, .val (.int (128 : Int32)), .val (.ref b7), .unset, .unset, .unset, .unset, .unset] [(.int (128 : Int32))])) rfl (hb hby d5_32) rfl (by decide) (cap := 128) (by decide) (by decide) (by decide) (by decide)
  obtain ⟨b8, g8⟩ : ∃ z, z = h7.size := ⟨_, rfl⟩
  rw [← g8] at A8 st8
  have f9 := (E_a1.ext E7)
  have ne_a1_b8 : a1 ≠ b8 := Nat.ne_of_lt (Nat.lt_of_lt_of_le f9.lt (Nat.le_of_eq g8.symm))
  have f10 := (Ev.ext E7)
  have ne_ev_b8 : ev ≠ b8 := Nat.ne_of_lt (Nat.lt_of_lt_of_le f10.lt (Nat.le_of_eq g8.symm))
  have f11 := (Ct.ext E7)
  have ne_ct_b8 : ct ≠ b8 := Nat.ne_of_lt (Nat.lt_of_lt_of_le f11.lt (Nat.le_of_eq g8.symm))
  have ne_b7_b8 : b7 ≠ b8 := Nat.ne_of_lt (Nat.lt_of_lt_of_le V7.lt (Nat.le_of_eq g8.symm))
  have g_b8 : n0 ≤ b8 := Nat.le_trans (own_le O7) (Nat.le_of_eq g8.symm)
  have O8 := O7.ext E8
  have V8 : Cts Z h8 b8 (128 : Int32) k := Cts.new A8 (by decide) hk0
  have pre12 : ∀ t, Steps p.tables e below (T8.setTop (mkF m 39 #[.val (.ref a1), .val (.long t1), .second, .val (.int (128 : Int32)), .val (.ref b7), .val (.ref b8), .val (.int (0 : Int32)), .unset, .unset, .unset] [])) t → Steps p.tables e below (s₁.setTop (entryFrame m #[(.ref a1), (.long t1)] 10)) t := by
    intro t kt
    refine pre0 _ ?_
    show Steps p.tables e below (s₁.setTop (mkF m 0 #[.val (.ref a1), .val (.long t1), .second, .unset, .unset, .unset, .unset, .unset, .unset, .unset] [])) _
    refine XS.aloadN X0.here hx rfl (hb hby d5_0) rfl rfl ?_
    show Steps p.tables e below (s₁.setTop (mkF m 1 #[.val (.ref a1), .val (.long t1), .second, .unset, .unset, .unset, .unset, .unset, .unset, .unset] [(.ref a1)])) _
    refine st1 _ ?_
    show Steps p.tables e below (T1.setTop (mkF m 4 #[.val (.ref a1), .val (.long t1), .second, .unset, .unset, .unset, .unset, .unset, .unset, .unset] [(.ref ev)])) _
    refine X1.arraylength hx (by rw [e1]; exact Ae2.1) (State.isArrayOf_alike hZ.alike Ae2.2.1) (g := (mkF m 4 #[.val (.ref a1), .val (.long t1), .second, .unset, .unset, .unset, .unset, .unset, .unset, .unset] [(.ref ev)])) rfl rfl (hb hby d5_4) _ ?_
    rw [len_of Se2 Ne2]
    show Steps p.tables e below (T1.setTop (mkF m 5 #[.val (.ref a1), .val (.long t1), .second, .unset, .unset, .unset, .unset, .unset, .unset, .unset] [(.int (16 : Int32))])) _
    refine XS.istoreN X1.here hx rfl (hb hby d5_5) rfl (l' := #[.val (.ref a1), .val (.long t1), .second, .val (.int (16 : Int32)), .unset, .unset, .unset, .unset, .unset, .unset]) rfl ?_
    show Steps p.tables e below (T1.setTop (mkF m 6 #[.val (.ref a1), .val (.long t1), .second, .val (.int (16 : Int32)), .unset, .unset, .unset, .unset, .unset, .unset] [])) _
    refine XS.lloadN X1.here hx rfl (hb hby d5_6) rfl ?_
    show Steps p.tables e below (T1.setTop (mkF m 7 #[.val (.ref a1), .val (.long t1), .second, .val (.int (16 : Int32)), .unset, .unset, .unset, .unset, .unset, .unset] [(.long t1)])) _
    refine XS.aloadN X1.here hx rfl (hb hby d5_7) rfl rfl ?_
    show Steps p.tables e below (T1.setTop (mkF m 8 #[.val (.ref a1), .val (.long t1), .second, .val (.int (16 : Int32)), .unset, .unset, .unset, .unset, .unset, .unset] [(.ref a1), (.long t1)])) _
    refine st3 _ ?_
    show Steps p.tables e below (T3.setTop (mkF m 11 #[.val (.ref a1), .val (.long t1), .second, .val (.int (16 : Int32)), .unset, .unset, .unset, .unset, .unset, .unset] [(.long (-1)), (.long t1)])) _
    refine XS.lsub X3.here hx rfl (hb hby d5_11) rfl ?_
    show Steps p.tables e below (T3.setTop (mkF m 12 #[.val (.ref a1), .val (.long t1), .second, .val (.int (16 : Int32)), .unset, .unset, .unset, .unset, .unset, .unset] [(.long (t1 - (-1)))])) _
    refine XS.iloadN X3.here hx rfl (hb hby d5_12) rfl ?_
    show Steps p.tables e below (T3.setTop (mkF m 13 #[.val (.ref a1), .val (.long t1), .second, .val (.int (16 : Int32)), .unset, .unset, .unset, .unset, .unset, .unset] [(.int (16 : Int32)), (.long (t1 - (-1)))])) _
    refine XS.i2l X3.here hx rfl (hb hby d5_13) rfl ?_
    show Steps p.tables e below (T3.setTop (mkF m 14 #[.val (.ref a1), .val (.long t1), .second, .val (.int (16 : Int32)), .unset, .unset, .unset, .unset, .unset, .unset] [(.long ((16 : Int32).toInt64)), (.long (t1 - (-1)))])) _
    refine XS.lcmp X3.here hx rfl (hb hby d5_14) rfl ?_
    show Steps p.tables e below (T3.setTop (mkF m 15 #[.val (.ref a1), .val (.long t1), .second, .val (.int (16 : Int32)), .unset, .unset, .unset, .unset, .unset, .unset] [(.int (lcmpW (t1 - (-1)) ((16 : Int32).toInt64)))])) _
    refine XS.ifNo X3.here hx rfl (hb hby d5_15) rfl ((if0 _ _).trans (flt hl16).1) ?_
    show Steps p.tables e below (T3.setTop (mkF m 18 #[.val (.ref a1), .val (.long t1), .second, .val (.int (16 : Int32)), .unset, .unset, .unset, .unset, .unset, .unset] [])) _
    refine XS.iloadN X3.here hx rfl (hb hby d5_18) rfl ?_
    show Steps p.tables e below (T3.setTop (mkF m 19 #[.val (.ref a1), .val (.long t1), .second, .val (.int (16 : Int32)), .unset, .unset, .unset, .unset, .unset, .unset] [(.int (16 : Int32))])) _
    refine XS.iconst X3.here hx rfl (hb hby d5_19) ?_
    show Steps p.tables e below (T3.setTop (mkF m 20 #[.val (.ref a1), .val (.long t1), .second, .val (.int (16 : Int32)), .unset, .unset, .unset, .unset, .unset, .unset] [(.int (2 : Int32)), (.int (16 : Int32))])) _
    refine XS.imul X3.here hx rfl (hb hby d5_20) rfl ?_
    show Steps p.tables e below (T3.setTop (mkF m 21 #[.val (.ref a1), .val (.long t1), .second, .val (.int (16 : Int32)), .unset, .unset, .unset, .unset, .unset, .unset] [(.int (32 : Int32))])) _
    refine XS.istoreN X3.here hx rfl (hb hby d5_21) rfl (l' := #[.val (.ref a1), .val (.long t1), .second, .val (.int (32 : Int32)), .unset, .unset, .unset, .unset, .unset, .unset]) rfl ?_
    show Steps p.tables e below (T3.setTop (mkF m 22 #[.val (.ref a1), .val (.long t1), .second, .val (.int (32 : Int32)), .unset, .unset, .unset, .unset, .unset, .unset] [])) _
    refine XS.goto X3.here hx rfl (pc0 := 22) (pc' := 6) rfl (hb hby d5_22) (by decide) (by decide) ?_
    show Steps p.tables e below (T3.setTop (mkF m 6 #[.val (.ref a1), .val (.long t1), .second, .val (.int (32 : Int32)), .unset, .unset, .unset, .unset, .unset, .unset] [])) _
    refine XS.lloadN X3.here hx rfl (hb hby d5_6) rfl ?_
    show Steps p.tables e below (T3.setTop (mkF m 7 #[.val (.ref a1), .val (.long t1), .second, .val (.int (32 : Int32)), .unset, .unset, .unset, .unset, .unset, .unset] [(.long t1)])) _
    refine XS.aloadN X3.here hx rfl (hb hby d5_7) rfl rfl ?_
    show Steps p.tables e below (T3.setTop (mkF m 8 #[.val (.ref a1), .val (.long t1), .second, .val (.int (32 : Int32)), .unset, .unset, .unset, .unset, .unset, .unset] [(.ref a1), (.long t1)])) _
    refine st4 _ ?_
    show Steps p.tables e below (T4.setTop (mkF m 11 #[.val (.ref a1), .val (.long t1), .second, .val (.int (32 : Int32)), .unset, .unset, .unset, .unset, .unset, .unset] [(.long (-1)), (.long t1)])) _
    refine XS.lsub X4.here hx rfl (hb hby d5_11) rfl ?_
    show Steps p.tables e below (T4.setTop (mkF m 12 #[.val (.ref a1), .val (.long t1), .second, .val (.int (32 : Int32)), .unset, .unset, .unset, .unset, .unset, .unset] [(.long (t1 - (-1)))])) _
    refine XS.iloadN X4.here hx rfl (hb hby d5_12) rfl ?_
    show Steps p.tables e below (T4.setTop (mkF m 13 #[.val (.ref a1), .val (.long t1), .second, .val (.int (32 : Int32)), .unset, .unset, .unset, .unset, .unset, .unset] [(.int (32 : Int32)), (.long (t1 - (-1)))])) _
    refine XS.i2l X4.here hx rfl (hb hby d5_13) rfl ?_
    show Steps p.tables e below (T4.setTop (mkF m 14 #[.val (.ref a1), .val (.long t1), .second, .val (.int (32 : Int32)), .unset, .unset, .unset, .unset, .unset, .unset] [(.long ((32 : Int32).toInt64)), (.long (t1 - (-1)))])) _
    refine XS.lcmp X4.here hx rfl (hb hby d5_14) rfl ?_
    show Steps p.tables e below (T4.setTop (mkF m 15 #[.val (.ref a1), .val (.long t1), .second, .val (.int (32 : Int32)), .unset, .unset, .unset, .unset, .unset, .unset] [(.int (lcmpW (t1 - (-1)) ((32 : Int32).toInt64)))])) _
    refine XS.ifNo X4.here hx rfl (hb hby d5_15) rfl ((if0 _ _).trans (flt hl32).1) ?_
    show Steps p.tables e below (T4.setTop (mkF m 18 #[.val (.ref a1), .val (.long t1), .second, .val (.int (32 : Int32)), .unset, .unset, .unset, .unset, .unset, .unset] [])) _
    refine XS.iloadN X4.here hx rfl (hb hby d5_18) rfl ?_
    show Steps p.tables e below (T4.setTop (mkF m 19 #[.val (.ref a1), .val (.long t1), .second, .val (.int (32 : Int32)), .unset, .unset, .unset, .unset, .unset, .unset] [(.int (32 : Int32))])) _
    refine XS.iconst X4.here hx rfl (hb hby d5_19) ?_
    show Steps p.tables e below (T4.setTop (mkF m 20 #[.val (.ref a1), .val (.long t1), .second, .val (.int (32 : Int32)), .unset, .unset, .unset, .unset, .unset, .unset] [(.int (2 : Int32)), (.int (32 : Int32))])) _
    refine XS.imul X4.here hx rfl (hb hby d5_20) rfl ?_
    show Steps p.tables e below (T4.setTop (mkF m 21 #[.val (.ref a1), .val (.long t1), .second, .val (.int (32 : Int32)), .unset, .unset, .unset, .unset, .unset, .unset] [(.int (64 : Int32))])) _
    refine XS.istoreN X4.here hx rfl (hb hby d5_21) rfl (l' := #[.val (.ref a1), .val (.long t1), .second, .val (.int (64 : Int32)), .unset, .unset, .unset, .unset, .unset, .unset]) rfl ?_
    show Steps p.tables e below (T4.setTop (mkF m 22 #[.val (.ref a1), .val (.long t1), .second, .val (.int (64 : Int32)), .unset, .unset, .unset, .unset, .unset, .unset] [])) _
    refine XS.goto X4.here hx rfl (pc0 := 22) (pc' := 6) rfl (hb hby d5_22) (by decide) (by decide) ?_
    show Steps p.tables e below (T4.setTop (mkF m 6 #[.val (.ref a1), .val (.long t1), .second, .val (.int (64 : Int32)), .unset, .unset, .unset, .unset, .unset, .unset] [])) _
    refine XS.lloadN X4.here hx rfl (hb hby d5_6) rfl ?_
    show Steps p.tables e below (T4.setTop (mkF m 7 #[.val (.ref a1), .val (.long t1), .second, .val (.int (64 : Int32)), .unset, .unset, .unset, .unset, .unset, .unset] [(.long t1)])) _
    refine XS.aloadN X4.here hx rfl (hb hby d5_7) rfl rfl ?_
    show Steps p.tables e below (T4.setTop (mkF m 8 #[.val (.ref a1), .val (.long t1), .second, .val (.int (64 : Int32)), .unset, .unset, .unset, .unset, .unset, .unset] [(.ref a1), (.long t1)])) _
    refine st5 _ ?_
    show Steps p.tables e below (T5.setTop (mkF m 11 #[.val (.ref a1), .val (.long t1), .second, .val (.int (64 : Int32)), .unset, .unset, .unset, .unset, .unset, .unset] [(.long (-1)), (.long t1)])) _
    refine XS.lsub X5.here hx rfl (hb hby d5_11) rfl ?_
    show Steps p.tables e below (T5.setTop (mkF m 12 #[.val (.ref a1), .val (.long t1), .second, .val (.int (64 : Int32)), .unset, .unset, .unset, .unset, .unset, .unset] [(.long (t1 - (-1)))])) _
    refine XS.iloadN X5.here hx rfl (hb hby d5_12) rfl ?_
    show Steps p.tables e below (T5.setTop (mkF m 13 #[.val (.ref a1), .val (.long t1), .second, .val (.int (64 : Int32)), .unset, .unset, .unset, .unset, .unset, .unset] [(.int (64 : Int32)), (.long (t1 - (-1)))])) _
    refine XS.i2l X5.here hx rfl (hb hby d5_13) rfl ?_
    show Steps p.tables e below (T5.setTop (mkF m 14 #[.val (.ref a1), .val (.long t1), .second, .val (.int (64 : Int32)), .unset, .unset, .unset, .unset, .unset, .unset] [(.long ((64 : Int32).toInt64)), (.long (t1 - (-1)))])) _
    refine XS.lcmp X5.here hx rfl (hb hby d5_14) rfl ?_
    show Steps p.tables e below (T5.setTop (mkF m 15 #[.val (.ref a1), .val (.long t1), .second, .val (.int (64 : Int32)), .unset, .unset, .unset, .unset, .unset, .unset] [(.int (lcmpW (t1 - (-1)) ((64 : Int32).toInt64)))])) _
    refine XS.ifNo X5.here hx rfl (hb hby d5_15) rfl ((if0 _ _).trans (flt hl64).1) ?_
    show Steps p.tables e below (T5.setTop (mkF m 18 #[.val (.ref a1), .val (.long t1), .second, .val (.int (64 : Int32)), .unset, .unset, .unset, .unset, .unset, .unset] [])) _
    refine XS.iloadN X5.here hx rfl (hb hby d5_18) rfl ?_
    show Steps p.tables e below (T5.setTop (mkF m 19 #[.val (.ref a1), .val (.long t1), .second, .val (.int (64 : Int32)), .unset, .unset, .unset, .unset, .unset, .unset] [(.int (64 : Int32))])) _
    refine XS.iconst X5.here hx rfl (hb hby d5_19) ?_
    show Steps p.tables e below (T5.setTop (mkF m 20 #[.val (.ref a1), .val (.long t1), .second, .val (.int (64 : Int32)), .unset, .unset, .unset, .unset, .unset, .unset] [(.int (2 : Int32)), (.int (64 : Int32))])) _
    refine XS.imul X5.here hx rfl (hb hby d5_20) rfl ?_
    show Steps p.tables e below (T5.setTop (mkF m 21 #[.val (.ref a1), .val (.long t1), .second, .val (.int (64 : Int32)), .unset, .unset, .unset, .unset, .unset, .unset] [(.int (128 : Int32))])) _
    refine XS.istoreN X5.here hx rfl (hb hby d5_21) rfl (l' := #[.val (.ref a1), .val (.long t1), .second, .val (.int (128 : Int32)), .unset, .unset, .unset, .unset, .unset, .unset]) rfl ?_
    show Steps p.tables e below (T5.setTop (mkF m 22 #[.val (.ref a1), .val (.long t1), .second, .val (.int (128 : Int32)), .unset, .unset, .unset, .unset, .unset, .unset] [])) _
    refine XS.goto X5.here hx rfl (pc0 := 22) (pc' := 6) rfl (hb hby d5_22) (by decide) (by decide) ?_
    show Steps p.tables e below (T5.setTop (mkF m 6 #[.val (.ref a1), .val (.long t1), .second, .val (.int (128 : Int32)), .unset, .unset, .unset, .unset, .unset, .unset] [])) _
    refine XS.lloadN X5.here hx rfl (hb hby d5_6) rfl ?_
    show Steps p.tables e below (T5.setTop (mkF m 7 #[.val (.ref a1), .val (.long t1), .second, .val (.int (128 : Int32)), .unset, .unset, .unset, .unset, .unset, .unset] [(.long t1)])) _
    refine XS.aloadN X5.here hx rfl (hb hby d5_7) rfl rfl ?_
    show Steps p.tables e below (T5.setTop (mkF m 8 #[.val (.ref a1), .val (.long t1), .second, .val (.int (128 : Int32)), .unset, .unset, .unset, .unset, .unset, .unset] [(.ref a1), (.long t1)])) _
    refine st6 _ ?_
    show Steps p.tables e below (T6.setTop (mkF m 11 #[.val (.ref a1), .val (.long t1), .second, .val (.int (128 : Int32)), .unset, .unset, .unset, .unset, .unset, .unset] [(.long (-1)), (.long t1)])) _
    refine XS.lsub X6.here hx rfl (hb hby d5_11) rfl ?_
    show Steps p.tables e below (T6.setTop (mkF m 12 #[.val (.ref a1), .val (.long t1), .second, .val (.int (128 : Int32)), .unset, .unset, .unset, .unset, .unset, .unset] [(.long (t1 - (-1)))])) _
    refine XS.iloadN X6.here hx rfl (hb hby d5_12) rfl ?_
    show Steps p.tables e below (T6.setTop (mkF m 13 #[.val (.ref a1), .val (.long t1), .second, .val (.int (128 : Int32)), .unset, .unset, .unset, .unset, .unset, .unset] [(.int (128 : Int32)), (.long (t1 - (-1)))])) _
    refine XS.i2l X6.here hx rfl (hb hby d5_13) rfl ?_
    show Steps p.tables e below (T6.setTop (mkF m 14 #[.val (.ref a1), .val (.long t1), .second, .val (.int (128 : Int32)), .unset, .unset, .unset, .unset, .unset, .unset] [(.long ((128 : Int32).toInt64)), (.long (t1 - (-1)))])) _
    refine XS.lcmp X6.here hx rfl (hb hby d5_14) rfl ?_
    show Steps p.tables e below (T6.setTop (mkF m 15 #[.val (.ref a1), .val (.long t1), .second, .val (.int (128 : Int32)), .unset, .unset, .unset, .unset, .unset, .unset] [(.int (lcmpW (t1 - (-1)) ((128 : Int32).toInt64)))])) _
    refine XS.ifYes X6.here hx rfl (pc0 := 15) (pc' := 25) rfl (hb hby d5_15) rfl ((if0 _ _).trans (tlt hl128).1) (by decide) (by decide) ?_
    show Steps p.tables e below (T6.setTop (mkF m 25 #[.val (.ref a1), .val (.long t1), .second, .val (.int (128 : Int32)), .unset, .unset, .unset, .unset, .unset, .unset] [])) _
    refine XS.iloadN X6.here hx rfl (hb hby d5_25) rfl ?_
    show Steps p.tables e below (T6.setTop (mkF m 26 #[.val (.ref a1), .val (.long t1), .second, .val (.int (128 : Int32)), .unset, .unset, .unset, .unset, .unset, .unset] [(.int (128 : Int32))])) _
    refine st7 _ ?_
    show Steps p.tables e below (T7.setTop (mkF m 29 #[.val (.ref a1), .val (.long t1), .second, .val (.int (128 : Int32)), .unset, .unset, .unset, .unset, .unset, .unset] [(.ref b7)])) _
    refine XS.astore X7.here hx rfl (hb hby d5_29) rfl rfl (l' := #[.val (.ref a1), .val (.long t1), .second, .val (.int (128 : Int32)), .val (.ref b7), .unset, .unset, .unset, .unset, .unset]) rfl ?_
    show Steps p.tables e below (T7.setTop (mkF m 31 #[.val (.ref a1), .val (.long t1), .second, .val (.int (128 : Int32)), .val (.ref b7), .unset, .unset, .unset, .unset, .unset] [])) _
    refine XS.iloadN X7.here hx rfl (hb hby d5_31) rfl ?_
    show Steps p.tables e below (T7.setTop (mkF m 32 #[.val (.ref a1), .val (.long t1), .second, .val (.int (128 : Int32)), .val (.ref b7), .unset, .unset, .unset, .unset, .unset] [(.int (128 : Int32))])) _
    refine st8 _ ?_
    show Steps p.tables e below (T8.setTop (mkF m 34 #[.val (.ref a1), .val (.long t1), .second, .val (.int (128 : Int32)), .val (.ref b7), .unset, .unset, .unset, .unset, .unset] [(.ref b8)])) _
    refine XS.astore X8.here hx rfl (hb hby d5_34) rfl rfl (l' := #[.val (.ref a1), .val (.long t1), .second, .val (.int (128 : Int32)), .val (.ref b7), .val (.ref b8), .unset, .unset, .unset, .unset]) rfl ?_
    show Steps p.tables e below (T8.setTop (mkF m 36 #[.val (.ref a1), .val (.long t1), .second, .val (.int (128 : Int32)), .val (.ref b7), .val (.ref b8), .unset, .unset, .unset, .unset] [])) _
    refine XS.iconst X8.here hx rfl (hb hby d5_36) ?_
    show Steps p.tables e below (T8.setTop (mkF m 37 #[.val (.ref a1), .val (.long t1), .second, .val (.int (128 : Int32)), .val (.ref b7), .val (.ref b8), .unset, .unset, .unset, .unset] [(.int (0 : Int32))])) _
    refine XS.istore X8.here hx rfl (hb hby d5_37) rfl (l' := #[.val (.ref a1), .val (.long t1), .second, .val (.int (128 : Int32)), .val (.ref b7), .val (.ref b8), .val (.int (0 : Int32)), .unset, .unset, .unset]) rfl ?_
    exact kt
  have f14 := (f9.ext E8)
  have f15 := ((F_events.ext E7).ext E8)
  have f16 := ((F_counts.ext E7).ext E8)
  have f17 := ((F_mask.ext E7).ext E8)
  have f18 := ((F_current.ext E7).ext E8)
  have f19 := ((F_lastTick.ext E7).ext E8)
  have f20 := ((F_pending.ext E7).ext E8)
  have f21 := ((F_droppedLate.ext E7).ext E8)
  have f22 := (f10.ext E8)
  have f23 := (f11.ext E8)
  have hDF13 : DueF Z n0 h8 a1 q1 (16 : Int32) P k ev ct dd := ⟨gev, gct, f14, f15, f16, f17, f18, f19, f20, f21, f22, f23⟩
  have f24 := (V7.ext E8)
  obtain ⟨Ta, ha, locsa, hda, toa, Xa, ea, Oa, Na, Da, Va, Ca, sta⟩ := turnA X8 hx hZ hw hby hml hown e8 O8 N0 (t1 := t1) hDF13 f24 V8 g1 g_b7 g_b8 ne_ev_b7 ne_ct_b8 (own_to128) (i := (0 : Int32)) (by decide) (by decide)
  obtain ⟨Tb, hb_, locsb, hdb, tob, Xb, eb, Ob, Nb, Db, Vb, Cb, stb⟩ := loopB hx hZ hw hby hml hown g1 g_b7 g_b8 ne_ev_b7 ne_ct_b8 own_to128 15 (t1 := t1) (i := ((0 : Int32) + (1 : Int32))) (to := toa) (hd := hda) Xa ea Oa Na Da Va Ca (by decide) (by decide) (by decide)
  have hD_ := Db; obtain ⟨gevb, gctb, E_a1b, F_eventsb, F_countsb, F_maskb, F_currentb, F_lastTickb, F_pendingb, F_droppedLateb, Evb, Ctb⟩ := hD_
  obtain ⟨T25, X25, e25, st25⟩ := getF Xb hx hZ hown (host := "") (Or.inl (hw _ (List.mem_of_getElem? (i := 11) rfl))) Via.refl eb F_eventsb (g := (mkF m 42 #[.val (.ref a1), .val (.long t1), .second, .val (.int (128 : Int32)), .val (.ref b7), .val (.ref b8), .val (.int (16 : Int32)), .val (.long hdb), .second, .val (.int tob)] [(.ref a1), (.int (16 : Int32))])) rfl rfl (hb hby d5_42)
  have Vc26 := Evb
  obtain ⟨ce26, Ae26, Oe26, Se26, Ne26, He26⟩ := Vc26
  obtain ⟨T27, h27, X27, e27, W27, st27⟩ := putF X25 hx hZ hown (host := "") (Or.inl (hw _ (List.mem_of_getElem? (i := 11) rfl))) Via.refl e25 F_eventsb E_a1b (Or.inl (hw _ (List.mem_of_getElem? (i := 12) rfl))) (hw _ (List.mem_of_getElem? (i := 1) rfl)) (ty := (.array (.array (.object "java/lang/Runnable")))) (by decide) rfl rfl (g := (mkF m 113 #[.val (.ref a1), .val (.long t1), .second, .val (.int (128 : Int32)), .val (.ref b7), .val (.ref b8), .val (.int (16 : Int32)), .val (.long hdb), .second, .val (.int tob)] [(.ref b7), (.ref a1)])) rfl rfl (hb hby d5_113)
  have Fw27 := F_eventsb.same W27
  have O27 := Ob.wr W27 g1
  have N27 := Fr.snoc X27 Nb g1
  have f28 := (E_a1b.wr W27)
  have f29 := (F_countsb.other W27 (Or.inr (slot_ne (Or.inl (hw _ (List.mem_of_getElem? (i := 15) rfl))) (Or.inl (hw _ (List.mem_of_getElem? (i := 12) rfl))) (by decide) (t := (.array .int)) (t' := (.array (.array (.object "java/lang/Runnable")))) (by decide) (by decide))))
  obtain ⟨T30, h30, X30, e30, W30, st30⟩ := putF X27 hx hZ hown (host := "") (Or.inl (hw _ (List.mem_of_getElem? (i := 14) rfl))) Via.refl e27 f29 f28 (Or.inl (hw _ (List.mem_of_getElem? (i := 15) rfl))) (hw _ (List.mem_of_getElem? (i := 1) rfl)) (ty := (.array .int)) (by decide) rfl rfl (g := (mkF m 119 #[.val (.ref a1), .val (.long t1), .second, .val (.int (128 : Int32)), .val (.ref b7), .val (.ref b8), .val (.int (16 : Int32)), .val (.long hdb), .second, .val (.int tob)] [(.ref b8), (.ref a1)])) rfl rfl (hb hby d5_119)
  have Fw30 := f29.same W30
  have O30 := O27.wr W30 g1
  have N30 := Fr.snoc X30 N27 g1
  have f31 := (f28.wr W30)
  have f32 := ((F_maskb.other W27 (Or.inr (slot_ne (Or.inl (hw _ (List.mem_of_getElem? (i := 17) rfl))) (Or.inl (hw _ (List.mem_of_getElem? (i := 12) rfl))) (by decide) (t := .int) (t' := (.array (.array (.object "java/lang/Runnable")))) (by decide) (by decide)))).other W30 (Or.inr (slot_ne (Or.inl (hw _ (List.mem_of_getElem? (i := 17) rfl))) (Or.inl (hw _ (List.mem_of_getElem? (i := 15) rfl))) (by decide) (t := .int) (t' := (.array .int)) (by decide) (by decide))))
  obtain ⟨T33, h33, X33, e33, W33, st33⟩ := putF X30 hx hZ hown (host := "") (Or.inl (hw _ (List.mem_of_getElem? (i := 16) rfl))) Via.refl e30 f32 f31 (Or.inl (hw _ (List.mem_of_getElem? (i := 17) rfl))) (hw _ (List.mem_of_getElem? (i := 1) rfl)) (ty := .int) (by decide) rfl rfl (g := (mkF m 126 #[.val (.ref a1), .val (.long t1), .second, .val (.int (128 : Int32)), .val (.ref b7), .val (.ref b8), .val (.int (16 : Int32)), .val (.long hdb), .second, .val (.int tob)] [(.int ((128 : Int32) - (1 : Int32))), (.ref a1)])) rfl rfl (hb hby d5_126)
  have Fw33 := f32.same W33
  have O33 := O30.wr W33 g1
  have N33 := Fr.snoc X33 N30 g1
  have f34 := (f31.wr W33)
  have f35 := ((Fw27.other W30 (Or.inr (slot_ne (Or.inl (hw _ (List.mem_of_getElem? (i := 12) rfl))) (Or.inl (hw _ (List.mem_of_getElem? (i := 15) rfl))) (by decide) (t := (.array (.array (.object "java/lang/Runnable")))) (t' := (.array .int)) (by decide) (by decide)))).other W33 (Or.inr (slot_ne (Or.inl (hw _ (List.mem_of_getElem? (i := 12) rfl))) (Or.inl (hw _ (List.mem_of_getElem? (i := 17) rfl))) (by decide) (t := (.array (.array (.object "java/lang/Runnable")))) (t' := .int) (by decide) (by decide))))
  have f36 := (Fw30.other W33 (Or.inr (slot_ne (Or.inl (hw _ (List.mem_of_getElem? (i := 15) rfl))) (Or.inl (hw _ (List.mem_of_getElem? (i := 17) rfl))) (by decide) (t := (.array .int)) (t' := .int) (by decide) (by decide))))
  have f37 := (((F_currentb.other W27 (Or.inr (slot_ne (Or.inl (hw _ (List.mem_of_getElem? (i := 20) rfl))) (Or.inl (hw _ (List.mem_of_getElem? (i := 12) rfl))) (by decide) (t := .long) (t' := (.array (.array (.object "java/lang/Runnable")))) (by decide) (by decide)))).other W30 (Or.inr (slot_ne (Or.inl (hw _ (List.mem_of_getElem? (i := 20) rfl))) (Or.inl (hw _ (List.mem_of_getElem? (i := 15) rfl))) (by decide) (t := .long) (t' := (.array .int)) (by decide) (by decide)))).other W33 (Or.inr (slot_ne (Or.inl (hw _ (List.mem_of_getElem? (i := 20) rfl))) (Or.inl (hw _ (List.mem_of_getElem? (i := 17) rfl))) (by decide) (t := .long) (t' := .int) (by decide) (by decide))))
  have f38 := (((F_lastTickb.other W27 (Or.inr (slot_ne (Or.inr (hw _ (List.mem_of_getElem? (i := 22) rfl))) (Or.inl (hw _ (List.mem_of_getElem? (i := 12) rfl))) (by decide) (t := .long) (t' := (.array (.array (.object "java/lang/Runnable")))) (by decide) (by decide)))).other W30 (Or.inr (slot_ne (Or.inr (hw _ (List.mem_of_getElem? (i := 22) rfl))) (Or.inl (hw _ (List.mem_of_getElem? (i := 15) rfl))) (by decide) (t := .long) (t' := (.array .int)) (by decide) (by decide)))).other W33 (Or.inr (slot_ne (Or.inr (hw _ (List.mem_of_getElem? (i := 22) rfl))) (Or.inl (hw _ (List.mem_of_getElem? (i := 17) rfl))) (by decide) (t := .long) (t' := .int) (by decide) (by decide))))
  have f39 := (((F_pendingb.other W27 (Or.inr (slot_ne (Or.inl (hw _ (List.mem_of_getElem? (i := 29) rfl))) (Or.inl (hw _ (List.mem_of_getElem? (i := 12) rfl))) (by decide) (t := .long) (t' := (.array (.array (.object "java/lang/Runnable")))) (by decide) (by decide)))).other W30 (Or.inr (slot_ne (Or.inl (hw _ (List.mem_of_getElem? (i := 29) rfl))) (Or.inl (hw _ (List.mem_of_getElem? (i := 15) rfl))) (by decide) (t := .long) (t' := (.array .int)) (by decide) (by decide)))).other W33 (Or.inr (slot_ne (Or.inl (hw _ (List.mem_of_getElem? (i := 29) rfl))) (Or.inl (hw _ (List.mem_of_getElem? (i := 17) rfl))) (by decide) (t := .long) (t' := .int) (by decide) (by decide))))
  have f40 := (((F_droppedLateb.other W27 (Or.inr (slot_ne (Or.inl (hw _ (List.mem_of_getElem? (i := 43) rfl))) (Or.inl (hw _ (List.mem_of_getElem? (i := 12) rfl))) (by decide) (t := .boolean) (t' := (.array (.array (.object "java/lang/Runnable")))) (by decide) (by decide)))).other W30 (Or.inr (slot_ne (Or.inl (hw _ (List.mem_of_getElem? (i := 43) rfl))) (Or.inl (hw _ (List.mem_of_getElem? (i := 15) rfl))) (by decide) (t := .boolean) (t' := (.array .int)) (by decide) (by decide)))).other W33 (Or.inr (slot_ne (Or.inl (hw _ (List.mem_of_getElem? (i := 43) rfl))) (Or.inl (hw _ (List.mem_of_getElem? (i := 17) rfl))) (by decide) (t := .boolean) (t' := .int) (by decide) (by decide))))
  have f41 := (((Vb.other W27 (Ne.symm ne_a1_b7)).other W30 (Ne.symm ne_a1_b7)).other W33 (Ne.symm ne_a1_b7))
  have f42 := (((Cb.other W27 (Ne.symm ne_a1_b8)).other W30 (Ne.symm ne_a1_b8)).other W33 (Ne.symm ne_a1_b8))
  obtain ⟨fs, hr, hrun, hended, hW, hsame⟩ := X33.leave (v := none) (fun _ => rfl)
  refine ⟨_, _, pre12 _ ?_, hrun, hended, _, _, rfl, ?_, ⟨_, rfl⟩, hW, hsame.mono (by decide) (by decide)⟩
  · show Steps p.tables e below (T8.setTop (mkF m 39 #[.val (.ref a1), .val (.long t1), .second, .val (.int (128 : Int32)), .val (.ref b7), .val (.ref b8), .val (.int (0 : Int32)), .unset, .unset, .unset] [])) _
    refine sta _ ?_
    refine stb _ ?_
    show Steps p.tables e below (Tb.setTop (mkF m 39 #[.val (.ref a1), .val (.long t1), .second, .val (.int (128 : Int32)), .val (.ref b7), .val (.ref b8), .val (.int (16 : Int32)), .val (.long hdb), .second, .val (.int tob)] [])) _
    refine XS.iload Xb.here hx rfl (hb hby d5_39) rfl ?_
    show Steps p.tables e below (Tb.setTop (mkF m 41 #[.val (.ref a1), .val (.long t1), .second, .val (.int (128 : Int32)), .val (.ref b7), .val (.ref b8), .val (.int (16 : Int32)), .val (.long hdb), .second, .val (.int tob)] [(.int (16 : Int32))])) _
    refine XS.aloadN Xb.here hx rfl (hb hby d5_41) rfl rfl ?_
    show Steps p.tables e below (Tb.setTop (mkF m 42 #[.val (.ref a1), .val (.long t1), .second, .val (.int (128 : Int32)), .val (.ref b7), .val (.ref b8), .val (.int (16 : Int32)), .val (.long hdb), .second, .val (.int tob)] [(.ref a1), (.int (16 : Int32))])) _
    refine st25 _ ?_
    show Steps p.tables e below (T25.setTop (mkF m 45 #[.val (.ref a1), .val (.long t1), .second, .val (.int (128 : Int32)), .val (.ref b7), .val (.ref b8), .val (.int (16 : Int32)), .val (.long hdb), .second, .val (.int tob)] [(.ref ev), (.int (16 : Int32))])) _
    refine X25.arraylength hx (by rw [e25]; exact Ae26.1) (State.isArrayOf_alike hZ.alike Ae26.2.1) (g := (mkF m 45 #[.val (.ref a1), .val (.long t1), .second, .val (.int (128 : Int32)), .val (.ref b7), .val (.ref b8), .val (.int (16 : Int32)), .val (.long hdb), .second, .val (.int tob)] [(.ref ev), (.int (16 : Int32))])) rfl rfl (hb hby d5_45) _ ?_
    rw [len_of Se26 Ne26]
    show Steps p.tables e below (T25.setTop (mkF m 46 #[.val (.ref a1), .val (.long t1), .second, .val (.int (128 : Int32)), .val (.ref b7), .val (.ref b8), .val (.int (16 : Int32)), .val (.long hdb), .second, .val (.int tob)] [(.int (16 : Int32)), (.int (16 : Int32))])) _
    refine XS.icmpYes X25.here hx rfl (pc0 := 46) (pc' := 110) rfl (hb hby d5_46) rfl (flt (by decide : ¬ ((16 : Int32) < (16 : Int32)))).2.1 (by decide) (by decide) ?_
    show Steps p.tables e below (T25.setTop (mkF m 110 #[.val (.ref a1), .val (.long t1), .second, .val (.int (128 : Int32)), .val (.ref b7), .val (.ref b8), .val (.int (16 : Int32)), .val (.long hdb), .second, .val (.int tob)] [])) _
    refine XS.aloadN X25.here hx rfl (hb hby d5_110) rfl rfl ?_
    show Steps p.tables e below (T25.setTop (mkF m 111 #[.val (.ref a1), .val (.long t1), .second, .val (.int (128 : Int32)), .val (.ref b7), .val (.ref b8), .val (.int (16 : Int32)), .val (.long hdb), .second, .val (.int tob)] [(.ref a1)])) _
    refine XS.aload X25.here hx rfl (hb hby d5_111) rfl rfl ?_
    show Steps p.tables e below (T25.setTop (mkF m 113 #[.val (.ref a1), .val (.long t1), .second, .val (.int (128 : Int32)), .val (.ref b7), .val (.ref b8), .val (.int (16 : Int32)), .val (.long hdb), .second, .val (.int tob)] [(.ref b7), (.ref a1)])) _
    refine st27 _ ?_
    show Steps p.tables e below (T27.setTop (mkF m 116 #[.val (.ref a1), .val (.long t1), .second, .val (.int (128 : Int32)), .val (.ref b7), .val (.ref b8), .val (.int (16 : Int32)), .val (.long hdb), .second, .val (.int tob)] [])) _
    refine XS.aloadN X27.here hx rfl (hb hby d5_116) rfl rfl ?_
    show Steps p.tables e below (T27.setTop (mkF m 117 #[.val (.ref a1), .val (.long t1), .second, .val (.int (128 : Int32)), .val (.ref b7), .val (.ref b8), .val (.int (16 : Int32)), .val (.long hdb), .second, .val (.int tob)] [(.ref a1)])) _
    refine XS.aload X27.here hx rfl (hb hby d5_117) rfl rfl ?_
    show Steps p.tables e below (T27.setTop (mkF m 119 #[.val (.ref a1), .val (.long t1), .second, .val (.int (128 : Int32)), .val (.ref b7), .val (.ref b8), .val (.int (16 : Int32)), .val (.long hdb), .second, .val (.int tob)] [(.ref b8), (.ref a1)])) _
    refine st30 _ ?_
    show Steps p.tables e below (T30.setTop (mkF m 122 #[.val (.ref a1), .val (.long t1), .second, .val (.int (128 : Int32)), .val (.ref b7), .val (.ref b8), .val (.int (16 : Int32)), .val (.long hdb), .second, .val (.int tob)] [])) _
    refine XS.aloadN X30.here hx rfl (hb hby d5_122) rfl rfl ?_
    show Steps p.tables e below (T30.setTop (mkF m 123 #[.val (.ref a1), .val (.long t1), .second, .val (.int (128 : Int32)), .val (.ref b7), .val (.ref b8), .val (.int (16 : Int32)), .val (.long hdb), .second, .val (.int tob)] [(.ref a1)])) _
    refine XS.iloadN X30.here hx rfl (hb hby d5_123) rfl ?_
    show Steps p.tables e below (T30.setTop (mkF m 124 #[.val (.ref a1), .val (.long t1), .second, .val (.int (128 : Int32)), .val (.ref b7), .val (.ref b8), .val (.int (16 : Int32)), .val (.long hdb), .second, .val (.int tob)] [(.int (128 : Int32)), (.ref a1)])) _
    refine XS.iconst X30.here hx rfl (hb hby d5_124) ?_
    show Steps p.tables e below (T30.setTop (mkF m 125 #[.val (.ref a1), .val (.long t1), .second, .val (.int (128 : Int32)), .val (.ref b7), .val (.ref b8), .val (.int (16 : Int32)), .val (.long hdb), .second, .val (.int tob)] [(.int (1 : Int32)), (.int (128 : Int32)), (.ref a1)])) _
    refine XS.isub X30.here hx rfl (hb hby d5_125) rfl ?_
    show Steps p.tables e below (T30.setTop (mkF m 126 #[.val (.ref a1), .val (.long t1), .second, .val (.int (128 : Int32)), .val (.ref b7), .val (.ref b8), .val (.int (16 : Int32)), .val (.long hdb), .second, .val (.int tob)] [(.int ((128 : Int32) - (1 : Int32))), (.ref a1)])) _
    refine st33 _ ?_
    show Steps p.tables e below (T33.setTop (mkF m 129 #[.val (.ref a1), .val (.long t1), .second, .val (.int (128 : Int32)), .val (.ref b7), .val (.ref b8), .val (.int (16 : Int32)), .val (.long hdb), .second, .val (.int tob)] [])) _
    exact X33.returnOut hx Bd.returns (hb hby d5_129) hr
  · show Q_wid_16_128 Z a1 t1 q1 P k h0 n0 _ T33.heap _
    rw [e33]
    exact ⟨rfl, N33, O33, ⟨b7, b8, _, g_b7, g_b8, f34, f35, f36, Fw33, f37, f38, f39, f40, f41, f42⟩⟩
theorem ef_wid_32_64 (m : MethodId) (a1 : Addr) (t1 : Int64) : entryFrame m #[(.ref a1), (.long t1)] 10 = mkF m 0 #[.val (.ref a1), .val (.long t1), .second, .unset, .unset, .unset, .unset, .unset, .unset, .unset] [] := by first | (simp [entryFrame, mkF, argsToLocals, Value.category]; done) | rfl
def Q_wid_32_64 (Z : State) (a1 : Addr) (t1 q1 P : Int64) (k : Int32) (h0 : Heap) (n0 : Nat) (v : Option Value) (h : Heap) (L : List Loc) : Prop := v = none ∧ Fr n0 L ∧ Old Z n0 h ∧ Due Z n0 h a1 q1 (64 : Int32) P k
set_option maxRecDepth 65536 in
set_option maxHeartbeats 40000000 in
theorem wid_32_64 (l : Launch) (Z : State) (a0 : Array Value) (hw : ∀ d ∈ tables_1, d.before a0 Z = true) (ws : List Jvm.Cond) (a1 : Addr) (t1 q1 P : Int64) (k : Int32) (h0 : Heap) (n0 : Nat) (O0 : Old Z n0 h0) (hD : Due Z n0 h0 a1 q1 (32 : Int32) P k) (g1 : n0 ≤ a1) (hk0 : ¬ k < 0) (hl32 : ¬ ((lcmpW (t1 - (-1)) ((32 : Int32).toInt64)) < (0 : Int32))) (hl64 : (lcmpW (t1 - (-1)) ((64 : Int32).toInt64)) < (0 : Int32)) :
    MetFree l (⟨"com/example/januswire/januswire/sim/DueEvents", "widen", "(J)V"⟩ : MethodName) (head1 (Jvm.Cond.code (⟨"com/example/januswire/januswire/sim/DueEvents", "widen", "(J)V"⟩ : MethodName) prog_187_method_7_code 10 none :: ws) ({ frames := 0, cells := 2, slots := 128, locals := 0 } : Room)) (fun a U => a = #[(.ref a1), (.long t1)] ∧ Z.Warmed39 U.vm ∧ U.heap = h0) (fun _ _ _ _ _ => True) (fun _ U o U' => ∃ v L, o = .returned v ∧ Q_wid_32_64 Z a1 t1 q1 P k h0 n0 v U'.heap L ∧ FrameEnd U o U' L ({ frames := 0, cells := 2, slots := 128, locals := 0 } : Room).cells ({ frames := 0, cells := 2, slots := 128, locals := 0 } : Room).slots) := by
  refine MetFree.of_bodySF (plainFor_of_name pn_com_example_januswire_januswire_sim_DueEvents) hisR ?_
  intro p e s m args below meth c s₁ Bd hml0 hP hK
  obtain ⟨rfl, hZ, hh⟩ := hP
  have hx := Bd.exec
  have hby := Bd.bytes
  have hml : c.maxLocals = 10 := hml0
  have hown : s.vm.findClass "com/example/januswire/januswire/sim/DueEvents" = some m.cls := findClass_of_methodNamed Bd.named
  have hnm := (name_of_methodNamed Bd.named Bd.method).1
  have X0 : Stand p l e ({ frames := 0, cells := 2, slots := 128, locals := 0 } : Room) s m #[(.ref a1), (.long t1)] below meth c s₁ [] 0 0 := Stand.of_body Bd
  have e0 : s₁.heap = h0 := by rw [← hh, Bd.state]; rfl
  have N0 := Fr.nil n0
  have pre0 : ∀ t, Steps p.tables e below (s₁.setTop (mkF m 0 #[.val (.ref a1), .val (.long t1), .second, .unset, .unset, .unset, .unset, .unset, .unset, .unset] [])) t → Steps p.tables e below (s₁.setTop (entryFrame m #[(.ref a1), (.long t1)] 10)) t := fun t k => castTop (ef_wid_32_64 m a1 t1) k
  have hD__ := hD; obtain ⟨ev, ct, dd, hDF⟩ := hD__
  have hD_ := hDF; obtain ⟨gev, gct, E_a1, F_events, F_counts, F_mask, F_current, F_lastTick, F_pending, F_droppedLate, Ev, Ct⟩ := hD_
  have ne_d_e : a1 ≠ ev := own_de E_a1 (hw _ (List.mem_of_getElem? (i := 1) rfl)) Ev
  have ne_d_c : a1 ≠ ct := own_dc E_a1 (hw _ (List.mem_of_getElem? (i := 1) rfl)) Ct
  have ne_e_c : ev ≠ ct := own_ec Ev Ct
  obtain ⟨T1, X1, e1, st1⟩ := getF X0 hx hZ hown (host := "") (Or.inl (hw _ (List.mem_of_getElem? (i := 11) rfl))) Via.refl e0 F_events (g := (mkF m 1 #[.val (.ref a1), .val (.long t1), .second, .unset, .unset, .unset, .unset, .unset, .unset, .unset] [(.ref a1)])) rfl rfl (hb hby d5_1)
  have Vc2 := Ev
  obtain ⟨ce2, Ae2, Oe2, Se2, Ne2, He2⟩ := Vc2
  obtain ⟨T3, X3, e3, st3⟩ := getF X1 hx hZ hown (host := "") (Or.inl (hw _ (List.mem_of_getElem? (i := 19) rfl))) Via.refl e1 F_current (g := (mkF m 8 #[.val (.ref a1), .val (.long t1), .second, .val (.int (32 : Int32)), .unset, .unset, .unset, .unset, .unset, .unset] [(.ref a1), (.long t1)])) rfl rfl (hb hby d5_8)
  obtain ⟨T4, X4, e4, st4⟩ := getF X3 hx hZ hown (host := "") (Or.inl (hw _ (List.mem_of_getElem? (i := 19) rfl))) Via.refl e3 F_current (g := (mkF m 8 #[.val (.ref a1), .val (.long t1), .second, .val (.int (64 : Int32)), .unset, .unset, .unset, .unset, .unset, .unset] [(.ref a1), (.long t1)])) rfl rfl (hb hby d5_8)
  obtain ⟨T5, h5, k5, X5, e5, E5, A5, Xa5, Ov5, st5⟩ := newRA X4 hx hZ (ty := .object "java/lang/Runnable") hown (by decide) (hw _ (List.mem_of_getElem? (i := 9) rfl)) (hw _ (List.mem_of_getElem? (i := 10) rfl)) e4 (g := (mkF m 26 #[.val (.ref a1), .val (.long t1), .second, .val (.int (64 : Int32)), .unset, .unset, .unset, .unset, .unset, .unset] [(.int (64 : Int32))])) rfl (hb hby d5_26) rfl (by decide) (cap := 64) (by decide) (by decide) (by decide) (by decide) (ad := "[[Ljava/lang/Runnable;") (by decide)
  obtain ⟨b5, g5⟩ : ∃ z, z = h0.size := ⟨_, rfl⟩
  rw [← g5] at A5 Xa5 st5
  have ne_a1_b5 : a1 ≠ b5 := Nat.ne_of_lt (Nat.lt_of_lt_of_le E_a1.lt (Nat.le_of_eq g5.symm))
  have ne_ev_b5 : ev ≠ b5 := Nat.ne_of_lt (Nat.lt_of_lt_of_le Ev.lt (Nat.le_of_eq g5.symm))
  have ne_ct_b5 : ct ≠ b5 := Nat.ne_of_lt (Nat.lt_of_lt_of_le Ct.lt (Nat.le_of_eq g5.symm))
  have g_b5 : n0 ≤ b5 := Nat.le_trans (own_le O0) (Nat.le_of_eq g5.symm)
  have O5 := O0.ext E5
  have V5 : Evs Z n0 h5 b5 (64 : Int32) := Evs.new A5 Ov5 (by decide)
  obtain ⟨T6, h6, k6, X6, e6, E6, A6, st6⟩ := newP X5 hx hZ (hw _ (List.mem_of_getElem? (i := 13) rfl)) e5 (g := (mkF m 32 #[.val (.ref a1), .val (.long t1), .second, .val (.int (64 : Int32)), .val (.ref b5), .unset, .unset, .unset, .unset, .unset] [(.int (64 : Int32))])) rfl (hb hby d5_32) rfl (by decide) (cap := 64) (by decide) (by decide) (by decide) (by decide)
  obtain ⟨b6, g6⟩ : ∃ z, z = h5.size := ⟨_, rfl⟩
  rw [← g6] at A6 st6
  have f7 := (E_a1.ext E5)
  have ne_a1_b6 : a1 ≠ b6 := Nat.ne_of_lt (Nat.lt_of_lt_of_le f7.lt (Nat.le_of_eq g6.symm))
  have f8 := (Ev.ext E5)
  have ne_ev_b6 : ev ≠ b6 := Nat.ne_of_lt (Nat.lt_of_lt_of_le f8.lt (Nat.le_of_eq g6.symm))
  have f9 := (Ct.ext E5)
  have ne_ct_b6 : ct ≠ b6 := Nat.ne_of_lt (Nat.lt_of_lt_of_le f9.lt (Nat.le_of_eq g6.symm))
  have ne_b5_b6 : b5 ≠ b6 := Nat.ne_of_lt (Nat.lt_of_lt_of_le V5.lt (Nat.le_of_eq g6.symm))
  have g_b6 : n0 ≤ b6 := Nat.le_trans (own_le O5) (Nat.le_of_eq g6.symm)
  have O6 := O5.ext E6
  have V6 : Cts Z h6 b6 (64 : Int32) k := Cts.new A6 (by decide) hk0
  have pre10 : ∀ t, Steps p.tables e below (T6.setTop (mkF m 39 #[.val (.ref a1), .val (.long t1), .second, .val (.int (64 : Int32)), .val (.ref b5), .val (.ref b6), .val (.int (0 : Int32)), .unset, .unset, .unset] [])) t → Steps p.tables e below (s₁.setTop (entryFrame m #[(.ref a1), (.long t1)] 10)) t := by
    intro t kt
    refine pre0 _ ?_
    show Steps p.tables e below (s₁.setTop (mkF m 0 #[.val (.ref a1), .val (.long t1), .second, .unset, .unset, .unset, .unset, .unset, .unset, .unset] [])) _
    refine XS.aloadN X0.here hx rfl (hb hby d5_0) rfl rfl ?_
    show Steps p.tables e below (s₁.setTop (mkF m 1 #[.val (.ref a1), .val (.long t1), .second, .unset, .unset, .unset, .unset, .unset, .unset, .unset] [(.ref a1)])) _
    refine st1 _ ?_
    show Steps p.tables e below (T1.setTop (mkF m 4 #[.val (.ref a1), .val (.long t1), .second, .unset, .unset, .unset, .unset, .unset, .unset, .unset] [(.ref ev)])) _
    refine X1.arraylength hx (by rw [e1]; exact Ae2.1) (State.isArrayOf_alike hZ.alike Ae2.2.1) (g := (mkF m 4 #[.val (.ref a1), .val (.long t1), .second, .unset, .unset, .unset, .unset, .unset, .unset, .unset] [(.ref ev)])) rfl rfl (hb hby d5_4) _ ?_
    rw [len_of Se2 Ne2]
    show Steps p.tables e below (T1.setTop (mkF m 5 #[.val (.ref a1), .val (.long t1), .second, .unset, .unset, .unset, .unset, .unset, .unset, .unset] [(.int (32 : Int32))])) _
    refine XS.istoreN X1.here hx rfl (hb hby d5_5) rfl (l' := #[.val (.ref a1), .val (.long t1), .second, .val (.int (32 : Int32)), .unset, .unset, .unset, .unset, .unset, .unset]) rfl ?_
    show Steps p.tables e below (T1.setTop (mkF m 6 #[.val (.ref a1), .val (.long t1), .second, .val (.int (32 : Int32)), .unset, .unset, .unset, .unset, .unset, .unset] [])) _
    refine XS.lloadN X1.here hx rfl (hb hby d5_6) rfl ?_
    show Steps p.tables e below (T1.setTop (mkF m 7 #[.val (.ref a1), .val (.long t1), .second, .val (.int (32 : Int32)), .unset, .unset, .unset, .unset, .unset, .unset] [(.long t1)])) _
    refine XS.aloadN X1.here hx rfl (hb hby d5_7) rfl rfl ?_
    show Steps p.tables e below (T1.setTop (mkF m 8 #[.val (.ref a1), .val (.long t1), .second, .val (.int (32 : Int32)), .unset, .unset, .unset, .unset, .unset, .unset] [(.ref a1), (.long t1)])) _
    refine st3 _ ?_
    show Steps p.tables e below (T3.setTop (mkF m 11 #[.val (.ref a1), .val (.long t1), .second, .val (.int (32 : Int32)), .unset, .unset, .unset, .unset, .unset, .unset] [(.long (-1)), (.long t1)])) _
    refine XS.lsub X3.here hx rfl (hb hby d5_11) rfl ?_
    show Steps p.tables e below (T3.setTop (mkF m 12 #[.val (.ref a1), .val (.long t1), .second, .val (.int (32 : Int32)), .unset, .unset, .unset, .unset, .unset, .unset] [(.long (t1 - (-1)))])) _
    refine XS.iloadN X3.here hx rfl (hb hby d5_12) rfl ?_
    show Steps p.tables e below (T3.setTop (mkF m 13 #[.val (.ref a1), .val (.long t1), .second, .val (.int (32 : Int32)), .unset, .unset, .unset, .unset, .unset, .unset] [(.int (32 : Int32)), (.long (t1 - (-1)))])) _
    refine XS.i2l X3.here hx rfl (hb hby d5_13) rfl ?_
    show Steps p.tables e below (T3.setTop (mkF m 14 #[.val (.ref a1), .val (.long t1), .second, .val (.int (32 : Int32)), .unset, .unset, .unset, .unset, .unset, .unset] [(.long ((32 : Int32).toInt64)), (.long (t1 - (-1)))])) _
    refine XS.lcmp X3.here hx rfl (hb hby d5_14) rfl ?_
    show Steps p.tables e below (T3.setTop (mkF m 15 #[.val (.ref a1), .val (.long t1), .second, .val (.int (32 : Int32)), .unset, .unset, .unset, .unset, .unset, .unset] [(.int (lcmpW (t1 - (-1)) ((32 : Int32).toInt64)))])) _
    refine XS.ifNo X3.here hx rfl (hb hby d5_15) rfl ((if0 _ _).trans (flt hl32).1) ?_
    show Steps p.tables e below (T3.setTop (mkF m 18 #[.val (.ref a1), .val (.long t1), .second, .val (.int (32 : Int32)), .unset, .unset, .unset, .unset, .unset, .unset] [])) _
    refine XS.iloadN X3.here hx rfl (hb hby d5_18) rfl ?_
    show Steps p.tables e below (T3.setTop (mkF m 19 #[.val (.ref a1), .val (.long t1), .second, .val (.int (32 : Int32)), .unset, .unset, .unset, .unset, .unset, .unset] [(.int (32 : Int32))])) _
    refine XS.iconst X3.here hx rfl (hb hby d5_19) ?_
    show Steps p.tables e below (T3.setTop (mkF m 20 #[.val (.ref a1), .val (.long t1), .second, .val (.int (32 : Int32)), .unset, .unset, .unset, .unset, .unset, .unset] [(.int (2 : Int32)), (.int (32 : Int32))])) _
    refine XS.imul X3.here hx rfl (hb hby d5_20) rfl ?_
    show Steps p.tables e below (T3.setTop (mkF m 21 #[.val (.ref a1), .val (.long t1), .second, .val (.int (32 : Int32)), .unset, .unset, .unset, .unset, .unset, .unset] [(.int (64 : Int32))])) _
    refine XS.istoreN X3.here hx rfl (hb hby d5_21) rfl (l' := #[.val (.ref a1), .val (.long t1), .second, .val (.int (64 : Int32)), .unset, .unset, .unset, .unset, .unset, .unset]) rfl ?_
    show Steps p.tables e below (T3.setTop (mkF m 22 #[.val (.ref a1), .val (.long t1), .second, .val (.int (64 : Int32)), .unset, .unset, .unset, .unset, .unset, .unset] [])) _
    refine XS.goto X3.here hx rfl (pc0 := 22) (pc' := 6) rfl (hb hby d5_22) (by decide) (by decide) ?_
    show Steps p.tables e below (T3.setTop (mkF m 6 #[.val (.ref a1), .val (.long t1), .second, .val (.int (64 : Int32)), .unset, .unset, .unset, .unset, .unset, .unset] [])) _
    refine XS.lloadN X3.here hx rfl (hb hby d5_6) rfl ?_
    show Steps p.tables e below (T3.setTop (mkF m 7 #[.val (.ref a1), .val (.long t1), .second, .val (.int (64 : Int32)), .unset, .unset, .unset, .unset, .unset, .unset] [(.long t1)])) _
    refine XS.aloadN X3.here hx rfl (hb hby d5_7) rfl rfl ?_
    show Steps p.tables e below (T3.setTop (mkF m 8 #[.val (.ref a1), .val (.long t1), .second, .val (.int (64 : Int32)), .unset, .unset, .unset, .unset, .unset, .unset] [(.ref a1), (.long t1)])) _
    refine st4 _ ?_
    show Steps p.tables e below (T4.setTop (mkF m 11 #[.val (.ref a1), .val (.long t1), .second, .val (.int (64 : Int32)), .unset, .unset, .unset, .unset, .unset, .unset] [(.long (-1)), (.long t1)])) _
    refine XS.lsub X4.here hx rfl (hb hby d5_11) rfl ?_
    show Steps p.tables e below (T4.setTop (mkF m 12 #[.val (.ref a1), .val (.long t1), .second, .val (.int (64 : Int32)), .unset, .unset, .unset, .unset, .unset, .unset] [(.long (t1 - (-1)))])) _
    refine XS.iloadN X4.here hx rfl (hb hby d5_12) rfl ?_
    show Steps p.tables e below (T4.setTop (mkF m 13 #[.val (.ref a1), .val (.long t1), .second, .val (.int (64 : Int32)), .unset, .unset, .unset, .unset, .unset, .unset] [(.int (64 : Int32)), (.long (t1 - (-1)))])) _
    refine XS.i2l X4.here hx rfl (hb hby d5_13) rfl ?_
    show Steps p.tables e below (T4.setTop (mkF m 14 #[.val (.ref a1), .val (.long t1), .second, .val (.int (64 : Int32)), .unset, .unset, .unset, .unset, .unset, .unset] [(.long ((64 : Int32).toInt64)), (.long (t1 - (-1)))])) _
    refine XS.lcmp X4.here hx rfl (hb hby d5_14) rfl ?_
    show Steps p.tables e below (T4.setTop (mkF m 15 #[.val (.ref a1), .val (.long t1), .second, .val (.int (64 : Int32)), .unset, .unset, .unset, .unset, .unset, .unset] [(.int (lcmpW (t1 - (-1)) ((64 : Int32).toInt64)))])) _
    refine XS.ifYes X4.here hx rfl (pc0 := 15) (pc' := 25) rfl (hb hby d5_15) rfl ((if0 _ _).trans (tlt hl64).1) (by decide) (by decide) ?_
    show Steps p.tables e below (T4.setTop (mkF m 25 #[.val (.ref a1), .val (.long t1), .second, .val (.int (64 : Int32)), .unset, .unset, .unset, .unset, .unset, .unset] [])) _
    refine XS.iloadN X4.here hx rfl (hb hby d5_25) rfl ?_
    show Steps p.tables e below (T4.setTop (mkF m 26 #[.val (.ref a1), .val (.long t1), .second, .val (.int (64 : Int32)), .unset, .unset, .unset, .unset, .unset, .unset] [(.int (64 : Int32))])) _
    refine st5 _ ?_
    show Steps p.tables e below (T5.setTop (mkF m 29 #[.val (.ref a1), .val (.long t1), .second, .val (.int (64 : Int32)), .unset, .unset, .unset, .unset, .unset, .unset] [(.ref b5)])) _
    refine XS.astore X5.here hx rfl (hb hby d5_29) rfl rfl (l' := #[.val (.ref a1), .val (.long t1), .second, .val (.int (64 : Int32)), .val (.ref b5), .unset, .unset, .unset, .unset, .unset]) rfl ?_
    show Steps p.tables e below (T5.setTop (mkF m 31 #[.val (.ref a1), .val (.long t1), .second, .val (.int (64 : Int32)), .val (.ref b5), .unset, .unset, .unset, .unset, .unset] [])) _
    refine XS.iloadN X5.here hx rfl (hb hby d5_31) rfl ?_
    show Steps p.tables e below (T5.setTop (mkF m 32 #[.val (.ref a1), .val (.long t1), .second, .val (.int (64 : Int32)), .val (.ref b5), .unset, .unset, .unset, .unset, .unset] [(.int (64 : Int32))])) _
    refine st6 _ ?_
    show Steps p.tables e below (T6.setTop (mkF m 34 #[.val (.ref a1), .val (.long t1), .second, .val (.int (64 : Int32)), .val (.ref b5), .unset, .unset, .unset, .unset, .unset] [(.ref b6)])) _
    refine XS.astore X6.here hx rfl (hb hby d5_34) rfl rfl (l' := #[.val (.ref a1), .val (.long t1), .second, .val (.int (64 : Int32)), .val (.ref b5), .val (.ref b6), .unset, .unset, .unset, .unset]) rfl ?_
    show Steps p.tables e below (T6.setTop (mkF m 36 #[.val (.ref a1), .val (.long t1), .second, .val (.int (64 : Int32)), .val (.ref b5), .val (.ref b6), .unset, .unset, .unset, .unset] [])) _
    refine XS.iconst X6.here hx rfl (hb hby d5_36) ?_
    show Steps p.tables e below (T6.setTop (mkF m 37 #[.val (.ref a1), .val (.long t1), .second, .val (.int (64 : Int32)), .val (.ref b5), .val (.ref b6), .unset, .unset, .unset, .unset] [(.int (0 : Int32))])) _
    refine XS.istore X6.here hx rfl (hb hby d5_37) rfl (l' := #[.val (.ref a1), .val (.long t1), .second, .val (.int (64 : Int32)), .val (.ref b5), .val (.ref b6), .val (.int (0 : Int32)), .unset, .unset, .unset]) rfl ?_
    exact kt
  have f12 := (f7.ext E6)
  have f13 := ((F_events.ext E5).ext E6)
  have f14 := ((F_counts.ext E5).ext E6)
  have f15 := ((F_mask.ext E5).ext E6)
  have f16 := ((F_current.ext E5).ext E6)
  have f17 := ((F_lastTick.ext E5).ext E6)
  have f18 := ((F_pending.ext E5).ext E6)
  have f19 := ((F_droppedLate.ext E5).ext E6)
  have f20 := (f8.ext E6)
  have f21 := (f9.ext E6)
  have hDF11 : DueF Z n0 h6 a1 q1 (32 : Int32) P k ev ct dd := ⟨gev, gct, f12, f13, f14, f15, f16, f17, f18, f19, f20, f21⟩
  have f22 := (V5.ext E6)
  obtain ⟨Ta, ha, locsa, hda, toa, Xa, ea, Oa, Na, Da, Va, Ca, sta⟩ := turnA X6 hx hZ hw hby hml hown e6 O6 N0 (t1 := t1) hDF11 f22 V6 g1 g_b5 g_b6 ne_ev_b5 ne_ct_b6 (own_to64) (i := (0 : Int32)) (by decide) (by decide)
  obtain ⟨Tb, hb_, locsb, hdb, tob, Xb, eb, Ob, Nb, Db, Vb, Cb, stb⟩ := loopB hx hZ hw hby hml hown g1 g_b5 g_b6 ne_ev_b5 ne_ct_b6 own_to64 31 (t1 := t1) (i := ((0 : Int32) + (1 : Int32))) (to := toa) (hd := hda) Xa ea Oa Na Da Va Ca (by decide) (by decide) (by decide)
  have hD_ := Db; obtain ⟨gevb, gctb, E_a1b, F_eventsb, F_countsb, F_maskb, F_currentb, F_lastTickb, F_pendingb, F_droppedLateb, Evb, Ctb⟩ := hD_
  obtain ⟨T23, X23, e23, st23⟩ := getF Xb hx hZ hown (host := "") (Or.inl (hw _ (List.mem_of_getElem? (i := 11) rfl))) Via.refl eb F_eventsb (g := (mkF m 42 #[.val (.ref a1), .val (.long t1), .second, .val (.int (64 : Int32)), .val (.ref b5), .val (.ref b6), .val (.int (32 : Int32)), .val (.long hdb), .second, .val (.int tob)] [(.ref a1), (.int (32 : Int32))])) rfl rfl (hb hby d5_42)
  have Vc24 := Evb
  obtain ⟨ce24, Ae24, Oe24, Se24, Ne24, He24⟩ := Vc24
  obtain ⟨T25, h25, X25, e25, W25, st25⟩ := putF X23 hx hZ hown (host := "") (Or.inl (hw _ (List.mem_of_getElem? (i := 11) rfl))) Via.refl e23 F_eventsb E_a1b (Or.inl (hw _ (List.mem_of_getElem? (i := 12) rfl))) (hw _ (List.mem_of_getElem? (i := 1) rfl)) (ty := (.array (.array (.object "java/lang/Runnable")))) (by decide) rfl rfl (g := (mkF m 113 #[.val (.ref a1), .val (.long t1), .second, .val (.int (64 : Int32)), .val (.ref b5), .val (.ref b6), .val (.int (32 : Int32)), .val (.long hdb), .second, .val (.int tob)] [(.ref b5), (.ref a1)])) rfl rfl (hb hby d5_113)
  have Fw25 := F_eventsb.same W25
  have O25 := Ob.wr W25 g1
  have N25 := Fr.snoc X25 Nb g1
  have f26 := (E_a1b.wr W25)
  have f27 := (F_countsb.other W25 (Or.inr (slot_ne (Or.inl (hw _ (List.mem_of_getElem? (i := 15) rfl))) (Or.inl (hw _ (List.mem_of_getElem? (i := 12) rfl))) (by decide) (t := (.array .int)) (t' := (.array (.array (.object "java/lang/Runnable")))) (by decide) (by decide))))
  obtain ⟨T28, h28, X28, e28, W28, st28⟩ := putF X25 hx hZ hown (host := "") (Or.inl (hw _ (List.mem_of_getElem? (i := 14) rfl))) Via.refl e25 f27 f26 (Or.inl (hw _ (List.mem_of_getElem? (i := 15) rfl))) (hw _ (List.mem_of_getElem? (i := 1) rfl)) (ty := (.array .int)) (by decide) rfl rfl (g := (mkF m 119 #[.val (.ref a1), .val (.long t1), .second, .val (.int (64 : Int32)), .val (.ref b5), .val (.ref b6), .val (.int (32 : Int32)), .val (.long hdb), .second, .val (.int tob)] [(.ref b6), (.ref a1)])) rfl rfl (hb hby d5_119)
  have Fw28 := f27.same W28
  have O28 := O25.wr W28 g1
  have N28 := Fr.snoc X28 N25 g1
  have f29 := (f26.wr W28)
  have f30 := ((F_maskb.other W25 (Or.inr (slot_ne (Or.inl (hw _ (List.mem_of_getElem? (i := 17) rfl))) (Or.inl (hw _ (List.mem_of_getElem? (i := 12) rfl))) (by decide) (t := .int) (t' := (.array (.array (.object "java/lang/Runnable")))) (by decide) (by decide)))).other W28 (Or.inr (slot_ne (Or.inl (hw _ (List.mem_of_getElem? (i := 17) rfl))) (Or.inl (hw _ (List.mem_of_getElem? (i := 15) rfl))) (by decide) (t := .int) (t' := (.array .int)) (by decide) (by decide))))
  obtain ⟨T31, h31, X31, e31, W31, st31⟩ := putF X28 hx hZ hown (host := "") (Or.inl (hw _ (List.mem_of_getElem? (i := 16) rfl))) Via.refl e28 f30 f29 (Or.inl (hw _ (List.mem_of_getElem? (i := 17) rfl))) (hw _ (List.mem_of_getElem? (i := 1) rfl)) (ty := .int) (by decide) rfl rfl (g := (mkF m 126 #[.val (.ref a1), .val (.long t1), .second, .val (.int (64 : Int32)), .val (.ref b5), .val (.ref b6), .val (.int (32 : Int32)), .val (.long hdb), .second, .val (.int tob)] [(.int ((64 : Int32) - (1 : Int32))), (.ref a1)])) rfl rfl (hb hby d5_126)
  have Fw31 := f30.same W31
  have O31 := O28.wr W31 g1
  have N31 := Fr.snoc X31 N28 g1
  have f32 := (f29.wr W31)
  have f33 := ((Fw25.other W28 (Or.inr (slot_ne (Or.inl (hw _ (List.mem_of_getElem? (i := 12) rfl))) (Or.inl (hw _ (List.mem_of_getElem? (i := 15) rfl))) (by decide) (t := (.array (.array (.object "java/lang/Runnable")))) (t' := (.array .int)) (by decide) (by decide)))).other W31 (Or.inr (slot_ne (Or.inl (hw _ (List.mem_of_getElem? (i := 12) rfl))) (Or.inl (hw _ (List.mem_of_getElem? (i := 17) rfl))) (by decide) (t := (.array (.array (.object "java/lang/Runnable")))) (t' := .int) (by decide) (by decide))))
  have f34 := (Fw28.other W31 (Or.inr (slot_ne (Or.inl (hw _ (List.mem_of_getElem? (i := 15) rfl))) (Or.inl (hw _ (List.mem_of_getElem? (i := 17) rfl))) (by decide) (t := (.array .int)) (t' := .int) (by decide) (by decide))))
  have f35 := (((F_currentb.other W25 (Or.inr (slot_ne (Or.inl (hw _ (List.mem_of_getElem? (i := 20) rfl))) (Or.inl (hw _ (List.mem_of_getElem? (i := 12) rfl))) (by decide) (t := .long) (t' := (.array (.array (.object "java/lang/Runnable")))) (by decide) (by decide)))).other W28 (Or.inr (slot_ne (Or.inl (hw _ (List.mem_of_getElem? (i := 20) rfl))) (Or.inl (hw _ (List.mem_of_getElem? (i := 15) rfl))) (by decide) (t := .long) (t' := (.array .int)) (by decide) (by decide)))).other W31 (Or.inr (slot_ne (Or.inl (hw _ (List.mem_of_getElem? (i := 20) rfl))) (Or.inl (hw _ (List.mem_of_getElem? (i := 17) rfl))) (by decide) (t := .long) (t' := .int) (by decide) (by decide))))
  have f36 := (((F_lastTickb.other W25 (Or.inr (slot_ne (Or.inr (hw _ (List.mem_of_getElem? (i := 22) rfl))) (Or.inl (hw _ (List.mem_of_getElem? (i := 12) rfl))) (by decide) (t := .long) (t' := (.array (.array (.object "java/lang/Runnable")))) (by decide) (by decide)))).other W28 (Or.inr (slot_ne (Or.inr (hw _ (List.mem_of_getElem? (i := 22) rfl))) (Or.inl (hw _ (List.mem_of_getElem? (i := 15) rfl))) (by decide) (t := .long) (t' := (.array .int)) (by decide) (by decide)))).other W31 (Or.inr (slot_ne (Or.inr (hw _ (List.mem_of_getElem? (i := 22) rfl))) (Or.inl (hw _ (List.mem_of_getElem? (i := 17) rfl))) (by decide) (t := .long) (t' := .int) (by decide) (by decide))))
  have f37 := (((F_pendingb.other W25 (Or.inr (slot_ne (Or.inl (hw _ (List.mem_of_getElem? (i := 29) rfl))) (Or.inl (hw _ (List.mem_of_getElem? (i := 12) rfl))) (by decide) (t := .long) (t' := (.array (.array (.object "java/lang/Runnable")))) (by decide) (by decide)))).other W28 (Or.inr (slot_ne (Or.inl (hw _ (List.mem_of_getElem? (i := 29) rfl))) (Or.inl (hw _ (List.mem_of_getElem? (i := 15) rfl))) (by decide) (t := .long) (t' := (.array .int)) (by decide) (by decide)))).other W31 (Or.inr (slot_ne (Or.inl (hw _ (List.mem_of_getElem? (i := 29) rfl))) (Or.inl (hw _ (List.mem_of_getElem? (i := 17) rfl))) (by decide) (t := .long) (t' := .int) (by decide) (by decide))))
  have f38 := (((F_droppedLateb.other W25 (Or.inr (slot_ne (Or.inl (hw _ (List.mem_of_getElem? (i := 43) rfl))) (Or.inl (hw _ (List.mem_of_getElem? (i := 12) rfl))) (by decide) (t := .boolean) (t' := (.array (.array (.object "java/lang/Runnable")))) (by decide) (by decide)))).other W28 (Or.inr (slot_ne (Or.inl (hw _ (List.mem_of_getElem? (i := 43) rfl))) (Or.inl (hw _ (List.mem_of_getElem? (i := 15) rfl))) (by decide) (t := .boolean) (t' := (.array .int)) (by decide) (by decide)))).other W31 (Or.inr (slot_ne (Or.inl (hw _ (List.mem_of_getElem? (i := 43) rfl))) (Or.inl (hw _ (List.mem_of_getElem? (i := 17) rfl))) (by decide) (t := .boolean) (t' := .int) (by decide) (by decide))))
  have f39 := (((Vb.other W25 (Ne.symm ne_a1_b5)).other W28 (Ne.symm ne_a1_b5)).other W31 (Ne.symm ne_a1_b5))
  have f40 := (((Cb.other W25 (Ne.symm ne_a1_b6)).other W28 (Ne.symm ne_a1_b6)).other W31 (Ne.symm ne_a1_b6))
  obtain ⟨fs, hr, hrun, hended, hW, hsame⟩ := X31.leave (v := none) (fun _ => rfl)
  refine ⟨_, _, pre10 _ ?_, hrun, hended, _, _, rfl, ?_, ⟨_, rfl⟩, hW, hsame.mono (by decide) (by decide)⟩
  · show Steps p.tables e below (T6.setTop (mkF m 39 #[.val (.ref a1), .val (.long t1), .second, .val (.int (64 : Int32)), .val (.ref b5), .val (.ref b6), .val (.int (0 : Int32)), .unset, .unset, .unset] [])) _
    refine sta _ ?_
    refine stb _ ?_
    show Steps p.tables e below (Tb.setTop (mkF m 39 #[.val (.ref a1), .val (.long t1), .second, .val (.int (64 : Int32)), .val (.ref b5), .val (.ref b6), .val (.int (32 : Int32)), .val (.long hdb), .second, .val (.int tob)] [])) _
    refine XS.iload Xb.here hx rfl (hb hby d5_39) rfl ?_
    show Steps p.tables e below (Tb.setTop (mkF m 41 #[.val (.ref a1), .val (.long t1), .second, .val (.int (64 : Int32)), .val (.ref b5), .val (.ref b6), .val (.int (32 : Int32)), .val (.long hdb), .second, .val (.int tob)] [(.int (32 : Int32))])) _
    refine XS.aloadN Xb.here hx rfl (hb hby d5_41) rfl rfl ?_
    show Steps p.tables e below (Tb.setTop (mkF m 42 #[.val (.ref a1), .val (.long t1), .second, .val (.int (64 : Int32)), .val (.ref b5), .val (.ref b6), .val (.int (32 : Int32)), .val (.long hdb), .second, .val (.int tob)] [(.ref a1), (.int (32 : Int32))])) _
    refine st23 _ ?_
    show Steps p.tables e below (T23.setTop (mkF m 45 #[.val (.ref a1), .val (.long t1), .second, .val (.int (64 : Int32)), .val (.ref b5), .val (.ref b6), .val (.int (32 : Int32)), .val (.long hdb), .second, .val (.int tob)] [(.ref ev), (.int (32 : Int32))])) _
    refine X23.arraylength hx (by rw [e23]; exact Ae24.1) (State.isArrayOf_alike hZ.alike Ae24.2.1) (g := (mkF m 45 #[.val (.ref a1), .val (.long t1), .second, .val (.int (64 : Int32)), .val (.ref b5), .val (.ref b6), .val (.int (32 : Int32)), .val (.long hdb), .second, .val (.int tob)] [(.ref ev), (.int (32 : Int32))])) rfl rfl (hb hby d5_45) _ ?_
    rw [len_of Se24 Ne24]
    show Steps p.tables e below (T23.setTop (mkF m 46 #[.val (.ref a1), .val (.long t1), .second, .val (.int (64 : Int32)), .val (.ref b5), .val (.ref b6), .val (.int (32 : Int32)), .val (.long hdb), .second, .val (.int tob)] [(.int (32 : Int32)), (.int (32 : Int32))])) _
    refine XS.icmpYes X23.here hx rfl (pc0 := 46) (pc' := 110) rfl (hb hby d5_46) rfl (flt (by decide : ¬ ((32 : Int32) < (32 : Int32)))).2.1 (by decide) (by decide) ?_
    show Steps p.tables e below (T23.setTop (mkF m 110 #[.val (.ref a1), .val (.long t1), .second, .val (.int (64 : Int32)), .val (.ref b5), .val (.ref b6), .val (.int (32 : Int32)), .val (.long hdb), .second, .val (.int tob)] [])) _
    refine XS.aloadN X23.here hx rfl (hb hby d5_110) rfl rfl ?_
    show Steps p.tables e below (T23.setTop (mkF m 111 #[.val (.ref a1), .val (.long t1), .second, .val (.int (64 : Int32)), .val (.ref b5), .val (.ref b6), .val (.int (32 : Int32)), .val (.long hdb), .second, .val (.int tob)] [(.ref a1)])) _
    refine XS.aload X23.here hx rfl (hb hby d5_111) rfl rfl ?_
    show Steps p.tables e below (T23.setTop (mkF m 113 #[.val (.ref a1), .val (.long t1), .second, .val (.int (64 : Int32)), .val (.ref b5), .val (.ref b6), .val (.int (32 : Int32)), .val (.long hdb), .second, .val (.int tob)] [(.ref b5), (.ref a1)])) _
    refine st25 _ ?_
    show Steps p.tables e below (T25.setTop (mkF m 116 #[.val (.ref a1), .val (.long t1), .second, .val (.int (64 : Int32)), .val (.ref b5), .val (.ref b6), .val (.int (32 : Int32)), .val (.long hdb), .second, .val (.int tob)] [])) _
    refine XS.aloadN X25.here hx rfl (hb hby d5_116) rfl rfl ?_
    show Steps p.tables e below (T25.setTop (mkF m 117 #[.val (.ref a1), .val (.long t1), .second, .val (.int (64 : Int32)), .val (.ref b5), .val (.ref b6), .val (.int (32 : Int32)), .val (.long hdb), .second, .val (.int tob)] [(.ref a1)])) _
    refine XS.aload X25.here hx rfl (hb hby d5_117) rfl rfl ?_
    show Steps p.tables e below (T25.setTop (mkF m 119 #[.val (.ref a1), .val (.long t1), .second, .val (.int (64 : Int32)), .val (.ref b5), .val (.ref b6), .val (.int (32 : Int32)), .val (.long hdb), .second, .val (.int tob)] [(.ref b6), (.ref a1)])) _
    refine st28 _ ?_
    show Steps p.tables e below (T28.setTop (mkF m 122 #[.val (.ref a1), .val (.long t1), .second, .val (.int (64 : Int32)), .val (.ref b5), .val (.ref b6), .val (.int (32 : Int32)), .val (.long hdb), .second, .val (.int tob)] [])) _
    refine XS.aloadN X28.here hx rfl (hb hby d5_122) rfl rfl ?_
    show Steps p.tables e below (T28.setTop (mkF m 123 #[.val (.ref a1), .val (.long t1), .second, .val (.int (64 : Int32)), .val (.ref b5), .val (.ref b6), .val (.int (32 : Int32)), .val (.long hdb), .second, .val (.int tob)] [(.ref a1)])) _
    refine XS.iloadN X28.here hx rfl (hb hby d5_123) rfl ?_
    show Steps p.tables e below (T28.setTop (mkF m 124 #[.val (.ref a1), .val (.long t1), .second, .val (.int (64 : Int32)), .val (.ref b5), .val (.ref b6), .val (.int (32 : Int32)), .val (.long hdb), .second, .val (.int tob)] [(.int (64 : Int32)), (.ref a1)])) _
    refine XS.iconst X28.here hx rfl (hb hby d5_124) ?_
    show Steps p.tables e below (T28.setTop (mkF m 125 #[.val (.ref a1), .val (.long t1), .second, .val (.int (64 : Int32)), .val (.ref b5), .val (.ref b6), .val (.int (32 : Int32)), .val (.long hdb), .second, .val (.int tob)] [(.int (1 : Int32)), (.int (64 : Int32)), (.ref a1)])) _
    refine XS.isub X28.here hx rfl (hb hby d5_125) rfl ?_
    show Steps p.tables e below (T28.setTop (mkF m 126 #[.val (.ref a1), .val (.long t1), .second, .val (.int (64 : Int32)), .val (.ref b5), .val (.ref b6), .val (.int (32 : Int32)), .val (.long hdb), .second, .val (.int tob)] [(.int ((64 : Int32) - (1 : Int32))), (.ref a1)])) _
    refine st31 _ ?_
    show Steps p.tables e below (T31.setTop (mkF m 129 #[.val (.ref a1), .val (.long t1), .second, .val (.int (64 : Int32)), .val (.ref b5), .val (.ref b6), .val (.int (32 : Int32)), .val (.long hdb), .second, .val (.int tob)] [])) _
    exact X31.returnOut hx Bd.returns (hb hby d5_129) hr
  · show Q_wid_32_64 Z a1 t1 q1 P k h0 n0 _ T31.heap _
    rw [e31]
    exact ⟨rfl, N31, O31, ⟨b5, b6, _, g_b5, g_b6, f32, f33, f34, Fw31, f35, f36, f37, f38, f39, f40⟩⟩
theorem ef_wid_32_128 (m : MethodId) (a1 : Addr) (t1 : Int64) : entryFrame m #[(.ref a1), (.long t1)] 10 = mkF m 0 #[.val (.ref a1), .val (.long t1), .second, .unset, .unset, .unset, .unset, .unset, .unset, .unset] [] := by first | (simp [entryFrame, mkF, argsToLocals, Value.category]; done) | rfl
def Q_wid_32_128 (Z : State) (a1 : Addr) (t1 q1 P : Int64) (k : Int32) (h0 : Heap) (n0 : Nat) (v : Option Value) (h : Heap) (L : List Loc) : Prop := v = none ∧ Fr n0 L ∧ Old Z n0 h ∧ Due Z n0 h a1 q1 (128 : Int32) P k
set_option maxRecDepth 65536 in
set_option maxHeartbeats 40000000 in
theorem wid_32_128 (l : Launch) (Z : State) (a0 : Array Value) (hw : ∀ d ∈ tables_1, d.before a0 Z = true) (ws : List Jvm.Cond) (a1 : Addr) (t1 q1 P : Int64) (k : Int32) (h0 : Heap) (n0 : Nat) (O0 : Old Z n0 h0) (hD : Due Z n0 h0 a1 q1 (32 : Int32) P k) (g1 : n0 ≤ a1) (hk0 : ¬ k < 0) (hl32 : ¬ ((lcmpW (t1 - (-1)) ((32 : Int32).toInt64)) < (0 : Int32))) (hl64 : ¬ ((lcmpW (t1 - (-1)) ((64 : Int32).toInt64)) < (0 : Int32))) (hl128 : (lcmpW (t1 - (-1)) ((128 : Int32).toInt64)) < (0 : Int32)) :
    MetFree l (⟨"com/example/januswire/januswire/sim/DueEvents", "widen", "(J)V"⟩ : MethodName) (head1 (Jvm.Cond.code (⟨"com/example/januswire/januswire/sim/DueEvents", "widen", "(J)V"⟩ : MethodName) prog_187_method_7_code 10 none :: ws) ({ frames := 0, cells := 2, slots := 256, locals := 0 } : Room)) (fun a U => a = #[(.ref a1), (.long t1)] ∧ Z.Warmed39 U.vm ∧ U.heap = h0) (fun _ _ _ _ _ => True) (fun _ U o U' => ∃ v L, o = .returned v ∧ Q_wid_32_128 Z a1 t1 q1 P k h0 n0 v U'.heap L ∧ FrameEnd U o U' L ({ frames := 0, cells := 2, slots := 256, locals := 0 } : Room).cells ({ frames := 0, cells := 2, slots := 256, locals := 0 } : Room).slots) := by
  refine MetFree.of_bodySF (plainFor_of_name pn_com_example_januswire_januswire_sim_DueEvents) hisR ?_
  intro p e s m args below meth c s₁ Bd hml0 hP hK
  obtain ⟨rfl, hZ, hh⟩ := hP
  have hx := Bd.exec
  have hby := Bd.bytes
  have hml : c.maxLocals = 10 := hml0
  have hown : s.vm.findClass "com/example/januswire/januswire/sim/DueEvents" = some m.cls := findClass_of_methodNamed Bd.named
  have hnm := (name_of_methodNamed Bd.named Bd.method).1
  have X0 : Stand p l e ({ frames := 0, cells := 2, slots := 256, locals := 0 } : Room) s m #[(.ref a1), (.long t1)] below meth c s₁ [] 0 0 := Stand.of_body Bd
  have e0 : s₁.heap = h0 := by rw [← hh, Bd.state]; rfl
  have N0 := Fr.nil n0
  have pre0 : ∀ t, Steps p.tables e below (s₁.setTop (mkF m 0 #[.val (.ref a1), .val (.long t1), .second, .unset, .unset, .unset, .unset, .unset, .unset, .unset] [])) t → Steps p.tables e below (s₁.setTop (entryFrame m #[(.ref a1), (.long t1)] 10)) t := fun t k => castTop (ef_wid_32_128 m a1 t1) k
  have hD__ := hD; obtain ⟨ev, ct, dd, hDF⟩ := hD__
  have hD_ := hDF; obtain ⟨gev, gct, E_a1, F_events, F_counts, F_mask, F_current, F_lastTick, F_pending, F_droppedLate, Ev, Ct⟩ := hD_
  have ne_d_e : a1 ≠ ev := own_de E_a1 (hw _ (List.mem_of_getElem? (i := 1) rfl)) Ev
  have ne_d_c : a1 ≠ ct := own_dc E_a1 (hw _ (List.mem_of_getElem? (i := 1) rfl)) Ct
  have ne_e_c : ev ≠ ct := own_ec Ev Ct
  obtain ⟨T1, X1, e1, st1⟩ := getF X0 hx hZ hown (host := "") (Or.inl (hw _ (List.mem_of_getElem? (i := 11) rfl))) Via.refl e0 F_events (g := (mkF m 1 #[.val (.ref a1), .val (.long t1), .second, .unset, .unset, .unset, .unset, .unset, .unset, .unset] [(.ref a1)])) rfl rfl (hb hby d5_1)
  have Vc2 := Ev
  obtain ⟨ce2, Ae2, Oe2, Se2, Ne2, He2⟩ := Vc2
  obtain ⟨T3, X3, e3, st3⟩ := getF X1 hx hZ hown (host := "") (Or.inl (hw _ (List.mem_of_getElem? (i := 19) rfl))) Via.refl e1 F_current (g := (mkF m 8 #[.val (.ref a1), .val (.long t1), .second, .val (.int (32 : Int32)), .unset, .unset, .unset, .unset, .unset, .unset] [(.ref a1), (.long t1)])) rfl rfl (hb hby d5_8)
  obtain ⟨T4, X4, e4, st4⟩ := getF X3 hx hZ hown (host := "") (Or.inl (hw _ (List.mem_of_getElem? (i := 19) rfl))) Via.refl e3 F_current (g := (mkF m 8 #[.val (.ref a1), .val (.long t1), .second, .val (.int (64 : Int32)), .unset, .unset, .unset, .unset, .unset, .unset] [(.ref a1), (.long t1)])) rfl rfl (hb hby d5_8)
  obtain ⟨T5, X5, e5, st5⟩ := getF X4 hx hZ hown (host := "") (Or.inl (hw _ (List.mem_of_getElem? (i := 19) rfl))) Via.refl e4 F_current (g := (mkF m 8 #[.val (.ref a1), .val (.long t1), .second, .val (.int (128 : Int32)), .unset, .unset, .unset, .unset, .unset, .unset] [(.ref a1), (.long t1)])) rfl rfl (hb hby d5_8)
  obtain ⟨T6, h6, k6, X6, e6, E6, A6, Xa6, Ov6, st6⟩ := newRA X5 hx hZ (ty := .object "java/lang/Runnable") hown (by decide) (hw _ (List.mem_of_getElem? (i := 9) rfl)) (hw _ (List.mem_of_getElem? (i := 10) rfl)) e5 (g := (mkF m 26 #[.val (.ref a1), .val (.long t1), .second, .val (.int (128 : Int32)), .unset, .unset, .unset, .unset, .unset, .unset] [(.int (128 : Int32))])) rfl (hb hby d5_26) rfl (by decide) (cap := 128) (by decide) (by decide) (by decide) (by decide) (ad := "[[Ljava/lang/Runnable;") (by decide)
  obtain ⟨b6, g6⟩ : ∃ z, z = h0.size := ⟨_, rfl⟩
  rw [← g6] at A6 Xa6 st6
  have ne_a1_b6 : a1 ≠ b6 := Nat.ne_of_lt (Nat.lt_of_lt_of_le E_a1.lt (Nat.le_of_eq g6.symm))
  have ne_ev_b6 : ev ≠ b6 := Nat.ne_of_lt (Nat.lt_of_lt_of_le Ev.lt (Nat.le_of_eq g6.symm))
  have ne_ct_b6 : ct ≠ b6 := Nat.ne_of_lt (Nat.lt_of_lt_of_le Ct.lt (Nat.le_of_eq g6.symm))
  have g_b6 : n0 ≤ b6 := Nat.le_trans (own_le O0) (Nat.le_of_eq g6.symm)
  have O6 := O0.ext E6
  have V6 : Evs Z n0 h6 b6 (128 : Int32) := Evs.new A6 Ov6 (by decide)
  obtain ⟨T7, h7, k7, X7, e7, E7, A7, st7⟩ := newP X6 hx hZ (hw _ (List.mem_of_getElem? (i := 13) rfl)) e6 (g := (mkF m 32 #[.val (.ref a1), .val (.long t1), .second, .val (.int (128 : Int32)), .val (.ref b6), .unset, .unset, .unset, .unset, .unset] [(.int (128 : Int32))])) rfl (hb hby d5_32) rfl (by decide) (cap := 128) (by decide) (by decide) (by decide) (by decide)
  obtain ⟨b7, g7⟩ : ∃ z, z = h6.size := ⟨_, rfl⟩
  rw [← g7] at A7 st7
  have f8 := (E_a1.ext E6)
  have ne_a1_b7 : a1 ≠ b7 := Nat.ne_of_lt (Nat.lt_of_lt_of_le f8.lt (Nat.le_of_eq g7.symm))
  have f9 := (Ev.ext E6)
  have ne_ev_b7 : ev ≠ b7 := Nat.ne_of_lt (Nat.lt_of_lt_of_le f9.lt (Nat.le_of_eq g7.symm))
  have f10 := (Ct.ext E6)
  have ne_ct_b7 : ct ≠ b7 := Nat.ne_of_lt (Nat.lt_of_lt_of_le f10.lt (Nat.le_of_eq g7.symm))
  have ne_b6_b7 : b6 ≠ b7 := Nat.ne_of_lt (Nat.lt_of_lt_of_le V6.lt (Nat.le_of_eq g7.symm))
  have g_b7 : n0 ≤ b7 := Nat.le_trans (own_le O6) (Nat.le_of_eq g7.symm)
  have O7 := O6.ext E7
  have V7 : Cts Z h7 b7 (128 : Int32) k := Cts.new A7 (by decide) hk0
  have pre11 : ∀ t, Steps p.tables e below (T7.setTop (mkF m 39 #[.val (.ref a1), .val (.long t1), .second, .val (.int (128 : Int32)), .val (.ref b6), .val (.ref b7), .val (.int (0 : Int32)), .unset, .unset, .unset] [])) t → Steps p.tables e below (s₁.setTop (entryFrame m #[(.ref a1), (.long t1)] 10)) t := by
    intro t kt
    refine pre0 _ ?_
    show Steps p.tables e below (s₁.setTop (mkF m 0 #[.val (.ref a1), .val (.long t1), .second, .unset, .unset, .unset, .unset, .unset, .unset, .unset] [])) _
    refine XS.aloadN X0.here hx rfl (hb hby d5_0) rfl rfl ?_
    show Steps p.tables e below (s₁.setTop (mkF m 1 #[.val (.ref a1), .val (.long t1), .second, .unset, .unset, .unset, .unset, .unset, .unset, .unset] [(.ref a1)])) _
    refine st1 _ ?_
    show Steps p.tables e below (T1.setTop (mkF m 4 #[.val (.ref a1), .val (.long t1), .second, .unset, .unset, .unset, .unset, .unset, .unset, .unset] [(.ref ev)])) _
    refine X1.arraylength hx (by rw [e1]; exact Ae2.1) (State.isArrayOf_alike hZ.alike Ae2.2.1) (g := (mkF m 4 #[.val (.ref a1), .val (.long t1), .second, .unset, .unset, .unset, .unset, .unset, .unset, .unset] [(.ref ev)])) rfl rfl (hb hby d5_4) _ ?_
    rw [len_of Se2 Ne2]
    show Steps p.tables e below (T1.setTop (mkF m 5 #[.val (.ref a1), .val (.long t1), .second, .unset, .unset, .unset, .unset, .unset, .unset, .unset] [(.int (32 : Int32))])) _
    refine XS.istoreN X1.here hx rfl (hb hby d5_5) rfl (l' := #[.val (.ref a1), .val (.long t1), .second, .val (.int (32 : Int32)), .unset, .unset, .unset, .unset, .unset, .unset]) rfl ?_
    show Steps p.tables e below (T1.setTop (mkF m 6 #[.val (.ref a1), .val (.long t1), .second, .val (.int (32 : Int32)), .unset, .unset, .unset, .unset, .unset, .unset] [])) _
    refine XS.lloadN X1.here hx rfl (hb hby d5_6) rfl ?_
    show Steps p.tables e below (T1.setTop (mkF m 7 #[.val (.ref a1), .val (.long t1), .second, .val (.int (32 : Int32)), .unset, .unset, .unset, .unset, .unset, .unset] [(.long t1)])) _
    refine XS.aloadN X1.here hx rfl (hb hby d5_7) rfl rfl ?_
    show Steps p.tables e below (T1.setTop (mkF m 8 #[.val (.ref a1), .val (.long t1), .second, .val (.int (32 : Int32)), .unset, .unset, .unset, .unset, .unset, .unset] [(.ref a1), (.long t1)])) _
    refine st3 _ ?_
    show Steps p.tables e below (T3.setTop (mkF m 11 #[.val (.ref a1), .val (.long t1), .second, .val (.int (32 : Int32)), .unset, .unset, .unset, .unset, .unset, .unset] [(.long (-1)), (.long t1)])) _
    refine XS.lsub X3.here hx rfl (hb hby d5_11) rfl ?_
    show Steps p.tables e below (T3.setTop (mkF m 12 #[.val (.ref a1), .val (.long t1), .second, .val (.int (32 : Int32)), .unset, .unset, .unset, .unset, .unset, .unset] [(.long (t1 - (-1)))])) _
    refine XS.iloadN X3.here hx rfl (hb hby d5_12) rfl ?_
    show Steps p.tables e below (T3.setTop (mkF m 13 #[.val (.ref a1), .val (.long t1), .second, .val (.int (32 : Int32)), .unset, .unset, .unset, .unset, .unset, .unset] [(.int (32 : Int32)), (.long (t1 - (-1)))])) _
    refine XS.i2l X3.here hx rfl (hb hby d5_13) rfl ?_
    show Steps p.tables e below (T3.setTop (mkF m 14 #[.val (.ref a1), .val (.long t1), .second, .val (.int (32 : Int32)), .unset, .unset, .unset, .unset, .unset, .unset] [(.long ((32 : Int32).toInt64)), (.long (t1 - (-1)))])) _
    refine XS.lcmp X3.here hx rfl (hb hby d5_14) rfl ?_
    show Steps p.tables e below (T3.setTop (mkF m 15 #[.val (.ref a1), .val (.long t1), .second, .val (.int (32 : Int32)), .unset, .unset, .unset, .unset, .unset, .unset] [(.int (lcmpW (t1 - (-1)) ((32 : Int32).toInt64)))])) _
    refine XS.ifNo X3.here hx rfl (hb hby d5_15) rfl ((if0 _ _).trans (flt hl32).1) ?_
    show Steps p.tables e below (T3.setTop (mkF m 18 #[.val (.ref a1), .val (.long t1), .second, .val (.int (32 : Int32)), .unset, .unset, .unset, .unset, .unset, .unset] [])) _
    refine XS.iloadN X3.here hx rfl (hb hby d5_18) rfl ?_
    show Steps p.tables e below (T3.setTop (mkF m 19 #[.val (.ref a1), .val (.long t1), .second, .val (.int (32 : Int32)), .unset, .unset, .unset, .unset, .unset, .unset] [(.int (32 : Int32))])) _
    refine XS.iconst X3.here hx rfl (hb hby d5_19) ?_
    show Steps p.tables e below (T3.setTop (mkF m 20 #[.val (.ref a1), .val (.long t1), .second, .val (.int (32 : Int32)), .unset, .unset, .unset, .unset, .unset, .unset] [(.int (2 : Int32)), (.int (32 : Int32))])) _
    refine XS.imul X3.here hx rfl (hb hby d5_20) rfl ?_
    show Steps p.tables e below (T3.setTop (mkF m 21 #[.val (.ref a1), .val (.long t1), .second, .val (.int (32 : Int32)), .unset, .unset, .unset, .unset, .unset, .unset] [(.int (64 : Int32))])) _
    refine XS.istoreN X3.here hx rfl (hb hby d5_21) rfl (l' := #[.val (.ref a1), .val (.long t1), .second, .val (.int (64 : Int32)), .unset, .unset, .unset, .unset, .unset, .unset]) rfl ?_
    show Steps p.tables e below (T3.setTop (mkF m 22 #[.val (.ref a1), .val (.long t1), .second, .val (.int (64 : Int32)), .unset, .unset, .unset, .unset, .unset, .unset] [])) _
    refine XS.goto X3.here hx rfl (pc0 := 22) (pc' := 6) rfl (hb hby d5_22) (by decide) (by decide) ?_
    show Steps p.tables e below (T3.setTop (mkF m 6 #[.val (.ref a1), .val (.long t1), .second, .val (.int (64 : Int32)), .unset, .unset, .unset, .unset, .unset, .unset] [])) _
    refine XS.lloadN X3.here hx rfl (hb hby d5_6) rfl ?_
    show Steps p.tables e below (T3.setTop (mkF m 7 #[.val (.ref a1), .val (.long t1), .second, .val (.int (64 : Int32)), .unset, .unset, .unset, .unset, .unset, .unset] [(.long t1)])) _
    refine XS.aloadN X3.here hx rfl (hb hby d5_7) rfl rfl ?_
    show Steps p.tables e below (T3.setTop (mkF m 8 #[.val (.ref a1), .val (.long t1), .second, .val (.int (64 : Int32)), .unset, .unset, .unset, .unset, .unset, .unset] [(.ref a1), (.long t1)])) _
    refine st4 _ ?_
    show Steps p.tables e below (T4.setTop (mkF m 11 #[.val (.ref a1), .val (.long t1), .second, .val (.int (64 : Int32)), .unset, .unset, .unset, .unset, .unset, .unset] [(.long (-1)), (.long t1)])) _
    refine XS.lsub X4.here hx rfl (hb hby d5_11) rfl ?_
    show Steps p.tables e below (T4.setTop (mkF m 12 #[.val (.ref a1), .val (.long t1), .second, .val (.int (64 : Int32)), .unset, .unset, .unset, .unset, .unset, .unset] [(.long (t1 - (-1)))])) _
    refine XS.iloadN X4.here hx rfl (hb hby d5_12) rfl ?_
    show Steps p.tables e below (T4.setTop (mkF m 13 #[.val (.ref a1), .val (.long t1), .second, .val (.int (64 : Int32)), .unset, .unset, .unset, .unset, .unset, .unset] [(.int (64 : Int32)), (.long (t1 - (-1)))])) _
    refine XS.i2l X4.here hx rfl (hb hby d5_13) rfl ?_
    show Steps p.tables e below (T4.setTop (mkF m 14 #[.val (.ref a1), .val (.long t1), .second, .val (.int (64 : Int32)), .unset, .unset, .unset, .unset, .unset, .unset] [(.long ((64 : Int32).toInt64)), (.long (t1 - (-1)))])) _
    refine XS.lcmp X4.here hx rfl (hb hby d5_14) rfl ?_
    show Steps p.tables e below (T4.setTop (mkF m 15 #[.val (.ref a1), .val (.long t1), .second, .val (.int (64 : Int32)), .unset, .unset, .unset, .unset, .unset, .unset] [(.int (lcmpW (t1 - (-1)) ((64 : Int32).toInt64)))])) _
    refine XS.ifNo X4.here hx rfl (hb hby d5_15) rfl ((if0 _ _).trans (flt hl64).1) ?_
    show Steps p.tables e below (T4.setTop (mkF m 18 #[.val (.ref a1), .val (.long t1), .second, .val (.int (64 : Int32)), .unset, .unset, .unset, .unset, .unset, .unset] [])) _
    refine XS.iloadN X4.here hx rfl (hb hby d5_18) rfl ?_
    show Steps p.tables e below (T4.setTop (mkF m 19 #[.val (.ref a1), .val (.long t1), .second, .val (.int (64 : Int32)), .unset, .unset, .unset, .unset, .unset, .unset] [(.int (64 : Int32))])) _
    refine XS.iconst X4.here hx rfl (hb hby d5_19) ?_
    show Steps p.tables e below (T4.setTop (mkF m 20 #[.val (.ref a1), .val (.long t1), .second, .val (.int (64 : Int32)), .unset, .unset, .unset, .unset, .unset, .unset] [(.int (2 : Int32)), (.int (64 : Int32))])) _
    refine XS.imul X4.here hx rfl (hb hby d5_20) rfl ?_
    show Steps p.tables e below (T4.setTop (mkF m 21 #[.val (.ref a1), .val (.long t1), .second, .val (.int (64 : Int32)), .unset, .unset, .unset, .unset, .unset, .unset] [(.int (128 : Int32))])) _
    refine XS.istoreN X4.here hx rfl (hb hby d5_21) rfl (l' := #[.val (.ref a1), .val (.long t1), .second, .val (.int (128 : Int32)), .unset, .unset, .unset, .unset, .unset, .unset]) rfl ?_
    show Steps p.tables e below (T4.setTop (mkF m 22 #[.val (.ref a1), .val (.long t1), .second, .val (.int (128 : Int32)), .unset, .unset, .unset, .unset, .unset, .unset] [])) _
    refine XS.goto X4.here hx rfl (pc0 := 22) (pc' := 6) rfl (hb hby d5_22) (by decide) (by decide) ?_
    show Steps p.tables e below (T4.setTop (mkF m 6 #[.val (.ref a1), .val (.long t1), .second, .val (.int (128 : Int32)), .unset, .unset, .unset, .unset, .unset, .unset] [])) _
    refine XS.lloadN X4.here hx rfl (hb hby d5_6) rfl ?_
    show Steps p.tables e below (T4.setTop (mkF m 7 #[.val (.ref a1), .val (.long t1), .second, .val (.int (128 : Int32)), .unset, .unset, .unset, .unset, .unset, .unset] [(.long t1)])) _
    refine XS.aloadN X4.here hx rfl (hb hby d5_7) rfl rfl ?_
    show Steps p.tables e below (T4.setTop (mkF m 8 #[.val (.ref a1), .val (.long t1), .second, .val (.int (128 : Int32)), .unset, .unset, .unset, .unset, .unset, .unset] [(.ref a1), (.long t1)])) _
    refine st5 _ ?_
    show Steps p.tables e below (T5.setTop (mkF m 11 #[.val (.ref a1), .val (.long t1), .second, .val (.int (128 : Int32)), .unset, .unset, .unset, .unset, .unset, .unset] [(.long (-1)), (.long t1)])) _
    refine XS.lsub X5.here hx rfl (hb hby d5_11) rfl ?_
    show Steps p.tables e below (T5.setTop (mkF m 12 #[.val (.ref a1), .val (.long t1), .second, .val (.int (128 : Int32)), .unset, .unset, .unset, .unset, .unset, .unset] [(.long (t1 - (-1)))])) _
    refine XS.iloadN X5.here hx rfl (hb hby d5_12) rfl ?_
    show Steps p.tables e below (T5.setTop (mkF m 13 #[.val (.ref a1), .val (.long t1), .second, .val (.int (128 : Int32)), .unset, .unset, .unset, .unset, .unset, .unset] [(.int (128 : Int32)), (.long (t1 - (-1)))])) _
    refine XS.i2l X5.here hx rfl (hb hby d5_13) rfl ?_
    show Steps p.tables e below (T5.setTop (mkF m 14 #[.val (.ref a1), .val (.long t1), .second, .val (.int (128 : Int32)), .unset, .unset, .unset, .unset, .unset, .unset] [(.long ((128 : Int32).toInt64)), (.long (t1 - (-1)))])) _
    refine XS.lcmp X5.here hx rfl (hb hby d5_14) rfl ?_
    show Steps p.tables e below (T5.setTop (mkF m 15 #[.val (.ref a1), .val (.long t1), .second, .val (.int (128 : Int32)), .unset, .unset, .unset, .unset, .unset, .unset] [(.int (lcmpW (t1 - (-1)) ((128 : Int32).toInt64)))])) _
    refine XS.ifYes X5.here hx rfl (pc0 := 15) (pc' := 25) rfl (hb hby d5_15) rfl ((if0 _ _).trans (tlt hl128).1) (by decide) (by decide) ?_
    show Steps p.tables e below (T5.setTop (mkF m 25 #[.val (.ref a1), .val (.long t1), .second, .val (.int (128 : Int32)), .unset, .unset, .unset, .unset, .unset, .unset] [])) _
    refine XS.iloadN X5.here hx rfl (hb hby d5_25) rfl ?_
    show Steps p.tables e below (T5.setTop (mkF m 26 #[.val (.ref a1), .val (.long t1), .second, .val (.int (128 : Int32)), .unset, .unset, .unset, .unset, .unset, .unset] [(.int (128 : Int32))])) _
    refine st6 _ ?_
    show Steps p.tables e below (T6.setTop (mkF m 29 #[.val (.ref a1), .val (.long t1), .second, .val (.int (128 : Int32)), .unset, .unset, .unset, .unset, .unset, .unset] [(.ref b6)])) _
    refine XS.astore X6.here hx rfl (hb hby d5_29) rfl rfl (l' := #[.val (.ref a1), .val (.long t1), .second, .val (.int (128 : Int32)), .val (.ref b6), .unset, .unset, .unset, .unset, .unset]) rfl ?_
    show Steps p.tables e below (T6.setTop (mkF m 31 #[.val (.ref a1), .val (.long t1), .second, .val (.int (128 : Int32)), .val (.ref b6), .unset, .unset, .unset, .unset, .unset] [])) _
    refine XS.iloadN X6.here hx rfl (hb hby d5_31) rfl ?_
    show Steps p.tables e below (T6.setTop (mkF m 32 #[.val (.ref a1), .val (.long t1), .second, .val (.int (128 : Int32)), .val (.ref b6), .unset, .unset, .unset, .unset, .unset] [(.int (128 : Int32))])) _
    refine st7 _ ?_
    show Steps p.tables e below (T7.setTop (mkF m 34 #[.val (.ref a1), .val (.long t1), .second, .val (.int (128 : Int32)), .val (.ref b6), .unset, .unset, .unset, .unset, .unset] [(.ref b7)])) _
    refine XS.astore X7.here hx rfl (hb hby d5_34) rfl rfl (l' := #[.val (.ref a1), .val (.long t1), .second, .val (.int (128 : Int32)), .val (.ref b6), .val (.ref b7), .unset, .unset, .unset, .unset]) rfl ?_
    show Steps p.tables e below (T7.setTop (mkF m 36 #[.val (.ref a1), .val (.long t1), .second, .val (.int (128 : Int32)), .val (.ref b6), .val (.ref b7), .unset, .unset, .unset, .unset] [])) _
    refine XS.iconst X7.here hx rfl (hb hby d5_36) ?_
    show Steps p.tables e below (T7.setTop (mkF m 37 #[.val (.ref a1), .val (.long t1), .second, .val (.int (128 : Int32)), .val (.ref b6), .val (.ref b7), .unset, .unset, .unset, .unset] [(.int (0 : Int32))])) _
    refine XS.istore X7.here hx rfl (hb hby d5_37) rfl (l' := #[.val (.ref a1), .val (.long t1), .second, .val (.int (128 : Int32)), .val (.ref b6), .val (.ref b7), .val (.int (0 : Int32)), .unset, .unset, .unset]) rfl ?_
    exact kt
  have f13 := (f8.ext E7)
  have f14 := ((F_events.ext E6).ext E7)
  have f15 := ((F_counts.ext E6).ext E7)
  have f16 := ((F_mask.ext E6).ext E7)
  have f17 := ((F_current.ext E6).ext E7)
  have f18 := ((F_lastTick.ext E6).ext E7)
  have f19 := ((F_pending.ext E6).ext E7)
  have f20 := ((F_droppedLate.ext E6).ext E7)
  have f21 := (f9.ext E7)
  have f22 := (f10.ext E7)
  have hDF12 : DueF Z n0 h7 a1 q1 (32 : Int32) P k ev ct dd := ⟨gev, gct, f13, f14, f15, f16, f17, f18, f19, f20, f21, f22⟩
  have f23 := (V6.ext E7)
  obtain ⟨Ta, ha, locsa, hda, toa, Xa, ea, Oa, Na, Da, Va, Ca, sta⟩ := turnA X7 hx hZ hw hby hml hown e7 O7 N0 (t1 := t1) hDF12 f23 V7 g1 g_b6 g_b7 ne_ev_b6 ne_ct_b7 (own_to128) (i := (0 : Int32)) (by decide) (by decide)
  obtain ⟨Tb, hb_, locsb, hdb, tob, Xb, eb, Ob, Nb, Db, Vb, Cb, stb⟩ := loopB hx hZ hw hby hml hown g1 g_b6 g_b7 ne_ev_b6 ne_ct_b7 own_to128 31 (t1 := t1) (i := ((0 : Int32) + (1 : Int32))) (to := toa) (hd := hda) Xa ea Oa Na Da Va Ca (by decide) (by decide) (by decide)
  have hD_ := Db; obtain ⟨gevb, gctb, E_a1b, F_eventsb, F_countsb, F_maskb, F_currentb, F_lastTickb, F_pendingb, F_droppedLateb, Evb, Ctb⟩ := hD_
  obtain ⟨T24, X24, e24, st24⟩ := getF Xb hx hZ hown (host := "") (Or.inl (hw _ (List.mem_of_getElem? (i := 11) rfl))) Via.refl eb F_eventsb (g := (mkF m 42 #[.val (.ref a1), .val (.long t1), .second, .val (.int (128 : Int32)), .val (.ref b6), .val (.ref b7), .val (.int (32 : Int32)), .val (.long hdb), .second, .val (.int tob)] [(.ref a1), (.int (32 : Int32))])) rfl rfl (hb hby d5_42)
  have Vc25 := Evb
  obtain ⟨ce25, Ae25, Oe25, Se25, Ne25, He25⟩ := Vc25
  obtain ⟨T26, h26, X26, e26, W26, st26⟩ := putF X24 hx hZ hown (host := "") (Or.inl (hw _ (List.mem_of_getElem? (i := 11) rfl))) Via.refl e24 F_eventsb E_a1b (Or.inl (hw _ (List.mem_of_getElem? (i := 12) rfl))) (hw _ (List.mem_of_getElem? (i := 1) rfl)) (ty := (.array (.array (.object "java/lang/Runnable")))) (by decide) rfl rfl (g := (mkF m 113 #[.val (.ref a1), .val (.long t1), .second, .val (.int (128 : Int32)), .val (.ref b6), .val (.ref b7), .val (.int (32 : Int32)), .val (.long hdb), .second, .val (.int tob)] [(.ref b6), (.ref a1)])) rfl rfl (hb hby d5_113)
  have Fw26 := F_eventsb.same W26
  have O26 := Ob.wr W26 g1
  have N26 := Fr.snoc X26 Nb g1
  have f27 := (E_a1b.wr W26)
  have f28 := (F_countsb.other W26 (Or.inr (slot_ne (Or.inl (hw _ (List.mem_of_getElem? (i := 15) rfl))) (Or.inl (hw _ (List.mem_of_getElem? (i := 12) rfl))) (by decide) (t := (.array .int)) (t' := (.array (.array (.object "java/lang/Runnable")))) (by decide) (by decide))))
  obtain ⟨T29, h29, X29, e29, W29, st29⟩ := putF X26 hx hZ hown (host := "") (Or.inl (hw _ (List.mem_of_getElem? (i := 14) rfl))) Via.refl e26 f28 f27 (Or.inl (hw _ (List.mem_of_getElem? (i := 15) rfl))) (hw _ (List.mem_of_getElem? (i := 1) rfl)) (ty := (.array .int)) (by decide) rfl rfl (g := (mkF m 119 #[.val (.ref a1), .val (.long t1), .second, .val (.int (128 : Int32)), .val (.ref b6), .val (.ref b7), .val (.int (32 : Int32)), .val (.long hdb), .second, .val (.int tob)] [(.ref b7), (.ref a1)])) rfl rfl (hb hby d5_119)
  have Fw29 := f28.same W29
  have O29 := O26.wr W29 g1
  have N29 := Fr.snoc X29 N26 g1
  have f30 := (f27.wr W29)
  have f31 := ((F_maskb.other W26 (Or.inr (slot_ne (Or.inl (hw _ (List.mem_of_getElem? (i := 17) rfl))) (Or.inl (hw _ (List.mem_of_getElem? (i := 12) rfl))) (by decide) (t := .int) (t' := (.array (.array (.object "java/lang/Runnable")))) (by decide) (by decide)))).other W29 (Or.inr (slot_ne (Or.inl (hw _ (List.mem_of_getElem? (i := 17) rfl))) (Or.inl (hw _ (List.mem_of_getElem? (i := 15) rfl))) (by decide) (t := .int) (t' := (.array .int)) (by decide) (by decide))))
  obtain ⟨T32, h32, X32, e32, W32, st32⟩ := putF X29 hx hZ hown (host := "") (Or.inl (hw _ (List.mem_of_getElem? (i := 16) rfl))) Via.refl e29 f31 f30 (Or.inl (hw _ (List.mem_of_getElem? (i := 17) rfl))) (hw _ (List.mem_of_getElem? (i := 1) rfl)) (ty := .int) (by decide) rfl rfl (g := (mkF m 126 #[.val (.ref a1), .val (.long t1), .second, .val (.int (128 : Int32)), .val (.ref b6), .val (.ref b7), .val (.int (32 : Int32)), .val (.long hdb), .second, .val (.int tob)] [(.int ((128 : Int32) - (1 : Int32))), (.ref a1)])) rfl rfl (hb hby d5_126)
  have Fw32 := f31.same W32
  have O32 := O29.wr W32 g1
  have N32 := Fr.snoc X32 N29 g1
  have f33 := (f30.wr W32)
  have f34 := ((Fw26.other W29 (Or.inr (slot_ne (Or.inl (hw _ (List.mem_of_getElem? (i := 12) rfl))) (Or.inl (hw _ (List.mem_of_getElem? (i := 15) rfl))) (by decide) (t := (.array (.array (.object "java/lang/Runnable")))) (t' := (.array .int)) (by decide) (by decide)))).other W32 (Or.inr (slot_ne (Or.inl (hw _ (List.mem_of_getElem? (i := 12) rfl))) (Or.inl (hw _ (List.mem_of_getElem? (i := 17) rfl))) (by decide) (t := (.array (.array (.object "java/lang/Runnable")))) (t' := .int) (by decide) (by decide))))
  have f35 := (Fw29.other W32 (Or.inr (slot_ne (Or.inl (hw _ (List.mem_of_getElem? (i := 15) rfl))) (Or.inl (hw _ (List.mem_of_getElem? (i := 17) rfl))) (by decide) (t := (.array .int)) (t' := .int) (by decide) (by decide))))
  have f36 := (((F_currentb.other W26 (Or.inr (slot_ne (Or.inl (hw _ (List.mem_of_getElem? (i := 20) rfl))) (Or.inl (hw _ (List.mem_of_getElem? (i := 12) rfl))) (by decide) (t := .long) (t' := (.array (.array (.object "java/lang/Runnable")))) (by decide) (by decide)))).other W29 (Or.inr (slot_ne (Or.inl (hw _ (List.mem_of_getElem? (i := 20) rfl))) (Or.inl (hw _ (List.mem_of_getElem? (i := 15) rfl))) (by decide) (t := .long) (t' := (.array .int)) (by decide) (by decide)))).other W32 (Or.inr (slot_ne (Or.inl (hw _ (List.mem_of_getElem? (i := 20) rfl))) (Or.inl (hw _ (List.mem_of_getElem? (i := 17) rfl))) (by decide) (t := .long) (t' := .int) (by decide) (by decide))))
  have f37 := (((F_lastTickb.other W26 (Or.inr (slot_ne (Or.inr (hw _ (List.mem_of_getElem? (i := 22) rfl))) (Or.inl (hw _ (List.mem_of_getElem? (i := 12) rfl))) (by decide) (t := .long) (t' := (.array (.array (.object "java/lang/Runnable")))) (by decide) (by decide)))).other W29 (Or.inr (slot_ne (Or.inr (hw _ (List.mem_of_getElem? (i := 22) rfl))) (Or.inl (hw _ (List.mem_of_getElem? (i := 15) rfl))) (by decide) (t := .long) (t' := (.array .int)) (by decide) (by decide)))).other W32 (Or.inr (slot_ne (Or.inr (hw _ (List.mem_of_getElem? (i := 22) rfl))) (Or.inl (hw _ (List.mem_of_getElem? (i := 17) rfl))) (by decide) (t := .long) (t' := .int) (by decide) (by decide))))
  have f38 := (((F_pendingb.other W26 (Or.inr (slot_ne (Or.inl (hw _ (List.mem_of_getElem? (i := 29) rfl))) (Or.inl (hw _ (List.mem_of_getElem? (i := 12) rfl))) (by decide) (t := .long) (t' := (.array (.array (.object "java/lang/Runnable")))) (by decide) (by decide)))).other W29 (Or.inr (slot_ne (Or.inl (hw _ (List.mem_of_getElem? (i := 29) rfl))) (Or.inl (hw _ (List.mem_of_getElem? (i := 15) rfl))) (by decide) (t := .long) (t' := (.array .int)) (by decide) (by decide)))).other W32 (Or.inr (slot_ne (Or.inl (hw _ (List.mem_of_getElem? (i := 29) rfl))) (Or.inl (hw _ (List.mem_of_getElem? (i := 17) rfl))) (by decide) (t := .long) (t' := .int) (by decide) (by decide))))
  have f39 := (((F_droppedLateb.other W26 (Or.inr (slot_ne (Or.inl (hw _ (List.mem_of_getElem? (i := 43) rfl))) (Or.inl (hw _ (List.mem_of_getElem? (i := 12) rfl))) (by decide) (t := .boolean) (t' := (.array (.array (.object "java/lang/Runnable")))) (by decide) (by decide)))).other W29 (Or.inr (slot_ne (Or.inl (hw _ (List.mem_of_getElem? (i := 43) rfl))) (Or.inl (hw _ (List.mem_of_getElem? (i := 15) rfl))) (by decide) (t := .boolean) (t' := (.array .int)) (by decide) (by decide)))).other W32 (Or.inr (slot_ne (Or.inl (hw _ (List.mem_of_getElem? (i := 43) rfl))) (Or.inl (hw _ (List.mem_of_getElem? (i := 17) rfl))) (by decide) (t := .boolean) (t' := .int) (by decide) (by decide))))
  have f40 := (((Vb.other W26 (Ne.symm ne_a1_b6)).other W29 (Ne.symm ne_a1_b6)).other W32 (Ne.symm ne_a1_b6))
  have f41 := (((Cb.other W26 (Ne.symm ne_a1_b7)).other W29 (Ne.symm ne_a1_b7)).other W32 (Ne.symm ne_a1_b7))
  obtain ⟨fs, hr, hrun, hended, hW, hsame⟩ := X32.leave (v := none) (fun _ => rfl)
  refine ⟨_, _, pre11 _ ?_, hrun, hended, _, _, rfl, ?_, ⟨_, rfl⟩, hW, hsame.mono (by decide) (by decide)⟩
  · show Steps p.tables e below (T7.setTop (mkF m 39 #[.val (.ref a1), .val (.long t1), .second, .val (.int (128 : Int32)), .val (.ref b6), .val (.ref b7), .val (.int (0 : Int32)), .unset, .unset, .unset] [])) _
    refine sta _ ?_
    refine stb _ ?_
    show Steps p.tables e below (Tb.setTop (mkF m 39 #[.val (.ref a1), .val (.long t1), .second, .val (.int (128 : Int32)), .val (.ref b6), .val (.ref b7), .val (.int (32 : Int32)), .val (.long hdb), .second, .val (.int tob)] [])) _
    refine XS.iload Xb.here hx rfl (hb hby d5_39) rfl ?_
    show Steps p.tables e below (Tb.setTop (mkF m 41 #[.val (.ref a1), .val (.long t1), .second, .val (.int (128 : Int32)), .val (.ref b6), .val (.ref b7), .val (.int (32 : Int32)), .val (.long hdb), .second, .val (.int tob)] [(.int (32 : Int32))])) _
    refine XS.aloadN Xb.here hx rfl (hb hby d5_41) rfl rfl ?_
    show Steps p.tables e below (Tb.setTop (mkF m 42 #[.val (.ref a1), .val (.long t1), .second, .val (.int (128 : Int32)), .val (.ref b6), .val (.ref b7), .val (.int (32 : Int32)), .val (.long hdb), .second, .val (.int tob)] [(.ref a1), (.int (32 : Int32))])) _
    refine st24 _ ?_
    show Steps p.tables e below (T24.setTop (mkF m 45 #[.val (.ref a1), .val (.long t1), .second, .val (.int (128 : Int32)), .val (.ref b6), .val (.ref b7), .val (.int (32 : Int32)), .val (.long hdb), .second, .val (.int tob)] [(.ref ev), (.int (32 : Int32))])) _
    refine X24.arraylength hx (by rw [e24]; exact Ae25.1) (State.isArrayOf_alike hZ.alike Ae25.2.1) (g := (mkF m 45 #[.val (.ref a1), .val (.long t1), .second, .val (.int (128 : Int32)), .val (.ref b6), .val (.ref b7), .val (.int (32 : Int32)), .val (.long hdb), .second, .val (.int tob)] [(.ref ev), (.int (32 : Int32))])) rfl rfl (hb hby d5_45) _ ?_
    rw [len_of Se25 Ne25]
    show Steps p.tables e below (T24.setTop (mkF m 46 #[.val (.ref a1), .val (.long t1), .second, .val (.int (128 : Int32)), .val (.ref b6), .val (.ref b7), .val (.int (32 : Int32)), .val (.long hdb), .second, .val (.int tob)] [(.int (32 : Int32)), (.int (32 : Int32))])) _
    refine XS.icmpYes X24.here hx rfl (pc0 := 46) (pc' := 110) rfl (hb hby d5_46) rfl (flt (by decide : ¬ ((32 : Int32) < (32 : Int32)))).2.1 (by decide) (by decide) ?_
    show Steps p.tables e below (T24.setTop (mkF m 110 #[.val (.ref a1), .val (.long t1), .second, .val (.int (128 : Int32)), .val (.ref b6), .val (.ref b7), .val (.int (32 : Int32)), .val (.long hdb), .second, .val (.int tob)] [])) _
    refine XS.aloadN X24.here hx rfl (hb hby d5_110) rfl rfl ?_
    show Steps p.tables e below (T24.setTop (mkF m 111 #[.val (.ref a1), .val (.long t1), .second, .val (.int (128 : Int32)), .val (.ref b6), .val (.ref b7), .val (.int (32 : Int32)), .val (.long hdb), .second, .val (.int tob)] [(.ref a1)])) _
    refine XS.aload X24.here hx rfl (hb hby d5_111) rfl rfl ?_
    show Steps p.tables e below (T24.setTop (mkF m 113 #[.val (.ref a1), .val (.long t1), .second, .val (.int (128 : Int32)), .val (.ref b6), .val (.ref b7), .val (.int (32 : Int32)), .val (.long hdb), .second, .val (.int tob)] [(.ref b6), (.ref a1)])) _
    refine st26 _ ?_
    show Steps p.tables e below (T26.setTop (mkF m 116 #[.val (.ref a1), .val (.long t1), .second, .val (.int (128 : Int32)), .val (.ref b6), .val (.ref b7), .val (.int (32 : Int32)), .val (.long hdb), .second, .val (.int tob)] [])) _
    refine XS.aloadN X26.here hx rfl (hb hby d5_116) rfl rfl ?_
    show Steps p.tables e below (T26.setTop (mkF m 117 #[.val (.ref a1), .val (.long t1), .second, .val (.int (128 : Int32)), .val (.ref b6), .val (.ref b7), .val (.int (32 : Int32)), .val (.long hdb), .second, .val (.int tob)] [(.ref a1)])) _
    refine XS.aload X26.here hx rfl (hb hby d5_117) rfl rfl ?_
    show Steps p.tables e below (T26.setTop (mkF m 119 #[.val (.ref a1), .val (.long t1), .second, .val (.int (128 : Int32)), .val (.ref b6), .val (.ref b7), .val (.int (32 : Int32)), .val (.long hdb), .second, .val (.int tob)] [(.ref b7), (.ref a1)])) _
    refine st29 _ ?_
    show Steps p.tables e below (T29.setTop (mkF m 122 #[.val (.ref a1), .val (.long t1), .second, .val (.int (128 : Int32)), .val (.ref b6), .val (.ref b7), .val (.int (32 : Int32)), .val (.long hdb), .second, .val (.int tob)] [])) _
    refine XS.aloadN X29.here hx rfl (hb hby d5_122) rfl rfl ?_
    show Steps p.tables e below (T29.setTop (mkF m 123 #[.val (.ref a1), .val (.long t1), .second, .val (.int (128 : Int32)), .val (.ref b6), .val (.ref b7), .val (.int (32 : Int32)), .val (.long hdb), .second, .val (.int tob)] [(.ref a1)])) _
    refine XS.iloadN X29.here hx rfl (hb hby d5_123) rfl ?_
    show Steps p.tables e below (T29.setTop (mkF m 124 #[.val (.ref a1), .val (.long t1), .second, .val (.int (128 : Int32)), .val (.ref b6), .val (.ref b7), .val (.int (32 : Int32)), .val (.long hdb), .second, .val (.int tob)] [(.int (128 : Int32)), (.ref a1)])) _
    refine XS.iconst X29.here hx rfl (hb hby d5_124) ?_
    show Steps p.tables e below (T29.setTop (mkF m 125 #[.val (.ref a1), .val (.long t1), .second, .val (.int (128 : Int32)), .val (.ref b6), .val (.ref b7), .val (.int (32 : Int32)), .val (.long hdb), .second, .val (.int tob)] [(.int (1 : Int32)), (.int (128 : Int32)), (.ref a1)])) _
    refine XS.isub X29.here hx rfl (hb hby d5_125) rfl ?_
    show Steps p.tables e below (T29.setTop (mkF m 126 #[.val (.ref a1), .val (.long t1), .second, .val (.int (128 : Int32)), .val (.ref b6), .val (.ref b7), .val (.int (32 : Int32)), .val (.long hdb), .second, .val (.int tob)] [(.int ((128 : Int32) - (1 : Int32))), (.ref a1)])) _
    refine st32 _ ?_
    show Steps p.tables e below (T32.setTop (mkF m 129 #[.val (.ref a1), .val (.long t1), .second, .val (.int (128 : Int32)), .val (.ref b6), .val (.ref b7), .val (.int (32 : Int32)), .val (.long hdb), .second, .val (.int tob)] [])) _
    exact X32.returnOut hx Bd.returns (hb hby d5_129) hr
  · show Q_wid_32_128 Z a1 t1 q1 P k h0 n0 _ T32.heap _
    rw [e32]
    exact ⟨rfl, N32, O32, ⟨b6, b7, _, g_b6, g_b7, f33, f34, f35, Fw32, f36, f37, f38, f39, f40, f41⟩⟩
theorem ef_wid_64_128 (m : MethodId) (a1 : Addr) (t1 : Int64) : entryFrame m #[(.ref a1), (.long t1)] 10 = mkF m 0 #[.val (.ref a1), .val (.long t1), .second, .unset, .unset, .unset, .unset, .unset, .unset, .unset] [] := by first | (simp [entryFrame, mkF, argsToLocals, Value.category]; done) | rfl
def Q_wid_64_128 (Z : State) (a1 : Addr) (t1 q1 P : Int64) (k : Int32) (h0 : Heap) (n0 : Nat) (v : Option Value) (h : Heap) (L : List Loc) : Prop := v = none ∧ Fr n0 L ∧ Old Z n0 h ∧ Due Z n0 h a1 q1 (128 : Int32) P k
set_option maxRecDepth 65536 in
set_option maxHeartbeats 40000000 in
theorem wid_64_128 (l : Launch) (Z : State) (a0 : Array Value) (hw : ∀ d ∈ tables_1, d.before a0 Z = true) (ws : List Jvm.Cond) (a1 : Addr) (t1 q1 P : Int64) (k : Int32) (h0 : Heap) (n0 : Nat) (O0 : Old Z n0 h0) (hD : Due Z n0 h0 a1 q1 (64 : Int32) P k) (g1 : n0 ≤ a1) (hk0 : ¬ k < 0) (hl64 : ¬ ((lcmpW (t1 - (-1)) ((64 : Int32).toInt64)) < (0 : Int32))) (hl128 : (lcmpW (t1 - (-1)) ((128 : Int32).toInt64)) < (0 : Int32)) :
    MetFree l (⟨"com/example/januswire/januswire/sim/DueEvents", "widen", "(J)V"⟩ : MethodName) (head1 (Jvm.Cond.code (⟨"com/example/januswire/januswire/sim/DueEvents", "widen", "(J)V"⟩ : MethodName) prog_187_method_7_code 10 none :: ws) ({ frames := 0, cells := 2, slots := 256, locals := 0 } : Room)) (fun a U => a = #[(.ref a1), (.long t1)] ∧ Z.Warmed39 U.vm ∧ U.heap = h0) (fun _ _ _ _ _ => True) (fun _ U o U' => ∃ v L, o = .returned v ∧ Q_wid_64_128 Z a1 t1 q1 P k h0 n0 v U'.heap L ∧ FrameEnd U o U' L ({ frames := 0, cells := 2, slots := 256, locals := 0 } : Room).cells ({ frames := 0, cells := 2, slots := 256, locals := 0 } : Room).slots) := by
  refine MetFree.of_bodySF (plainFor_of_name pn_com_example_januswire_januswire_sim_DueEvents) hisR ?_
  intro p e s m args below meth c s₁ Bd hml0 hP hK
  obtain ⟨rfl, hZ, hh⟩ := hP
  have hx := Bd.exec
  have hby := Bd.bytes
  have hml : c.maxLocals = 10 := hml0
  have hown : s.vm.findClass "com/example/januswire/januswire/sim/DueEvents" = some m.cls := findClass_of_methodNamed Bd.named
  have hnm := (name_of_methodNamed Bd.named Bd.method).1
  have X0 : Stand p l e ({ frames := 0, cells := 2, slots := 256, locals := 0 } : Room) s m #[(.ref a1), (.long t1)] below meth c s₁ [] 0 0 := Stand.of_body Bd
  have e0 : s₁.heap = h0 := by rw [← hh, Bd.state]; rfl
  have N0 := Fr.nil n0
  have pre0 : ∀ t, Steps p.tables e below (s₁.setTop (mkF m 0 #[.val (.ref a1), .val (.long t1), .second, .unset, .unset, .unset, .unset, .unset, .unset, .unset] [])) t → Steps p.tables e below (s₁.setTop (entryFrame m #[(.ref a1), (.long t1)] 10)) t := fun t k => castTop (ef_wid_64_128 m a1 t1) k
  have hD__ := hD; obtain ⟨ev, ct, dd, hDF⟩ := hD__
  have hD_ := hDF; obtain ⟨gev, gct, E_a1, F_events, F_counts, F_mask, F_current, F_lastTick, F_pending, F_droppedLate, Ev, Ct⟩ := hD_
  have ne_d_e : a1 ≠ ev := own_de E_a1 (hw _ (List.mem_of_getElem? (i := 1) rfl)) Ev
  have ne_d_c : a1 ≠ ct := own_dc E_a1 (hw _ (List.mem_of_getElem? (i := 1) rfl)) Ct
  have ne_e_c : ev ≠ ct := own_ec Ev Ct
  obtain ⟨T1, X1, e1, st1⟩ := getF X0 hx hZ hown (host := "") (Or.inl (hw _ (List.mem_of_getElem? (i := 11) rfl))) Via.refl e0 F_events (g := (mkF m 1 #[.val (.ref a1), .val (.long t1), .second, .unset, .unset, .unset, .unset, .unset, .unset, .unset] [(.ref a1)])) rfl rfl (hb hby d5_1)
  have Vc2 := Ev
  obtain ⟨ce2, Ae2, Oe2, Se2, Ne2, He2⟩ := Vc2
  obtain ⟨T3, X3, e3, st3⟩ := getF X1 hx hZ hown (host := "") (Or.inl (hw _ (List.mem_of_getElem? (i := 19) rfl))) Via.refl e1 F_current (g := (mkF m 8 #[.val (.ref a1), .val (.long t1), .second, .val (.int (64 : Int32)), .unset, .unset, .unset, .unset, .unset, .unset] [(.ref a1), (.long t1)])) rfl rfl (hb hby d5_8)
  obtain ⟨T4, X4, e4, st4⟩ := getF X3 hx hZ hown (host := "") (Or.inl (hw _ (List.mem_of_getElem? (i := 19) rfl))) Via.refl e3 F_current (g := (mkF m 8 #[.val (.ref a1), .val (.long t1), .second, .val (.int (128 : Int32)), .unset, .unset, .unset, .unset, .unset, .unset] [(.ref a1), (.long t1)])) rfl rfl (hb hby d5_8)
  obtain ⟨T5, h5, k5, X5, e5, E5, A5, Xa5, Ov5, st5⟩ := newRA X4 hx hZ (ty := .object "java/lang/Runnable") hown (by decide) (hw _ (List.mem_of_getElem? (i := 9) rfl)) (hw _ (List.mem_of_getElem? (i := 10) rfl)) e4 (g := (mkF m 26 #[.val (.ref a1), .val (.long t1), .second, .val (.int (128 : Int32)), .unset, .unset, .unset, .unset, .unset, .unset] [(.int (128 : Int32))])) rfl (hb hby d5_26) rfl (by decide) (cap := 128) (by decide) (by decide) (by decide) (by decide) (ad := "[[Ljava/lang/Runnable;") (by decide)
  obtain ⟨b5, g5⟩ : ∃ z, z = h0.size := ⟨_, rfl⟩
  rw [← g5] at A5 Xa5 st5
  have ne_a1_b5 : a1 ≠ b5 := Nat.ne_of_lt (Nat.lt_of_lt_of_le E_a1.lt (Nat.le_of_eq g5.symm))
  have ne_ev_b5 : ev ≠ b5 := Nat.ne_of_lt (Nat.lt_of_lt_of_le Ev.lt (Nat.le_of_eq g5.symm))
  have ne_ct_b5 : ct ≠ b5 := Nat.ne_of_lt (Nat.lt_of_lt_of_le Ct.lt (Nat.le_of_eq g5.symm))
  have g_b5 : n0 ≤ b5 := Nat.le_trans (own_le O0) (Nat.le_of_eq g5.symm)
  have O5 := O0.ext E5
  have V5 : Evs Z n0 h5 b5 (128 : Int32) := Evs.new A5 Ov5 (by decide)
  obtain ⟨T6, h6, k6, X6, e6, E6, A6, st6⟩ := newP X5 hx hZ (hw _ (List.mem_of_getElem? (i := 13) rfl)) e5 (g := (mkF m 32 #[.val (.ref a1), .val (.long t1), .second, .val (.int (128 : Int32)), .val (.ref b5), .unset, .unset, .unset, .unset, .unset] [(.int (128 : Int32))])) rfl (hb hby d5_32) rfl (by decide) (cap := 128) (by decide) (by decide) (by decide) (by decide)
  obtain ⟨b6, g6⟩ : ∃ z, z = h5.size := ⟨_, rfl⟩
  rw [← g6] at A6 st6
  have f7 := (E_a1.ext E5)
  have ne_a1_b6 : a1 ≠ b6 := Nat.ne_of_lt (Nat.lt_of_lt_of_le f7.lt (Nat.le_of_eq g6.symm))
  have f8 := (Ev.ext E5)
  have ne_ev_b6 : ev ≠ b6 := Nat.ne_of_lt (Nat.lt_of_lt_of_le f8.lt (Nat.le_of_eq g6.symm))
  have f9 := (Ct.ext E5)
  have ne_ct_b6 : ct ≠ b6 := Nat.ne_of_lt (Nat.lt_of_lt_of_le f9.lt (Nat.le_of_eq g6.symm))
  have ne_b5_b6 : b5 ≠ b6 := Nat.ne_of_lt (Nat.lt_of_lt_of_le V5.lt (Nat.le_of_eq g6.symm))
  have g_b6 : n0 ≤ b6 := Nat.le_trans (own_le O5) (Nat.le_of_eq g6.symm)
  have O6 := O5.ext E6
  have V6 : Cts Z h6 b6 (128 : Int32) k := Cts.new A6 (by decide) hk0
  have pre10 : ∀ t, Steps p.tables e below (T6.setTop (mkF m 39 #[.val (.ref a1), .val (.long t1), .second, .val (.int (128 : Int32)), .val (.ref b5), .val (.ref b6), .val (.int (0 : Int32)), .unset, .unset, .unset] [])) t → Steps p.tables e below (s₁.setTop (entryFrame m #[(.ref a1), (.long t1)] 10)) t := by
    intro t kt
    refine pre0 _ ?_
    show Steps p.tables e below (s₁.setTop (mkF m 0 #[.val (.ref a1), .val (.long t1), .second, .unset, .unset, .unset, .unset, .unset, .unset, .unset] [])) _
    refine XS.aloadN X0.here hx rfl (hb hby d5_0) rfl rfl ?_
    show Steps p.tables e below (s₁.setTop (mkF m 1 #[.val (.ref a1), .val (.long t1), .second, .unset, .unset, .unset, .unset, .unset, .unset, .unset] [(.ref a1)])) _
    refine st1 _ ?_
    show Steps p.tables e below (T1.setTop (mkF m 4 #[.val (.ref a1), .val (.long t1), .second, .unset, .unset, .unset, .unset, .unset, .unset, .unset] [(.ref ev)])) _
    refine X1.arraylength hx (by rw [e1]; exact Ae2.1) (State.isArrayOf_alike hZ.alike Ae2.2.1) (g := (mkF m 4 #[.val (.ref a1), .val (.long t1), .second, .unset, .unset, .unset, .unset, .unset, .unset, .unset] [(.ref ev)])) rfl rfl (hb hby d5_4) _ ?_
    rw [len_of Se2 Ne2]
    show Steps p.tables e below (T1.setTop (mkF m 5 #[.val (.ref a1), .val (.long t1), .second, .unset, .unset, .unset, .unset, .unset, .unset, .unset] [(.int (64 : Int32))])) _
    refine XS.istoreN X1.here hx rfl (hb hby d5_5) rfl (l' := #[.val (.ref a1), .val (.long t1), .second, .val (.int (64 : Int32)), .unset, .unset, .unset, .unset, .unset, .unset]) rfl ?_
    show Steps p.tables e below (T1.setTop (mkF m 6 #[.val (.ref a1), .val (.long t1), .second, .val (.int (64 : Int32)), .unset, .unset, .unset, .unset, .unset, .unset] [])) _
    refine XS.lloadN X1.here hx rfl (hb hby d5_6) rfl ?_
    show Steps p.tables e below (T1.setTop (mkF m 7 #[.val (.ref a1), .val (.long t1), .second, .val (.int (64 : Int32)), .unset, .unset, .unset, .unset, .unset, .unset] [(.long t1)])) _
    refine XS.aloadN X1.here hx rfl (hb hby d5_7) rfl rfl ?_
    show Steps p.tables e below (T1.setTop (mkF m 8 #[.val (.ref a1), .val (.long t1), .second, .val (.int (64 : Int32)), .unset, .unset, .unset, .unset, .unset, .unset] [(.ref a1), (.long t1)])) _
    refine st3 _ ?_
    show Steps p.tables e below (T3.setTop (mkF m 11 #[.val (.ref a1), .val (.long t1), .second, .val (.int (64 : Int32)), .unset, .unset, .unset, .unset, .unset, .unset] [(.long (-1)), (.long t1)])) _
    refine XS.lsub X3.here hx rfl (hb hby d5_11) rfl ?_
    show Steps p.tables e below (T3.setTop (mkF m 12 #[.val (.ref a1), .val (.long t1), .second, .val (.int (64 : Int32)), .unset, .unset, .unset, .unset, .unset, .unset] [(.long (t1 - (-1)))])) _
    refine XS.iloadN X3.here hx rfl (hb hby d5_12) rfl ?_
    show Steps p.tables e below (T3.setTop (mkF m 13 #[.val (.ref a1), .val (.long t1), .second, .val (.int (64 : Int32)), .unset, .unset, .unset, .unset, .unset, .unset] [(.int (64 : Int32)), (.long (t1 - (-1)))])) _
    refine XS.i2l X3.here hx rfl (hb hby d5_13) rfl ?_
    show Steps p.tables e below (T3.setTop (mkF m 14 #[.val (.ref a1), .val (.long t1), .second, .val (.int (64 : Int32)), .unset, .unset, .unset, .unset, .unset, .unset] [(.long ((64 : Int32).toInt64)), (.long (t1 - (-1)))])) _
    refine XS.lcmp X3.here hx rfl (hb hby d5_14) rfl ?_
    show Steps p.tables e below (T3.setTop (mkF m 15 #[.val (.ref a1), .val (.long t1), .second, .val (.int (64 : Int32)), .unset, .unset, .unset, .unset, .unset, .unset] [(.int (lcmpW (t1 - (-1)) ((64 : Int32).toInt64)))])) _
    refine XS.ifNo X3.here hx rfl (hb hby d5_15) rfl ((if0 _ _).trans (flt hl64).1) ?_
    show Steps p.tables e below (T3.setTop (mkF m 18 #[.val (.ref a1), .val (.long t1), .second, .val (.int (64 : Int32)), .unset, .unset, .unset, .unset, .unset, .unset] [])) _
    refine XS.iloadN X3.here hx rfl (hb hby d5_18) rfl ?_
    show Steps p.tables e below (T3.setTop (mkF m 19 #[.val (.ref a1), .val (.long t1), .second, .val (.int (64 : Int32)), .unset, .unset, .unset, .unset, .unset, .unset] [(.int (64 : Int32))])) _
    refine XS.iconst X3.here hx rfl (hb hby d5_19) ?_
    show Steps p.tables e below (T3.setTop (mkF m 20 #[.val (.ref a1), .val (.long t1), .second, .val (.int (64 : Int32)), .unset, .unset, .unset, .unset, .unset, .unset] [(.int (2 : Int32)), (.int (64 : Int32))])) _
    refine XS.imul X3.here hx rfl (hb hby d5_20) rfl ?_
    show Steps p.tables e below (T3.setTop (mkF m 21 #[.val (.ref a1), .val (.long t1), .second, .val (.int (64 : Int32)), .unset, .unset, .unset, .unset, .unset, .unset] [(.int (128 : Int32))])) _
    refine XS.istoreN X3.here hx rfl (hb hby d5_21) rfl (l' := #[.val (.ref a1), .val (.long t1), .second, .val (.int (128 : Int32)), .unset, .unset, .unset, .unset, .unset, .unset]) rfl ?_
    show Steps p.tables e below (T3.setTop (mkF m 22 #[.val (.ref a1), .val (.long t1), .second, .val (.int (128 : Int32)), .unset, .unset, .unset, .unset, .unset, .unset] [])) _
    refine XS.goto X3.here hx rfl (pc0 := 22) (pc' := 6) rfl (hb hby d5_22) (by decide) (by decide) ?_
    show Steps p.tables e below (T3.setTop (mkF m 6 #[.val (.ref a1), .val (.long t1), .second, .val (.int (128 : Int32)), .unset, .unset, .unset, .unset, .unset, .unset] [])) _
    refine XS.lloadN X3.here hx rfl (hb hby d5_6) rfl ?_
    show Steps p.tables e below (T3.setTop (mkF m 7 #[.val (.ref a1), .val (.long t1), .second, .val (.int (128 : Int32)), .unset, .unset, .unset, .unset, .unset, .unset] [(.long t1)])) _
    refine XS.aloadN X3.here hx rfl (hb hby d5_7) rfl rfl ?_
    show Steps p.tables e below (T3.setTop (mkF m 8 #[.val (.ref a1), .val (.long t1), .second, .val (.int (128 : Int32)), .unset, .unset, .unset, .unset, .unset, .unset] [(.ref a1), (.long t1)])) _
    refine st4 _ ?_
    show Steps p.tables e below (T4.setTop (mkF m 11 #[.val (.ref a1), .val (.long t1), .second, .val (.int (128 : Int32)), .unset, .unset, .unset, .unset, .unset, .unset] [(.long (-1)), (.long t1)])) _
    refine XS.lsub X4.here hx rfl (hb hby d5_11) rfl ?_
    show Steps p.tables e below (T4.setTop (mkF m 12 #[.val (.ref a1), .val (.long t1), .second, .val (.int (128 : Int32)), .unset, .unset, .unset, .unset, .unset, .unset] [(.long (t1 - (-1)))])) _
    refine XS.iloadN X4.here hx rfl (hb hby d5_12) rfl ?_
    show Steps p.tables e below (T4.setTop (mkF m 13 #[.val (.ref a1), .val (.long t1), .second, .val (.int (128 : Int32)), .unset, .unset, .unset, .unset, .unset, .unset] [(.int (128 : Int32)), (.long (t1 - (-1)))])) _
    refine XS.i2l X4.here hx rfl (hb hby d5_13) rfl ?_
    show Steps p.tables e below (T4.setTop (mkF m 14 #[.val (.ref a1), .val (.long t1), .second, .val (.int (128 : Int32)), .unset, .unset, .unset, .unset, .unset, .unset] [(.long ((128 : Int32).toInt64)), (.long (t1 - (-1)))])) _
    refine XS.lcmp X4.here hx rfl (hb hby d5_14) rfl ?_
    show Steps p.tables e below (T4.setTop (mkF m 15 #[.val (.ref a1), .val (.long t1), .second, .val (.int (128 : Int32)), .unset, .unset, .unset, .unset, .unset, .unset] [(.int (lcmpW (t1 - (-1)) ((128 : Int32).toInt64)))])) _
    refine XS.ifYes X4.here hx rfl (pc0 := 15) (pc' := 25) rfl (hb hby d5_15) rfl ((if0 _ _).trans (tlt hl128).1) (by decide) (by decide) ?_
    show Steps p.tables e below (T4.setTop (mkF m 25 #[.val (.ref a1), .val (.long t1), .second, .val (.int (128 : Int32)), .unset, .unset, .unset, .unset, .unset, .unset] [])) _
    refine XS.iloadN X4.here hx rfl (hb hby d5_25) rfl ?_
    show Steps p.tables e below (T4.setTop (mkF m 26 #[.val (.ref a1), .val (.long t1), .second, .val (.int (128 : Int32)), .unset, .unset, .unset, .unset, .unset, .unset] [(.int (128 : Int32))])) _
    refine st5 _ ?_
    show Steps p.tables e below (T5.setTop (mkF m 29 #[.val (.ref a1), .val (.long t1), .second, .val (.int (128 : Int32)), .unset, .unset, .unset, .unset, .unset, .unset] [(.ref b5)])) _
    refine XS.astore X5.here hx rfl (hb hby d5_29) rfl rfl (l' := #[.val (.ref a1), .val (.long t1), .second, .val (.int (128 : Int32)), .val (.ref b5), .unset, .unset, .unset, .unset, .unset]) rfl ?_
    show Steps p.tables e below (T5.setTop (mkF m 31 #[.val (.ref a1), .val (.long t1), .second, .val (.int (128 : Int32)), .val (.ref b5), .unset, .unset, .unset, .unset, .unset] [])) _
    refine XS.iloadN X5.here hx rfl (hb hby d5_31) rfl ?_
    show Steps p.tables e below (T5.setTop (mkF m 32 #[.val (.ref a1), .val (.long t1), .second, .val (.int (128 : Int32)), .val (.ref b5), .unset, .unset, .unset, .unset, .unset] [(.int (128 : Int32))])) _
    refine st6 _ ?_
    show Steps p.tables e below (T6.setTop (mkF m 34 #[.val (.ref a1), .val (.long t1), .second, .val (.int (128 : Int32)), .val (.ref b5), .unset, .unset, .unset, .unset, .unset] [(.ref b6)])) _
    refine XS.astore X6.here hx rfl (hb hby d5_34) rfl rfl (l' := #[.val (.ref a1), .val (.long t1), .second, .val (.int (128 : Int32)), .val (.ref b5), .val (.ref b6), .unset, .unset, .unset, .unset]) rfl ?_
    show Steps p.tables e below (T6.setTop (mkF m 36 #[.val (.ref a1), .val (.long t1), .second, .val (.int (128 : Int32)), .val (.ref b5), .val (.ref b6), .unset, .unset, .unset, .unset] [])) _
    refine XS.iconst X6.here hx rfl (hb hby d5_36) ?_
    show Steps p.tables e below (T6.setTop (mkF m 37 #[.val (.ref a1), .val (.long t1), .second, .val (.int (128 : Int32)), .val (.ref b5), .val (.ref b6), .unset, .unset, .unset, .unset] [(.int (0 : Int32))])) _
    refine XS.istore X6.here hx rfl (hb hby d5_37) rfl (l' := #[.val (.ref a1), .val (.long t1), .second, .val (.int (128 : Int32)), .val (.ref b5), .val (.ref b6), .val (.int (0 : Int32)), .unset, .unset, .unset]) rfl ?_
    exact kt
  have f12 := (f7.ext E6)
  have f13 := ((F_events.ext E5).ext E6)
  have f14 := ((F_counts.ext E5).ext E6)
  have f15 := ((F_mask.ext E5).ext E6)
  have f16 := ((F_current.ext E5).ext E6)
  have f17 := ((F_lastTick.ext E5).ext E6)
  have f18 := ((F_pending.ext E5).ext E6)
  have f19 := ((F_droppedLate.ext E5).ext E6)
  have f20 := (f8.ext E6)
  have f21 := (f9.ext E6)
  have hDF11 : DueF Z n0 h6 a1 q1 (64 : Int32) P k ev ct dd := ⟨gev, gct, f12, f13, f14, f15, f16, f17, f18, f19, f20, f21⟩
  have f22 := (V5.ext E6)
  obtain ⟨Ta, ha, locsa, hda, toa, Xa, ea, Oa, Na, Da, Va, Ca, sta⟩ := turnA X6 hx hZ hw hby hml hown e6 O6 N0 (t1 := t1) hDF11 f22 V6 g1 g_b5 g_b6 ne_ev_b5 ne_ct_b6 (own_to128) (i := (0 : Int32)) (by decide) (by decide)
  obtain ⟨Tb, hb_, locsb, hdb, tob, Xb, eb, Ob, Nb, Db, Vb, Cb, stb⟩ := loopB hx hZ hw hby hml hown g1 g_b5 g_b6 ne_ev_b5 ne_ct_b6 own_to128 63 (t1 := t1) (i := ((0 : Int32) + (1 : Int32))) (to := toa) (hd := hda) Xa ea Oa Na Da Va Ca (by decide) (by decide) (by decide)
  have hD_ := Db; obtain ⟨gevb, gctb, E_a1b, F_eventsb, F_countsb, F_maskb, F_currentb, F_lastTickb, F_pendingb, F_droppedLateb, Evb, Ctb⟩ := hD_
  obtain ⟨T23, X23, e23, st23⟩ := getF Xb hx hZ hown (host := "") (Or.inl (hw _ (List.mem_of_getElem? (i := 11) rfl))) Via.refl eb F_eventsb (g := (mkF m 42 #[.val (.ref a1), .val (.long t1), .second, .val (.int (128 : Int32)), .val (.ref b5), .val (.ref b6), .val (.int (64 : Int32)), .val (.long hdb), .second, .val (.int tob)] [(.ref a1), (.int (64 : Int32))])) rfl rfl (hb hby d5_42)
  have Vc24 := Evb
  obtain ⟨ce24, Ae24, Oe24, Se24, Ne24, He24⟩ := Vc24
  obtain ⟨T25, h25, X25, e25, W25, st25⟩ := putF X23 hx hZ hown (host := "") (Or.inl (hw _ (List.mem_of_getElem? (i := 11) rfl))) Via.refl e23 F_eventsb E_a1b (Or.inl (hw _ (List.mem_of_getElem? (i := 12) rfl))) (hw _ (List.mem_of_getElem? (i := 1) rfl)) (ty := (.array (.array (.object "java/lang/Runnable")))) (by decide) rfl rfl (g := (mkF m 113 #[.val (.ref a1), .val (.long t1), .second, .val (.int (128 : Int32)), .val (.ref b5), .val (.ref b6), .val (.int (64 : Int32)), .val (.long hdb), .second, .val (.int tob)] [(.ref b5), (.ref a1)])) rfl rfl (hb hby d5_113)
  have Fw25 := F_eventsb.same W25
  have O25 := Ob.wr W25 g1
  have N25 := Fr.snoc X25 Nb g1
  have f26 := (E_a1b.wr W25)
  have f27 := (F_countsb.other W25 (Or.inr (slot_ne (Or.inl (hw _ (List.mem_of_getElem? (i := 15) rfl))) (Or.inl (hw _ (List.mem_of_getElem? (i := 12) rfl))) (by decide) (t := (.array .int)) (t' := (.array (.array (.object "java/lang/Runnable")))) (by decide) (by decide))))
  obtain ⟨T28, h28, X28, e28, W28, st28⟩ := putF X25 hx hZ hown (host := "") (Or.inl (hw _ (List.mem_of_getElem? (i := 14) rfl))) Via.refl e25 f27 f26 (Or.inl (hw _ (List.mem_of_getElem? (i := 15) rfl))) (hw _ (List.mem_of_getElem? (i := 1) rfl)) (ty := (.array .int)) (by decide) rfl rfl (g := (mkF m 119 #[.val (.ref a1), .val (.long t1), .second, .val (.int (128 : Int32)), .val (.ref b5), .val (.ref b6), .val (.int (64 : Int32)), .val (.long hdb), .second, .val (.int tob)] [(.ref b6), (.ref a1)])) rfl rfl (hb hby d5_119)
  have Fw28 := f27.same W28
  have O28 := O25.wr W28 g1
  have N28 := Fr.snoc X28 N25 g1
  have f29 := (f26.wr W28)
  have f30 := ((F_maskb.other W25 (Or.inr (slot_ne (Or.inl (hw _ (List.mem_of_getElem? (i := 17) rfl))) (Or.inl (hw _ (List.mem_of_getElem? (i := 12) rfl))) (by decide) (t := .int) (t' := (.array (.array (.object "java/lang/Runnable")))) (by decide) (by decide)))).other W28 (Or.inr (slot_ne (Or.inl (hw _ (List.mem_of_getElem? (i := 17) rfl))) (Or.inl (hw _ (List.mem_of_getElem? (i := 15) rfl))) (by decide) (t := .int) (t' := (.array .int)) (by decide) (by decide))))
  obtain ⟨T31, h31, X31, e31, W31, st31⟩ := putF X28 hx hZ hown (host := "") (Or.inl (hw _ (List.mem_of_getElem? (i := 16) rfl))) Via.refl e28 f30 f29 (Or.inl (hw _ (List.mem_of_getElem? (i := 17) rfl))) (hw _ (List.mem_of_getElem? (i := 1) rfl)) (ty := .int) (by decide) rfl rfl (g := (mkF m 126 #[.val (.ref a1), .val (.long t1), .second, .val (.int (128 : Int32)), .val (.ref b5), .val (.ref b6), .val (.int (64 : Int32)), .val (.long hdb), .second, .val (.int tob)] [(.int ((128 : Int32) - (1 : Int32))), (.ref a1)])) rfl rfl (hb hby d5_126)
  have Fw31 := f30.same W31
  have O31 := O28.wr W31 g1
  have N31 := Fr.snoc X31 N28 g1
  have f32 := (f29.wr W31)
  have f33 := ((Fw25.other W28 (Or.inr (slot_ne (Or.inl (hw _ (List.mem_of_getElem? (i := 12) rfl))) (Or.inl (hw _ (List.mem_of_getElem? (i := 15) rfl))) (by decide) (t := (.array (.array (.object "java/lang/Runnable")))) (t' := (.array .int)) (by decide) (by decide)))).other W31 (Or.inr (slot_ne (Or.inl (hw _ (List.mem_of_getElem? (i := 12) rfl))) (Or.inl (hw _ (List.mem_of_getElem? (i := 17) rfl))) (by decide) (t := (.array (.array (.object "java/lang/Runnable")))) (t' := .int) (by decide) (by decide))))
  have f34 := (Fw28.other W31 (Or.inr (slot_ne (Or.inl (hw _ (List.mem_of_getElem? (i := 15) rfl))) (Or.inl (hw _ (List.mem_of_getElem? (i := 17) rfl))) (by decide) (t := (.array .int)) (t' := .int) (by decide) (by decide))))
  have f35 := (((F_currentb.other W25 (Or.inr (slot_ne (Or.inl (hw _ (List.mem_of_getElem? (i := 20) rfl))) (Or.inl (hw _ (List.mem_of_getElem? (i := 12) rfl))) (by decide) (t := .long) (t' := (.array (.array (.object "java/lang/Runnable")))) (by decide) (by decide)))).other W28 (Or.inr (slot_ne (Or.inl (hw _ (List.mem_of_getElem? (i := 20) rfl))) (Or.inl (hw _ (List.mem_of_getElem? (i := 15) rfl))) (by decide) (t := .long) (t' := (.array .int)) (by decide) (by decide)))).other W31 (Or.inr (slot_ne (Or.inl (hw _ (List.mem_of_getElem? (i := 20) rfl))) (Or.inl (hw _ (List.mem_of_getElem? (i := 17) rfl))) (by decide) (t := .long) (t' := .int) (by decide) (by decide))))
  have f36 := (((F_lastTickb.other W25 (Or.inr (slot_ne (Or.inr (hw _ (List.mem_of_getElem? (i := 22) rfl))) (Or.inl (hw _ (List.mem_of_getElem? (i := 12) rfl))) (by decide) (t := .long) (t' := (.array (.array (.object "java/lang/Runnable")))) (by decide) (by decide)))).other W28 (Or.inr (slot_ne (Or.inr (hw _ (List.mem_of_getElem? (i := 22) rfl))) (Or.inl (hw _ (List.mem_of_getElem? (i := 15) rfl))) (by decide) (t := .long) (t' := (.array .int)) (by decide) (by decide)))).other W31 (Or.inr (slot_ne (Or.inr (hw _ (List.mem_of_getElem? (i := 22) rfl))) (Or.inl (hw _ (List.mem_of_getElem? (i := 17) rfl))) (by decide) (t := .long) (t' := .int) (by decide) (by decide))))
  have f37 := (((F_pendingb.other W25 (Or.inr (slot_ne (Or.inl (hw _ (List.mem_of_getElem? (i := 29) rfl))) (Or.inl (hw _ (List.mem_of_getElem? (i := 12) rfl))) (by decide) (t := .long) (t' := (.array (.array (.object "java/lang/Runnable")))) (by decide) (by decide)))).other W28 (Or.inr (slot_ne (Or.inl (hw _ (List.mem_of_getElem? (i := 29) rfl))) (Or.inl (hw _ (List.mem_of_getElem? (i := 15) rfl))) (by decide) (t := .long) (t' := (.array .int)) (by decide) (by decide)))).other W31 (Or.inr (slot_ne (Or.inl (hw _ (List.mem_of_getElem? (i := 29) rfl))) (Or.inl (hw _ (List.mem_of_getElem? (i := 17) rfl))) (by decide) (t := .long) (t' := .int) (by decide) (by decide))))
  have f38 := (((F_droppedLateb.other W25 (Or.inr (slot_ne (Or.inl (hw _ (List.mem_of_getElem? (i := 43) rfl))) (Or.inl (hw _ (List.mem_of_getElem? (i := 12) rfl))) (by decide) (t := .boolean) (t' := (.array (.array (.object "java/lang/Runnable")))) (by decide) (by decide)))).other W28 (Or.inr (slot_ne (Or.inl (hw _ (List.mem_of_getElem? (i := 43) rfl))) (Or.inl (hw _ (List.mem_of_getElem? (i := 15) rfl))) (by decide) (t := .boolean) (t' := (.array .int)) (by decide) (by decide)))).other W31 (Or.inr (slot_ne (Or.inl (hw _ (List.mem_of_getElem? (i := 43) rfl))) (Or.inl (hw _ (List.mem_of_getElem? (i := 17) rfl))) (by decide) (t := .boolean) (t' := .int) (by decide) (by decide))))
  have f39 := (((Vb.other W25 (Ne.symm ne_a1_b5)).other W28 (Ne.symm ne_a1_b5)).other W31 (Ne.symm ne_a1_b5))
  have f40 := (((Cb.other W25 (Ne.symm ne_a1_b6)).other W28 (Ne.symm ne_a1_b6)).other W31 (Ne.symm ne_a1_b6))
  obtain ⟨fs, hr, hrun, hended, hW, hsame⟩ := X31.leave (v := none) (fun _ => rfl)
  refine ⟨_, _, pre10 _ ?_, hrun, hended, _, _, rfl, ?_, ⟨_, rfl⟩, hW, hsame.mono (by decide) (by decide)⟩
  · show Steps p.tables e below (T6.setTop (mkF m 39 #[.val (.ref a1), .val (.long t1), .second, .val (.int (128 : Int32)), .val (.ref b5), .val (.ref b6), .val (.int (0 : Int32)), .unset, .unset, .unset] [])) _
    refine sta _ ?_
    refine stb _ ?_
    show Steps p.tables e below (Tb.setTop (mkF m 39 #[.val (.ref a1), .val (.long t1), .second, .val (.int (128 : Int32)), .val (.ref b5), .val (.ref b6), .val (.int (64 : Int32)), .val (.long hdb), .second, .val (.int tob)] [])) _
    refine XS.iload Xb.here hx rfl (hb hby d5_39) rfl ?_
    show Steps p.tables e below (Tb.setTop (mkF m 41 #[.val (.ref a1), .val (.long t1), .second, .val (.int (128 : Int32)), .val (.ref b5), .val (.ref b6), .val (.int (64 : Int32)), .val (.long hdb), .second, .val (.int tob)] [(.int (64 : Int32))])) _
    refine XS.aloadN Xb.here hx rfl (hb hby d5_41) rfl rfl ?_
    show Steps p.tables e below (Tb.setTop (mkF m 42 #[.val (.ref a1), .val (.long t1), .second, .val (.int (128 : Int32)), .val (.ref b5), .val (.ref b6), .val (.int (64 : Int32)), .val (.long hdb), .second, .val (.int tob)] [(.ref a1), (.int (64 : Int32))])) _
    refine st23 _ ?_
    show Steps p.tables e below (T23.setTop (mkF m 45 #[.val (.ref a1), .val (.long t1), .second, .val (.int (128 : Int32)), .val (.ref b5), .val (.ref b6), .val (.int (64 : Int32)), .val (.long hdb), .second, .val (.int tob)] [(.ref ev), (.int (64 : Int32))])) _
    refine X23.arraylength hx (by rw [e23]; exact Ae24.1) (State.isArrayOf_alike hZ.alike Ae24.2.1) (g := (mkF m 45 #[.val (.ref a1), .val (.long t1), .second, .val (.int (128 : Int32)), .val (.ref b5), .val (.ref b6), .val (.int (64 : Int32)), .val (.long hdb), .second, .val (.int tob)] [(.ref ev), (.int (64 : Int32))])) rfl rfl (hb hby d5_45) _ ?_
    rw [len_of Se24 Ne24]
    show Steps p.tables e below (T23.setTop (mkF m 46 #[.val (.ref a1), .val (.long t1), .second, .val (.int (128 : Int32)), .val (.ref b5), .val (.ref b6), .val (.int (64 : Int32)), .val (.long hdb), .second, .val (.int tob)] [(.int (64 : Int32)), (.int (64 : Int32))])) _
    refine XS.icmpYes X23.here hx rfl (pc0 := 46) (pc' := 110) rfl (hb hby d5_46) rfl (flt (by decide : ¬ ((64 : Int32) < (64 : Int32)))).2.1 (by decide) (by decide) ?_
    show Steps p.tables e below (T23.setTop (mkF m 110 #[.val (.ref a1), .val (.long t1), .second, .val (.int (128 : Int32)), .val (.ref b5), .val (.ref b6), .val (.int (64 : Int32)), .val (.long hdb), .second, .val (.int tob)] [])) _
    refine XS.aloadN X23.here hx rfl (hb hby d5_110) rfl rfl ?_
    show Steps p.tables e below (T23.setTop (mkF m 111 #[.val (.ref a1), .val (.long t1), .second, .val (.int (128 : Int32)), .val (.ref b5), .val (.ref b6), .val (.int (64 : Int32)), .val (.long hdb), .second, .val (.int tob)] [(.ref a1)])) _
    refine XS.aload X23.here hx rfl (hb hby d5_111) rfl rfl ?_
    show Steps p.tables e below (T23.setTop (mkF m 113 #[.val (.ref a1), .val (.long t1), .second, .val (.int (128 : Int32)), .val (.ref b5), .val (.ref b6), .val (.int (64 : Int32)), .val (.long hdb), .second, .val (.int tob)] [(.ref b5), (.ref a1)])) _
    refine st25 _ ?_
    show Steps p.tables e below (T25.setTop (mkF m 116 #[.val (.ref a1), .val (.long t1), .second, .val (.int (128 : Int32)), .val (.ref b5), .val (.ref b6), .val (.int (64 : Int32)), .val (.long hdb), .second, .val (.int tob)] [])) _
    refine XS.aloadN X25.here hx rfl (hb hby d5_116) rfl rfl ?_
    show Steps p.tables e below (T25.setTop (mkF m 117 #[.val (.ref a1), .val (.long t1), .second, .val (.int (128 : Int32)), .val (.ref b5), .val (.ref b6), .val (.int (64 : Int32)), .val (.long hdb), .second, .val (.int tob)] [(.ref a1)])) _
    refine XS.aload X25.here hx rfl (hb hby d5_117) rfl rfl ?_
    show Steps p.tables e below (T25.setTop (mkF m 119 #[.val (.ref a1), .val (.long t1), .second, .val (.int (128 : Int32)), .val (.ref b5), .val (.ref b6), .val (.int (64 : Int32)), .val (.long hdb), .second, .val (.int tob)] [(.ref b6), (.ref a1)])) _
    refine st28 _ ?_
    show Steps p.tables e below (T28.setTop (mkF m 122 #[.val (.ref a1), .val (.long t1), .second, .val (.int (128 : Int32)), .val (.ref b5), .val (.ref b6), .val (.int (64 : Int32)), .val (.long hdb), .second, .val (.int tob)] [])) _
    refine XS.aloadN X28.here hx rfl (hb hby d5_122) rfl rfl ?_
    show Steps p.tables e below (T28.setTop (mkF m 123 #[.val (.ref a1), .val (.long t1), .second, .val (.int (128 : Int32)), .val (.ref b5), .val (.ref b6), .val (.int (64 : Int32)), .val (.long hdb), .second, .val (.int tob)] [(.ref a1)])) _
    refine XS.iloadN X28.here hx rfl (hb hby d5_123) rfl ?_
    show Steps p.tables e below (T28.setTop (mkF m 124 #[.val (.ref a1), .val (.long t1), .second, .val (.int (128 : Int32)), .val (.ref b5), .val (.ref b6), .val (.int (64 : Int32)), .val (.long hdb), .second, .val (.int tob)] [(.int (128 : Int32)), (.ref a1)])) _
    refine XS.iconst X28.here hx rfl (hb hby d5_124) ?_
    show Steps p.tables e below (T28.setTop (mkF m 125 #[.val (.ref a1), .val (.long t1), .second, .val (.int (128 : Int32)), .val (.ref b5), .val (.ref b6), .val (.int (64 : Int32)), .val (.long hdb), .second, .val (.int tob)] [(.int (1 : Int32)), (.int (128 : Int32)), (.ref a1)])) _
    refine XS.isub X28.here hx rfl (hb hby d5_125) rfl ?_
    show Steps p.tables e below (T28.setTop (mkF m 126 #[.val (.ref a1), .val (.long t1), .second, .val (.int (128 : Int32)), .val (.ref b5), .val (.ref b6), .val (.int (64 : Int32)), .val (.long hdb), .second, .val (.int tob)] [(.int ((128 : Int32) - (1 : Int32))), (.ref a1)])) _
    refine st31 _ ?_
    show Steps p.tables e below (T31.setTop (mkF m 129 #[.val (.ref a1), .val (.long t1), .second, .val (.int (128 : Int32)), .val (.ref b5), .val (.ref b6), .val (.int (64 : Int32)), .val (.long hdb), .second, .val (.int tob)] [])) _
    exact X31.returnOut hx Bd.returns (hb hby d5_129) hr
  · show Q_wid_64_128 Z a1 t1 q1 P k h0 n0 _ T31.heap _
    rw [e31]
    exact ⟨rfl, N31, O31, ⟨b5, b6, _, g_b5, g_b6, f32, f33, f34, Fw31, f35, f36, f37, f38, f39, f40⟩⟩
theorem ef_sc_16_16 (m : MethodId) (a1 : Addr) (t1 : Int64) : entryFrame m #[(.ref a1), (.long t1), .null] 7 = mkF m 0 #[.val (.ref a1), .val (.long t1), .second, .val .null, .unset, .unset, .unset] [] := by first | (simp [entryFrame, mkF, argsToLocals, Value.category]; done) | rfl
def Q_sc_16_16 (Z : State) (a1 : Addr) (t1 q1 P : Int64) (k : Int32) (h0 : Heap) (n0 : Nat) (v : Option Value) (h : Heap) (L : List Loc) : Prop := v = none ∧ Fr n0 L ∧ Old Z n0 h ∧ Due Z n0 h a1 q1 (16 : Int32) (P + 1) (k + 1)
set_option maxRecDepth 65536 in
set_option maxHeartbeats 40000000 in
theorem sc_16_16 (l : Launch) (Z : State) (a0 : Array Value) (hw : ∀ d ∈ tables_1, d.before a0 Z = true) (ws : List Jvm.Cond) (a1 : Addr) (t1 q1 P : Int64) (k : Int32) (h0 : Heap) (n0 : Nat) (O0 : Old Z n0 h0) (hD : Due Z n0 h0 a1 q1 (16 : Int32) P k) (g1 : n0 ≤ a1) (hk0 : ¬ k < 0) (hk7 : k < (7 : Int32)) (hgt : (0 : Int32) < (lcmpW t1 (-1))) (hle : ¬ ((0 : Int32) < (lcmpW t1 q1))) (hm : ¬ ((0 : Int32) < (lcmpW (t1 - (-1)) (((16 : Int32) - 1).toInt64)))) :
    MetFree l (⟨"com/example/januswire/januswire/sim/DueEvents", "schedule", "(JLjava/lang/Runnable;)V"⟩ : MethodName) (head1 (Jvm.Cond.code (⟨"com/example/januswire/januswire/sim/DueEvents", "schedule", "(JLjava/lang/Runnable;)V"⟩ : MethodName) prog_187_method_2_code 7 none :: ws) ({ frames := 0, cells := 1, slots := 8, locals := 0 } : Room)) (fun a U => a = #[(.ref a1), (.long t1), .null] ∧ Z.Warmed39 U.vm ∧ U.heap = h0) (fun _ _ _ _ _ => True) (fun _ U o U' => ∃ v L, o = .returned v ∧ Q_sc_16_16 Z a1 t1 q1 P k h0 n0 v U'.heap L ∧ FrameEnd U o U' L ({ frames := 0, cells := 1, slots := 8, locals := 0 } : Room).cells ({ frames := 0, cells := 1, slots := 8, locals := 0 } : Room).slots) := by
  refine MetFree.of_bodySF (plainFor_of_name pn_com_example_januswire_januswire_sim_DueEvents) hisR ?_
  intro p e s m args below meth c s₁ Bd hml0 hP hK
  obtain ⟨rfl, hZ, hh⟩ := hP
  have hx := Bd.exec
  have hby := Bd.bytes
  have hml : c.maxLocals = 7 := hml0
  have hown : s.vm.findClass "com/example/januswire/januswire/sim/DueEvents" = some m.cls := findClass_of_methodNamed Bd.named
  have hnm := (name_of_methodNamed Bd.named Bd.method).1
  have X0 : Stand p l e ({ frames := 0, cells := 1, slots := 8, locals := 0 } : Room) s m #[(.ref a1), (.long t1), .null] below meth c s₁ [] 0 0 := Stand.of_body Bd
  have e0 : s₁.heap = h0 := by rw [← hh, Bd.state]; rfl
  have N0 := Fr.nil n0
  have pre0 : ∀ t, Steps p.tables e below (s₁.setTop (mkF m 0 #[.val (.ref a1), .val (.long t1), .second, .val .null, .unset, .unset, .unset] [])) t → Steps p.tables e below (s₁.setTop (entryFrame m #[(.ref a1), (.long t1), .null] 7)) t := fun t k => castTop (ef_sc_16_16 m a1 t1) k
  have hD_ := hD; obtain ⟨ev, ct, dd, gev, gct, E_a1, F_events, F_counts, F_mask, F_current, F_lastTick, F_pending, F_droppedLate, Ev, Ct⟩ := hD_
  have ne_d_e : a1 ≠ ev := own_de E_a1 (hw _ (List.mem_of_getElem? (i := 1) rfl)) Ev
  have ne_d_c : a1 ≠ ct := own_dc E_a1 (hw _ (List.mem_of_getElem? (i := 1) rfl)) Ct
  have ne_e_c : ev ≠ ct := own_ec Ev Ct
  obtain ⟨T1, X1, e1, st1⟩ := getF X0 hx hZ hown (host := "") (Or.inl (hw _ (List.mem_of_getElem? (i := 19) rfl))) Via.refl e0 F_current (g := (mkF m 2 #[.val (.ref a1), .val (.long t1), .second, .val .null, .unset, .unset, .unset] [(.ref a1), (.long t1)])) rfl rfl (hb hby d4_2)
  obtain ⟨T2, X2, e2, st2⟩ := getF X1 hx hZ hown (host := "") (Or.inl (hw _ (List.mem_of_getElem? (i := 21) rfl))) Via.refl e1 F_lastTick (g := (mkF m 29 #[.val (.ref a1), .val (.long t1), .second, .val .null, .unset, .unset, .unset] [(.ref a1), (.long t1)])) rfl rfl (hb hby d4_29)
  obtain ⟨T3, X3, e3, st3⟩ := getF X2 hx hZ hown (host := "") (Or.inl (hw _ (List.mem_of_getElem? (i := 19) rfl))) Via.refl e2 F_current (g := (mkF m 44 #[.val (.ref a1), .val (.long t1), .second, .val .null, .unset, .unset, .unset] [(.ref a1), (.long t1)])) rfl rfl (hb hby d4_44)
  obtain ⟨T4, X4, e4, st4⟩ := getF X3 hx hZ hown (host := "") (Or.inl (hw _ (List.mem_of_getElem? (i := 16) rfl))) Via.refl e3 F_mask (g := (mkF m 49 #[.val (.ref a1), .val (.long t1), .second, .val .null, .unset, .unset, .unset] [(.ref a1), (.long (t1 - (-1)))])) rfl rfl (hb hby d4_49)
  obtain ⟨T5, h5, locs5, du5, X5, e5, O5, N5, D5, st5⟩ := tail X4 hx hZ hw hby hml hown e4 O0 N0 hD g1 hk7 (own_to16 t1) (by decide) (by decide)
  obtain ⟨fs, hr, hrun, hended, hW, hsame⟩ := X5.leave (v := none) (fun _ => rfl)
  refine ⟨_, _, pre0 _ ?_, hrun, hended, _, _, rfl, ?_, ⟨_, rfl⟩, hW, hsame.mono (by decide) (by decide)⟩
  · show Steps p.tables e below (s₁.setTop (mkF m 0 #[.val (.ref a1), .val (.long t1), .second, .val .null, .unset, .unset, .unset] [])) _
    refine XS.lloadN X0.here hx rfl (hb hby d4_0) rfl ?_
    show Steps p.tables e below (s₁.setTop (mkF m 1 #[.val (.ref a1), .val (.long t1), .second, .val .null, .unset, .unset, .unset] [(.long t1)])) _
    refine XS.aloadN X0.here hx rfl (hb hby d4_1) rfl rfl ?_
    show Steps p.tables e below (s₁.setTop (mkF m 2 #[.val (.ref a1), .val (.long t1), .second, .val .null, .unset, .unset, .unset] [(.ref a1), (.long t1)])) _
    refine st1 _ ?_
    show Steps p.tables e below (T1.setTop (mkF m 5 #[.val (.ref a1), .val (.long t1), .second, .val .null, .unset, .unset, .unset] [(.long (-1)), (.long t1)])) _
    refine XS.lcmp X1.here hx rfl (hb hby d4_5) rfl ?_
    show Steps p.tables e below (T1.setTop (mkF m 6 #[.val (.ref a1), .val (.long t1), .second, .val .null, .unset, .unset, .unset] [(.int (lcmpW t1 (-1)))])) _
    refine XS.ifYes X1.here hx rfl (pc0 := 6) (pc' := 27) rfl (hb hby d4_6) rfl ((if0 _ _).trans (tlt hgt).2.2.1) (by decide) (by decide) ?_
    show Steps p.tables e below (T1.setTop (mkF m 27 #[.val (.ref a1), .val (.long t1), .second, .val .null, .unset, .unset, .unset] [])) _
    refine XS.lloadN X1.here hx rfl (hb hby d4_27) rfl ?_
    show Steps p.tables e below (T1.setTop (mkF m 28 #[.val (.ref a1), .val (.long t1), .second, .val .null, .unset, .unset, .unset] [(.long t1)])) _
    refine XS.aloadN X1.here hx rfl (hb hby d4_28) rfl rfl ?_
    show Steps p.tables e below (T1.setTop (mkF m 29 #[.val (.ref a1), .val (.long t1), .second, .val .null, .unset, .unset, .unset] [(.ref a1), (.long t1)])) _
    refine st2 _ ?_
    show Steps p.tables e below (T2.setTop (mkF m 32 #[.val (.ref a1), .val (.long t1), .second, .val .null, .unset, .unset, .unset] [(.long q1), (.long t1)])) _
    refine XS.lcmp X2.here hx rfl (hb hby d4_32) rfl ?_
    show Steps p.tables e below (T2.setTop (mkF m 33 #[.val (.ref a1), .val (.long t1), .second, .val .null, .unset, .unset, .unset] [(.int (lcmpW t1 q1))])) _
    refine XS.ifYes X2.here hx rfl (pc0 := 33) (pc' := 42) rfl (hb hby d4_33) rfl ((if0 _ _).trans (flt hle).2.2.2) (by decide) (by decide) ?_
    show Steps p.tables e below (T2.setTop (mkF m 42 #[.val (.ref a1), .val (.long t1), .second, .val .null, .unset, .unset, .unset] [])) _
    refine XS.lloadN X2.here hx rfl (hb hby d4_42) rfl ?_
    show Steps p.tables e below (T2.setTop (mkF m 43 #[.val (.ref a1), .val (.long t1), .second, .val .null, .unset, .unset, .unset] [(.long t1)])) _
    refine XS.aloadN X2.here hx rfl (hb hby d4_43) rfl rfl ?_
    show Steps p.tables e below (T2.setTop (mkF m 44 #[.val (.ref a1), .val (.long t1), .second, .val .null, .unset, .unset, .unset] [(.ref a1), (.long t1)])) _
    refine st3 _ ?_
    show Steps p.tables e below (T3.setTop (mkF m 47 #[.val (.ref a1), .val (.long t1), .second, .val .null, .unset, .unset, .unset] [(.long (-1)), (.long t1)])) _
    refine XS.lsub X3.here hx rfl (hb hby d4_47) rfl ?_
    show Steps p.tables e below (T3.setTop (mkF m 48 #[.val (.ref a1), .val (.long t1), .second, .val .null, .unset, .unset, .unset] [(.long (t1 - (-1)))])) _
    refine XS.aloadN X3.here hx rfl (hb hby d4_48) rfl rfl ?_
    show Steps p.tables e below (T3.setTop (mkF m 49 #[.val (.ref a1), .val (.long t1), .second, .val .null, .unset, .unset, .unset] [(.ref a1), (.long (t1 - (-1)))])) _
    refine st4 _ ?_
    show Steps p.tables e below (T4.setTop (mkF m 52 #[.val (.ref a1), .val (.long t1), .second, .val .null, .unset, .unset, .unset] [(.int ((16 : Int32) - 1)), (.long (t1 - (-1)))])) _
    refine XS.i2l X4.here hx rfl (hb hby d4_52) rfl ?_
    show Steps p.tables e below (T4.setTop (mkF m 53 #[.val (.ref a1), .val (.long t1), .second, .val .null, .unset, .unset, .unset] [(.long (((16 : Int32) - 1).toInt64)), (.long (t1 - (-1)))])) _
    refine XS.lcmp X4.here hx rfl (hb hby d4_53) rfl ?_
    show Steps p.tables e below (T4.setTop (mkF m 54 #[.val (.ref a1), .val (.long t1), .second, .val .null, .unset, .unset, .unset] [(.int (lcmpW (t1 - (-1)) (((16 : Int32) - 1).toInt64)))])) _
    refine XS.ifYes X4.here hx rfl (pc0 := 54) (pc' := 62) rfl (hb hby d4_54) rfl ((if0 _ _).trans (flt hm).2.2.2) (by decide) (by decide) ?_
    show Steps p.tables e below (T4.setTop (mkF m 62 #[.val (.ref a1), .val (.long t1), .second, .val .null, .unset, .unset, .unset] [])) _
    refine st5 _ ?_
    show Steps p.tables e below (T5.setTop (mkF m 179 #[.val (.ref a1), .val (.long t1), .second, .val .null, .val (.int (t1 &&& (((16 : Int32) - 1).toInt64)).toInt32), .val (.ref du5), .unset] [])) _
    exact X5.returnOut hx Bd.returns (hb hby d4_179) hr
  · show Q_sc_16_16 Z a1 t1 q1 P k h0 n0 _ T5.heap _
    rw [e5]
    exact ⟨rfl, N5, O5, D5⟩
theorem ef_sc_16_32 (m : MethodId) (a1 : Addr) (t1 : Int64) : entryFrame m #[(.ref a1), (.long t1), .null] 7 = mkF m 0 #[.val (.ref a1), .val (.long t1), .second, .val .null, .unset, .unset, .unset] [] := by first | (simp [entryFrame, mkF, argsToLocals, Value.category]; done) | rfl
def Q_sc_16_32 (Z : State) (a1 : Addr) (t1 q1 P : Int64) (k : Int32) (h0 : Heap) (n0 : Nat) (v : Option Value) (h : Heap) (L : List Loc) : Prop := v = none ∧ Fr n0 L ∧ Old Z n0 h ∧ Due Z n0 h a1 q1 (32 : Int32) (P + 1) (k + 1)
set_option maxRecDepth 65536 in
set_option maxHeartbeats 40000000 in
theorem sc_16_32 (l : Launch) (Z : State) (a0 : Array Value) (hw : ∀ d ∈ tables_1, d.before a0 Z = true) (ws : List Jvm.Cond) (a1 : Addr) (t1 q1 P : Int64) (k : Int32) (h0 : Heap) (n0 : Nat) (O0 : Old Z n0 h0) (hD : Due Z n0 h0 a1 q1 (16 : Int32) P k) (g1 : n0 ≤ a1) (hk0 : ¬ k < 0) (hk7 : k < (7 : Int32)) (hgt : (0 : Int32) < (lcmpW t1 (-1))) (hle : ¬ ((0 : Int32) < (lcmpW t1 q1))) (hm : (0 : Int32) < (lcmpW (t1 - (-1)) (((16 : Int32) - 1).toInt64))) (hl16 : ¬ ((lcmpW (t1 - (-1)) ((16 : Int32).toInt64)) < (0 : Int32))) (hl32 : (lcmpW (t1 - (-1)) ((32 : Int32).toInt64)) < (0 : Int32)) :
    MetFree l (⟨"com/example/januswire/januswire/sim/DueEvents", "schedule", "(JLjava/lang/Runnable;)V"⟩ : MethodName) (head1 (Jvm.Cond.code (⟨"com/example/januswire/januswire/sim/DueEvents", "schedule", "(JLjava/lang/Runnable;)V"⟩ : MethodName) prog_187_method_2_code 7 none :: ws) ({ frames := 1, cells := 3, slots := 72, locals := 21 } : Room)) (fun a U => a = #[(.ref a1), (.long t1), .null] ∧ Z.Warmed39 U.vm ∧ U.heap = h0) (fun _ _ _ _ _ => True) (fun _ U o U' => ∃ v L, o = .returned v ∧ Q_sc_16_32 Z a1 t1 q1 P k h0 n0 v U'.heap L ∧ FrameEnd U o U' L ({ frames := 1, cells := 3, slots := 72, locals := 21 } : Room).cells ({ frames := 1, cells := 3, slots := 72, locals := 21 } : Room).slots) := by
  refine MetFree.of_bodySF (plainFor_of_name pn_com_example_januswire_januswire_sim_DueEvents) hisR ?_
  intro p e s m args below meth c s₁ Bd hml0 hP hK
  obtain ⟨rfl, hZ, hh⟩ := hP
  have hx := Bd.exec
  have hby := Bd.bytes
  have hml : c.maxLocals = 7 := hml0
  have hown : s.vm.findClass "com/example/januswire/januswire/sim/DueEvents" = some m.cls := findClass_of_methodNamed Bd.named
  have hnm := (name_of_methodNamed Bd.named Bd.method).1
  have X0 : Stand p l e ({ frames := 1, cells := 3, slots := 72, locals := 21 } : Room) s m #[(.ref a1), (.long t1), .null] below meth c s₁ [] 0 0 := Stand.of_body Bd
  have e0 : s₁.heap = h0 := by rw [← hh, Bd.state]; rfl
  have N0 := Fr.nil n0
  have pre0 : ∀ t, Steps p.tables e below (s₁.setTop (mkF m 0 #[.val (.ref a1), .val (.long t1), .second, .val .null, .unset, .unset, .unset] [])) t → Steps p.tables e below (s₁.setTop (entryFrame m #[(.ref a1), (.long t1), .null] 7)) t := fun t k => castTop (ef_sc_16_32 m a1 t1) k
  have hD_ := hD; obtain ⟨ev, ct, dd, gev, gct, E_a1, F_events, F_counts, F_mask, F_current, F_lastTick, F_pending, F_droppedLate, Ev, Ct⟩ := hD_
  have ne_d_e : a1 ≠ ev := own_de E_a1 (hw _ (List.mem_of_getElem? (i := 1) rfl)) Ev
  have ne_d_c : a1 ≠ ct := own_dc E_a1 (hw _ (List.mem_of_getElem? (i := 1) rfl)) Ct
  have ne_e_c : ev ≠ ct := own_ec Ev Ct
  obtain ⟨T1, X1, e1, st1⟩ := getF X0 hx hZ hown (host := "") (Or.inl (hw _ (List.mem_of_getElem? (i := 19) rfl))) Via.refl e0 F_current (g := (mkF m 2 #[.val (.ref a1), .val (.long t1), .second, .val .null, .unset, .unset, .unset] [(.ref a1), (.long t1)])) rfl rfl (hb hby d4_2)
  obtain ⟨T2, X2, e2, st2⟩ := getF X1 hx hZ hown (host := "") (Or.inl (hw _ (List.mem_of_getElem? (i := 21) rfl))) Via.refl e1 F_lastTick (g := (mkF m 29 #[.val (.ref a1), .val (.long t1), .second, .val .null, .unset, .unset, .unset] [(.ref a1), (.long t1)])) rfl rfl (hb hby d4_29)
  obtain ⟨T3, X3, e3, st3⟩ := getF X2 hx hZ hown (host := "") (Or.inl (hw _ (List.mem_of_getElem? (i := 19) rfl))) Via.refl e2 F_current (g := (mkF m 44 #[.val (.ref a1), .val (.long t1), .second, .val .null, .unset, .unset, .unset] [(.ref a1), (.long t1)])) rfl rfl (hb hby d4_44)
  obtain ⟨T4, X4, e4, st4⟩ := getF X3 hx hZ hown (host := "") (Or.inl (hw _ (List.mem_of_getElem? (i := 16) rfl))) Via.refl e3 F_mask (g := (mkF m 49 #[.val (.ref a1), .val (.long t1), .second, .val .null, .unset, .unset, .unset] [(.ref a1), (.long (t1 - (-1)))])) rfl rfl (hb hby d4_49)
  obtain ⟨cq5, q5, q5'⟩ := E_a1.cell
  obtain ⟨_, _, ⟨T5, L5, k5, n5⟩, -, X5, ⟨Lc5, hQ5, l5, y5, z5⟩, st5⟩ := X4.privateBack hx (y := (⟨"com/example/januswire/januswire/sim/DueEvents", "widen", "(J)V"⟩ : MethodName)) hown (mvT hZ (hw _ (List.mem_of_getElem? (i := 38) rfl))) (mvT hZ (hw _ (List.mem_of_getElem? (i := 39) rfl))) (own_sel hZ (hw _ (List.mem_of_getElem? (i := 1) rfl)) (hw _ (List.mem_of_getElem? (i := 40) rfl)) (hw _ (List.mem_of_getElem? (i := 39) rfl)) (by decide)) (Cond.privateMethod_at (mvP hZ (hw _ (List.mem_of_getElem? (i := 40) rfl)) (args := #[]))) (mvT hZ (hw _ (List.mem_of_getElem? (i := 41) rfl))) (by decide) (backOf (W := 0) (wid_16_32 l Z a0 hw [] a1 t1 q1 P k h0 n0 O0 hD g1 hk0 hl16 hl32) hZ (hw _ (List.mem_of_getElem? (i := 41) rfl)) (hw _ (List.mem_of_getElem? (i := 2) rfl)) (by decide) (by decide)) (g := (mkF m 59 #[.val (.ref a1), .val (.long t1), .second, .val .null, .unset, .unset, .unset] [(.long t1), (.ref a1)])) rfl (by rw [hml]; rfl) (Steps.refl _) (a := a1) (by rw [e4]; exact q5) q5' (argsL := [(.long t1)]) (rest := []) (lenOf pd__J_V rfl) rfl (by show 2 * 0 + _ ≤ _; exact Nat.le_of_eq rfl) (hb hby d4_59) (fun _ _ => ⟨rfl, e4, (by decide : 0 + 2 ≤ _), (by decide : 0 + 64 ≤ _)⟩)
  dsimp only [Pt.U, Pt.locs, Pt.cells, Pt.slots] at X5 l5 y5 z5 st5 hQ5
  subst l5 y5 z5
  obtain ⟨rfl, Nq5, Oq5, Dq5⟩ := hQ5
  have N5 := Fr.app N0 Nq5
  obtain ⟨T6, h6, locs6, du6, X6, e6, O6, N6, D6, st6⟩ := tail X5 hx hZ hw hby hml hown rfl Oq5 N5 Dq5 g1 hk7 (own_to32 t1) (by decide) (by decide)
  obtain ⟨fs, hr, hrun, hended, hW, hsame⟩ := X6.leave (v := none) (fun _ => rfl)
  refine ⟨_, _, pre0 _ ?_, hrun, hended, _, _, rfl, ?_, ⟨_, rfl⟩, hW, hsame.mono (by decide) (by decide)⟩
  · show Steps p.tables e below (s₁.setTop (mkF m 0 #[.val (.ref a1), .val (.long t1), .second, .val .null, .unset, .unset, .unset] [])) _
    refine XS.lloadN X0.here hx rfl (hb hby d4_0) rfl ?_
    show Steps p.tables e below (s₁.setTop (mkF m 1 #[.val (.ref a1), .val (.long t1), .second, .val .null, .unset, .unset, .unset] [(.long t1)])) _
    refine XS.aloadN X0.here hx rfl (hb hby d4_1) rfl rfl ?_
    show Steps p.tables e below (s₁.setTop (mkF m 2 #[.val (.ref a1), .val (.long t1), .second, .val .null, .unset, .unset, .unset] [(.ref a1), (.long t1)])) _
    refine st1 _ ?_
    show Steps p.tables e below (T1.setTop (mkF m 5 #[.val (.ref a1), .val (.long t1), .second, .val .null, .unset, .unset, .unset] [(.long (-1)), (.long t1)])) _
    refine XS.lcmp X1.here hx rfl (hb hby d4_5) rfl ?_
    show Steps p.tables e below (T1.setTop (mkF m 6 #[.val (.ref a1), .val (.long t1), .second, .val .null, .unset, .unset, .unset] [(.int (lcmpW t1 (-1)))])) _
    refine XS.ifYes X1.here hx rfl (pc0 := 6) (pc' := 27) rfl (hb hby d4_6) rfl ((if0 _ _).trans (tlt hgt).2.2.1) (by decide) (by decide) ?_
    show Steps p.tables e below (T1.setTop (mkF m 27 #[.val (.ref a1), .val (.long t1), .second, .val .null, .unset, .unset, .unset] [])) _
    refine XS.lloadN X1.here hx rfl (hb hby d4_27) rfl ?_
    show Steps p.tables e below (T1.setTop (mkF m 28 #[.val (.ref a1), .val (.long t1), .second, .val .null, .unset, .unset, .unset] [(.long t1)])) _
    refine XS.aloadN X1.here hx rfl (hb hby d4_28) rfl rfl ?_
    show Steps p.tables e below (T1.setTop (mkF m 29 #[.val (.ref a1), .val (.long t1), .second, .val .null, .unset, .unset, .unset] [(.ref a1), (.long t1)])) _
    refine st2 _ ?_
    show Steps p.tables e below (T2.setTop (mkF m 32 #[.val (.ref a1), .val (.long t1), .second, .val .null, .unset, .unset, .unset] [(.long q1), (.long t1)])) _
    refine XS.lcmp X2.here hx rfl (hb hby d4_32) rfl ?_
    show Steps p.tables e below (T2.setTop (mkF m 33 #[.val (.ref a1), .val (.long t1), .second, .val .null, .unset, .unset, .unset] [(.int (lcmpW t1 q1))])) _
    refine XS.ifYes X2.here hx rfl (pc0 := 33) (pc' := 42) rfl (hb hby d4_33) rfl ((if0 _ _).trans (flt hle).2.2.2) (by decide) (by decide) ?_
    show Steps p.tables e below (T2.setTop (mkF m 42 #[.val (.ref a1), .val (.long t1), .second, .val .null, .unset, .unset, .unset] [])) _
    refine XS.lloadN X2.here hx rfl (hb hby d4_42) rfl ?_
    show Steps p.tables e below (T2.setTop (mkF m 43 #[.val (.ref a1), .val (.long t1), .second, .val .null, .unset, .unset, .unset] [(.long t1)])) _
    refine XS.aloadN X2.here hx rfl (hb hby d4_43) rfl rfl ?_
    show Steps p.tables e below (T2.setTop (mkF m 44 #[.val (.ref a1), .val (.long t1), .second, .val .null, .unset, .unset, .unset] [(.ref a1), (.long t1)])) _
    refine st3 _ ?_
    show Steps p.tables e below (T3.setTop (mkF m 47 #[.val (.ref a1), .val (.long t1), .second, .val .null, .unset, .unset, .unset] [(.long (-1)), (.long t1)])) _
    refine XS.lsub X3.here hx rfl (hb hby d4_47) rfl ?_
    show Steps p.tables e below (T3.setTop (mkF m 48 #[.val (.ref a1), .val (.long t1), .second, .val .null, .unset, .unset, .unset] [(.long (t1 - (-1)))])) _
    refine XS.aloadN X3.here hx rfl (hb hby d4_48) rfl rfl ?_
    show Steps p.tables e below (T3.setTop (mkF m 49 #[.val (.ref a1), .val (.long t1), .second, .val .null, .unset, .unset, .unset] [(.ref a1), (.long (t1 - (-1)))])) _
    refine st4 _ ?_
    show Steps p.tables e below (T4.setTop (mkF m 52 #[.val (.ref a1), .val (.long t1), .second, .val .null, .unset, .unset, .unset] [(.int ((16 : Int32) - 1)), (.long (t1 - (-1)))])) _
    refine XS.i2l X4.here hx rfl (hb hby d4_52) rfl ?_
    show Steps p.tables e below (T4.setTop (mkF m 53 #[.val (.ref a1), .val (.long t1), .second, .val .null, .unset, .unset, .unset] [(.long (((16 : Int32) - 1).toInt64)), (.long (t1 - (-1)))])) _
    refine XS.lcmp X4.here hx rfl (hb hby d4_53) rfl ?_
    show Steps p.tables e below (T4.setTop (mkF m 54 #[.val (.ref a1), .val (.long t1), .second, .val .null, .unset, .unset, .unset] [(.int (lcmpW (t1 - (-1)) (((16 : Int32) - 1).toInt64)))])) _
    refine XS.ifNo X4.here hx rfl (hb hby d4_54) rfl ((if0 _ _).trans (tlt hm).2.2.2) ?_
    show Steps p.tables e below (T4.setTop (mkF m 57 #[.val (.ref a1), .val (.long t1), .second, .val .null, .unset, .unset, .unset] [])) _
    refine XS.aloadN X4.here hx rfl (hb hby d4_57) rfl rfl ?_
    show Steps p.tables e below (T4.setTop (mkF m 58 #[.val (.ref a1), .val (.long t1), .second, .val .null, .unset, .unset, .unset] [(.ref a1)])) _
    refine XS.lloadN X4.here hx rfl (hb hby d4_58) rfl ?_
    show Steps p.tables e below (T4.setTop (mkF m 59 #[.val (.ref a1), .val (.long t1), .second, .val .null, .unset, .unset, .unset] [(.long t1), (.ref a1)])) _
    refine st5.trans ?_
    show Steps p.tables e below (T5.setTop (mkF m 62 #[.val (.ref a1), .val (.long t1), .second, .val .null, .unset, .unset, .unset] [])) _
    refine st6 _ ?_
    show Steps p.tables e below (T6.setTop (mkF m 179 #[.val (.ref a1), .val (.long t1), .second, .val .null, .val (.int (t1 &&& (((32 : Int32) - 1).toInt64)).toInt32), .val (.ref du6), .unset] [])) _
    exact X6.returnOut hx Bd.returns (hb hby d4_179) hr
  · show Q_sc_16_32 Z a1 t1 q1 P k h0 n0 _ T6.heap _
    rw [e6]
    exact ⟨rfl, N6, O6, D6⟩
theorem ef_sc_16_64 (m : MethodId) (a1 : Addr) (t1 : Int64) : entryFrame m #[(.ref a1), (.long t1), .null] 7 = mkF m 0 #[.val (.ref a1), .val (.long t1), .second, .val .null, .unset, .unset, .unset] [] := by first | (simp [entryFrame, mkF, argsToLocals, Value.category]; done) | rfl
def Q_sc_16_64 (Z : State) (a1 : Addr) (t1 q1 P : Int64) (k : Int32) (h0 : Heap) (n0 : Nat) (v : Option Value) (h : Heap) (L : List Loc) : Prop := v = none ∧ Fr n0 L ∧ Old Z n0 h ∧ Due Z n0 h a1 q1 (64 : Int32) (P + 1) (k + 1)
set_option maxRecDepth 65536 in
set_option maxHeartbeats 40000000 in
theorem sc_16_64 (l : Launch) (Z : State) (a0 : Array Value) (hw : ∀ d ∈ tables_1, d.before a0 Z = true) (ws : List Jvm.Cond) (a1 : Addr) (t1 q1 P : Int64) (k : Int32) (h0 : Heap) (n0 : Nat) (O0 : Old Z n0 h0) (hD : Due Z n0 h0 a1 q1 (16 : Int32) P k) (g1 : n0 ≤ a1) (hk0 : ¬ k < 0) (hk7 : k < (7 : Int32)) (hgt : (0 : Int32) < (lcmpW t1 (-1))) (hle : ¬ ((0 : Int32) < (lcmpW t1 q1))) (hm : (0 : Int32) < (lcmpW (t1 - (-1)) (((16 : Int32) - 1).toInt64))) (hl16 : ¬ ((lcmpW (t1 - (-1)) ((16 : Int32).toInt64)) < (0 : Int32))) (hl32 : ¬ ((lcmpW (t1 - (-1)) ((32 : Int32).toInt64)) < (0 : Int32))) (hl64 : (lcmpW (t1 - (-1)) ((64 : Int32).toInt64)) < (0 : Int32)) :
    MetFree l (⟨"com/example/januswire/januswire/sim/DueEvents", "schedule", "(JLjava/lang/Runnable;)V"⟩ : MethodName) (head1 (Jvm.Cond.code (⟨"com/example/januswire/januswire/sim/DueEvents", "schedule", "(JLjava/lang/Runnable;)V"⟩ : MethodName) prog_187_method_2_code 7 none :: ws) ({ frames := 1, cells := 3, slots := 136, locals := 21 } : Room)) (fun a U => a = #[(.ref a1), (.long t1), .null] ∧ Z.Warmed39 U.vm ∧ U.heap = h0) (fun _ _ _ _ _ => True) (fun _ U o U' => ∃ v L, o = .returned v ∧ Q_sc_16_64 Z a1 t1 q1 P k h0 n0 v U'.heap L ∧ FrameEnd U o U' L ({ frames := 1, cells := 3, slots := 136, locals := 21 } : Room).cells ({ frames := 1, cells := 3, slots := 136, locals := 21 } : Room).slots) := by
  refine MetFree.of_bodySF (plainFor_of_name pn_com_example_januswire_januswire_sim_DueEvents) hisR ?_
  intro p e s m args below meth c s₁ Bd hml0 hP hK
  obtain ⟨rfl, hZ, hh⟩ := hP
  have hx := Bd.exec
  have hby := Bd.bytes
  have hml : c.maxLocals = 7 := hml0
  have hown : s.vm.findClass "com/example/januswire/januswire/sim/DueEvents" = some m.cls := findClass_of_methodNamed Bd.named
  have hnm := (name_of_methodNamed Bd.named Bd.method).1
  have X0 : Stand p l e ({ frames := 1, cells := 3, slots := 136, locals := 21 } : Room) s m #[(.ref a1), (.long t1), .null] below meth c s₁ [] 0 0 := Stand.of_body Bd
  have e0 : s₁.heap = h0 := by rw [← hh, Bd.state]; rfl
  have N0 := Fr.nil n0
  have pre0 : ∀ t, Steps p.tables e below (s₁.setTop (mkF m 0 #[.val (.ref a1), .val (.long t1), .second, .val .null, .unset, .unset, .unset] [])) t → Steps p.tables e below (s₁.setTop (entryFrame m #[(.ref a1), (.long t1), .null] 7)) t := fun t k => castTop (ef_sc_16_64 m a1 t1) k
  have hD_ := hD; obtain ⟨ev, ct, dd, gev, gct, E_a1, F_events, F_counts, F_mask, F_current, F_lastTick, F_pending, F_droppedLate, Ev, Ct⟩ := hD_
  have ne_d_e : a1 ≠ ev := own_de E_a1 (hw _ (List.mem_of_getElem? (i := 1) rfl)) Ev
  have ne_d_c : a1 ≠ ct := own_dc E_a1 (hw _ (List.mem_of_getElem? (i := 1) rfl)) Ct
  have ne_e_c : ev ≠ ct := own_ec Ev Ct
  obtain ⟨T1, X1, e1, st1⟩ := getF X0 hx hZ hown (host := "") (Or.inl (hw _ (List.mem_of_getElem? (i := 19) rfl))) Via.refl e0 F_current (g := (mkF m 2 #[.val (.ref a1), .val (.long t1), .second, .val .null, .unset, .unset, .unset] [(.ref a1), (.long t1)])) rfl rfl (hb hby d4_2)
  obtain ⟨T2, X2, e2, st2⟩ := getF X1 hx hZ hown (host := "") (Or.inl (hw _ (List.mem_of_getElem? (i := 21) rfl))) Via.refl e1 F_lastTick (g := (mkF m 29 #[.val (.ref a1), .val (.long t1), .second, .val .null, .unset, .unset, .unset] [(.ref a1), (.long t1)])) rfl rfl (hb hby d4_29)
  obtain ⟨T3, X3, e3, st3⟩ := getF X2 hx hZ hown (host := "") (Or.inl (hw _ (List.mem_of_getElem? (i := 19) rfl))) Via.refl e2 F_current (g := (mkF m 44 #[.val (.ref a1), .val (.long t1), .second, .val .null, .unset, .unset, .unset] [(.ref a1), (.long t1)])) rfl rfl (hb hby d4_44)
  obtain ⟨T4, X4, e4, st4⟩ := getF X3 hx hZ hown (host := "") (Or.inl (hw _ (List.mem_of_getElem? (i := 16) rfl))) Via.refl e3 F_mask (g := (mkF m 49 #[.val (.ref a1), .val (.long t1), .second, .val .null, .unset, .unset, .unset] [(.ref a1), (.long (t1 - (-1)))])) rfl rfl (hb hby d4_49)
  obtain ⟨cq5, q5, q5'⟩ := E_a1.cell
  obtain ⟨_, _, ⟨T5, L5, k5, n5⟩, -, X5, ⟨Lc5, hQ5, l5, y5, z5⟩, st5⟩ := X4.privateBack hx (y := (⟨"com/example/januswire/januswire/sim/DueEvents", "widen", "(J)V"⟩ : MethodName)) hown (mvT hZ (hw _ (List.mem_of_getElem? (i := 38) rfl))) (mvT hZ (hw _ (List.mem_of_getElem? (i := 39) rfl))) (own_sel hZ (hw _ (List.mem_of_getElem? (i := 1) rfl)) (hw _ (List.mem_of_getElem? (i := 40) rfl)) (hw _ (List.mem_of_getElem? (i := 39) rfl)) (by decide)) (Cond.privateMethod_at (mvP hZ (hw _ (List.mem_of_getElem? (i := 40) rfl)) (args := #[]))) (mvT hZ (hw _ (List.mem_of_getElem? (i := 41) rfl))) (by decide) (backOf (W := 0) (wid_16_64 l Z a0 hw [] a1 t1 q1 P k h0 n0 O0 hD g1 hk0 hl16 hl32 hl64) hZ (hw _ (List.mem_of_getElem? (i := 41) rfl)) (hw _ (List.mem_of_getElem? (i := 2) rfl)) (by decide) (by decide)) (g := (mkF m 59 #[.val (.ref a1), .val (.long t1), .second, .val .null, .unset, .unset, .unset] [(.long t1), (.ref a1)])) rfl (by rw [hml]; rfl) (Steps.refl _) (a := a1) (by rw [e4]; exact q5) q5' (argsL := [(.long t1)]) (rest := []) (lenOf pd__J_V rfl) rfl (by show 2 * 0 + _ ≤ _; exact Nat.le_of_eq rfl) (hb hby d4_59) (fun _ _ => ⟨rfl, e4, (by decide : 0 + 2 ≤ _), (by decide : 0 + 128 ≤ _)⟩)
  dsimp only [Pt.U, Pt.locs, Pt.cells, Pt.slots] at X5 l5 y5 z5 st5 hQ5
  subst l5 y5 z5
  obtain ⟨rfl, Nq5, Oq5, Dq5⟩ := hQ5
  have N5 := Fr.app N0 Nq5
  obtain ⟨T6, h6, locs6, du6, X6, e6, O6, N6, D6, st6⟩ := tail X5 hx hZ hw hby hml hown rfl Oq5 N5 Dq5 g1 hk7 (own_to64 t1) (by decide) (by decide)
  obtain ⟨fs, hr, hrun, hended, hW, hsame⟩ := X6.leave (v := none) (fun _ => rfl)
  refine ⟨_, _, pre0 _ ?_, hrun, hended, _, _, rfl, ?_, ⟨_, rfl⟩, hW, hsame.mono (by decide) (by decide)⟩
  · show Steps p.tables e below (s₁.setTop (mkF m 0 #[.val (.ref a1), .val (.long t1), .second, .val .null, .unset, .unset, .unset] [])) _
    refine XS.lloadN X0.here hx rfl (hb hby d4_0) rfl ?_
    show Steps p.tables e below (s₁.setTop (mkF m 1 #[.val (.ref a1), .val (.long t1), .second, .val .null, .unset, .unset, .unset] [(.long t1)])) _
    refine XS.aloadN X0.here hx rfl (hb hby d4_1) rfl rfl ?_
    show Steps p.tables e below (s₁.setTop (mkF m 2 #[.val (.ref a1), .val (.long t1), .second, .val .null, .unset, .unset, .unset] [(.ref a1), (.long t1)])) _
    refine st1 _ ?_
    show Steps p.tables e below (T1.setTop (mkF m 5 #[.val (.ref a1), .val (.long t1), .second, .val .null, .unset, .unset, .unset] [(.long (-1)), (.long t1)])) _
    refine XS.lcmp X1.here hx rfl (hb hby d4_5) rfl ?_
    show Steps p.tables e below (T1.setTop (mkF m 6 #[.val (.ref a1), .val (.long t1), .second, .val .null, .unset, .unset, .unset] [(.int (lcmpW t1 (-1)))])) _
    refine XS.ifYes X1.here hx rfl (pc0 := 6) (pc' := 27) rfl (hb hby d4_6) rfl ((if0 _ _).trans (tlt hgt).2.2.1) (by decide) (by decide) ?_
    show Steps p.tables e below (T1.setTop (mkF m 27 #[.val (.ref a1), .val (.long t1), .second, .val .null, .unset, .unset, .unset] [])) _
    refine XS.lloadN X1.here hx rfl (hb hby d4_27) rfl ?_
    show Steps p.tables e below (T1.setTop (mkF m 28 #[.val (.ref a1), .val (.long t1), .second, .val .null, .unset, .unset, .unset] [(.long t1)])) _
    refine XS.aloadN X1.here hx rfl (hb hby d4_28) rfl rfl ?_
    show Steps p.tables e below (T1.setTop (mkF m 29 #[.val (.ref a1), .val (.long t1), .second, .val .null, .unset, .unset, .unset] [(.ref a1), (.long t1)])) _
    refine st2 _ ?_
    show Steps p.tables e below (T2.setTop (mkF m 32 #[.val (.ref a1), .val (.long t1), .second, .val .null, .unset, .unset, .unset] [(.long q1), (.long t1)])) _
    refine XS.lcmp X2.here hx rfl (hb hby d4_32) rfl ?_
    show Steps p.tables e below (T2.setTop (mkF m 33 #[.val (.ref a1), .val (.long t1), .second, .val .null, .unset, .unset, .unset] [(.int (lcmpW t1 q1))])) _
    refine XS.ifYes X2.here hx rfl (pc0 := 33) (pc' := 42) rfl (hb hby d4_33) rfl ((if0 _ _).trans (flt hle).2.2.2) (by decide) (by decide) ?_
    show Steps p.tables e below (T2.setTop (mkF m 42 #[.val (.ref a1), .val (.long t1), .second, .val .null, .unset, .unset, .unset] [])) _
    refine XS.lloadN X2.here hx rfl (hb hby d4_42) rfl ?_
    show Steps p.tables e below (T2.setTop (mkF m 43 #[.val (.ref a1), .val (.long t1), .second, .val .null, .unset, .unset, .unset] [(.long t1)])) _
    refine XS.aloadN X2.here hx rfl (hb hby d4_43) rfl rfl ?_
    show Steps p.tables e below (T2.setTop (mkF m 44 #[.val (.ref a1), .val (.long t1), .second, .val .null, .unset, .unset, .unset] [(.ref a1), (.long t1)])) _
    refine st3 _ ?_
    show Steps p.tables e below (T3.setTop (mkF m 47 #[.val (.ref a1), .val (.long t1), .second, .val .null, .unset, .unset, .unset] [(.long (-1)), (.long t1)])) _
    refine XS.lsub X3.here hx rfl (hb hby d4_47) rfl ?_
    show Steps p.tables e below (T3.setTop (mkF m 48 #[.val (.ref a1), .val (.long t1), .second, .val .null, .unset, .unset, .unset] [(.long (t1 - (-1)))])) _
    refine XS.aloadN X3.here hx rfl (hb hby d4_48) rfl rfl ?_
    show Steps p.tables e below (T3.setTop (mkF m 49 #[.val (.ref a1), .val (.long t1), .second, .val .null, .unset, .unset, .unset] [(.ref a1), (.long (t1 - (-1)))])) _
    refine st4 _ ?_
    show Steps p.tables e below (T4.setTop (mkF m 52 #[.val (.ref a1), .val (.long t1), .second, .val .null, .unset, .unset, .unset] [(.int ((16 : Int32) - 1)), (.long (t1 - (-1)))])) _
    refine XS.i2l X4.here hx rfl (hb hby d4_52) rfl ?_
    show Steps p.tables e below (T4.setTop (mkF m 53 #[.val (.ref a1), .val (.long t1), .second, .val .null, .unset, .unset, .unset] [(.long (((16 : Int32) - 1).toInt64)), (.long (t1 - (-1)))])) _
    refine XS.lcmp X4.here hx rfl (hb hby d4_53) rfl ?_
    show Steps p.tables e below (T4.setTop (mkF m 54 #[.val (.ref a1), .val (.long t1), .second, .val .null, .unset, .unset, .unset] [(.int (lcmpW (t1 - (-1)) (((16 : Int32) - 1).toInt64)))])) _
    refine XS.ifNo X4.here hx rfl (hb hby d4_54) rfl ((if0 _ _).trans (tlt hm).2.2.2) ?_
    show Steps p.tables e below (T4.setTop (mkF m 57 #[.val (.ref a1), .val (.long t1), .second, .val .null, .unset, .unset, .unset] [])) _
    refine XS.aloadN X4.here hx rfl (hb hby d4_57) rfl rfl ?_
    show Steps p.tables e below (T4.setTop (mkF m 58 #[.val (.ref a1), .val (.long t1), .second, .val .null, .unset, .unset, .unset] [(.ref a1)])) _
    refine XS.lloadN X4.here hx rfl (hb hby d4_58) rfl ?_
    show Steps p.tables e below (T4.setTop (mkF m 59 #[.val (.ref a1), .val (.long t1), .second, .val .null, .unset, .unset, .unset] [(.long t1), (.ref a1)])) _
    refine st5.trans ?_
    show Steps p.tables e below (T5.setTop (mkF m 62 #[.val (.ref a1), .val (.long t1), .second, .val .null, .unset, .unset, .unset] [])) _
    refine st6 _ ?_
    show Steps p.tables e below (T6.setTop (mkF m 179 #[.val (.ref a1), .val (.long t1), .second, .val .null, .val (.int (t1 &&& (((64 : Int32) - 1).toInt64)).toInt32), .val (.ref du6), .unset] [])) _
    exact X6.returnOut hx Bd.returns (hb hby d4_179) hr
  · show Q_sc_16_64 Z a1 t1 q1 P k h0 n0 _ T6.heap _
    rw [e6]
    exact ⟨rfl, N6, O6, D6⟩
theorem ef_sc_16_128 (m : MethodId) (a1 : Addr) (t1 : Int64) : entryFrame m #[(.ref a1), (.long t1), .null] 7 = mkF m 0 #[.val (.ref a1), .val (.long t1), .second, .val .null, .unset, .unset, .unset] [] := by first | (simp [entryFrame, mkF, argsToLocals, Value.category]; done) | rfl
def Q_sc_16_128 (Z : State) (a1 : Addr) (t1 q1 P : Int64) (k : Int32) (h0 : Heap) (n0 : Nat) (v : Option Value) (h : Heap) (L : List Loc) : Prop := v = none ∧ Fr n0 L ∧ Old Z n0 h ∧ Due Z n0 h a1 q1 (128 : Int32) (P + 1) (k + 1)
set_option maxRecDepth 65536 in
set_option maxHeartbeats 40000000 in
theorem sc_16_128 (l : Launch) (Z : State) (a0 : Array Value) (hw : ∀ d ∈ tables_1, d.before a0 Z = true) (ws : List Jvm.Cond) (a1 : Addr) (t1 q1 P : Int64) (k : Int32) (h0 : Heap) (n0 : Nat) (O0 : Old Z n0 h0) (hD : Due Z n0 h0 a1 q1 (16 : Int32) P k) (g1 : n0 ≤ a1) (hk0 : ¬ k < 0) (hk7 : k < (7 : Int32)) (hgt : (0 : Int32) < (lcmpW t1 (-1))) (hle : ¬ ((0 : Int32) < (lcmpW t1 q1))) (hm : (0 : Int32) < (lcmpW (t1 - (-1)) (((16 : Int32) - 1).toInt64))) (hl16 : ¬ ((lcmpW (t1 - (-1)) ((16 : Int32).toInt64)) < (0 : Int32))) (hl32 : ¬ ((lcmpW (t1 - (-1)) ((32 : Int32).toInt64)) < (0 : Int32))) (hl64 : ¬ ((lcmpW (t1 - (-1)) ((64 : Int32).toInt64)) < (0 : Int32))) (hl128 : (lcmpW (t1 - (-1)) ((128 : Int32).toInt64)) < (0 : Int32)) :
    MetFree l (⟨"com/example/januswire/januswire/sim/DueEvents", "schedule", "(JLjava/lang/Runnable;)V"⟩ : MethodName) (head1 (Jvm.Cond.code (⟨"com/example/januswire/januswire/sim/DueEvents", "schedule", "(JLjava/lang/Runnable;)V"⟩ : MethodName) prog_187_method_2_code 7 none :: ws) ({ frames := 1, cells := 3, slots := 264, locals := 21 } : Room)) (fun a U => a = #[(.ref a1), (.long t1), .null] ∧ Z.Warmed39 U.vm ∧ U.heap = h0) (fun _ _ _ _ _ => True) (fun _ U o U' => ∃ v L, o = .returned v ∧ Q_sc_16_128 Z a1 t1 q1 P k h0 n0 v U'.heap L ∧ FrameEnd U o U' L ({ frames := 1, cells := 3, slots := 264, locals := 21 } : Room).cells ({ frames := 1, cells := 3, slots := 264, locals := 21 } : Room).slots) := by
  refine MetFree.of_bodySF (plainFor_of_name pn_com_example_januswire_januswire_sim_DueEvents) hisR ?_
  intro p e s m args below meth c s₁ Bd hml0 hP hK
  obtain ⟨rfl, hZ, hh⟩ := hP
  have hx := Bd.exec
  have hby := Bd.bytes
  have hml : c.maxLocals = 7 := hml0
  have hown : s.vm.findClass "com/example/januswire/januswire/sim/DueEvents" = some m.cls := findClass_of_methodNamed Bd.named
  have hnm := (name_of_methodNamed Bd.named Bd.method).1
  have X0 : Stand p l e ({ frames := 1, cells := 3, slots := 264, locals := 21 } : Room) s m #[(.ref a1), (.long t1), .null] below meth c s₁ [] 0 0 := Stand.of_body Bd
  have e0 : s₁.heap = h0 := by rw [← hh, Bd.state]; rfl
  have N0 := Fr.nil n0
  have pre0 : ∀ t, Steps p.tables e below (s₁.setTop (mkF m 0 #[.val (.ref a1), .val (.long t1), .second, .val .null, .unset, .unset, .unset] [])) t → Steps p.tables e below (s₁.setTop (entryFrame m #[(.ref a1), (.long t1), .null] 7)) t := fun t k => castTop (ef_sc_16_128 m a1 t1) k
  have hD_ := hD; obtain ⟨ev, ct, dd, gev, gct, E_a1, F_events, F_counts, F_mask, F_current, F_lastTick, F_pending, F_droppedLate, Ev, Ct⟩ := hD_
  have ne_d_e : a1 ≠ ev := own_de E_a1 (hw _ (List.mem_of_getElem? (i := 1) rfl)) Ev
  have ne_d_c : a1 ≠ ct := own_dc E_a1 (hw _ (List.mem_of_getElem? (i := 1) rfl)) Ct
  have ne_e_c : ev ≠ ct := own_ec Ev Ct
  obtain ⟨T1, X1, e1, st1⟩ := getF X0 hx hZ hown (host := "") (Or.inl (hw _ (List.mem_of_getElem? (i := 19) rfl))) Via.refl e0 F_current (g := (mkF m 2 #[.val (.ref a1), .val (.long t1), .second, .val .null, .unset, .unset, .unset] [(.ref a1), (.long t1)])) rfl rfl (hb hby d4_2)
  obtain ⟨T2, X2, e2, st2⟩ := getF X1 hx hZ hown (host := "") (Or.inl (hw _ (List.mem_of_getElem? (i := 21) rfl))) Via.refl e1 F_lastTick (g := (mkF m 29 #[.val (.ref a1), .val (.long t1), .second, .val .null, .unset, .unset, .unset] [(.ref a1), (.long t1)])) rfl rfl (hb hby d4_29)
  obtain ⟨T3, X3, e3, st3⟩ := getF X2 hx hZ hown (host := "") (Or.inl (hw _ (List.mem_of_getElem? (i := 19) rfl))) Via.refl e2 F_current (g := (mkF m 44 #[.val (.ref a1), .val (.long t1), .second, .val .null, .unset, .unset, .unset] [(.ref a1), (.long t1)])) rfl rfl (hb hby d4_44)
  obtain ⟨T4, X4, e4, st4⟩ := getF X3 hx hZ hown (host := "") (Or.inl (hw _ (List.mem_of_getElem? (i := 16) rfl))) Via.refl e3 F_mask (g := (mkF m 49 #[.val (.ref a1), .val (.long t1), .second, .val .null, .unset, .unset, .unset] [(.ref a1), (.long (t1 - (-1)))])) rfl rfl (hb hby d4_49)
  obtain ⟨cq5, q5, q5'⟩ := E_a1.cell
  obtain ⟨_, _, ⟨T5, L5, k5, n5⟩, -, X5, ⟨Lc5, hQ5, l5, y5, z5⟩, st5⟩ := X4.privateBack hx (y := (⟨"com/example/januswire/januswire/sim/DueEvents", "widen", "(J)V"⟩ : MethodName)) hown (mvT hZ (hw _ (List.mem_of_getElem? (i := 38) rfl))) (mvT hZ (hw _ (List.mem_of_getElem? (i := 39) rfl))) (own_sel hZ (hw _ (List.mem_of_getElem? (i := 1) rfl)) (hw _ (List.mem_of_getElem? (i := 40) rfl)) (hw _ (List.mem_of_getElem? (i := 39) rfl)) (by decide)) (Cond.privateMethod_at (mvP hZ (hw _ (List.mem_of_getElem? (i := 40) rfl)) (args := #[]))) (mvT hZ (hw _ (List.mem_of_getElem? (i := 41) rfl))) (by decide) (backOf (W := 0) (wid_16_128 l Z a0 hw [] a1 t1 q1 P k h0 n0 O0 hD g1 hk0 hl16 hl32 hl64 hl128) hZ (hw _ (List.mem_of_getElem? (i := 41) rfl)) (hw _ (List.mem_of_getElem? (i := 2) rfl)) (by decide) (by decide)) (g := (mkF m 59 #[.val (.ref a1), .val (.long t1), .second, .val .null, .unset, .unset, .unset] [(.long t1), (.ref a1)])) rfl (by rw [hml]; rfl) (Steps.refl _) (a := a1) (by rw [e4]; exact q5) q5' (argsL := [(.long t1)]) (rest := []) (lenOf pd__J_V rfl) rfl (by show 2 * 0 + _ ≤ _; exact Nat.le_of_eq rfl) (hb hby d4_59) (fun _ _ => ⟨rfl, e4, (by decide : 0 + 2 ≤ _), (by decide : 0 + 256 ≤ _)⟩)
  dsimp only [Pt.U, Pt.locs, Pt.cells, Pt.slots] at X5 l5 y5 z5 st5 hQ5
  subst l5 y5 z5
  obtain ⟨rfl, Nq5, Oq5, Dq5⟩ := hQ5
  have N5 := Fr.app N0 Nq5
  obtain ⟨T6, h6, locs6, du6, X6, e6, O6, N6, D6, st6⟩ := tail X5 hx hZ hw hby hml hown rfl Oq5 N5 Dq5 g1 hk7 (own_to128 t1) (by decide) (by decide)
  obtain ⟨fs, hr, hrun, hended, hW, hsame⟩ := X6.leave (v := none) (fun _ => rfl)
  refine ⟨_, _, pre0 _ ?_, hrun, hended, _, _, rfl, ?_, ⟨_, rfl⟩, hW, hsame.mono (by decide) (by decide)⟩
  · show Steps p.tables e below (s₁.setTop (mkF m 0 #[.val (.ref a1), .val (.long t1), .second, .val .null, .unset, .unset, .unset] [])) _
    refine XS.lloadN X0.here hx rfl (hb hby d4_0) rfl ?_
    show Steps p.tables e below (s₁.setTop (mkF m 1 #[.val (.ref a1), .val (.long t1), .second, .val .null, .unset, .unset, .unset] [(.long t1)])) _
    refine XS.aloadN X0.here hx rfl (hb hby d4_1) rfl rfl ?_
    show Steps p.tables e below (s₁.setTop (mkF m 2 #[.val (.ref a1), .val (.long t1), .second, .val .null, .unset, .unset, .unset] [(.ref a1), (.long t1)])) _
    refine st1 _ ?_
    show Steps p.tables e below (T1.setTop (mkF m 5 #[.val (.ref a1), .val (.long t1), .second, .val .null, .unset, .unset, .unset] [(.long (-1)), (.long t1)])) _
    refine XS.lcmp X1.here hx rfl (hb hby d4_5) rfl ?_
    show Steps p.tables e below (T1.setTop (mkF m 6 #[.val (.ref a1), .val (.long t1), .second, .val .null, .unset, .unset, .unset] [(.int (lcmpW t1 (-1)))])) _
    refine XS.ifYes X1.here hx rfl (pc0 := 6) (pc' := 27) rfl (hb hby d4_6) rfl ((if0 _ _).trans (tlt hgt).2.2.1) (by decide) (by decide) ?_
    show Steps p.tables e below (T1.setTop (mkF m 27 #[.val (.ref a1), .val (.long t1), .second, .val .null, .unset, .unset, .unset] [])) _
    refine XS.lloadN X1.here hx rfl (hb hby d4_27) rfl ?_
    show Steps p.tables e below (T1.setTop (mkF m 28 #[.val (.ref a1), .val (.long t1), .second, .val .null, .unset, .unset, .unset] [(.long t1)])) _
    refine XS.aloadN X1.here hx rfl (hb hby d4_28) rfl rfl ?_
    show Steps p.tables e below (T1.setTop (mkF m 29 #[.val (.ref a1), .val (.long t1), .second, .val .null, .unset, .unset, .unset] [(.ref a1), (.long t1)])) _
    refine st2 _ ?_
    show Steps p.tables e below (T2.setTop (mkF m 32 #[.val (.ref a1), .val (.long t1), .second, .val .null, .unset, .unset, .unset] [(.long q1), (.long t1)])) _
    refine XS.lcmp X2.here hx rfl (hb hby d4_32) rfl ?_
    show Steps p.tables e below (T2.setTop (mkF m 33 #[.val (.ref a1), .val (.long t1), .second, .val .null, .unset, .unset, .unset] [(.int (lcmpW t1 q1))])) _
    refine XS.ifYes X2.here hx rfl (pc0 := 33) (pc' := 42) rfl (hb hby d4_33) rfl ((if0 _ _).trans (flt hle).2.2.2) (by decide) (by decide) ?_
    show Steps p.tables e below (T2.setTop (mkF m 42 #[.val (.ref a1), .val (.long t1), .second, .val .null, .unset, .unset, .unset] [])) _
    refine XS.lloadN X2.here hx rfl (hb hby d4_42) rfl ?_
    show Steps p.tables e below (T2.setTop (mkF m 43 #[.val (.ref a1), .val (.long t1), .second, .val .null, .unset, .unset, .unset] [(.long t1)])) _
    refine XS.aloadN X2.here hx rfl (hb hby d4_43) rfl rfl ?_
    show Steps p.tables e below (T2.setTop (mkF m 44 #[.val (.ref a1), .val (.long t1), .second, .val .null, .unset, .unset, .unset] [(.ref a1), (.long t1)])) _
    refine st3 _ ?_
    show Steps p.tables e below (T3.setTop (mkF m 47 #[.val (.ref a1), .val (.long t1), .second, .val .null, .unset, .unset, .unset] [(.long (-1)), (.long t1)])) _
    refine XS.lsub X3.here hx rfl (hb hby d4_47) rfl ?_
    show Steps p.tables e below (T3.setTop (mkF m 48 #[.val (.ref a1), .val (.long t1), .second, .val .null, .unset, .unset, .unset] [(.long (t1 - (-1)))])) _
    refine XS.aloadN X3.here hx rfl (hb hby d4_48) rfl rfl ?_
    show Steps p.tables e below (T3.setTop (mkF m 49 #[.val (.ref a1), .val (.long t1), .second, .val .null, .unset, .unset, .unset] [(.ref a1), (.long (t1 - (-1)))])) _
    refine st4 _ ?_
    show Steps p.tables e below (T4.setTop (mkF m 52 #[.val (.ref a1), .val (.long t1), .second, .val .null, .unset, .unset, .unset] [(.int ((16 : Int32) - 1)), (.long (t1 - (-1)))])) _
    refine XS.i2l X4.here hx rfl (hb hby d4_52) rfl ?_
    show Steps p.tables e below (T4.setTop (mkF m 53 #[.val (.ref a1), .val (.long t1), .second, .val .null, .unset, .unset, .unset] [(.long (((16 : Int32) - 1).toInt64)), (.long (t1 - (-1)))])) _
    refine XS.lcmp X4.here hx rfl (hb hby d4_53) rfl ?_
    show Steps p.tables e below (T4.setTop (mkF m 54 #[.val (.ref a1), .val (.long t1), .second, .val .null, .unset, .unset, .unset] [(.int (lcmpW (t1 - (-1)) (((16 : Int32) - 1).toInt64)))])) _
    refine XS.ifNo X4.here hx rfl (hb hby d4_54) rfl ((if0 _ _).trans (tlt hm).2.2.2) ?_
    show Steps p.tables e below (T4.setTop (mkF m 57 #[.val (.ref a1), .val (.long t1), .second, .val .null, .unset, .unset, .unset] [])) _
    refine XS.aloadN X4.here hx rfl (hb hby d4_57) rfl rfl ?_
    show Steps p.tables e below (T4.setTop (mkF m 58 #[.val (.ref a1), .val (.long t1), .second, .val .null, .unset, .unset, .unset] [(.ref a1)])) _
    refine XS.lloadN X4.here hx rfl (hb hby d4_58) rfl ?_
    show Steps p.tables e below (T4.setTop (mkF m 59 #[.val (.ref a1), .val (.long t1), .second, .val .null, .unset, .unset, .unset] [(.long t1), (.ref a1)])) _
    refine st5.trans ?_
    show Steps p.tables e below (T5.setTop (mkF m 62 #[.val (.ref a1), .val (.long t1), .second, .val .null, .unset, .unset, .unset] [])) _
    refine st6 _ ?_
    show Steps p.tables e below (T6.setTop (mkF m 179 #[.val (.ref a1), .val (.long t1), .second, .val .null, .val (.int (t1 &&& (((128 : Int32) - 1).toInt64)).toInt32), .val (.ref du6), .unset] [])) _
    exact X6.returnOut hx Bd.returns (hb hby d4_179) hr
  · show Q_sc_16_128 Z a1 t1 q1 P k h0 n0 _ T6.heap _
    rw [e6]
    exact ⟨rfl, N6, O6, D6⟩
theorem ef_sc_32_32 (m : MethodId) (a1 : Addr) (t1 : Int64) : entryFrame m #[(.ref a1), (.long t1), .null] 7 = mkF m 0 #[.val (.ref a1), .val (.long t1), .second, .val .null, .unset, .unset, .unset] [] := by first | (simp [entryFrame, mkF, argsToLocals, Value.category]; done) | rfl
def Q_sc_32_32 (Z : State) (a1 : Addr) (t1 q1 P : Int64) (k : Int32) (h0 : Heap) (n0 : Nat) (v : Option Value) (h : Heap) (L : List Loc) : Prop := v = none ∧ Fr n0 L ∧ Old Z n0 h ∧ Due Z n0 h a1 q1 (32 : Int32) (P + 1) (k + 1)
set_option maxRecDepth 65536 in
set_option maxHeartbeats 40000000 in
theorem sc_32_32 (l : Launch) (Z : State) (a0 : Array Value) (hw : ∀ d ∈ tables_1, d.before a0 Z = true) (ws : List Jvm.Cond) (a1 : Addr) (t1 q1 P : Int64) (k : Int32) (h0 : Heap) (n0 : Nat) (O0 : Old Z n0 h0) (hD : Due Z n0 h0 a1 q1 (32 : Int32) P k) (g1 : n0 ≤ a1) (hk0 : ¬ k < 0) (hk7 : k < (7 : Int32)) (hgt : (0 : Int32) < (lcmpW t1 (-1))) (hle : ¬ ((0 : Int32) < (lcmpW t1 q1))) (hm : ¬ ((0 : Int32) < (lcmpW (t1 - (-1)) (((32 : Int32) - 1).toInt64)))) :
    MetFree l (⟨"com/example/januswire/januswire/sim/DueEvents", "schedule", "(JLjava/lang/Runnable;)V"⟩ : MethodName) (head1 (Jvm.Cond.code (⟨"com/example/januswire/januswire/sim/DueEvents", "schedule", "(JLjava/lang/Runnable;)V"⟩ : MethodName) prog_187_method_2_code 7 none :: ws) ({ frames := 0, cells := 1, slots := 8, locals := 0 } : Room)) (fun a U => a = #[(.ref a1), (.long t1), .null] ∧ Z.Warmed39 U.vm ∧ U.heap = h0) (fun _ _ _ _ _ => True) (fun _ U o U' => ∃ v L, o = .returned v ∧ Q_sc_32_32 Z a1 t1 q1 P k h0 n0 v U'.heap L ∧ FrameEnd U o U' L ({ frames := 0, cells := 1, slots := 8, locals := 0 } : Room).cells ({ frames := 0, cells := 1, slots := 8, locals := 0 } : Room).slots) := by
  refine MetFree.of_bodySF (plainFor_of_name pn_com_example_januswire_januswire_sim_DueEvents) hisR ?_
  intro p e s m args below meth c s₁ Bd hml0 hP hK
  obtain ⟨rfl, hZ, hh⟩ := hP
  have hx := Bd.exec
  have hby := Bd.bytes
  have hml : c.maxLocals = 7 := hml0
  have hown : s.vm.findClass "com/example/januswire/januswire/sim/DueEvents" = some m.cls := findClass_of_methodNamed Bd.named
  have hnm := (name_of_methodNamed Bd.named Bd.method).1
  have X0 : Stand p l e ({ frames := 0, cells := 1, slots := 8, locals := 0 } : Room) s m #[(.ref a1), (.long t1), .null] below meth c s₁ [] 0 0 := Stand.of_body Bd
  have e0 : s₁.heap = h0 := by rw [← hh, Bd.state]; rfl
  have N0 := Fr.nil n0
  have pre0 : ∀ t, Steps p.tables e below (s₁.setTop (mkF m 0 #[.val (.ref a1), .val (.long t1), .second, .val .null, .unset, .unset, .unset] [])) t → Steps p.tables e below (s₁.setTop (entryFrame m #[(.ref a1), (.long t1), .null] 7)) t := fun t k => castTop (ef_sc_32_32 m a1 t1) k
  have hD_ := hD; obtain ⟨ev, ct, dd, gev, gct, E_a1, F_events, F_counts, F_mask, F_current, F_lastTick, F_pending, F_droppedLate, Ev, Ct⟩ := hD_
  have ne_d_e : a1 ≠ ev := own_de E_a1 (hw _ (List.mem_of_getElem? (i := 1) rfl)) Ev
  have ne_d_c : a1 ≠ ct := own_dc E_a1 (hw _ (List.mem_of_getElem? (i := 1) rfl)) Ct
  have ne_e_c : ev ≠ ct := own_ec Ev Ct
  obtain ⟨T1, X1, e1, st1⟩ := getF X0 hx hZ hown (host := "") (Or.inl (hw _ (List.mem_of_getElem? (i := 19) rfl))) Via.refl e0 F_current (g := (mkF m 2 #[.val (.ref a1), .val (.long t1), .second, .val .null, .unset, .unset, .unset] [(.ref a1), (.long t1)])) rfl rfl (hb hby d4_2)
  obtain ⟨T2, X2, e2, st2⟩ := getF X1 hx hZ hown (host := "") (Or.inl (hw _ (List.mem_of_getElem? (i := 21) rfl))) Via.refl e1 F_lastTick (g := (mkF m 29 #[.val (.ref a1), .val (.long t1), .second, .val .null, .unset, .unset, .unset] [(.ref a1), (.long t1)])) rfl rfl (hb hby d4_29)
  obtain ⟨T3, X3, e3, st3⟩ := getF X2 hx hZ hown (host := "") (Or.inl (hw _ (List.mem_of_getElem? (i := 19) rfl))) Via.refl e2 F_current (g := (mkF m 44 #[.val (.ref a1), .val (.long t1), .second, .val .null, .unset, .unset, .unset] [(.ref a1), (.long t1)])) rfl rfl (hb hby d4_44)
  obtain ⟨T4, X4, e4, st4⟩ := getF X3 hx hZ hown (host := "") (Or.inl (hw _ (List.mem_of_getElem? (i := 16) rfl))) Via.refl e3 F_mask (g := (mkF m 49 #[.val (.ref a1), .val (.long t1), .second, .val .null, .unset, .unset, .unset] [(.ref a1), (.long (t1 - (-1)))])) rfl rfl (hb hby d4_49)
  obtain ⟨T5, h5, locs5, du5, X5, e5, O5, N5, D5, st5⟩ := tail X4 hx hZ hw hby hml hown e4 O0 N0 hD g1 hk7 (own_to32 t1) (by decide) (by decide)
  obtain ⟨fs, hr, hrun, hended, hW, hsame⟩ := X5.leave (v := none) (fun _ => rfl)
  refine ⟨_, _, pre0 _ ?_, hrun, hended, _, _, rfl, ?_, ⟨_, rfl⟩, hW, hsame.mono (by decide) (by decide)⟩
  · show Steps p.tables e below (s₁.setTop (mkF m 0 #[.val (.ref a1), .val (.long t1), .second, .val .null, .unset, .unset, .unset] [])) _
    refine XS.lloadN X0.here hx rfl (hb hby d4_0) rfl ?_
    show Steps p.tables e below (s₁.setTop (mkF m 1 #[.val (.ref a1), .val (.long t1), .second, .val .null, .unset, .unset, .unset] [(.long t1)])) _
    refine XS.aloadN X0.here hx rfl (hb hby d4_1) rfl rfl ?_
    show Steps p.tables e below (s₁.setTop (mkF m 2 #[.val (.ref a1), .val (.long t1), .second, .val .null, .unset, .unset, .unset] [(.ref a1), (.long t1)])) _
    refine st1 _ ?_
    show Steps p.tables e below (T1.setTop (mkF m 5 #[.val (.ref a1), .val (.long t1), .second, .val .null, .unset, .unset, .unset] [(.long (-1)), (.long t1)])) _
    refine XS.lcmp X1.here hx rfl (hb hby d4_5) rfl ?_
    show Steps p.tables e below (T1.setTop (mkF m 6 #[.val (.ref a1), .val (.long t1), .second, .val .null, .unset, .unset, .unset] [(.int (lcmpW t1 (-1)))])) _
    refine XS.ifYes X1.here hx rfl (pc0 := 6) (pc' := 27) rfl (hb hby d4_6) rfl ((if0 _ _).trans (tlt hgt).2.2.1) (by decide) (by decide) ?_
    show Steps p.tables e below (T1.setTop (mkF m 27 #[.val (.ref a1), .val (.long t1), .second, .val .null, .unset, .unset, .unset] [])) _
    refine XS.lloadN X1.here hx rfl (hb hby d4_27) rfl ?_
    show Steps p.tables e below (T1.setTop (mkF m 28 #[.val (.ref a1), .val (.long t1), .second, .val .null, .unset, .unset, .unset] [(.long t1)])) _
    refine XS.aloadN X1.here hx rfl (hb hby d4_28) rfl rfl ?_
    show Steps p.tables e below (T1.setTop (mkF m 29 #[.val (.ref a1), .val (.long t1), .second, .val .null, .unset, .unset, .unset] [(.ref a1), (.long t1)])) _
    refine st2 _ ?_
    show Steps p.tables e below (T2.setTop (mkF m 32 #[.val (.ref a1), .val (.long t1), .second, .val .null, .unset, .unset, .unset] [(.long q1), (.long t1)])) _
    refine XS.lcmp X2.here hx rfl (hb hby d4_32) rfl ?_
    show Steps p.tables e below (T2.setTop (mkF m 33 #[.val (.ref a1), .val (.long t1), .second, .val .null, .unset, .unset, .unset] [(.int (lcmpW t1 q1))])) _
    refine XS.ifYes X2.here hx rfl (pc0 := 33) (pc' := 42) rfl (hb hby d4_33) rfl ((if0 _ _).trans (flt hle).2.2.2) (by decide) (by decide) ?_
    show Steps p.tables e below (T2.setTop (mkF m 42 #[.val (.ref a1), .val (.long t1), .second, .val .null, .unset, .unset, .unset] [])) _
    refine XS.lloadN X2.here hx rfl (hb hby d4_42) rfl ?_
    show Steps p.tables e below (T2.setTop (mkF m 43 #[.val (.ref a1), .val (.long t1), .second, .val .null, .unset, .unset, .unset] [(.long t1)])) _
    refine XS.aloadN X2.here hx rfl (hb hby d4_43) rfl rfl ?_
    show Steps p.tables e below (T2.setTop (mkF m 44 #[.val (.ref a1), .val (.long t1), .second, .val .null, .unset, .unset, .unset] [(.ref a1), (.long t1)])) _
    refine st3 _ ?_
    show Steps p.tables e below (T3.setTop (mkF m 47 #[.val (.ref a1), .val (.long t1), .second, .val .null, .unset, .unset, .unset] [(.long (-1)), (.long t1)])) _
    refine XS.lsub X3.here hx rfl (hb hby d4_47) rfl ?_
    show Steps p.tables e below (T3.setTop (mkF m 48 #[.val (.ref a1), .val (.long t1), .second, .val .null, .unset, .unset, .unset] [(.long (t1 - (-1)))])) _
    refine XS.aloadN X3.here hx rfl (hb hby d4_48) rfl rfl ?_
    show Steps p.tables e below (T3.setTop (mkF m 49 #[.val (.ref a1), .val (.long t1), .second, .val .null, .unset, .unset, .unset] [(.ref a1), (.long (t1 - (-1)))])) _
    refine st4 _ ?_
    show Steps p.tables e below (T4.setTop (mkF m 52 #[.val (.ref a1), .val (.long t1), .second, .val .null, .unset, .unset, .unset] [(.int ((32 : Int32) - 1)), (.long (t1 - (-1)))])) _
    refine XS.i2l X4.here hx rfl (hb hby d4_52) rfl ?_
    show Steps p.tables e below (T4.setTop (mkF m 53 #[.val (.ref a1), .val (.long t1), .second, .val .null, .unset, .unset, .unset] [(.long (((32 : Int32) - 1).toInt64)), (.long (t1 - (-1)))])) _
    refine XS.lcmp X4.here hx rfl (hb hby d4_53) rfl ?_
    show Steps p.tables e below (T4.setTop (mkF m 54 #[.val (.ref a1), .val (.long t1), .second, .val .null, .unset, .unset, .unset] [(.int (lcmpW (t1 - (-1)) (((32 : Int32) - 1).toInt64)))])) _
    refine XS.ifYes X4.here hx rfl (pc0 := 54) (pc' := 62) rfl (hb hby d4_54) rfl ((if0 _ _).trans (flt hm).2.2.2) (by decide) (by decide) ?_
    show Steps p.tables e below (T4.setTop (mkF m 62 #[.val (.ref a1), .val (.long t1), .second, .val .null, .unset, .unset, .unset] [])) _
    refine st5 _ ?_
    show Steps p.tables e below (T5.setTop (mkF m 179 #[.val (.ref a1), .val (.long t1), .second, .val .null, .val (.int (t1 &&& (((32 : Int32) - 1).toInt64)).toInt32), .val (.ref du5), .unset] [])) _
    exact X5.returnOut hx Bd.returns (hb hby d4_179) hr
  · show Q_sc_32_32 Z a1 t1 q1 P k h0 n0 _ T5.heap _
    rw [e5]
    exact ⟨rfl, N5, O5, D5⟩
theorem ef_sc_32_64 (m : MethodId) (a1 : Addr) (t1 : Int64) : entryFrame m #[(.ref a1), (.long t1), .null] 7 = mkF m 0 #[.val (.ref a1), .val (.long t1), .second, .val .null, .unset, .unset, .unset] [] := by first | (simp [entryFrame, mkF, argsToLocals, Value.category]; done) | rfl
def Q_sc_32_64 (Z : State) (a1 : Addr) (t1 q1 P : Int64) (k : Int32) (h0 : Heap) (n0 : Nat) (v : Option Value) (h : Heap) (L : List Loc) : Prop := v = none ∧ Fr n0 L ∧ Old Z n0 h ∧ Due Z n0 h a1 q1 (64 : Int32) (P + 1) (k + 1)
set_option maxRecDepth 65536 in
set_option maxHeartbeats 40000000 in
theorem sc_32_64 (l : Launch) (Z : State) (a0 : Array Value) (hw : ∀ d ∈ tables_1, d.before a0 Z = true) (ws : List Jvm.Cond) (a1 : Addr) (t1 q1 P : Int64) (k : Int32) (h0 : Heap) (n0 : Nat) (O0 : Old Z n0 h0) (hD : Due Z n0 h0 a1 q1 (32 : Int32) P k) (g1 : n0 ≤ a1) (hk0 : ¬ k < 0) (hk7 : k < (7 : Int32)) (hgt : (0 : Int32) < (lcmpW t1 (-1))) (hle : ¬ ((0 : Int32) < (lcmpW t1 q1))) (hm : (0 : Int32) < (lcmpW (t1 - (-1)) (((32 : Int32) - 1).toInt64))) (hl32 : ¬ ((lcmpW (t1 - (-1)) ((32 : Int32).toInt64)) < (0 : Int32))) (hl64 : (lcmpW (t1 - (-1)) ((64 : Int32).toInt64)) < (0 : Int32)) :
    MetFree l (⟨"com/example/januswire/januswire/sim/DueEvents", "schedule", "(JLjava/lang/Runnable;)V"⟩ : MethodName) (head1 (Jvm.Cond.code (⟨"com/example/januswire/januswire/sim/DueEvents", "schedule", "(JLjava/lang/Runnable;)V"⟩ : MethodName) prog_187_method_2_code 7 none :: ws) ({ frames := 1, cells := 3, slots := 136, locals := 21 } : Room)) (fun a U => a = #[(.ref a1), (.long t1), .null] ∧ Z.Warmed39 U.vm ∧ U.heap = h0) (fun _ _ _ _ _ => True) (fun _ U o U' => ∃ v L, o = .returned v ∧ Q_sc_32_64 Z a1 t1 q1 P k h0 n0 v U'.heap L ∧ FrameEnd U o U' L ({ frames := 1, cells := 3, slots := 136, locals := 21 } : Room).cells ({ frames := 1, cells := 3, slots := 136, locals := 21 } : Room).slots) := by
  refine MetFree.of_bodySF (plainFor_of_name pn_com_example_januswire_januswire_sim_DueEvents) hisR ?_
  intro p e s m args below meth c s₁ Bd hml0 hP hK
  obtain ⟨rfl, hZ, hh⟩ := hP
  have hx := Bd.exec
  have hby := Bd.bytes
  have hml : c.maxLocals = 7 := hml0
  have hown : s.vm.findClass "com/example/januswire/januswire/sim/DueEvents" = some m.cls := findClass_of_methodNamed Bd.named
  have hnm := (name_of_methodNamed Bd.named Bd.method).1
  have X0 : Stand p l e ({ frames := 1, cells := 3, slots := 136, locals := 21 } : Room) s m #[(.ref a1), (.long t1), .null] below meth c s₁ [] 0 0 := Stand.of_body Bd
  have e0 : s₁.heap = h0 := by rw [← hh, Bd.state]; rfl
  have N0 := Fr.nil n0
  have pre0 : ∀ t, Steps p.tables e below (s₁.setTop (mkF m 0 #[.val (.ref a1), .val (.long t1), .second, .val .null, .unset, .unset, .unset] [])) t → Steps p.tables e below (s₁.setTop (entryFrame m #[(.ref a1), (.long t1), .null] 7)) t := fun t k => castTop (ef_sc_32_64 m a1 t1) k
  have hD_ := hD; obtain ⟨ev, ct, dd, gev, gct, E_a1, F_events, F_counts, F_mask, F_current, F_lastTick, F_pending, F_droppedLate, Ev, Ct⟩ := hD_
  have ne_d_e : a1 ≠ ev := own_de E_a1 (hw _ (List.mem_of_getElem? (i := 1) rfl)) Ev
  have ne_d_c : a1 ≠ ct := own_dc E_a1 (hw _ (List.mem_of_getElem? (i := 1) rfl)) Ct
  have ne_e_c : ev ≠ ct := own_ec Ev Ct
  obtain ⟨T1, X1, e1, st1⟩ := getF X0 hx hZ hown (host := "") (Or.inl (hw _ (List.mem_of_getElem? (i := 19) rfl))) Via.refl e0 F_current (g := (mkF m 2 #[.val (.ref a1), .val (.long t1), .second, .val .null, .unset, .unset, .unset] [(.ref a1), (.long t1)])) rfl rfl (hb hby d4_2)
  obtain ⟨T2, X2, e2, st2⟩ := getF X1 hx hZ hown (host := "") (Or.inl (hw _ (List.mem_of_getElem? (i := 21) rfl))) Via.refl e1 F_lastTick (g := (mkF m 29 #[.val (.ref a1), .val (.long t1), .second, .val .null, .unset, .unset, .unset] [(.ref a1), (.long t1)])) rfl rfl (hb hby d4_29)
  obtain ⟨T3, X3, e3, st3⟩ := getF X2 hx hZ hown (host := "") (Or.inl (hw _ (List.mem_of_getElem? (i := 19) rfl))) Via.refl e2 F_current (g := (mkF m 44 #[.val (.ref a1), .val (.long t1), .second, .val .null, .unset, .unset, .unset] [(.ref a1), (.long t1)])) rfl rfl (hb hby d4_44)
  obtain ⟨T4, X4, e4, st4⟩ := getF X3 hx hZ hown (host := "") (Or.inl (hw _ (List.mem_of_getElem? (i := 16) rfl))) Via.refl e3 F_mask (g := (mkF m 49 #[.val (.ref a1), .val (.long t1), .second, .val .null, .unset, .unset, .unset] [(.ref a1), (.long (t1 - (-1)))])) rfl rfl (hb hby d4_49)
  obtain ⟨cq5, q5, q5'⟩ := E_a1.cell
  obtain ⟨_, _, ⟨T5, L5, k5, n5⟩, -, X5, ⟨Lc5, hQ5, l5, y5, z5⟩, st5⟩ := X4.privateBack hx (y := (⟨"com/example/januswire/januswire/sim/DueEvents", "widen", "(J)V"⟩ : MethodName)) hown (mvT hZ (hw _ (List.mem_of_getElem? (i := 38) rfl))) (mvT hZ (hw _ (List.mem_of_getElem? (i := 39) rfl))) (own_sel hZ (hw _ (List.mem_of_getElem? (i := 1) rfl)) (hw _ (List.mem_of_getElem? (i := 40) rfl)) (hw _ (List.mem_of_getElem? (i := 39) rfl)) (by decide)) (Cond.privateMethod_at (mvP hZ (hw _ (List.mem_of_getElem? (i := 40) rfl)) (args := #[]))) (mvT hZ (hw _ (List.mem_of_getElem? (i := 41) rfl))) (by decide) (backOf (W := 0) (wid_32_64 l Z a0 hw [] a1 t1 q1 P k h0 n0 O0 hD g1 hk0 hl32 hl64) hZ (hw _ (List.mem_of_getElem? (i := 41) rfl)) (hw _ (List.mem_of_getElem? (i := 2) rfl)) (by decide) (by decide)) (g := (mkF m 59 #[.val (.ref a1), .val (.long t1), .second, .val .null, .unset, .unset, .unset] [(.long t1), (.ref a1)])) rfl (by rw [hml]; rfl) (Steps.refl _) (a := a1) (by rw [e4]; exact q5) q5' (argsL := [(.long t1)]) (rest := []) (lenOf pd__J_V rfl) rfl (by show 2 * 0 + _ ≤ _; exact Nat.le_of_eq rfl) (hb hby d4_59) (fun _ _ => ⟨rfl, e4, (by decide : 0 + 2 ≤ _), (by decide : 0 + 128 ≤ _)⟩)
  dsimp only [Pt.U, Pt.locs, Pt.cells, Pt.slots] at X5 l5 y5 z5 st5 hQ5
  subst l5 y5 z5
  obtain ⟨rfl, Nq5, Oq5, Dq5⟩ := hQ5
  have N5 := Fr.app N0 Nq5
  obtain ⟨T6, h6, locs6, du6, X6, e6, O6, N6, D6, st6⟩ := tail X5 hx hZ hw hby hml hown rfl Oq5 N5 Dq5 g1 hk7 (own_to64 t1) (by decide) (by decide)
  obtain ⟨fs, hr, hrun, hended, hW, hsame⟩ := X6.leave (v := none) (fun _ => rfl)
  refine ⟨_, _, pre0 _ ?_, hrun, hended, _, _, rfl, ?_, ⟨_, rfl⟩, hW, hsame.mono (by decide) (by decide)⟩
  · show Steps p.tables e below (s₁.setTop (mkF m 0 #[.val (.ref a1), .val (.long t1), .second, .val .null, .unset, .unset, .unset] [])) _
    refine XS.lloadN X0.here hx rfl (hb hby d4_0) rfl ?_
    show Steps p.tables e below (s₁.setTop (mkF m 1 #[.val (.ref a1), .val (.long t1), .second, .val .null, .unset, .unset, .unset] [(.long t1)])) _
    refine XS.aloadN X0.here hx rfl (hb hby d4_1) rfl rfl ?_
    show Steps p.tables e below (s₁.setTop (mkF m 2 #[.val (.ref a1), .val (.long t1), .second, .val .null, .unset, .unset, .unset] [(.ref a1), (.long t1)])) _
    refine st1 _ ?_
    show Steps p.tables e below (T1.setTop (mkF m 5 #[.val (.ref a1), .val (.long t1), .second, .val .null, .unset, .unset, .unset] [(.long (-1)), (.long t1)])) _
    refine XS.lcmp X1.here hx rfl (hb hby d4_5) rfl ?_
    show Steps p.tables e below (T1.setTop (mkF m 6 #[.val (.ref a1), .val (.long t1), .second, .val .null, .unset, .unset, .unset] [(.int (lcmpW t1 (-1)))])) _
    refine XS.ifYes X1.here hx rfl (pc0 := 6) (pc' := 27) rfl (hb hby d4_6) rfl ((if0 _ _).trans (tlt hgt).2.2.1) (by decide) (by decide) ?_
    show Steps p.tables e below (T1.setTop (mkF m 27 #[.val (.ref a1), .val (.long t1), .second, .val .null, .unset, .unset, .unset] [])) _
    refine XS.lloadN X1.here hx rfl (hb hby d4_27) rfl ?_
    show Steps p.tables e below (T1.setTop (mkF m 28 #[.val (.ref a1), .val (.long t1), .second, .val .null, .unset, .unset, .unset] [(.long t1)])) _
    refine XS.aloadN X1.here hx rfl (hb hby d4_28) rfl rfl ?_
    show Steps p.tables e below (T1.setTop (mkF m 29 #[.val (.ref a1), .val (.long t1), .second, .val .null, .unset, .unset, .unset] [(.ref a1), (.long t1)])) _
    refine st2 _ ?_
    show Steps p.tables e below (T2.setTop (mkF m 32 #[.val (.ref a1), .val (.long t1), .second, .val .null, .unset, .unset, .unset] [(.long q1), (.long t1)])) _
    refine XS.lcmp X2.here hx rfl (hb hby d4_32) rfl ?_
    show Steps p.tables e below (T2.setTop (mkF m 33 #[.val (.ref a1), .val (.long t1), .second, .val .null, .unset, .unset, .unset] [(.int (lcmpW t1 q1))])) _
    refine XS.ifYes X2.here hx rfl (pc0 := 33) (pc' := 42) rfl (hb hby d4_33) rfl ((if0 _ _).trans (flt hle).2.2.2) (by decide) (by decide) ?_
    show Steps p.tables e below (T2.setTop (mkF m 42 #[.val (.ref a1), .val (.long t1), .second, .val .null, .unset, .unset, .unset] [])) _
    refine XS.lloadN X2.here hx rfl (hb hby d4_42) rfl ?_
    show Steps p.tables e below (T2.setTop (mkF m 43 #[.val (.ref a1), .val (.long t1), .second, .val .null, .unset, .unset, .unset] [(.long t1)])) _
    refine XS.aloadN X2.here hx rfl (hb hby d4_43) rfl rfl ?_
    show Steps p.tables e below (T2.setTop (mkF m 44 #[.val (.ref a1), .val (.long t1), .second, .val .null, .unset, .unset, .unset] [(.ref a1), (.long t1)])) _
    refine st3 _ ?_
    show Steps p.tables e below (T3.setTop (mkF m 47 #[.val (.ref a1), .val (.long t1), .second, .val .null, .unset, .unset, .unset] [(.long (-1)), (.long t1)])) _
    refine XS.lsub X3.here hx rfl (hb hby d4_47) rfl ?_
    show Steps p.tables e below (T3.setTop (mkF m 48 #[.val (.ref a1), .val (.long t1), .second, .val .null, .unset, .unset, .unset] [(.long (t1 - (-1)))])) _
    refine XS.aloadN X3.here hx rfl (hb hby d4_48) rfl rfl ?_
    show Steps p.tables e below (T3.setTop (mkF m 49 #[.val (.ref a1), .val (.long t1), .second, .val .null, .unset, .unset, .unset] [(.ref a1), (.long (t1 - (-1)))])) _
    refine st4 _ ?_
    show Steps p.tables e below (T4.setTop (mkF m 52 #[.val (.ref a1), .val (.long t1), .second, .val .null, .unset, .unset, .unset] [(.int ((32 : Int32) - 1)), (.long (t1 - (-1)))])) _
    refine XS.i2l X4.here hx rfl (hb hby d4_52) rfl ?_
    show Steps p.tables e below (T4.setTop (mkF m 53 #[.val (.ref a1), .val (.long t1), .second, .val .null, .unset, .unset, .unset] [(.long (((32 : Int32) - 1).toInt64)), (.long (t1 - (-1)))])) _
    refine XS.lcmp X4.here hx rfl (hb hby d4_53) rfl ?_
    show Steps p.tables e below (T4.setTop (mkF m 54 #[.val (.ref a1), .val (.long t1), .second, .val .null, .unset, .unset, .unset] [(.int (lcmpW (t1 - (-1)) (((32 : Int32) - 1).toInt64)))])) _
    refine XS.ifNo X4.here hx rfl (hb hby d4_54) rfl ((if0 _ _).trans (tlt hm).2.2.2) ?_
    show Steps p.tables e below (T4.setTop (mkF m 57 #[.val (.ref a1), .val (.long t1), .second, .val .null, .unset, .unset, .unset] [])) _
    refine XS.aloadN X4.here hx rfl (hb hby d4_57) rfl rfl ?_
    show Steps p.tables e below (T4.setTop (mkF m 58 #[.val (.ref a1), .val (.long t1), .second, .val .null, .unset, .unset, .unset] [(.ref a1)])) _
    refine XS.lloadN X4.here hx rfl (hb hby d4_58) rfl ?_
    show Steps p.tables e below (T4.setTop (mkF m 59 #[.val (.ref a1), .val (.long t1), .second, .val .null, .unset, .unset, .unset] [(.long t1), (.ref a1)])) _
    refine st5.trans ?_
    show Steps p.tables e below (T5.setTop (mkF m 62 #[.val (.ref a1), .val (.long t1), .second, .val .null, .unset, .unset, .unset] [])) _
    refine st6 _ ?_
    show Steps p.tables e below (T6.setTop (mkF m 179 #[.val (.ref a1), .val (.long t1), .second, .val .null, .val (.int (t1 &&& (((64 : Int32) - 1).toInt64)).toInt32), .val (.ref du6), .unset] [])) _
    exact X6.returnOut hx Bd.returns (hb hby d4_179) hr
  · show Q_sc_32_64 Z a1 t1 q1 P k h0 n0 _ T6.heap _
    rw [e6]
    exact ⟨rfl, N6, O6, D6⟩
theorem ef_sc_32_128 (m : MethodId) (a1 : Addr) (t1 : Int64) : entryFrame m #[(.ref a1), (.long t1), .null] 7 = mkF m 0 #[.val (.ref a1), .val (.long t1), .second, .val .null, .unset, .unset, .unset] [] := by first | (simp [entryFrame, mkF, argsToLocals, Value.category]; done) | rfl
def Q_sc_32_128 (Z : State) (a1 : Addr) (t1 q1 P : Int64) (k : Int32) (h0 : Heap) (n0 : Nat) (v : Option Value) (h : Heap) (L : List Loc) : Prop := v = none ∧ Fr n0 L ∧ Old Z n0 h ∧ Due Z n0 h a1 q1 (128 : Int32) (P + 1) (k + 1)
set_option maxRecDepth 65536 in
set_option maxHeartbeats 40000000 in
theorem sc_32_128 (l : Launch) (Z : State) (a0 : Array Value) (hw : ∀ d ∈ tables_1, d.before a0 Z = true) (ws : List Jvm.Cond) (a1 : Addr) (t1 q1 P : Int64) (k : Int32) (h0 : Heap) (n0 : Nat) (O0 : Old Z n0 h0) (hD : Due Z n0 h0 a1 q1 (32 : Int32) P k) (g1 : n0 ≤ a1) (hk0 : ¬ k < 0) (hk7 : k < (7 : Int32)) (hgt : (0 : Int32) < (lcmpW t1 (-1))) (hle : ¬ ((0 : Int32) < (lcmpW t1 q1))) (hm : (0 : Int32) < (lcmpW (t1 - (-1)) (((32 : Int32) - 1).toInt64))) (hl32 : ¬ ((lcmpW (t1 - (-1)) ((32 : Int32).toInt64)) < (0 : Int32))) (hl64 : ¬ ((lcmpW (t1 - (-1)) ((64 : Int32).toInt64)) < (0 : Int32))) (hl128 : (lcmpW (t1 - (-1)) ((128 : Int32).toInt64)) < (0 : Int32)) :
    MetFree l (⟨"com/example/januswire/januswire/sim/DueEvents", "schedule", "(JLjava/lang/Runnable;)V"⟩ : MethodName) (head1 (Jvm.Cond.code (⟨"com/example/januswire/januswire/sim/DueEvents", "schedule", "(JLjava/lang/Runnable;)V"⟩ : MethodName) prog_187_method_2_code 7 none :: ws) ({ frames := 1, cells := 3, slots := 264, locals := 21 } : Room)) (fun a U => a = #[(.ref a1), (.long t1), .null] ∧ Z.Warmed39 U.vm ∧ U.heap = h0) (fun _ _ _ _ _ => True) (fun _ U o U' => ∃ v L, o = .returned v ∧ Q_sc_32_128 Z a1 t1 q1 P k h0 n0 v U'.heap L ∧ FrameEnd U o U' L ({ frames := 1, cells := 3, slots := 264, locals := 21 } : Room).cells ({ frames := 1, cells := 3, slots := 264, locals := 21 } : Room).slots) := by
  refine MetFree.of_bodySF (plainFor_of_name pn_com_example_januswire_januswire_sim_DueEvents) hisR ?_
  intro p e s m args below meth c s₁ Bd hml0 hP hK
  obtain ⟨rfl, hZ, hh⟩ := hP
  have hx := Bd.exec
  have hby := Bd.bytes
  have hml : c.maxLocals = 7 := hml0
  have hown : s.vm.findClass "com/example/januswire/januswire/sim/DueEvents" = some m.cls := findClass_of_methodNamed Bd.named
  have hnm := (name_of_methodNamed Bd.named Bd.method).1
  have X0 : Stand p l e ({ frames := 1, cells := 3, slots := 264, locals := 21 } : Room) s m #[(.ref a1), (.long t1), .null] below meth c s₁ [] 0 0 := Stand.of_body Bd
  have e0 : s₁.heap = h0 := by rw [← hh, Bd.state]; rfl
  have N0 := Fr.nil n0
  have pre0 : ∀ t, Steps p.tables e below (s₁.setTop (mkF m 0 #[.val (.ref a1), .val (.long t1), .second, .val .null, .unset, .unset, .unset] [])) t → Steps p.tables e below (s₁.setTop (entryFrame m #[(.ref a1), (.long t1), .null] 7)) t := fun t k => castTop (ef_sc_32_128 m a1 t1) k
  have hD_ := hD; obtain ⟨ev, ct, dd, gev, gct, E_a1, F_events, F_counts, F_mask, F_current, F_lastTick, F_pending, F_droppedLate, Ev, Ct⟩ := hD_
  have ne_d_e : a1 ≠ ev := own_de E_a1 (hw _ (List.mem_of_getElem? (i := 1) rfl)) Ev
  have ne_d_c : a1 ≠ ct := own_dc E_a1 (hw _ (List.mem_of_getElem? (i := 1) rfl)) Ct
  have ne_e_c : ev ≠ ct := own_ec Ev Ct
  obtain ⟨T1, X1, e1, st1⟩ := getF X0 hx hZ hown (host := "") (Or.inl (hw _ (List.mem_of_getElem? (i := 19) rfl))) Via.refl e0 F_current (g := (mkF m 2 #[.val (.ref a1), .val (.long t1), .second, .val .null, .unset, .unset, .unset] [(.ref a1), (.long t1)])) rfl rfl (hb hby d4_2)
  obtain ⟨T2, X2, e2, st2⟩ := getF X1 hx hZ hown (host := "") (Or.inl (hw _ (List.mem_of_getElem? (i := 21) rfl))) Via.refl e1 F_lastTick (g := (mkF m 29 #[.val (.ref a1), .val (.long t1), .second, .val .null, .unset, .unset, .unset] [(.ref a1), (.long t1)])) rfl rfl (hb hby d4_29)
  obtain ⟨T3, X3, e3, st3⟩ := getF X2 hx hZ hown (host := "") (Or.inl (hw _ (List.mem_of_getElem? (i := 19) rfl))) Via.refl e2 F_current (g := (mkF m 44 #[.val (.ref a1), .val (.long t1), .second, .val .null, .unset, .unset, .unset] [(.ref a1), (.long t1)])) rfl rfl (hb hby d4_44)
  obtain ⟨T4, X4, e4, st4⟩ := getF X3 hx hZ hown (host := "") (Or.inl (hw _ (List.mem_of_getElem? (i := 16) rfl))) Via.refl e3 F_mask (g := (mkF m 49 #[.val (.ref a1), .val (.long t1), .second, .val .null, .unset, .unset, .unset] [(.ref a1), (.long (t1 - (-1)))])) rfl rfl (hb hby d4_49)
  obtain ⟨cq5, q5, q5'⟩ := E_a1.cell
  obtain ⟨_, _, ⟨T5, L5, k5, n5⟩, -, X5, ⟨Lc5, hQ5, l5, y5, z5⟩, st5⟩ := X4.privateBack hx (y := (⟨"com/example/januswire/januswire/sim/DueEvents", "widen", "(J)V"⟩ : MethodName)) hown (mvT hZ (hw _ (List.mem_of_getElem? (i := 38) rfl))) (mvT hZ (hw _ (List.mem_of_getElem? (i := 39) rfl))) (own_sel hZ (hw _ (List.mem_of_getElem? (i := 1) rfl)) (hw _ (List.mem_of_getElem? (i := 40) rfl)) (hw _ (List.mem_of_getElem? (i := 39) rfl)) (by decide)) (Cond.privateMethod_at (mvP hZ (hw _ (List.mem_of_getElem? (i := 40) rfl)) (args := #[]))) (mvT hZ (hw _ (List.mem_of_getElem? (i := 41) rfl))) (by decide) (backOf (W := 0) (wid_32_128 l Z a0 hw [] a1 t1 q1 P k h0 n0 O0 hD g1 hk0 hl32 hl64 hl128) hZ (hw _ (List.mem_of_getElem? (i := 41) rfl)) (hw _ (List.mem_of_getElem? (i := 2) rfl)) (by decide) (by decide)) (g := (mkF m 59 #[.val (.ref a1), .val (.long t1), .second, .val .null, .unset, .unset, .unset] [(.long t1), (.ref a1)])) rfl (by rw [hml]; rfl) (Steps.refl _) (a := a1) (by rw [e4]; exact q5) q5' (argsL := [(.long t1)]) (rest := []) (lenOf pd__J_V rfl) rfl (by show 2 * 0 + _ ≤ _; exact Nat.le_of_eq rfl) (hb hby d4_59) (fun _ _ => ⟨rfl, e4, (by decide : 0 + 2 ≤ _), (by decide : 0 + 256 ≤ _)⟩)
  dsimp only [Pt.U, Pt.locs, Pt.cells, Pt.slots] at X5 l5 y5 z5 st5 hQ5
  subst l5 y5 z5
  obtain ⟨rfl, Nq5, Oq5, Dq5⟩ := hQ5
  have N5 := Fr.app N0 Nq5
  obtain ⟨T6, h6, locs6, du6, X6, e6, O6, N6, D6, st6⟩ := tail X5 hx hZ hw hby hml hown rfl Oq5 N5 Dq5 g1 hk7 (own_to128 t1) (by decide) (by decide)
  obtain ⟨fs, hr, hrun, hended, hW, hsame⟩ := X6.leave (v := none) (fun _ => rfl)
  refine ⟨_, _, pre0 _ ?_, hrun, hended, _, _, rfl, ?_, ⟨_, rfl⟩, hW, hsame.mono (by decide) (by decide)⟩
  · show Steps p.tables e below (s₁.setTop (mkF m 0 #[.val (.ref a1), .val (.long t1), .second, .val .null, .unset, .unset, .unset] [])) _
    refine XS.lloadN X0.here hx rfl (hb hby d4_0) rfl ?_
    show Steps p.tables e below (s₁.setTop (mkF m 1 #[.val (.ref a1), .val (.long t1), .second, .val .null, .unset, .unset, .unset] [(.long t1)])) _
    refine XS.aloadN X0.here hx rfl (hb hby d4_1) rfl rfl ?_
    show Steps p.tables e below (s₁.setTop (mkF m 2 #[.val (.ref a1), .val (.long t1), .second, .val .null, .unset, .unset, .unset] [(.ref a1), (.long t1)])) _
    refine st1 _ ?_
    show Steps p.tables e below (T1.setTop (mkF m 5 #[.val (.ref a1), .val (.long t1), .second, .val .null, .unset, .unset, .unset] [(.long (-1)), (.long t1)])) _
    refine XS.lcmp X1.here hx rfl (hb hby d4_5) rfl ?_
    show Steps p.tables e below (T1.setTop (mkF m 6 #[.val (.ref a1), .val (.long t1), .second, .val .null, .unset, .unset, .unset] [(.int (lcmpW t1 (-1)))])) _
    refine XS.ifYes X1.here hx rfl (pc0 := 6) (pc' := 27) rfl (hb hby d4_6) rfl ((if0 _ _).trans (tlt hgt).2.2.1) (by decide) (by decide) ?_
    show Steps p.tables e below (T1.setTop (mkF m 27 #[.val (.ref a1), .val (.long t1), .second, .val .null, .unset, .unset, .unset] [])) _
    refine XS.lloadN X1.here hx rfl (hb hby d4_27) rfl ?_
    show Steps p.tables e below (T1.setTop (mkF m 28 #[.val (.ref a1), .val (.long t1), .second, .val .null, .unset, .unset, .unset] [(.long t1)])) _
    refine XS.aloadN X1.here hx rfl (hb hby d4_28) rfl rfl ?_
    show Steps p.tables e below (T1.setTop (mkF m 29 #[.val (.ref a1), .val (.long t1), .second, .val .null, .unset, .unset, .unset] [(.ref a1), (.long t1)])) _
    refine st2 _ ?_
    show Steps p.tables e below (T2.setTop (mkF m 32 #[.val (.ref a1), .val (.long t1), .second, .val .null, .unset, .unset, .unset] [(.long q1), (.long t1)])) _
    refine XS.lcmp X2.here hx rfl (hb hby d4_32) rfl ?_
    show Steps p.tables e below (T2.setTop (mkF m 33 #[.val (.ref a1), .val (.long t1), .second, .val .null, .unset, .unset, .unset] [(.int (lcmpW t1 q1))])) _
    refine XS.ifYes X2.here hx rfl (pc0 := 33) (pc' := 42) rfl (hb hby d4_33) rfl ((if0 _ _).trans (flt hle).2.2.2) (by decide) (by decide) ?_
    show Steps p.tables e below (T2.setTop (mkF m 42 #[.val (.ref a1), .val (.long t1), .second, .val .null, .unset, .unset, .unset] [])) _
    refine XS.lloadN X2.here hx rfl (hb hby d4_42) rfl ?_
    show Steps p.tables e below (T2.setTop (mkF m 43 #[.val (.ref a1), .val (.long t1), .second, .val .null, .unset, .unset, .unset] [(.long t1)])) _
    refine XS.aloadN X2.here hx rfl (hb hby d4_43) rfl rfl ?_
    show Steps p.tables e below (T2.setTop (mkF m 44 #[.val (.ref a1), .val (.long t1), .second, .val .null, .unset, .unset, .unset] [(.ref a1), (.long t1)])) _
    refine st3 _ ?_
    show Steps p.tables e below (T3.setTop (mkF m 47 #[.val (.ref a1), .val (.long t1), .second, .val .null, .unset, .unset, .unset] [(.long (-1)), (.long t1)])) _
    refine XS.lsub X3.here hx rfl (hb hby d4_47) rfl ?_
    show Steps p.tables e below (T3.setTop (mkF m 48 #[.val (.ref a1), .val (.long t1), .second, .val .null, .unset, .unset, .unset] [(.long (t1 - (-1)))])) _
    refine XS.aloadN X3.here hx rfl (hb hby d4_48) rfl rfl ?_
    show Steps p.tables e below (T3.setTop (mkF m 49 #[.val (.ref a1), .val (.long t1), .second, .val .null, .unset, .unset, .unset] [(.ref a1), (.long (t1 - (-1)))])) _
    refine st4 _ ?_
    show Steps p.tables e below (T4.setTop (mkF m 52 #[.val (.ref a1), .val (.long t1), .second, .val .null, .unset, .unset, .unset] [(.int ((32 : Int32) - 1)), (.long (t1 - (-1)))])) _
    refine XS.i2l X4.here hx rfl (hb hby d4_52) rfl ?_
    show Steps p.tables e below (T4.setTop (mkF m 53 #[.val (.ref a1), .val (.long t1), .second, .val .null, .unset, .unset, .unset] [(.long (((32 : Int32) - 1).toInt64)), (.long (t1 - (-1)))])) _
    refine XS.lcmp X4.here hx rfl (hb hby d4_53) rfl ?_
    show Steps p.tables e below (T4.setTop (mkF m 54 #[.val (.ref a1), .val (.long t1), .second, .val .null, .unset, .unset, .unset] [(.int (lcmpW (t1 - (-1)) (((32 : Int32) - 1).toInt64)))])) _
    refine XS.ifNo X4.here hx rfl (hb hby d4_54) rfl ((if0 _ _).trans (tlt hm).2.2.2) ?_
    show Steps p.tables e below (T4.setTop (mkF m 57 #[.val (.ref a1), .val (.long t1), .second, .val .null, .unset, .unset, .unset] [])) _
    refine XS.aloadN X4.here hx rfl (hb hby d4_57) rfl rfl ?_
    show Steps p.tables e below (T4.setTop (mkF m 58 #[.val (.ref a1), .val (.long t1), .second, .val .null, .unset, .unset, .unset] [(.ref a1)])) _
    refine XS.lloadN X4.here hx rfl (hb hby d4_58) rfl ?_
    show Steps p.tables e below (T4.setTop (mkF m 59 #[.val (.ref a1), .val (.long t1), .second, .val .null, .unset, .unset, .unset] [(.long t1), (.ref a1)])) _
    refine st5.trans ?_
    show Steps p.tables e below (T5.setTop (mkF m 62 #[.val (.ref a1), .val (.long t1), .second, .val .null, .unset, .unset, .unset] [])) _
    refine st6 _ ?_
    show Steps p.tables e below (T6.setTop (mkF m 179 #[.val (.ref a1), .val (.long t1), .second, .val .null, .val (.int (t1 &&& (((128 : Int32) - 1).toInt64)).toInt32), .val (.ref du6), .unset] [])) _
    exact X6.returnOut hx Bd.returns (hb hby d4_179) hr
  · show Q_sc_32_128 Z a1 t1 q1 P k h0 n0 _ T6.heap _
    rw [e6]
    exact ⟨rfl, N6, O6, D6⟩
theorem ef_sc_64_64 (m : MethodId) (a1 : Addr) (t1 : Int64) : entryFrame m #[(.ref a1), (.long t1), .null] 7 = mkF m 0 #[.val (.ref a1), .val (.long t1), .second, .val .null, .unset, .unset, .unset] [] := by first | (simp [entryFrame, mkF, argsToLocals, Value.category]; done) | rfl
def Q_sc_64_64 (Z : State) (a1 : Addr) (t1 q1 P : Int64) (k : Int32) (h0 : Heap) (n0 : Nat) (v : Option Value) (h : Heap) (L : List Loc) : Prop := v = none ∧ Fr n0 L ∧ Old Z n0 h ∧ Due Z n0 h a1 q1 (64 : Int32) (P + 1) (k + 1)
set_option maxRecDepth 65536 in
set_option maxHeartbeats 40000000 in
theorem sc_64_64 (l : Launch) (Z : State) (a0 : Array Value) (hw : ∀ d ∈ tables_1, d.before a0 Z = true) (ws : List Jvm.Cond) (a1 : Addr) (t1 q1 P : Int64) (k : Int32) (h0 : Heap) (n0 : Nat) (O0 : Old Z n0 h0) (hD : Due Z n0 h0 a1 q1 (64 : Int32) P k) (g1 : n0 ≤ a1) (hk0 : ¬ k < 0) (hk7 : k < (7 : Int32)) (hgt : (0 : Int32) < (lcmpW t1 (-1))) (hle : ¬ ((0 : Int32) < (lcmpW t1 q1))) (hm : ¬ ((0 : Int32) < (lcmpW (t1 - (-1)) (((64 : Int32) - 1).toInt64)))) :
    MetFree l (⟨"com/example/januswire/januswire/sim/DueEvents", "schedule", "(JLjava/lang/Runnable;)V"⟩ : MethodName) (head1 (Jvm.Cond.code (⟨"com/example/januswire/januswire/sim/DueEvents", "schedule", "(JLjava/lang/Runnable;)V"⟩ : MethodName) prog_187_method_2_code 7 none :: ws) ({ frames := 0, cells := 1, slots := 8, locals := 0 } : Room)) (fun a U => a = #[(.ref a1), (.long t1), .null] ∧ Z.Warmed39 U.vm ∧ U.heap = h0) (fun _ _ _ _ _ => True) (fun _ U o U' => ∃ v L, o = .returned v ∧ Q_sc_64_64 Z a1 t1 q1 P k h0 n0 v U'.heap L ∧ FrameEnd U o U' L ({ frames := 0, cells := 1, slots := 8, locals := 0 } : Room).cells ({ frames := 0, cells := 1, slots := 8, locals := 0 } : Room).slots) := by
  refine MetFree.of_bodySF (plainFor_of_name pn_com_example_januswire_januswire_sim_DueEvents) hisR ?_
  intro p e s m args below meth c s₁ Bd hml0 hP hK
  obtain ⟨rfl, hZ, hh⟩ := hP
  have hx := Bd.exec
  have hby := Bd.bytes
  have hml : c.maxLocals = 7 := hml0
  have hown : s.vm.findClass "com/example/januswire/januswire/sim/DueEvents" = some m.cls := findClass_of_methodNamed Bd.named
  have hnm := (name_of_methodNamed Bd.named Bd.method).1
  have X0 : Stand p l e ({ frames := 0, cells := 1, slots := 8, locals := 0 } : Room) s m #[(.ref a1), (.long t1), .null] below meth c s₁ [] 0 0 := Stand.of_body Bd
  have e0 : s₁.heap = h0 := by rw [← hh, Bd.state]; rfl
  have N0 := Fr.nil n0
  have pre0 : ∀ t, Steps p.tables e below (s₁.setTop (mkF m 0 #[.val (.ref a1), .val (.long t1), .second, .val .null, .unset, .unset, .unset] [])) t → Steps p.tables e below (s₁.setTop (entryFrame m #[(.ref a1), (.long t1), .null] 7)) t := fun t k => castTop (ef_sc_64_64 m a1 t1) k
  have hD_ := hD; obtain ⟨ev, ct, dd, gev, gct, E_a1, F_events, F_counts, F_mask, F_current, F_lastTick, F_pending, F_droppedLate, Ev, Ct⟩ := hD_
  have ne_d_e : a1 ≠ ev := own_de E_a1 (hw _ (List.mem_of_getElem? (i := 1) rfl)) Ev
  have ne_d_c : a1 ≠ ct := own_dc E_a1 (hw _ (List.mem_of_getElem? (i := 1) rfl)) Ct
  have ne_e_c : ev ≠ ct := own_ec Ev Ct
  obtain ⟨T1, X1, e1, st1⟩ := getF X0 hx hZ hown (host := "") (Or.inl (hw _ (List.mem_of_getElem? (i := 19) rfl))) Via.refl e0 F_current (g := (mkF m 2 #[.val (.ref a1), .val (.long t1), .second, .val .null, .unset, .unset, .unset] [(.ref a1), (.long t1)])) rfl rfl (hb hby d4_2)
  obtain ⟨T2, X2, e2, st2⟩ := getF X1 hx hZ hown (host := "") (Or.inl (hw _ (List.mem_of_getElem? (i := 21) rfl))) Via.refl e1 F_lastTick (g := (mkF m 29 #[.val (.ref a1), .val (.long t1), .second, .val .null, .unset, .unset, .unset] [(.ref a1), (.long t1)])) rfl rfl (hb hby d4_29)
  obtain ⟨T3, X3, e3, st3⟩ := getF X2 hx hZ hown (host := "") (Or.inl (hw _ (List.mem_of_getElem? (i := 19) rfl))) Via.refl e2 F_current (g := (mkF m 44 #[.val (.ref a1), .val (.long t1), .second, .val .null, .unset, .unset, .unset] [(.ref a1), (.long t1)])) rfl rfl (hb hby d4_44)
  obtain ⟨T4, X4, e4, st4⟩ := getF X3 hx hZ hown (host := "") (Or.inl (hw _ (List.mem_of_getElem? (i := 16) rfl))) Via.refl e3 F_mask (g := (mkF m 49 #[.val (.ref a1), .val (.long t1), .second, .val .null, .unset, .unset, .unset] [(.ref a1), (.long (t1 - (-1)))])) rfl rfl (hb hby d4_49)
  obtain ⟨T5, h5, locs5, du5, X5, e5, O5, N5, D5, st5⟩ := tail X4 hx hZ hw hby hml hown e4 O0 N0 hD g1 hk7 (own_to64 t1) (by decide) (by decide)
  obtain ⟨fs, hr, hrun, hended, hW, hsame⟩ := X5.leave (v := none) (fun _ => rfl)
  refine ⟨_, _, pre0 _ ?_, hrun, hended, _, _, rfl, ?_, ⟨_, rfl⟩, hW, hsame.mono (by decide) (by decide)⟩
  · show Steps p.tables e below (s₁.setTop (mkF m 0 #[.val (.ref a1), .val (.long t1), .second, .val .null, .unset, .unset, .unset] [])) _
    refine XS.lloadN X0.here hx rfl (hb hby d4_0) rfl ?_
    show Steps p.tables e below (s₁.setTop (mkF m 1 #[.val (.ref a1), .val (.long t1), .second, .val .null, .unset, .unset, .unset] [(.long t1)])) _
    refine XS.aloadN X0.here hx rfl (hb hby d4_1) rfl rfl ?_
    show Steps p.tables e below (s₁.setTop (mkF m 2 #[.val (.ref a1), .val (.long t1), .second, .val .null, .unset, .unset, .unset] [(.ref a1), (.long t1)])) _
    refine st1 _ ?_
    show Steps p.tables e below (T1.setTop (mkF m 5 #[.val (.ref a1), .val (.long t1), .second, .val .null, .unset, .unset, .unset] [(.long (-1)), (.long t1)])) _
    refine XS.lcmp X1.here hx rfl (hb hby d4_5) rfl ?_
    show Steps p.tables e below (T1.setTop (mkF m 6 #[.val (.ref a1), .val (.long t1), .second, .val .null, .unset, .unset, .unset] [(.int (lcmpW t1 (-1)))])) _
    refine XS.ifYes X1.here hx rfl (pc0 := 6) (pc' := 27) rfl (hb hby d4_6) rfl ((if0 _ _).trans (tlt hgt).2.2.1) (by decide) (by decide) ?_
    show Steps p.tables e below (T1.setTop (mkF m 27 #[.val (.ref a1), .val (.long t1), .second, .val .null, .unset, .unset, .unset] [])) _
    refine XS.lloadN X1.here hx rfl (hb hby d4_27) rfl ?_
    show Steps p.tables e below (T1.setTop (mkF m 28 #[.val (.ref a1), .val (.long t1), .second, .val .null, .unset, .unset, .unset] [(.long t1)])) _
    refine XS.aloadN X1.here hx rfl (hb hby d4_28) rfl rfl ?_
    show Steps p.tables e below (T1.setTop (mkF m 29 #[.val (.ref a1), .val (.long t1), .second, .val .null, .unset, .unset, .unset] [(.ref a1), (.long t1)])) _
    refine st2 _ ?_
    show Steps p.tables e below (T2.setTop (mkF m 32 #[.val (.ref a1), .val (.long t1), .second, .val .null, .unset, .unset, .unset] [(.long q1), (.long t1)])) _
    refine XS.lcmp X2.here hx rfl (hb hby d4_32) rfl ?_
    show Steps p.tables e below (T2.setTop (mkF m 33 #[.val (.ref a1), .val (.long t1), .second, .val .null, .unset, .unset, .unset] [(.int (lcmpW t1 q1))])) _
    refine XS.ifYes X2.here hx rfl (pc0 := 33) (pc' := 42) rfl (hb hby d4_33) rfl ((if0 _ _).trans (flt hle).2.2.2) (by decide) (by decide) ?_
    show Steps p.tables e below (T2.setTop (mkF m 42 #[.val (.ref a1), .val (.long t1), .second, .val .null, .unset, .unset, .unset] [])) _
    refine XS.lloadN X2.here hx rfl (hb hby d4_42) rfl ?_
    show Steps p.tables e below (T2.setTop (mkF m 43 #[.val (.ref a1), .val (.long t1), .second, .val .null, .unset, .unset, .unset] [(.long t1)])) _
    refine XS.aloadN X2.here hx rfl (hb hby d4_43) rfl rfl ?_
    show Steps p.tables e below (T2.setTop (mkF m 44 #[.val (.ref a1), .val (.long t1), .second, .val .null, .unset, .unset, .unset] [(.ref a1), (.long t1)])) _
    refine st3 _ ?_
    show Steps p.tables e below (T3.setTop (mkF m 47 #[.val (.ref a1), .val (.long t1), .second, .val .null, .unset, .unset, .unset] [(.long (-1)), (.long t1)])) _
    refine XS.lsub X3.here hx rfl (hb hby d4_47) rfl ?_
    show Steps p.tables e below (T3.setTop (mkF m 48 #[.val (.ref a1), .val (.long t1), .second, .val .null, .unset, .unset, .unset] [(.long (t1 - (-1)))])) _
    refine XS.aloadN X3.here hx rfl (hb hby d4_48) rfl rfl ?_
    show Steps p.tables e below (T3.setTop (mkF m 49 #[.val (.ref a1), .val (.long t1), .second, .val .null, .unset, .unset, .unset] [(.ref a1), (.long (t1 - (-1)))])) _
    refine st4 _ ?_
    show Steps p.tables e below (T4.setTop (mkF m 52 #[.val (.ref a1), .val (.long t1), .second, .val .null, .unset, .unset, .unset] [(.int ((64 : Int32) - 1)), (.long (t1 - (-1)))])) _
    refine XS.i2l X4.here hx rfl (hb hby d4_52) rfl ?_
    show Steps p.tables e below (T4.setTop (mkF m 53 #[.val (.ref a1), .val (.long t1), .second, .val .null, .unset, .unset, .unset] [(.long (((64 : Int32) - 1).toInt64)), (.long (t1 - (-1)))])) _
    refine XS.lcmp X4.here hx rfl (hb hby d4_53) rfl ?_
    show Steps p.tables e below (T4.setTop (mkF m 54 #[.val (.ref a1), .val (.long t1), .second, .val .null, .unset, .unset, .unset] [(.int (lcmpW (t1 - (-1)) (((64 : Int32) - 1).toInt64)))])) _
    refine XS.ifYes X4.here hx rfl (pc0 := 54) (pc' := 62) rfl (hb hby d4_54) rfl ((if0 _ _).trans (flt hm).2.2.2) (by decide) (by decide) ?_
    show Steps p.tables e below (T4.setTop (mkF m 62 #[.val (.ref a1), .val (.long t1), .second, .val .null, .unset, .unset, .unset] [])) _
    refine st5 _ ?_
    show Steps p.tables e below (T5.setTop (mkF m 179 #[.val (.ref a1), .val (.long t1), .second, .val .null, .val (.int (t1 &&& (((64 : Int32) - 1).toInt64)).toInt32), .val (.ref du5), .unset] [])) _
    exact X5.returnOut hx Bd.returns (hb hby d4_179) hr
  · show Q_sc_64_64 Z a1 t1 q1 P k h0 n0 _ T5.heap _
    rw [e5]
    exact ⟨rfl, N5, O5, D5⟩
theorem ef_sc_64_128 (m : MethodId) (a1 : Addr) (t1 : Int64) : entryFrame m #[(.ref a1), (.long t1), .null] 7 = mkF m 0 #[.val (.ref a1), .val (.long t1), .second, .val .null, .unset, .unset, .unset] [] := by first | (simp [entryFrame, mkF, argsToLocals, Value.category]; done) | rfl
def Q_sc_64_128 (Z : State) (a1 : Addr) (t1 q1 P : Int64) (k : Int32) (h0 : Heap) (n0 : Nat) (v : Option Value) (h : Heap) (L : List Loc) : Prop := v = none ∧ Fr n0 L ∧ Old Z n0 h ∧ Due Z n0 h a1 q1 (128 : Int32) (P + 1) (k + 1)
set_option maxRecDepth 65536 in
set_option maxHeartbeats 40000000 in
theorem sc_64_128 (l : Launch) (Z : State) (a0 : Array Value) (hw : ∀ d ∈ tables_1, d.before a0 Z = true) (ws : List Jvm.Cond) (a1 : Addr) (t1 q1 P : Int64) (k : Int32) (h0 : Heap) (n0 : Nat) (O0 : Old Z n0 h0) (hD : Due Z n0 h0 a1 q1 (64 : Int32) P k) (g1 : n0 ≤ a1) (hk0 : ¬ k < 0) (hk7 : k < (7 : Int32)) (hgt : (0 : Int32) < (lcmpW t1 (-1))) (hle : ¬ ((0 : Int32) < (lcmpW t1 q1))) (hm : (0 : Int32) < (lcmpW (t1 - (-1)) (((64 : Int32) - 1).toInt64))) (hl64 : ¬ ((lcmpW (t1 - (-1)) ((64 : Int32).toInt64)) < (0 : Int32))) (hl128 : (lcmpW (t1 - (-1)) ((128 : Int32).toInt64)) < (0 : Int32)) :
    MetFree l (⟨"com/example/januswire/januswire/sim/DueEvents", "schedule", "(JLjava/lang/Runnable;)V"⟩ : MethodName) (head1 (Jvm.Cond.code (⟨"com/example/januswire/januswire/sim/DueEvents", "schedule", "(JLjava/lang/Runnable;)V"⟩ : MethodName) prog_187_method_2_code 7 none :: ws) ({ frames := 1, cells := 3, slots := 264, locals := 21 } : Room)) (fun a U => a = #[(.ref a1), (.long t1), .null] ∧ Z.Warmed39 U.vm ∧ U.heap = h0) (fun _ _ _ _ _ => True) (fun _ U o U' => ∃ v L, o = .returned v ∧ Q_sc_64_128 Z a1 t1 q1 P k h0 n0 v U'.heap L ∧ FrameEnd U o U' L ({ frames := 1, cells := 3, slots := 264, locals := 21 } : Room).cells ({ frames := 1, cells := 3, slots := 264, locals := 21 } : Room).slots) := by
  refine MetFree.of_bodySF (plainFor_of_name pn_com_example_januswire_januswire_sim_DueEvents) hisR ?_
  intro p e s m args below meth c s₁ Bd hml0 hP hK
  obtain ⟨rfl, hZ, hh⟩ := hP
  have hx := Bd.exec
  have hby := Bd.bytes
  have hml : c.maxLocals = 7 := hml0
  have hown : s.vm.findClass "com/example/januswire/januswire/sim/DueEvents" = some m.cls := findClass_of_methodNamed Bd.named
  have hnm := (name_of_methodNamed Bd.named Bd.method).1
  have X0 : Stand p l e ({ frames := 1, cells := 3, slots := 264, locals := 21 } : Room) s m #[(.ref a1), (.long t1), .null] below meth c s₁ [] 0 0 := Stand.of_body Bd
  have e0 : s₁.heap = h0 := by rw [← hh, Bd.state]; rfl
  have N0 := Fr.nil n0
  have pre0 : ∀ t, Steps p.tables e below (s₁.setTop (mkF m 0 #[.val (.ref a1), .val (.long t1), .second, .val .null, .unset, .unset, .unset] [])) t → Steps p.tables e below (s₁.setTop (entryFrame m #[(.ref a1), (.long t1), .null] 7)) t := fun t k => castTop (ef_sc_64_128 m a1 t1) k
  have hD_ := hD; obtain ⟨ev, ct, dd, gev, gct, E_a1, F_events, F_counts, F_mask, F_current, F_lastTick, F_pending, F_droppedLate, Ev, Ct⟩ := hD_
  have ne_d_e : a1 ≠ ev := own_de E_a1 (hw _ (List.mem_of_getElem? (i := 1) rfl)) Ev
  have ne_d_c : a1 ≠ ct := own_dc E_a1 (hw _ (List.mem_of_getElem? (i := 1) rfl)) Ct
  have ne_e_c : ev ≠ ct := own_ec Ev Ct
  obtain ⟨T1, X1, e1, st1⟩ := getF X0 hx hZ hown (host := "") (Or.inl (hw _ (List.mem_of_getElem? (i := 19) rfl))) Via.refl e0 F_current (g := (mkF m 2 #[.val (.ref a1), .val (.long t1), .second, .val .null, .unset, .unset, .unset] [(.ref a1), (.long t1)])) rfl rfl (hb hby d4_2)
  obtain ⟨T2, X2, e2, st2⟩ := getF X1 hx hZ hown (host := "") (Or.inl (hw _ (List.mem_of_getElem? (i := 21) rfl))) Via.refl e1 F_lastTick (g := (mkF m 29 #[.val (.ref a1), .val (.long t1), .second, .val .null, .unset, .unset, .unset] [(.ref a1), (.long t1)])) rfl rfl (hb hby d4_29)
  obtain ⟨T3, X3, e3, st3⟩ := getF X2 hx hZ hown (host := "") (Or.inl (hw _ (List.mem_of_getElem? (i := 19) rfl))) Via.refl e2 F_current (g := (mkF m 44 #[.val (.ref a1), .val (.long t1), .second, .val .null, .unset, .unset, .unset] [(.ref a1), (.long t1)])) rfl rfl (hb hby d4_44)
  obtain ⟨T4, X4, e4, st4⟩ := getF X3 hx hZ hown (host := "") (Or.inl (hw _ (List.mem_of_getElem? (i := 16) rfl))) Via.refl e3 F_mask (g := (mkF m 49 #[.val (.ref a1), .val (.long t1), .second, .val .null, .unset, .unset, .unset] [(.ref a1), (.long (t1 - (-1)))])) rfl rfl (hb hby d4_49)
  obtain ⟨cq5, q5, q5'⟩ := E_a1.cell
  obtain ⟨_, _, ⟨T5, L5, k5, n5⟩, -, X5, ⟨Lc5, hQ5, l5, y5, z5⟩, st5⟩ := X4.privateBack hx (y := (⟨"com/example/januswire/januswire/sim/DueEvents", "widen", "(J)V"⟩ : MethodName)) hown (mvT hZ (hw _ (List.mem_of_getElem? (i := 38) rfl))) (mvT hZ (hw _ (List.mem_of_getElem? (i := 39) rfl))) (own_sel hZ (hw _ (List.mem_of_getElem? (i := 1) rfl)) (hw _ (List.mem_of_getElem? (i := 40) rfl)) (hw _ (List.mem_of_getElem? (i := 39) rfl)) (by decide)) (Cond.privateMethod_at (mvP hZ (hw _ (List.mem_of_getElem? (i := 40) rfl)) (args := #[]))) (mvT hZ (hw _ (List.mem_of_getElem? (i := 41) rfl))) (by decide) (backOf (W := 0) (wid_64_128 l Z a0 hw [] a1 t1 q1 P k h0 n0 O0 hD g1 hk0 hl64 hl128) hZ (hw _ (List.mem_of_getElem? (i := 41) rfl)) (hw _ (List.mem_of_getElem? (i := 2) rfl)) (by decide) (by decide)) (g := (mkF m 59 #[.val (.ref a1), .val (.long t1), .second, .val .null, .unset, .unset, .unset] [(.long t1), (.ref a1)])) rfl (by rw [hml]; rfl) (Steps.refl _) (a := a1) (by rw [e4]; exact q5) q5' (argsL := [(.long t1)]) (rest := []) (lenOf pd__J_V rfl) rfl (by show 2 * 0 + _ ≤ _; exact Nat.le_of_eq rfl) (hb hby d4_59) (fun _ _ => ⟨rfl, e4, (by decide : 0 + 2 ≤ _), (by decide : 0 + 256 ≤ _)⟩)
  dsimp only [Pt.U, Pt.locs, Pt.cells, Pt.slots] at X5 l5 y5 z5 st5 hQ5
  subst l5 y5 z5
  obtain ⟨rfl, Nq5, Oq5, Dq5⟩ := hQ5
  have N5 := Fr.app N0 Nq5
  obtain ⟨T6, h6, locs6, du6, X6, e6, O6, N6, D6, st6⟩ := tail X5 hx hZ hw hby hml hown rfl Oq5 N5 Dq5 g1 hk7 (own_to128 t1) (by decide) (by decide)
  obtain ⟨fs, hr, hrun, hended, hW, hsame⟩ := X6.leave (v := none) (fun _ => rfl)
  refine ⟨_, _, pre0 _ ?_, hrun, hended, _, _, rfl, ?_, ⟨_, rfl⟩, hW, hsame.mono (by decide) (by decide)⟩
  · show Steps p.tables e below (s₁.setTop (mkF m 0 #[.val (.ref a1), .val (.long t1), .second, .val .null, .unset, .unset, .unset] [])) _
    refine XS.lloadN X0.here hx rfl (hb hby d4_0) rfl ?_
    show Steps p.tables e below (s₁.setTop (mkF m 1 #[.val (.ref a1), .val (.long t1), .second, .val .null, .unset, .unset, .unset] [(.long t1)])) _
    refine XS.aloadN X0.here hx rfl (hb hby d4_1) rfl rfl ?_
    show Steps p.tables e below (s₁.setTop (mkF m 2 #[.val (.ref a1), .val (.long t1), .second, .val .null, .unset, .unset, .unset] [(.ref a1), (.long t1)])) _
    refine st1 _ ?_
    show Steps p.tables e below (T1.setTop (mkF m 5 #[.val (.ref a1), .val (.long t1), .second, .val .null, .unset, .unset, .unset] [(.long (-1)), (.long t1)])) _
    refine XS.lcmp X1.here hx rfl (hb hby d4_5) rfl ?_
    show Steps p.tables e below (T1.setTop (mkF m 6 #[.val (.ref a1), .val (.long t1), .second, .val .null, .unset, .unset, .unset] [(.int (lcmpW t1 (-1)))])) _
    refine XS.ifYes X1.here hx rfl (pc0 := 6) (pc' := 27) rfl (hb hby d4_6) rfl ((if0 _ _).trans (tlt hgt).2.2.1) (by decide) (by decide) ?_
    show Steps p.tables e below (T1.setTop (mkF m 27 #[.val (.ref a1), .val (.long t1), .second, .val .null, .unset, .unset, .unset] [])) _
    refine XS.lloadN X1.here hx rfl (hb hby d4_27) rfl ?_
    show Steps p.tables e below (T1.setTop (mkF m 28 #[.val (.ref a1), .val (.long t1), .second, .val .null, .unset, .unset, .unset] [(.long t1)])) _
    refine XS.aloadN X1.here hx rfl (hb hby d4_28) rfl rfl ?_
    show Steps p.tables e below (T1.setTop (mkF m 29 #[.val (.ref a1), .val (.long t1), .second, .val .null, .unset, .unset, .unset] [(.ref a1), (.long t1)])) _
    refine st2 _ ?_
    show Steps p.tables e below (T2.setTop (mkF m 32 #[.val (.ref a1), .val (.long t1), .second, .val .null, .unset, .unset, .unset] [(.long q1), (.long t1)])) _
    refine XS.lcmp X2.here hx rfl (hb hby d4_32) rfl ?_
    show Steps p.tables e below (T2.setTop (mkF m 33 #[.val (.ref a1), .val (.long t1), .second, .val .null, .unset, .unset, .unset] [(.int (lcmpW t1 q1))])) _
    refine XS.ifYes X2.here hx rfl (pc0 := 33) (pc' := 42) rfl (hb hby d4_33) rfl ((if0 _ _).trans (flt hle).2.2.2) (by decide) (by decide) ?_
    show Steps p.tables e below (T2.setTop (mkF m 42 #[.val (.ref a1), .val (.long t1), .second, .val .null, .unset, .unset, .unset] [])) _
    refine XS.lloadN X2.here hx rfl (hb hby d4_42) rfl ?_
    show Steps p.tables e below (T2.setTop (mkF m 43 #[.val (.ref a1), .val (.long t1), .second, .val .null, .unset, .unset, .unset] [(.long t1)])) _
    refine XS.aloadN X2.here hx rfl (hb hby d4_43) rfl rfl ?_
    show Steps p.tables e below (T2.setTop (mkF m 44 #[.val (.ref a1), .val (.long t1), .second, .val .null, .unset, .unset, .unset] [(.ref a1), (.long t1)])) _
    refine st3 _ ?_
    show Steps p.tables e below (T3.setTop (mkF m 47 #[.val (.ref a1), .val (.long t1), .second, .val .null, .unset, .unset, .unset] [(.long (-1)), (.long t1)])) _
    refine XS.lsub X3.here hx rfl (hb hby d4_47) rfl ?_
    show Steps p.tables e below (T3.setTop (mkF m 48 #[.val (.ref a1), .val (.long t1), .second, .val .null, .unset, .unset, .unset] [(.long (t1 - (-1)))])) _
    refine XS.aloadN X3.here hx rfl (hb hby d4_48) rfl rfl ?_
    show Steps p.tables e below (T3.setTop (mkF m 49 #[.val (.ref a1), .val (.long t1), .second, .val .null, .unset, .unset, .unset] [(.ref a1), (.long (t1 - (-1)))])) _
    refine st4 _ ?_
    show Steps p.tables e below (T4.setTop (mkF m 52 #[.val (.ref a1), .val (.long t1), .second, .val .null, .unset, .unset, .unset] [(.int ((64 : Int32) - 1)), (.long (t1 - (-1)))])) _
    refine XS.i2l X4.here hx rfl (hb hby d4_52) rfl ?_
    show Steps p.tables e below (T4.setTop (mkF m 53 #[.val (.ref a1), .val (.long t1), .second, .val .null, .unset, .unset, .unset] [(.long (((64 : Int32) - 1).toInt64)), (.long (t1 - (-1)))])) _
    refine XS.lcmp X4.here hx rfl (hb hby d4_53) rfl ?_
    show Steps p.tables e below (T4.setTop (mkF m 54 #[.val (.ref a1), .val (.long t1), .second, .val .null, .unset, .unset, .unset] [(.int (lcmpW (t1 - (-1)) (((64 : Int32) - 1).toInt64)))])) _
    refine XS.ifNo X4.here hx rfl (hb hby d4_54) rfl ((if0 _ _).trans (tlt hm).2.2.2) ?_
    show Steps p.tables e below (T4.setTop (mkF m 57 #[.val (.ref a1), .val (.long t1), .second, .val .null, .unset, .unset, .unset] [])) _
    refine XS.aloadN X4.here hx rfl (hb hby d4_57) rfl rfl ?_
    show Steps p.tables e below (T4.setTop (mkF m 58 #[.val (.ref a1), .val (.long t1), .second, .val .null, .unset, .unset, .unset] [(.ref a1)])) _
    refine XS.lloadN X4.here hx rfl (hb hby d4_58) rfl ?_
    show Steps p.tables e below (T4.setTop (mkF m 59 #[.val (.ref a1), .val (.long t1), .second, .val .null, .unset, .unset, .unset] [(.long t1), (.ref a1)])) _
    refine st5.trans ?_
    show Steps p.tables e below (T5.setTop (mkF m 62 #[.val (.ref a1), .val (.long t1), .second, .val .null, .unset, .unset, .unset] [])) _
    refine st6 _ ?_
    show Steps p.tables e below (T6.setTop (mkF m 179 #[.val (.ref a1), .val (.long t1), .second, .val .null, .val (.int (t1 &&& (((128 : Int32) - 1).toInt64)).toInt32), .val (.ref du6), .unset] [])) _
    exact X6.returnOut hx Bd.returns (hb hby d4_179) hr
  · show Q_sc_64_128 Z a1 t1 q1 P k h0 n0 _ T6.heap _
    rw [e6]
    exact ⟨rfl, N6, O6, D6⟩
theorem ef_sc_128_128 (m : MethodId) (a1 : Addr) (t1 : Int64) : entryFrame m #[(.ref a1), (.long t1), .null] 7 = mkF m 0 #[.val (.ref a1), .val (.long t1), .second, .val .null, .unset, .unset, .unset] [] := by first | (simp [entryFrame, mkF, argsToLocals, Value.category]; done) | rfl
def Q_sc_128_128 (Z : State) (a1 : Addr) (t1 q1 P : Int64) (k : Int32) (h0 : Heap) (n0 : Nat) (v : Option Value) (h : Heap) (L : List Loc) : Prop := v = none ∧ Fr n0 L ∧ Old Z n0 h ∧ Due Z n0 h a1 q1 (128 : Int32) (P + 1) (k + 1)
set_option maxRecDepth 65536 in
set_option maxHeartbeats 40000000 in
theorem sc_128_128 (l : Launch) (Z : State) (a0 : Array Value) (hw : ∀ d ∈ tables_1, d.before a0 Z = true) (ws : List Jvm.Cond) (a1 : Addr) (t1 q1 P : Int64) (k : Int32) (h0 : Heap) (n0 : Nat) (O0 : Old Z n0 h0) (hD : Due Z n0 h0 a1 q1 (128 : Int32) P k) (g1 : n0 ≤ a1) (hk0 : ¬ k < 0) (hk7 : k < (7 : Int32)) (hgt : (0 : Int32) < (lcmpW t1 (-1))) (hle : ¬ ((0 : Int32) < (lcmpW t1 q1))) (hm : ¬ ((0 : Int32) < (lcmpW (t1 - (-1)) (((128 : Int32) - 1).toInt64)))) :
    MetFree l (⟨"com/example/januswire/januswire/sim/DueEvents", "schedule", "(JLjava/lang/Runnable;)V"⟩ : MethodName) (head1 (Jvm.Cond.code (⟨"com/example/januswire/januswire/sim/DueEvents", "schedule", "(JLjava/lang/Runnable;)V"⟩ : MethodName) prog_187_method_2_code 7 none :: ws) ({ frames := 0, cells := 1, slots := 8, locals := 0 } : Room)) (fun a U => a = #[(.ref a1), (.long t1), .null] ∧ Z.Warmed39 U.vm ∧ U.heap = h0) (fun _ _ _ _ _ => True) (fun _ U o U' => ∃ v L, o = .returned v ∧ Q_sc_128_128 Z a1 t1 q1 P k h0 n0 v U'.heap L ∧ FrameEnd U o U' L ({ frames := 0, cells := 1, slots := 8, locals := 0 } : Room).cells ({ frames := 0, cells := 1, slots := 8, locals := 0 } : Room).slots) := by
  refine MetFree.of_bodySF (plainFor_of_name pn_com_example_januswire_januswire_sim_DueEvents) hisR ?_
  intro p e s m args below meth c s₁ Bd hml0 hP hK
  obtain ⟨rfl, hZ, hh⟩ := hP
  have hx := Bd.exec
  have hby := Bd.bytes
  have hml : c.maxLocals = 7 := hml0
  have hown : s.vm.findClass "com/example/januswire/januswire/sim/DueEvents" = some m.cls := findClass_of_methodNamed Bd.named
  have hnm := (name_of_methodNamed Bd.named Bd.method).1
  have X0 : Stand p l e ({ frames := 0, cells := 1, slots := 8, locals := 0 } : Room) s m #[(.ref a1), (.long t1), .null] below meth c s₁ [] 0 0 := Stand.of_body Bd
  have e0 : s₁.heap = h0 := by rw [← hh, Bd.state]; rfl
  have N0 := Fr.nil n0
  have pre0 : ∀ t, Steps p.tables e below (s₁.setTop (mkF m 0 #[.val (.ref a1), .val (.long t1), .second, .val .null, .unset, .unset, .unset] [])) t → Steps p.tables e below (s₁.setTop (entryFrame m #[(.ref a1), (.long t1), .null] 7)) t := fun t k => castTop (ef_sc_128_128 m a1 t1) k
  have hD_ := hD; obtain ⟨ev, ct, dd, gev, gct, E_a1, F_events, F_counts, F_mask, F_current, F_lastTick, F_pending, F_droppedLate, Ev, Ct⟩ := hD_
  have ne_d_e : a1 ≠ ev := own_de E_a1 (hw _ (List.mem_of_getElem? (i := 1) rfl)) Ev
  have ne_d_c : a1 ≠ ct := own_dc E_a1 (hw _ (List.mem_of_getElem? (i := 1) rfl)) Ct
  have ne_e_c : ev ≠ ct := own_ec Ev Ct
  obtain ⟨T1, X1, e1, st1⟩ := getF X0 hx hZ hown (host := "") (Or.inl (hw _ (List.mem_of_getElem? (i := 19) rfl))) Via.refl e0 F_current (g := (mkF m 2 #[.val (.ref a1), .val (.long t1), .second, .val .null, .unset, .unset, .unset] [(.ref a1), (.long t1)])) rfl rfl (hb hby d4_2)
  obtain ⟨T2, X2, e2, st2⟩ := getF X1 hx hZ hown (host := "") (Or.inl (hw _ (List.mem_of_getElem? (i := 21) rfl))) Via.refl e1 F_lastTick (g := (mkF m 29 #[.val (.ref a1), .val (.long t1), .second, .val .null, .unset, .unset, .unset] [(.ref a1), (.long t1)])) rfl rfl (hb hby d4_29)
  obtain ⟨T3, X3, e3, st3⟩ := getF X2 hx hZ hown (host := "") (Or.inl (hw _ (List.mem_of_getElem? (i := 19) rfl))) Via.refl e2 F_current (g := (mkF m 44 #[.val (.ref a1), .val (.long t1), .second, .val .null, .unset, .unset, .unset] [(.ref a1), (.long t1)])) rfl rfl (hb hby d4_44)
  obtain ⟨T4, X4, e4, st4⟩ := getF X3 hx hZ hown (host := "") (Or.inl (hw _ (List.mem_of_getElem? (i := 16) rfl))) Via.refl e3 F_mask (g := (mkF m 49 #[.val (.ref a1), .val (.long t1), .second, .val .null, .unset, .unset, .unset] [(.ref a1), (.long (t1 - (-1)))])) rfl rfl (hb hby d4_49)
  obtain ⟨T5, h5, locs5, du5, X5, e5, O5, N5, D5, st5⟩ := tail X4 hx hZ hw hby hml hown e4 O0 N0 hD g1 hk7 (own_to128 t1) (by decide) (by decide)
  obtain ⟨fs, hr, hrun, hended, hW, hsame⟩ := X5.leave (v := none) (fun _ => rfl)
  refine ⟨_, _, pre0 _ ?_, hrun, hended, _, _, rfl, ?_, ⟨_, rfl⟩, hW, hsame.mono (by decide) (by decide)⟩
  · show Steps p.tables e below (s₁.setTop (mkF m 0 #[.val (.ref a1), .val (.long t1), .second, .val .null, .unset, .unset, .unset] [])) _
    refine XS.lloadN X0.here hx rfl (hb hby d4_0) rfl ?_
    show Steps p.tables e below (s₁.setTop (mkF m 1 #[.val (.ref a1), .val (.long t1), .second, .val .null, .unset, .unset, .unset] [(.long t1)])) _
    refine XS.aloadN X0.here hx rfl (hb hby d4_1) rfl rfl ?_
    show Steps p.tables e below (s₁.setTop (mkF m 2 #[.val (.ref a1), .val (.long t1), .second, .val .null, .unset, .unset, .unset] [(.ref a1), (.long t1)])) _
    refine st1 _ ?_
    show Steps p.tables e below (T1.setTop (mkF m 5 #[.val (.ref a1), .val (.long t1), .second, .val .null, .unset, .unset, .unset] [(.long (-1)), (.long t1)])) _
    refine XS.lcmp X1.here hx rfl (hb hby d4_5) rfl ?_
    show Steps p.tables e below (T1.setTop (mkF m 6 #[.val (.ref a1), .val (.long t1), .second, .val .null, .unset, .unset, .unset] [(.int (lcmpW t1 (-1)))])) _
    refine XS.ifYes X1.here hx rfl (pc0 := 6) (pc' := 27) rfl (hb hby d4_6) rfl ((if0 _ _).trans (tlt hgt).2.2.1) (by decide) (by decide) ?_
    show Steps p.tables e below (T1.setTop (mkF m 27 #[.val (.ref a1), .val (.long t1), .second, .val .null, .unset, .unset, .unset] [])) _
    refine XS.lloadN X1.here hx rfl (hb hby d4_27) rfl ?_
    show Steps p.tables e below (T1.setTop (mkF m 28 #[.val (.ref a1), .val (.long t1), .second, .val .null, .unset, .unset, .unset] [(.long t1)])) _
    refine XS.aloadN X1.here hx rfl (hb hby d4_28) rfl rfl ?_
    show Steps p.tables e below (T1.setTop (mkF m 29 #[.val (.ref a1), .val (.long t1), .second, .val .null, .unset, .unset, .unset] [(.ref a1), (.long t1)])) _
    refine st2 _ ?_
    show Steps p.tables e below (T2.setTop (mkF m 32 #[.val (.ref a1), .val (.long t1), .second, .val .null, .unset, .unset, .unset] [(.long q1), (.long t1)])) _
    refine XS.lcmp X2.here hx rfl (hb hby d4_32) rfl ?_
    show Steps p.tables e below (T2.setTop (mkF m 33 #[.val (.ref a1), .val (.long t1), .second, .val .null, .unset, .unset, .unset] [(.int (lcmpW t1 q1))])) _
    refine XS.ifYes X2.here hx rfl (pc0 := 33) (pc' := 42) rfl (hb hby d4_33) rfl ((if0 _ _).trans (flt hle).2.2.2) (by decide) (by decide) ?_
    show Steps p.tables e below (T2.setTop (mkF m 42 #[.val (.ref a1), .val (.long t1), .second, .val .null, .unset, .unset, .unset] [])) _
    refine XS.lloadN X2.here hx rfl (hb hby d4_42) rfl ?_
    show Steps p.tables e below (T2.setTop (mkF m 43 #[.val (.ref a1), .val (.long t1), .second, .val .null, .unset, .unset, .unset] [(.long t1)])) _
    refine XS.aloadN X2.here hx rfl (hb hby d4_43) rfl rfl ?_
    show Steps p.tables e below (T2.setTop (mkF m 44 #[.val (.ref a1), .val (.long t1), .second, .val .null, .unset, .unset, .unset] [(.ref a1), (.long t1)])) _
    refine st3 _ ?_
    show Steps p.tables e below (T3.setTop (mkF m 47 #[.val (.ref a1), .val (.long t1), .second, .val .null, .unset, .unset, .unset] [(.long (-1)), (.long t1)])) _
    refine XS.lsub X3.here hx rfl (hb hby d4_47) rfl ?_
    show Steps p.tables e below (T3.setTop (mkF m 48 #[.val (.ref a1), .val (.long t1), .second, .val .null, .unset, .unset, .unset] [(.long (t1 - (-1)))])) _
    refine XS.aloadN X3.here hx rfl (hb hby d4_48) rfl rfl ?_
    show Steps p.tables e below (T3.setTop (mkF m 49 #[.val (.ref a1), .val (.long t1), .second, .val .null, .unset, .unset, .unset] [(.ref a1), (.long (t1 - (-1)))])) _
    refine st4 _ ?_
    show Steps p.tables e below (T4.setTop (mkF m 52 #[.val (.ref a1), .val (.long t1), .second, .val .null, .unset, .unset, .unset] [(.int ((128 : Int32) - 1)), (.long (t1 - (-1)))])) _
    refine XS.i2l X4.here hx rfl (hb hby d4_52) rfl ?_
    show Steps p.tables e below (T4.setTop (mkF m 53 #[.val (.ref a1), .val (.long t1), .second, .val .null, .unset, .unset, .unset] [(.long (((128 : Int32) - 1).toInt64)), (.long (t1 - (-1)))])) _
    refine XS.lcmp X4.here hx rfl (hb hby d4_53) rfl ?_
    show Steps p.tables e below (T4.setTop (mkF m 54 #[.val (.ref a1), .val (.long t1), .second, .val .null, .unset, .unset, .unset] [(.int (lcmpW (t1 - (-1)) (((128 : Int32) - 1).toInt64)))])) _
    refine XS.ifYes X4.here hx rfl (pc0 := 54) (pc' := 62) rfl (hb hby d4_54) rfl ((if0 _ _).trans (flt hm).2.2.2) (by decide) (by decide) ?_
    show Steps p.tables e below (T4.setTop (mkF m 62 #[.val (.ref a1), .val (.long t1), .second, .val .null, .unset, .unset, .unset] [])) _
    refine st5 _ ?_
    show Steps p.tables e below (T5.setTop (mkF m 179 #[.val (.ref a1), .val (.long t1), .second, .val .null, .val (.int (t1 &&& (((128 : Int32) - 1).toInt64)).toInt32), .val (.ref du5), .unset] [])) _
    exact X5.returnOut hx Bd.returns (hb hby d4_179) hr
  · show Q_sc_128_128 Z a1 t1 q1 P k h0 n0 _ T5.heap _
    rw [e5]
    exact ⟨rfl, N5, O5, D5⟩
theorem ef_sc_drop (m : MethodId) (a1 : Addr) (t1 : Int64) : entryFrame m #[(.ref a1), (.long t1), .null] 7 = mkF m 0 #[.val (.ref a1), .val (.long t1), .second, .val .null, .unset, .unset, .unset] [] := by first | (simp [entryFrame, mkF, argsToLocals, Value.category]; done) | rfl
def Q_sc_drop (Z : State) (a1 : Addr) (t1 q1 P : Int64) (M k : Int32) (h0 : Heap) (n0 : Nat) (v : Option Value) (h : Heap) (L : List Loc) : Prop := v = none ∧ Fr n0 L ∧ Old Z n0 h ∧ Due Z n0 h a1 q1 M P k
set_option maxRecDepth 65536 in
set_option maxHeartbeats 40000000 in
theorem sc_drop (l : Launch) (Z : State) (a0 : Array Value) (hw : ∀ d ∈ tables_1, d.before a0 Z = true) (ws : List Jvm.Cond) (a1 : Addr) (t1 q1 P : Int64) (M k : Int32) (h0 : Heap) (n0 : Nat) (O0 : Old Z n0 h0) (hD : Due Z n0 h0 a1 q1 M P k) (g1 : n0 ≤ a1) (hgt : (0 : Int32) < (lcmpW t1 (-1))) (hgq : (0 : Int32) < (lcmpW t1 q1)) :
    MetFree l (⟨"com/example/januswire/januswire/sim/DueEvents", "schedule", "(JLjava/lang/Runnable;)V"⟩ : MethodName) (head1 (Jvm.Cond.code (⟨"com/example/januswire/januswire/sim/DueEvents", "schedule", "(JLjava/lang/Runnable;)V"⟩ : MethodName) prog_187_method_2_code 7 none :: ws) ({ frames := 0, cells := 0, slots := 0, locals := 0 } : Room)) (fun a U => a = #[(.ref a1), (.long t1), .null] ∧ Z.Warmed39 U.vm ∧ U.heap = h0) (fun _ _ _ _ _ => True) (fun _ U o U' => ∃ v L, o = .returned v ∧ Q_sc_drop Z a1 t1 q1 P M k h0 n0 v U'.heap L ∧ FrameEnd U o U' L ({ frames := 0, cells := 0, slots := 0, locals := 0 } : Room).cells ({ frames := 0, cells := 0, slots := 0, locals := 0 } : Room).slots) := by
  refine MetFree.of_bodySF (plainFor_of_name pn_com_example_januswire_januswire_sim_DueEvents) hisR ?_
  intro p e s m args below meth c s₁ Bd hml0 hP hK
  obtain ⟨rfl, hZ, hh⟩ := hP
  have hx := Bd.exec
  have hby := Bd.bytes
  have hml : c.maxLocals = 7 := hml0
  have hown : s.vm.findClass "com/example/januswire/januswire/sim/DueEvents" = some m.cls := findClass_of_methodNamed Bd.named
  have hnm := (name_of_methodNamed Bd.named Bd.method).1
  have X0 : Stand p l e ({ frames := 0, cells := 0, slots := 0, locals := 0 } : Room) s m #[(.ref a1), (.long t1), .null] below meth c s₁ [] 0 0 := Stand.of_body Bd
  have e0 : s₁.heap = h0 := by rw [← hh, Bd.state]; rfl
  have N0 := Fr.nil n0
  have pre0 : ∀ t, Steps p.tables e below (s₁.setTop (mkF m 0 #[.val (.ref a1), .val (.long t1), .second, .val .null, .unset, .unset, .unset] [])) t → Steps p.tables e below (s₁.setTop (entryFrame m #[(.ref a1), (.long t1), .null] 7)) t := fun t k => castTop (ef_sc_drop m a1 t1) k
  have hD_ := hD; obtain ⟨ev, ct, dd, gev, gct, E_a1, F_events, F_counts, F_mask, F_current, F_lastTick, F_pending, F_droppedLate, Ev, Ct⟩ := hD_
  have ne_d_e : a1 ≠ ev := own_de E_a1 (hw _ (List.mem_of_getElem? (i := 1) rfl)) Ev
  have ne_d_c : a1 ≠ ct := own_dc E_a1 (hw _ (List.mem_of_getElem? (i := 1) rfl)) Ct
  have ne_e_c : ev ≠ ct := own_ec Ev Ct
  obtain ⟨T1, X1, e1, st1⟩ := getF X0 hx hZ hown (host := "") (Or.inl (hw _ (List.mem_of_getElem? (i := 19) rfl))) Via.refl e0 F_current (g := (mkF m 2 #[.val (.ref a1), .val (.long t1), .second, .val .null, .unset, .unset, .unset] [(.ref a1), (.long t1)])) rfl rfl (hb hby d4_2)
  obtain ⟨T2, X2, e2, st2⟩ := getF X1 hx hZ hown (host := "") (Or.inl (hw _ (List.mem_of_getElem? (i := 21) rfl))) Via.refl e1 F_lastTick (g := (mkF m 29 #[.val (.ref a1), .val (.long t1), .second, .val .null, .unset, .unset, .unset] [(.ref a1), (.long t1)])) rfl rfl (hb hby d4_29)
  obtain ⟨T3, h3, X3, e3, W3, st3⟩ := putFN X2 hx hZ hown (hw _ (List.mem_of_getElem? (i := 42) rfl)) Via.refl e2 F_droppedLate E_a1 (Or.inl (hw _ (List.mem_of_getElem? (i := 43) rfl))) (hw _ (List.mem_of_getElem? (i := 1) rfl)) (ty := .boolean) (v' := (.int (1 : Int32))) (by decide) rfl rfl (g := (mkF m 38 #[.val (.ref a1), .val (.long t1), .second, .val .null, .unset, .unset, .unset] [(.int (1 : Int32)), (.ref a1)])) rfl rfl (hb hby d4_38)
  have Fw3 := F_droppedLate.same W3
  have O3 := O0.wr W3 g1
  have N3 := Fr.snoc X3 N0 g1
  have f4 := (E_a1.wr W3)
  have f5 := (F_events.other W3 (Or.inr (slot_ne (Or.inl (hw _ (List.mem_of_getElem? (i := 12) rfl))) (Or.inl (hw _ (List.mem_of_getElem? (i := 43) rfl))) (by decide) (t := (.array (.array (.object "java/lang/Runnable")))) (t' := .boolean) (by decide) (by decide))))
  have f6 := (F_counts.other W3 (Or.inr (slot_ne (Or.inl (hw _ (List.mem_of_getElem? (i := 15) rfl))) (Or.inl (hw _ (List.mem_of_getElem? (i := 43) rfl))) (by decide) (t := (.array .int)) (t' := .boolean) (by decide) (by decide))))
  have f7 := (F_mask.other W3 (Or.inr (slot_ne (Or.inl (hw _ (List.mem_of_getElem? (i := 17) rfl))) (Or.inl (hw _ (List.mem_of_getElem? (i := 43) rfl))) (by decide) (t := .int) (t' := .boolean) (by decide) (by decide))))
  have f8 := (F_current.other W3 (Or.inr (slot_ne (Or.inl (hw _ (List.mem_of_getElem? (i := 20) rfl))) (Or.inl (hw _ (List.mem_of_getElem? (i := 43) rfl))) (by decide) (t := .long) (t' := .boolean) (by decide) (by decide))))
  have f9 := (F_lastTick.other W3 (Or.inr (slot_ne (Or.inr (hw _ (List.mem_of_getElem? (i := 22) rfl))) (Or.inl (hw _ (List.mem_of_getElem? (i := 43) rfl))) (by decide) (t := .long) (t' := .boolean) (by decide) (by decide))))
  have f10 := (F_pending.other W3 (Or.inr (slot_ne (Or.inl (hw _ (List.mem_of_getElem? (i := 29) rfl))) (Or.inl (hw _ (List.mem_of_getElem? (i := 43) rfl))) (by decide) (t := .long) (t' := .boolean) (by decide) (by decide))))
  have f11 := (Ev.other W3 (Ne.symm ne_d_e))
  have f12 := (Ct.other W3 (Ne.symm ne_d_c))
  obtain ⟨fs, hr, hrun, hended, hW, hsame⟩ := X3.leave (v := none) (fun _ => rfl)
  refine ⟨_, _, pre0 _ ?_, hrun, hended, _, _, rfl, ?_, ⟨_, rfl⟩, hW, hsame.mono (by decide) (by decide)⟩
  · show Steps p.tables e below (s₁.setTop (mkF m 0 #[.val (.ref a1), .val (.long t1), .second, .val .null, .unset, .unset, .unset] [])) _
    refine XS.lloadN X0.here hx rfl (hb hby d4_0) rfl ?_
    show Steps p.tables e below (s₁.setTop (mkF m 1 #[.val (.ref a1), .val (.long t1), .second, .val .null, .unset, .unset, .unset] [(.long t1)])) _
    refine XS.aloadN X0.here hx rfl (hb hby d4_1) rfl rfl ?_
    show Steps p.tables e below (s₁.setTop (mkF m 2 #[.val (.ref a1), .val (.long t1), .second, .val .null, .unset, .unset, .unset] [(.ref a1), (.long t1)])) _
    refine st1 _ ?_
    show Steps p.tables e below (T1.setTop (mkF m 5 #[.val (.ref a1), .val (.long t1), .second, .val .null, .unset, .unset, .unset] [(.long (-1)), (.long t1)])) _
    refine XS.lcmp X1.here hx rfl (hb hby d4_5) rfl ?_
    show Steps p.tables e below (T1.setTop (mkF m 6 #[.val (.ref a1), .val (.long t1), .second, .val .null, .unset, .unset, .unset] [(.int (lcmpW t1 (-1)))])) _
    refine XS.ifYes X1.here hx rfl (pc0 := 6) (pc' := 27) rfl (hb hby d4_6) rfl ((if0 _ _).trans (tlt hgt).2.2.1) (by decide) (by decide) ?_
    show Steps p.tables e below (T1.setTop (mkF m 27 #[.val (.ref a1), .val (.long t1), .second, .val .null, .unset, .unset, .unset] [])) _
    refine XS.lloadN X1.here hx rfl (hb hby d4_27) rfl ?_
    show Steps p.tables e below (T1.setTop (mkF m 28 #[.val (.ref a1), .val (.long t1), .second, .val .null, .unset, .unset, .unset] [(.long t1)])) _
    refine XS.aloadN X1.here hx rfl (hb hby d4_28) rfl rfl ?_
    show Steps p.tables e below (T1.setTop (mkF m 29 #[.val (.ref a1), .val (.long t1), .second, .val .null, .unset, .unset, .unset] [(.ref a1), (.long t1)])) _
    refine st2 _ ?_
    show Steps p.tables e below (T2.setTop (mkF m 32 #[.val (.ref a1), .val (.long t1), .second, .val .null, .unset, .unset, .unset] [(.long q1), (.long t1)])) _
    refine XS.lcmp X2.here hx rfl (hb hby d4_32) rfl ?_
    show Steps p.tables e below (T2.setTop (mkF m 33 #[.val (.ref a1), .val (.long t1), .second, .val .null, .unset, .unset, .unset] [(.int (lcmpW t1 q1))])) _
    refine XS.ifNo X2.here hx rfl (hb hby d4_33) rfl ((if0 _ _).trans (tlt hgq).2.2.2) ?_
    show Steps p.tables e below (T2.setTop (mkF m 36 #[.val (.ref a1), .val (.long t1), .second, .val .null, .unset, .unset, .unset] [])) _
    refine XS.aloadN X2.here hx rfl (hb hby d4_36) rfl rfl ?_
    show Steps p.tables e below (T2.setTop (mkF m 37 #[.val (.ref a1), .val (.long t1), .second, .val .null, .unset, .unset, .unset] [(.ref a1)])) _
    refine XS.iconst X2.here hx rfl (hb hby d4_37) ?_
    show Steps p.tables e below (T2.setTop (mkF m 38 #[.val (.ref a1), .val (.long t1), .second, .val .null, .unset, .unset, .unset] [(.int (1 : Int32)), (.ref a1)])) _
    refine st3 _ ?_
    show Steps p.tables e below (T3.setTop (mkF m 41 #[.val (.ref a1), .val (.long t1), .second, .val .null, .unset, .unset, .unset] [])) _
    exact X3.returnOut hx Bd.returns (hb hby d4_41) hr
  · show Q_sc_drop Z a1 t1 q1 P M k h0 n0 _ T3.heap _
    rw [e3]
    exact ⟨rfl, N3, O3, ⟨ev, ct, _, gev, gct, f4, f5, f6, f7, f8, f9, f10, Fw3, f11, f12⟩⟩
theorem ef_ctor (m : MethodId) (a1 : Addr) (q1 : Int64) : entryFrame m #[(.ref a1), (.long q1)] 3 = mkF m 0 #[.val (.ref a1), .val (.long q1), .second] [] := by first | (simp [entryFrame, mkF, argsToLocals, Value.category]; done) | rfl
def Q_ctor (Z : State) (a1 : Addr) (q1 : Int64) (h0 : Heap) (n0 : Nat) (v : Option Value) (h : Heap) (L : List Loc) : Prop := v = none ∧ Fr n0 L ∧ Old Z n0 h ∧ Due Z n0 h a1 q1 (16 : Int32) (0 : Int64) (0 : Int32)
set_option maxRecDepth 65536 in
set_option maxHeartbeats 40000000 in
theorem ctor (l : Launch) (Z : State) (a0 : Array Value) (hw : ∀ d ∈ tables_1, d.before a0 Z = true) (ws : List Jvm.Cond) (a1 : Addr) (q1 : Int64) (h0 : Heap) (n0 : Nat) (O0 : Old Z n0 h0) (E1 : Exa Z h0 a1 "com/example/januswire/januswire/sim/DueEvents") (g1 : n0 ≤ a1) (F_events : Fld Z h0 a1 "com/example/januswire/januswire/sim/DueEvents" "events" "[[Ljava/lang/Runnable;" .null) (F_counts : Fld Z h0 a1 "com/example/januswire/januswire/sim/DueEvents" "counts" "[I" .null) (F_mask : Fld Z h0 a1 "com/example/januswire/januswire/sim/DueEvents" "mask" "I" (.int (0 : Int32))) (F_current : Fld Z h0 a1 "com/example/januswire/januswire/sim/DueEvents" "current" "J" (.long (0 : Int64))) (F_lastTick : Fld Z h0 a1 "com/example/januswire/januswire/sim/DueEvents" "lastTick" "J" (.long (0 : Int64))) (F_pending : Fld Z h0 a1 "com/example/januswire/januswire/sim/DueEvents" "pending" "J" (.long (0 : Int64))) (F_droppedLate : Fld Z h0 a1 "com/example/januswire/januswire/sim/DueEvents" "droppedLate" "Z" (.int (0 : Int32))) :
    MetFree l (⟨"com/example/januswire/januswire/sim/DueEvents", "<init>", "(J)V"⟩ : MethodName) (head1 (Jvm.Cond.code (⟨"com/example/januswire/januswire/sim/DueEvents", "<init>", "(J)V"⟩ : MethodName) prog_187_method_1_code 3 none :: ws) ({ frames := 1, cells := 2, slots := 32, locals := 12 } : Room)) (fun a U => a = #[(.ref a1), (.long q1)] ∧ Z.Warmed39 U.vm ∧ U.heap = h0) (fun _ _ _ _ _ => True) (fun _ U o U' => ∃ v L, o = .returned v ∧ Q_ctor Z a1 q1 h0 n0 v U'.heap L ∧ FrameEnd U o U' L ({ frames := 1, cells := 2, slots := 32, locals := 12 } : Room).cells ({ frames := 1, cells := 2, slots := 32, locals := 12 } : Room).slots) := by
  refine MetFree.of_bodySF (plainFor_of_name pn_com_example_januswire_januswire_sim_DueEvents) hisR ?_
  intro p e s m args below meth c s₁ Bd hml0 hP hK
  obtain ⟨rfl, hZ, hh⟩ := hP
  have hx := Bd.exec
  have hby := Bd.bytes
  have hml : c.maxLocals = 3 := hml0
  have hown : s.vm.findClass "com/example/januswire/januswire/sim/DueEvents" = some m.cls := findClass_of_methodNamed Bd.named
  have hnm := (name_of_methodNamed Bd.named Bd.method).1
  have X0 : Stand p l e ({ frames := 1, cells := 2, slots := 32, locals := 12 } : Room) s m #[(.ref a1), (.long q1)] below meth c s₁ [] 0 0 := Stand.of_body Bd
  have e0 : s₁.heap = h0 := by rw [← hh, Bd.state]; rfl
  have N0 := Fr.nil n0
  have pre0 : ∀ t, Steps p.tables e below (s₁.setTop (mkF m 0 #[.val (.ref a1), .val (.long q1), .second] [])) t → Steps p.tables e below (s₁.setTop (entryFrame m #[(.ref a1), (.long q1)] 3)) t := fun t k => castTop (ef_ctor m a1 q1) k
  obtain ⟨T1, X1, e1, st1⟩ := initO X0 hx hZ hown (hw _ (List.mem_of_getElem? (i := 6) rfl)) (hw _ (List.mem_of_getElem? (i := 7) rfl)) (hw _ (List.mem_of_getElem? (i := 8) rfl)) e0 (g := (mkF m 1 #[.val (.ref a1), .val (.long q1), .second] [(.ref a1)])) rfl (by rw [hml]; rfl) rfl (hb hby d1_1) (by decide) (W := 0) (by show 2 * 0 + _ ≤ _; exact Nat.le_of_eq rfl) (by decide)
  obtain ⟨T2, h2, k2, X2, e2, E2, A2, Xa2, Ov2, st2⟩ := newRA X1 hx hZ (ty := .object "java/lang/Runnable") hown (by decide) (hw _ (List.mem_of_getElem? (i := 9) rfl)) (hw _ (List.mem_of_getElem? (i := 10) rfl)) e1 (g := (mkF m 7 #[.val (.ref a1), .val (.long q1), .second] [(.int (16 : Int32)), (.ref a1)])) rfl (hb hby d1_7) rfl (by decide) (cap := 16) (by decide) (by decide) (by decide) (by decide) (ad := "[[Ljava/lang/Runnable;") (by decide)
  obtain ⟨b2, g2⟩ : ∃ z, z = h0.size := ⟨_, rfl⟩
  rw [← g2] at A2 Xa2 st2
  have ne_a1_b2 : a1 ≠ b2 := Nat.ne_of_lt (Nat.lt_of_lt_of_le E1.lt (Nat.le_of_eq g2.symm))
  have g_b2 : n0 ≤ b2 := Nat.le_trans (own_le O0) (Nat.le_of_eq g2.symm)
  have O2 := O0.ext E2
  have V2 : Evs Z n0 h2 b2 (16 : Int32) := Evs.new A2 Ov2 (by decide)
  have f3 := (E1.ext E2)
  have f4 := (F_events.ext E2)
  obtain ⟨T5, h5, X5, e5, W5, st5⟩ := putF X2 hx hZ hown (host := "") (Or.inl (hw _ (List.mem_of_getElem? (i := 11) rfl))) Via.refl e2 f4 f3 (Or.inl (hw _ (List.mem_of_getElem? (i := 12) rfl))) (hw _ (List.mem_of_getElem? (i := 1) rfl)) (ty := (.array (.array (.object "java/lang/Runnable")))) (by decide) rfl rfl (g := (mkF m 10 #[.val (.ref a1), .val (.long q1), .second] [(.ref b2), (.ref a1)])) rfl rfl (hb hby d1_10)
  have Fw5 := f4.same W5
  have O5 := O2.wr W5 g1
  have N5 := Fr.snoc X5 N0 g1
  obtain ⟨T6, h6, k6, X6, e6, E6, A6, st6⟩ := newP X5 hx hZ (hw _ (List.mem_of_getElem? (i := 13) rfl)) e5 (g := (mkF m 16 #[.val (.ref a1), .val (.long q1), .second] [(.int (16 : Int32)), (.ref a1)])) rfl (hb hby d1_16) rfl (by decide) (cap := 16) (by decide) (by decide) (by decide) (by decide)
  obtain ⟨b6, g6⟩ : ∃ z, z = h5.size := ⟨_, rfl⟩
  rw [← g6] at A6 st6
  have f7 := (f3.wr W5)
  have ne_a1_b6 : a1 ≠ b6 := Nat.ne_of_lt (Nat.lt_of_lt_of_le f7.lt (Nat.le_of_eq g6.symm))
  have f8 := (V2.other W5 (Ne.symm ne_a1_b2))
  have ne_b2_b6 : b2 ≠ b6 := Nat.ne_of_lt (Nat.lt_of_lt_of_le f8.lt (Nat.le_of_eq g6.symm))
  have g_b6 : n0 ≤ b6 := Nat.le_trans (own_le O5) (Nat.le_of_eq g6.symm)
  have O6 := O5.ext E6
  have V6 : Cts Z h6 b6 (16 : Int32) (0 : Int32) := Cts.new A6 (by decide) (by decide)
  have f9 := (f7.ext E6)
  have f10 := (((F_counts.ext E2).other W5 (Or.inr (slot_ne (Or.inl (hw _ (List.mem_of_getElem? (i := 15) rfl))) (Or.inl (hw _ (List.mem_of_getElem? (i := 12) rfl))) (by decide) (t := (.array .int)) (t' := (.array (.array (.object "java/lang/Runnable")))) (by decide) (by decide)))).ext E6)
  obtain ⟨T11, h11, X11, e11, W11, st11⟩ := putF X6 hx hZ hown (host := "") (Or.inl (hw _ (List.mem_of_getElem? (i := 14) rfl))) Via.refl e6 f10 f9 (Or.inl (hw _ (List.mem_of_getElem? (i := 15) rfl))) (hw _ (List.mem_of_getElem? (i := 1) rfl)) (ty := (.array .int)) (by decide) rfl rfl (g := (mkF m 18 #[.val (.ref a1), .val (.long q1), .second] [(.ref b6), (.ref a1)])) rfl rfl (hb hby d1_18)
  have Fw11 := f10.same W11
  have O11 := O6.wr W11 g1
  have N11 := Fr.snoc X11 N5 g1
  have f12 := (f9.wr W11)
  have f13 := ((((F_mask.ext E2).other W5 (Or.inr (slot_ne (Or.inl (hw _ (List.mem_of_getElem? (i := 17) rfl))) (Or.inl (hw _ (List.mem_of_getElem? (i := 12) rfl))) (by decide) (t := .int) (t' := (.array (.array (.object "java/lang/Runnable")))) (by decide) (by decide)))).ext E6).other W11 (Or.inr (slot_ne (Or.inl (hw _ (List.mem_of_getElem? (i := 17) rfl))) (Or.inl (hw _ (List.mem_of_getElem? (i := 15) rfl))) (by decide) (t := .int) (t' := (.array .int)) (by decide) (by decide))))
  obtain ⟨T14, h14, X14, e14, W14, st14⟩ := putF X11 hx hZ hown (host := "") (Or.inl (hw _ (List.mem_of_getElem? (i := 16) rfl))) Via.refl e11 f13 f12 (Or.inl (hw _ (List.mem_of_getElem? (i := 17) rfl))) (hw _ (List.mem_of_getElem? (i := 1) rfl)) (ty := .int) (by decide) rfl rfl (g := (mkF m 24 #[.val (.ref a1), .val (.long q1), .second] [(.int (15 : Int32)), (.ref a1)])) rfl rfl (hb hby d1_24)
  have Fw14 := f13.same W14
  have O14 := O11.wr W14 g1
  have N14 := Fr.snoc X14 N11 g1
  have f15 := (f12.wr W14)
  have f16 := (((((F_current.ext E2).other W5 (Or.inr (slot_ne (Or.inl (hw _ (List.mem_of_getElem? (i := 20) rfl))) (Or.inl (hw _ (List.mem_of_getElem? (i := 12) rfl))) (by decide) (t := .long) (t' := (.array (.array (.object "java/lang/Runnable")))) (by decide) (by decide)))).ext E6).other W11 (Or.inr (slot_ne (Or.inl (hw _ (List.mem_of_getElem? (i := 20) rfl))) (Or.inl (hw _ (List.mem_of_getElem? (i := 15) rfl))) (by decide) (t := .long) (t' := (.array .int)) (by decide) (by decide)))).other W14 (Or.inr (slot_ne (Or.inl (hw _ (List.mem_of_getElem? (i := 20) rfl))) (Or.inl (hw _ (List.mem_of_getElem? (i := 17) rfl))) (by decide) (t := .long) (t' := .int) (by decide) (by decide))))
  obtain ⟨T17, h17, X17, e17, W17, st17⟩ := putF X14 hx hZ hown (host := "") (Or.inl (hw _ (List.mem_of_getElem? (i := 19) rfl))) Via.refl e14 f16 f15 (Or.inl (hw _ (List.mem_of_getElem? (i := 20) rfl))) (hw _ (List.mem_of_getElem? (i := 1) rfl)) (ty := .long) (by decide) rfl rfl (g := (mkF m 31 #[.val (.ref a1), .val (.long q1), .second] [(.long (-1 : Int64)), (.ref a1)])) rfl rfl (hb hby d1_31)
  have Fw17 := f16.same W17
  have O17 := O14.wr W17 g1
  have N17 := Fr.snoc X17 N14 g1
  have f18 := (f15.wr W17)
  have f19 := ((((((F_lastTick.ext E2).other W5 (Or.inr (slot_ne (Or.inr (hw _ (List.mem_of_getElem? (i := 22) rfl))) (Or.inl (hw _ (List.mem_of_getElem? (i := 12) rfl))) (by decide) (t := .long) (t' := (.array (.array (.object "java/lang/Runnable")))) (by decide) (by decide)))).ext E6).other W11 (Or.inr (slot_ne (Or.inr (hw _ (List.mem_of_getElem? (i := 22) rfl))) (Or.inl (hw _ (List.mem_of_getElem? (i := 15) rfl))) (by decide) (t := .long) (t' := (.array .int)) (by decide) (by decide)))).other W14 (Or.inr (slot_ne (Or.inr (hw _ (List.mem_of_getElem? (i := 22) rfl))) (Or.inl (hw _ (List.mem_of_getElem? (i := 17) rfl))) (by decide) (t := .long) (t' := .int) (by decide) (by decide)))).other W17 (Or.inr (slot_ne (Or.inr (hw _ (List.mem_of_getElem? (i := 22) rfl))) (Or.inl (hw _ (List.mem_of_getElem? (i := 20) rfl))) (by decide) (t := .long) (t' := .long) (by decide) (by decide))))
  obtain ⟨T20, h20, X20, e20, W20, st20⟩ := putF X17 hx hZ hown (host := "") (Or.inl (hw _ (List.mem_of_getElem? (i := 21) rfl))) Via.refl e17 f19 f18 (Or.inr ⟨(hw _ (List.mem_of_getElem? (i := 22) rfl)), rfl, hnm⟩) (hw _ (List.mem_of_getElem? (i := 1) rfl)) (ty := .long) (by decide) rfl rfl (g := (mkF m 36 #[.val (.ref a1), .val (.long q1), .second] [(.long q1), (.ref a1)])) rfl rfl (hb hby d1_36)
  have Fw20 := f19.same W20
  have O20 := O17.wr W20 g1
  have N20 := Fr.snoc X20 N17 g1
  have f21 := (f18.wr W20)
  have f22 := (((((Fw5.ext E6).other W11 (Or.inr (slot_ne (Or.inl (hw _ (List.mem_of_getElem? (i := 12) rfl))) (Or.inl (hw _ (List.mem_of_getElem? (i := 15) rfl))) (by decide) (t := (.array (.array (.object "java/lang/Runnable")))) (t' := (.array .int)) (by decide) (by decide)))).other W14 (Or.inr (slot_ne (Or.inl (hw _ (List.mem_of_getElem? (i := 12) rfl))) (Or.inl (hw _ (List.mem_of_getElem? (i := 17) rfl))) (by decide) (t := (.array (.array (.object "java/lang/Runnable")))) (t' := .int) (by decide) (by decide)))).other W17 (Or.inr (slot_ne (Or.inl (hw _ (List.mem_of_getElem? (i := 12) rfl))) (Or.inl (hw _ (List.mem_of_getElem? (i := 20) rfl))) (by decide) (t := (.array (.array (.object "java/lang/Runnable")))) (t' := .long) (by decide) (by decide)))).other W20 (Or.inr (slot_ne (Or.inl (hw _ (List.mem_of_getElem? (i := 12) rfl))) (Or.inr (hw _ (List.mem_of_getElem? (i := 22) rfl))) (by decide) (t := (.array (.array (.object "java/lang/Runnable")))) (t' := .long) (by decide) (by decide))))
  have f23 := (((Fw11.other W14 (Or.inr (slot_ne (Or.inl (hw _ (List.mem_of_getElem? (i := 15) rfl))) (Or.inl (hw _ (List.mem_of_getElem? (i := 17) rfl))) (by decide) (t := (.array .int)) (t' := .int) (by decide) (by decide)))).other W17 (Or.inr (slot_ne (Or.inl (hw _ (List.mem_of_getElem? (i := 15) rfl))) (Or.inl (hw _ (List.mem_of_getElem? (i := 20) rfl))) (by decide) (t := (.array .int)) (t' := .long) (by decide) (by decide)))).other W20 (Or.inr (slot_ne (Or.inl (hw _ (List.mem_of_getElem? (i := 15) rfl))) (Or.inr (hw _ (List.mem_of_getElem? (i := 22) rfl))) (by decide) (t := (.array .int)) (t' := .long) (by decide) (by decide))))
  have f24 := ((Fw14.other W17 (Or.inr (slot_ne (Or.inl (hw _ (List.mem_of_getElem? (i := 17) rfl))) (Or.inl (hw _ (List.mem_of_getElem? (i := 20) rfl))) (by decide) (t := .int) (t' := .long) (by decide) (by decide)))).other W20 (Or.inr (slot_ne (Or.inl (hw _ (List.mem_of_getElem? (i := 17) rfl))) (Or.inr (hw _ (List.mem_of_getElem? (i := 22) rfl))) (by decide) (t := .int) (t' := .long) (by decide) (by decide))))
  have f25 := (Fw17.other W20 (Or.inr (slot_ne (Or.inl (hw _ (List.mem_of_getElem? (i := 20) rfl))) (Or.inr (hw _ (List.mem_of_getElem? (i := 22) rfl))) (by decide) (t := .long) (t' := .long) (by decide) (by decide))))
  have f26 := (((((((F_pending.ext E2).other W5 (Or.inr (slot_ne (Or.inl (hw _ (List.mem_of_getElem? (i := 29) rfl))) (Or.inl (hw _ (List.mem_of_getElem? (i := 12) rfl))) (by decide) (t := .long) (t' := (.array (.array (.object "java/lang/Runnable")))) (by decide) (by decide)))).ext E6).other W11 (Or.inr (slot_ne (Or.inl (hw _ (List.mem_of_getElem? (i := 29) rfl))) (Or.inl (hw _ (List.mem_of_getElem? (i := 15) rfl))) (by decide) (t := .long) (t' := (.array .int)) (by decide) (by decide)))).other W14 (Or.inr (slot_ne (Or.inl (hw _ (List.mem_of_getElem? (i := 29) rfl))) (Or.inl (hw _ (List.mem_of_getElem? (i := 17) rfl))) (by decide) (t := .long) (t' := .int) (by decide) (by decide)))).other W17 (Or.inr (slot_ne (Or.inl (hw _ (List.mem_of_getElem? (i := 29) rfl))) (Or.inl (hw _ (List.mem_of_getElem? (i := 20) rfl))) (by decide) (t := .long) (t' := .long) (by decide) (by decide)))).other W20 (Or.inr (slot_ne (Or.inl (hw _ (List.mem_of_getElem? (i := 29) rfl))) (Or.inr (hw _ (List.mem_of_getElem? (i := 22) rfl))) (by decide) (t := .long) (t' := .long) (by decide) (by decide))))
  have f27 := (((((((F_droppedLate.ext E2).other W5 (Or.inr (slot_ne (Or.inl (hw _ (List.mem_of_getElem? (i := 43) rfl))) (Or.inl (hw _ (List.mem_of_getElem? (i := 12) rfl))) (by decide) (t := .boolean) (t' := (.array (.array (.object "java/lang/Runnable")))) (by decide) (by decide)))).ext E6).other W11 (Or.inr (slot_ne (Or.inl (hw _ (List.mem_of_getElem? (i := 43) rfl))) (Or.inl (hw _ (List.mem_of_getElem? (i := 15) rfl))) (by decide) (t := .boolean) (t' := (.array .int)) (by decide) (by decide)))).other W14 (Or.inr (slot_ne (Or.inl (hw _ (List.mem_of_getElem? (i := 43) rfl))) (Or.inl (hw _ (List.mem_of_getElem? (i := 17) rfl))) (by decide) (t := .boolean) (t' := .int) (by decide) (by decide)))).other W17 (Or.inr (slot_ne (Or.inl (hw _ (List.mem_of_getElem? (i := 43) rfl))) (Or.inl (hw _ (List.mem_of_getElem? (i := 20) rfl))) (by decide) (t := .boolean) (t' := .long) (by decide) (by decide)))).other W20 (Or.inr (slot_ne (Or.inl (hw _ (List.mem_of_getElem? (i := 43) rfl))) (Or.inr (hw _ (List.mem_of_getElem? (i := 22) rfl))) (by decide) (t := .boolean) (t' := .long) (by decide) (by decide))))
  have f28 := (((((f8.ext E6).other W11 (Ne.symm ne_a1_b2)).other W14 (Ne.symm ne_a1_b2)).other W17 (Ne.symm ne_a1_b2)).other W20 (Ne.symm ne_a1_b2))
  have f29 := ((((V6.other W11 (Ne.symm ne_a1_b6)).other W14 (Ne.symm ne_a1_b6)).other W17 (Ne.symm ne_a1_b6)).other W20 (Ne.symm ne_a1_b6))
  obtain ⟨fs, hr, hrun, hended, hW, hsame⟩ := X20.leave (v := none) (fun _ => rfl)
  refine ⟨_, _, pre0 _ ?_, hrun, hended, _, _, rfl, ?_, ⟨_, rfl⟩, hW, hsame.mono (by decide) (by decide)⟩
  · show Steps p.tables e below (s₁.setTop (mkF m 0 #[.val (.ref a1), .val (.long q1), .second] [])) _
    refine XS.aloadN X0.here hx rfl (hb hby d1_0) rfl rfl ?_
    show Steps p.tables e below (s₁.setTop (mkF m 1 #[.val (.ref a1), .val (.long q1), .second] [(.ref a1)])) _
    refine st1 _ ?_
    show Steps p.tables e below (T1.setTop (mkF m 4 #[.val (.ref a1), .val (.long q1), .second] [])) _
    refine XS.aloadN X1.here hx rfl (hb hby d1_4) rfl rfl ?_
    show Steps p.tables e below (T1.setTop (mkF m 5 #[.val (.ref a1), .val (.long q1), .second] [(.ref a1)])) _
    refine XS.bipush X1.here hx rfl (hb hby d1_5) ?_
    show Steps p.tables e below (T1.setTop (mkF m 7 #[.val (.ref a1), .val (.long q1), .second] [(.int (16 : Int32)), (.ref a1)])) _
    refine st2 _ ?_
    show Steps p.tables e below (T2.setTop (mkF m 10 #[.val (.ref a1), .val (.long q1), .second] [(.ref b2), (.ref a1)])) _
    refine st5 _ ?_
    show Steps p.tables e below (T5.setTop (mkF m 13 #[.val (.ref a1), .val (.long q1), .second] [])) _
    refine XS.aloadN X5.here hx rfl (hb hby d1_13) rfl rfl ?_
    show Steps p.tables e below (T5.setTop (mkF m 14 #[.val (.ref a1), .val (.long q1), .second] [(.ref a1)])) _
    refine XS.bipush X5.here hx rfl (hb hby d1_14) ?_
    show Steps p.tables e below (T5.setTop (mkF m 16 #[.val (.ref a1), .val (.long q1), .second] [(.int (16 : Int32)), (.ref a1)])) _
    refine st6 _ ?_
    show Steps p.tables e below (T6.setTop (mkF m 18 #[.val (.ref a1), .val (.long q1), .second] [(.ref b6), (.ref a1)])) _
    refine st11 _ ?_
    show Steps p.tables e below (T11.setTop (mkF m 21 #[.val (.ref a1), .val (.long q1), .second] [])) _
    refine XS.aloadN X11.here hx rfl (hb hby d1_21) rfl rfl ?_
    show Steps p.tables e below (T11.setTop (mkF m 22 #[.val (.ref a1), .val (.long q1), .second] [(.ref a1)])) _
    refine XS.bipush X11.here hx rfl (hb hby d1_22) ?_
    show Steps p.tables e below (T11.setTop (mkF m 24 #[.val (.ref a1), .val (.long q1), .second] [(.int (15 : Int32)), (.ref a1)])) _
    refine st14 _ ?_
    show Steps p.tables e below (T14.setTop (mkF m 27 #[.val (.ref a1), .val (.long q1), .second] [])) _
    refine XS.aloadN X14.here hx rfl (hb hby d1_27) rfl rfl ?_
    show Steps p.tables e below (T14.setTop (mkF m 28 #[.val (.ref a1), .val (.long q1), .second] [(.ref a1)])) _
    refine X14.ldc2Long hx hown (mvT hZ (hw _ (List.mem_of_getElem? (i := 18) rfl))) (g := (mkF m 28 #[.val (.ref a1), .val (.long q1), .second] [(.ref a1)])) rfl (hb hby d1_28) _ ?_
    show Steps p.tables e below (T14.setTop (mkF m 31 #[.val (.ref a1), .val (.long q1), .second] [(.long (-1 : Int64)), (.ref a1)])) _
    refine st17 _ ?_
    show Steps p.tables e below (T17.setTop (mkF m 34 #[.val (.ref a1), .val (.long q1), .second] [])) _
    refine XS.aloadN X17.here hx rfl (hb hby d1_34) rfl rfl ?_
    show Steps p.tables e below (T17.setTop (mkF m 35 #[.val (.ref a1), .val (.long q1), .second] [(.ref a1)])) _
    refine XS.lloadN X17.here hx rfl (hb hby d1_35) rfl ?_
    show Steps p.tables e below (T17.setTop (mkF m 36 #[.val (.ref a1), .val (.long q1), .second] [(.long q1), (.ref a1)])) _
    refine st20 _ ?_
    show Steps p.tables e below (T20.setTop (mkF m 39 #[.val (.ref a1), .val (.long q1), .second] [])) _
    exact X20.returnOut hx Bd.returns (hb hby d1_39) hr
  · show Q_ctor Z a1 q1 h0 n0 _ T20.heap _
    rw [e20]
    exact ⟨rfl, N20, O20, ⟨b2, b6, _, g_b2, g_b6, f21, f22, f23, f24, f25, Fw20, f26, f27, f28, f29⟩⟩
theorem ef_isE_0 (m : MethodId) (a1 : Addr) : entryFrame m #[(.ref a1)] 1 = mkF m 0 #[.val (.ref a1)] [] := by first | (simp [entryFrame, mkF, argsToLocals, Value.category]; done) | rfl
def Q_isE_0 (Z : State) (a1 : Addr) (h0 : Heap) (n0 : Nat) (v : Option Value) (h : Heap) (L : List Loc) : Prop := v = some (.int (1 : Int32)) ∧ Fr n0 L ∧ h = h0
set_option maxRecDepth 65536 in
set_option maxHeartbeats 40000000 in
theorem isE_0 (l : Launch) (Z : State) (a0 : Array Value) (hw : ∀ d ∈ tables_1, d.before a0 Z = true) (ws : List Jvm.Cond) (a1 : Addr) (h0 : Heap) (n0 : Nat) (O0 : Old Z n0 h0) (F1 : Fld Z h0 a1 "com/example/januswire/januswire/sim/DueEvents" "pending" "J" (.long (0 : Int64))) :
    MetFree l (⟨"com/example/januswire/januswire/sim/DueEvents", "isEmpty", "()Z"⟩ : MethodName) (head1 (Jvm.Cond.code (⟨"com/example/januswire/januswire/sim/DueEvents", "isEmpty", "()Z"⟩ : MethodName) prog_187_method_3_code 1 (some .boolean) :: ws) ({ frames := 0, cells := 0, slots := 0, locals := 0 } : Room)) (fun a U => a = #[(.ref a1)] ∧ Z.Warmed39 U.vm ∧ U.heap = h0) (fun _ _ _ _ _ => True) (fun _ U o U' => ∃ v L, o = .returned v ∧ Q_isE_0 Z a1 h0 n0 v U'.heap L ∧ FrameEnd U o U' L ({ frames := 0, cells := 0, slots := 0, locals := 0 } : Room).cells ({ frames := 0, cells := 0, slots := 0, locals := 0 } : Room).slots) := by
  refine MetFree.of_bodySF (plainFor_of_name pn_com_example_januswire_januswire_sim_DueEvents) hisR ?_
  intro p e s m args below meth c s₁ Bd hml0 hP hK
  obtain ⟨rfl, hZ, hh⟩ := hP
  have hx := Bd.exec
  have hby := Bd.bytes
  have hml : c.maxLocals = 1 := hml0
  have hown : s.vm.findClass "com/example/januswire/januswire/sim/DueEvents" = some m.cls := findClass_of_methodNamed Bd.named
  have hnm := (name_of_methodNamed Bd.named Bd.method).1
  have X0 : Stand p l e ({ frames := 0, cells := 0, slots := 0, locals := 0 } : Room) s m #[(.ref a1)] below meth c s₁ [] 0 0 := Stand.of_body Bd
  have e0 : s₁.heap = h0 := by rw [← hh, Bd.state]; rfl
  have N0 := Fr.nil n0
  have pre0 : ∀ t, Steps p.tables e below (s₁.setTop (mkF m 0 #[.val (.ref a1)] [])) t → Steps p.tables e below (s₁.setTop (entryFrame m #[(.ref a1)] 1)) t := fun t k => castTop (ef_isE_0 m a1) k
  obtain ⟨T1, X1, e1, st1⟩ := getF X0 hx hZ hown (host := "") (Or.inl (hw _ (List.mem_of_getElem? (i := 28) rfl))) Via.refl e0 F1 (g := (mkF m 1 #[.val (.ref a1)] [(.ref a1)])) rfl rfl (hb hby d3_1)
  have hd2 : (lcmpW (0 : Int64) (0 : Int64)) = (0 : Int32) := by decide
  obtain ⟨fs, hr, hrun, hended, hW, hsame⟩ := X1.leave (v := some (.int (1 : Int32))) (fun h => by rw [Bd.returns] at h; cases h)
  refine ⟨_, _, pre0 _ ?_, hrun, hended, _, _, rfl, ?_, ⟨_, rfl⟩, hW, hsame.mono (by decide) (by decide)⟩
  · show Steps p.tables e below (s₁.setTop (mkF m 0 #[.val (.ref a1)] [])) _
    refine XS.aloadN X0.here hx rfl (hb hby d3_0) rfl rfl ?_
    show Steps p.tables e below (s₁.setTop (mkF m 1 #[.val (.ref a1)] [(.ref a1)])) _
    refine st1 _ ?_
    show Steps p.tables e below (T1.setTop (mkF m 4 #[.val (.ref a1)] [(.long (0 : Int64))])) _
    refine XS.lconst X1.here hx rfl (hb hby d3_4) ?_
    show Steps p.tables e below (T1.setTop (mkF m 5 #[.val (.ref a1)] [(.long (0 : Int64)), (.long (0 : Int64))])) _
    refine XS.lcmp X1.here hx rfl (hb hby d3_5) rfl ?_
    show Steps p.tables e below (T1.setTop (mkF m 6 #[.val (.ref a1)] [(.int (lcmpW (0 : Int64) (0 : Int64)))])) _
    refine XS.ifNo X1.here hx rfl (hb hby d3_6) rfl ((if0 _ _).trans (teq hd2).2) ?_
    show Steps p.tables e below (T1.setTop (mkF m 9 #[.val (.ref a1)] [])) _
    refine XS.iconst X1.here hx rfl (hb hby d3_9) ?_
    show Steps p.tables e below (T1.setTop (mkF m 10 #[.val (.ref a1)] [(.int (1 : Int32))])) _
    refine XS.goto X1.here hx rfl (pc0 := 10) (pc' := 14) rfl (hb hby d3_10) (by decide) (by decide) ?_
    show Steps p.tables e below (T1.setTop (mkF m 14 #[.val (.ref a1)] [(.int (1 : Int32))])) _
    exact retN X1 hx (t := .boolean) Bd.returns (by simp) (hb hby d3_14) hr
  · show Q_isE_0 Z a1 h0 n0 _ T1.heap _
    rw [e1]
    exact ⟨rfl, N0, rfl⟩
theorem ef_isE_1 (m : MethodId) (a1 : Addr) : entryFrame m #[(.ref a1)] 1 = mkF m 0 #[.val (.ref a1)] [] := by first | (simp [entryFrame, mkF, argsToLocals, Value.category]; done) | rfl
def Q_isE_1 (Z : State) (a1 : Addr) (h0 : Heap) (n0 : Nat) (v : Option Value) (h : Heap) (L : List Loc) : Prop := v = some (.int (0 : Int32)) ∧ Fr n0 L ∧ h = h0
set_option maxRecDepth 65536 in
set_option maxHeartbeats 40000000 in
theorem isE_1 (l : Launch) (Z : State) (a0 : Array Value) (hw : ∀ d ∈ tables_1, d.before a0 Z = true) (ws : List Jvm.Cond) (a1 : Addr) (h0 : Heap) (n0 : Nat) (O0 : Old Z n0 h0) (F1 : Fld Z h0 a1 "com/example/januswire/januswire/sim/DueEvents" "pending" "J" (.long (1 : Int64))) :
    MetFree l (⟨"com/example/januswire/januswire/sim/DueEvents", "isEmpty", "()Z"⟩ : MethodName) (head1 (Jvm.Cond.code (⟨"com/example/januswire/januswire/sim/DueEvents", "isEmpty", "()Z"⟩ : MethodName) prog_187_method_3_code 1 (some .boolean) :: ws) ({ frames := 0, cells := 0, slots := 0, locals := 0 } : Room)) (fun a U => a = #[(.ref a1)] ∧ Z.Warmed39 U.vm ∧ U.heap = h0) (fun _ _ _ _ _ => True) (fun _ U o U' => ∃ v L, o = .returned v ∧ Q_isE_1 Z a1 h0 n0 v U'.heap L ∧ FrameEnd U o U' L ({ frames := 0, cells := 0, slots := 0, locals := 0 } : Room).cells ({ frames := 0, cells := 0, slots := 0, locals := 0 } : Room).slots) := by
  refine MetFree.of_bodySF (plainFor_of_name pn_com_example_januswire_januswire_sim_DueEvents) hisR ?_
  intro p e s m args below meth c s₁ Bd hml0 hP hK
  obtain ⟨rfl, hZ, hh⟩ := hP
  have hx := Bd.exec
  have hby := Bd.bytes
  have hml : c.maxLocals = 1 := hml0
  have hown : s.vm.findClass "com/example/januswire/januswire/sim/DueEvents" = some m.cls := findClass_of_methodNamed Bd.named
  have hnm := (name_of_methodNamed Bd.named Bd.method).1
  have X0 : Stand p l e ({ frames := 0, cells := 0, slots := 0, locals := 0 } : Room) s m #[(.ref a1)] below meth c s₁ [] 0 0 := Stand.of_body Bd
  have e0 : s₁.heap = h0 := by rw [← hh, Bd.state]; rfl
  have N0 := Fr.nil n0
  have pre0 : ∀ t, Steps p.tables e below (s₁.setTop (mkF m 0 #[.val (.ref a1)] [])) t → Steps p.tables e below (s₁.setTop (entryFrame m #[(.ref a1)] 1)) t := fun t k => castTop (ef_isE_1 m a1) k
  obtain ⟨T1, X1, e1, st1⟩ := getF X0 hx hZ hown (host := "") (Or.inl (hw _ (List.mem_of_getElem? (i := 28) rfl))) Via.refl e0 F1 (g := (mkF m 1 #[.val (.ref a1)] [(.ref a1)])) rfl rfl (hb hby d3_1)
  have hd2 : ¬ ((lcmpW (1 : Int64) (0 : Int64)) = (0 : Int32)) := by decide
  obtain ⟨fs, hr, hrun, hended, hW, hsame⟩ := X1.leave (v := some (.int (0 : Int32))) (fun h => by rw [Bd.returns] at h; cases h)
  refine ⟨_, _, pre0 _ ?_, hrun, hended, _, _, rfl, ?_, ⟨_, rfl⟩, hW, hsame.mono (by decide) (by decide)⟩
  · show Steps p.tables e below (s₁.setTop (mkF m 0 #[.val (.ref a1)] [])) _
    refine XS.aloadN X0.here hx rfl (hb hby d3_0) rfl rfl ?_
    show Steps p.tables e below (s₁.setTop (mkF m 1 #[.val (.ref a1)] [(.ref a1)])) _
    refine st1 _ ?_
    show Steps p.tables e below (T1.setTop (mkF m 4 #[.val (.ref a1)] [(.long (1 : Int64))])) _
    refine XS.lconst X1.here hx rfl (hb hby d3_4) ?_
    show Steps p.tables e below (T1.setTop (mkF m 5 #[.val (.ref a1)] [(.long (0 : Int64)), (.long (1 : Int64))])) _
    refine XS.lcmp X1.here hx rfl (hb hby d3_5) rfl ?_
    show Steps p.tables e below (T1.setTop (mkF m 6 #[.val (.ref a1)] [(.int (lcmpW (1 : Int64) (0 : Int64)))])) _
    refine XS.ifYes X1.here hx rfl (pc0 := 6) (pc' := 13) rfl (hb hby d3_6) rfl ((if0 _ _).trans (feq hd2).2) (by decide) (by decide) ?_
    show Steps p.tables e below (T1.setTop (mkF m 13 #[.val (.ref a1)] [])) _
    refine XS.iconst X1.here hx rfl (hb hby d3_13) ?_
    show Steps p.tables e below (T1.setTop (mkF m 14 #[.val (.ref a1)] [(.int (0 : Int32))])) _
    exact retN X1 hx (t := .boolean) Bd.returns (by simp) (hb hby d3_14) hr
  · show Q_isE_1 Z a1 h0 n0 _ T1.heap _
    rw [e1]
    exact ⟨rfl, N0, rfl⟩
theorem ef_isE_2 (m : MethodId) (a1 : Addr) : entryFrame m #[(.ref a1)] 1 = mkF m 0 #[.val (.ref a1)] [] := by first | (simp [entryFrame, mkF, argsToLocals, Value.category]; done) | rfl
def Q_isE_2 (Z : State) (a1 : Addr) (h0 : Heap) (n0 : Nat) (v : Option Value) (h : Heap) (L : List Loc) : Prop := v = some (.int (0 : Int32)) ∧ Fr n0 L ∧ h = h0
set_option maxRecDepth 65536 in
set_option maxHeartbeats 40000000 in
theorem isE_2 (l : Launch) (Z : State) (a0 : Array Value) (hw : ∀ d ∈ tables_1, d.before a0 Z = true) (ws : List Jvm.Cond) (a1 : Addr) (h0 : Heap) (n0 : Nat) (O0 : Old Z n0 h0) (F1 : Fld Z h0 a1 "com/example/januswire/januswire/sim/DueEvents" "pending" "J" (.long (2 : Int64))) :
    MetFree l (⟨"com/example/januswire/januswire/sim/DueEvents", "isEmpty", "()Z"⟩ : MethodName) (head1 (Jvm.Cond.code (⟨"com/example/januswire/januswire/sim/DueEvents", "isEmpty", "()Z"⟩ : MethodName) prog_187_method_3_code 1 (some .boolean) :: ws) ({ frames := 0, cells := 0, slots := 0, locals := 0 } : Room)) (fun a U => a = #[(.ref a1)] ∧ Z.Warmed39 U.vm ∧ U.heap = h0) (fun _ _ _ _ _ => True) (fun _ U o U' => ∃ v L, o = .returned v ∧ Q_isE_2 Z a1 h0 n0 v U'.heap L ∧ FrameEnd U o U' L ({ frames := 0, cells := 0, slots := 0, locals := 0 } : Room).cells ({ frames := 0, cells := 0, slots := 0, locals := 0 } : Room).slots) := by
  refine MetFree.of_bodySF (plainFor_of_name pn_com_example_januswire_januswire_sim_DueEvents) hisR ?_
  intro p e s m args below meth c s₁ Bd hml0 hP hK
  obtain ⟨rfl, hZ, hh⟩ := hP
  have hx := Bd.exec
  have hby := Bd.bytes
  have hml : c.maxLocals = 1 := hml0
  have hown : s.vm.findClass "com/example/januswire/januswire/sim/DueEvents" = some m.cls := findClass_of_methodNamed Bd.named
  have hnm := (name_of_methodNamed Bd.named Bd.method).1
  have X0 : Stand p l e ({ frames := 0, cells := 0, slots := 0, locals := 0 } : Room) s m #[(.ref a1)] below meth c s₁ [] 0 0 := Stand.of_body Bd
  have e0 : s₁.heap = h0 := by rw [← hh, Bd.state]; rfl
  have N0 := Fr.nil n0
  have pre0 : ∀ t, Steps p.tables e below (s₁.setTop (mkF m 0 #[.val (.ref a1)] [])) t → Steps p.tables e below (s₁.setTop (entryFrame m #[(.ref a1)] 1)) t := fun t k => castTop (ef_isE_2 m a1) k
  obtain ⟨T1, X1, e1, st1⟩ := getF X0 hx hZ hown (host := "") (Or.inl (hw _ (List.mem_of_getElem? (i := 28) rfl))) Via.refl e0 F1 (g := (mkF m 1 #[.val (.ref a1)] [(.ref a1)])) rfl rfl (hb hby d3_1)
  have hd2 : ¬ ((lcmpW (2 : Int64) (0 : Int64)) = (0 : Int32)) := by decide
  obtain ⟨fs, hr, hrun, hended, hW, hsame⟩ := X1.leave (v := some (.int (0 : Int32))) (fun h => by rw [Bd.returns] at h; cases h)
  refine ⟨_, _, pre0 _ ?_, hrun, hended, _, _, rfl, ?_, ⟨_, rfl⟩, hW, hsame.mono (by decide) (by decide)⟩
  · show Steps p.tables e below (s₁.setTop (mkF m 0 #[.val (.ref a1)] [])) _
    refine XS.aloadN X0.here hx rfl (hb hby d3_0) rfl rfl ?_
    show Steps p.tables e below (s₁.setTop (mkF m 1 #[.val (.ref a1)] [(.ref a1)])) _
    refine st1 _ ?_
    show Steps p.tables e below (T1.setTop (mkF m 4 #[.val (.ref a1)] [(.long (2 : Int64))])) _
    refine XS.lconst X1.here hx rfl (hb hby d3_4) ?_
    show Steps p.tables e below (T1.setTop (mkF m 5 #[.val (.ref a1)] [(.long (0 : Int64)), (.long (2 : Int64))])) _
    refine XS.lcmp X1.here hx rfl (hb hby d3_5) rfl ?_
    show Steps p.tables e below (T1.setTop (mkF m 6 #[.val (.ref a1)] [(.int (lcmpW (2 : Int64) (0 : Int64)))])) _
    refine XS.ifYes X1.here hx rfl (pc0 := 6) (pc' := 13) rfl (hb hby d3_6) rfl ((if0 _ _).trans (feq hd2).2) (by decide) (by decide) ?_
    show Steps p.tables e below (T1.setTop (mkF m 13 #[.val (.ref a1)] [])) _
    refine XS.iconst X1.here hx rfl (hb hby d3_13) ?_
    show Steps p.tables e below (T1.setTop (mkF m 14 #[.val (.ref a1)] [(.int (0 : Int32))])) _
    exact retN X1 hx (t := .boolean) Bd.returns (by simp) (hb hby d3_14) hr
  · show Q_isE_2 Z a1 h0 n0 _ T1.heap _
    rw [e1]
    exact ⟨rfl, N0, rfl⟩
theorem ef_isE_3 (m : MethodId) (a1 : Addr) : entryFrame m #[(.ref a1)] 1 = mkF m 0 #[.val (.ref a1)] [] := by first | (simp [entryFrame, mkF, argsToLocals, Value.category]; done) | rfl
def Q_isE_3 (Z : State) (a1 : Addr) (h0 : Heap) (n0 : Nat) (v : Option Value) (h : Heap) (L : List Loc) : Prop := v = some (.int (0 : Int32)) ∧ Fr n0 L ∧ h = h0
set_option maxRecDepth 65536 in
set_option maxHeartbeats 40000000 in
theorem isE_3 (l : Launch) (Z : State) (a0 : Array Value) (hw : ∀ d ∈ tables_1, d.before a0 Z = true) (ws : List Jvm.Cond) (a1 : Addr) (h0 : Heap) (n0 : Nat) (O0 : Old Z n0 h0) (F1 : Fld Z h0 a1 "com/example/januswire/januswire/sim/DueEvents" "pending" "J" (.long (3 : Int64))) :
    MetFree l (⟨"com/example/januswire/januswire/sim/DueEvents", "isEmpty", "()Z"⟩ : MethodName) (head1 (Jvm.Cond.code (⟨"com/example/januswire/januswire/sim/DueEvents", "isEmpty", "()Z"⟩ : MethodName) prog_187_method_3_code 1 (some .boolean) :: ws) ({ frames := 0, cells := 0, slots := 0, locals := 0 } : Room)) (fun a U => a = #[(.ref a1)] ∧ Z.Warmed39 U.vm ∧ U.heap = h0) (fun _ _ _ _ _ => True) (fun _ U o U' => ∃ v L, o = .returned v ∧ Q_isE_3 Z a1 h0 n0 v U'.heap L ∧ FrameEnd U o U' L ({ frames := 0, cells := 0, slots := 0, locals := 0 } : Room).cells ({ frames := 0, cells := 0, slots := 0, locals := 0 } : Room).slots) := by
  refine MetFree.of_bodySF (plainFor_of_name pn_com_example_januswire_januswire_sim_DueEvents) hisR ?_
  intro p e s m args below meth c s₁ Bd hml0 hP hK
  obtain ⟨rfl, hZ, hh⟩ := hP
  have hx := Bd.exec
  have hby := Bd.bytes
  have hml : c.maxLocals = 1 := hml0
  have hown : s.vm.findClass "com/example/januswire/januswire/sim/DueEvents" = some m.cls := findClass_of_methodNamed Bd.named
  have hnm := (name_of_methodNamed Bd.named Bd.method).1
  have X0 : Stand p l e ({ frames := 0, cells := 0, slots := 0, locals := 0 } : Room) s m #[(.ref a1)] below meth c s₁ [] 0 0 := Stand.of_body Bd
  have e0 : s₁.heap = h0 := by rw [← hh, Bd.state]; rfl
  have N0 := Fr.nil n0
  have pre0 : ∀ t, Steps p.tables e below (s₁.setTop (mkF m 0 #[.val (.ref a1)] [])) t → Steps p.tables e below (s₁.setTop (entryFrame m #[(.ref a1)] 1)) t := fun t k => castTop (ef_isE_3 m a1) k
  obtain ⟨T1, X1, e1, st1⟩ := getF X0 hx hZ hown (host := "") (Or.inl (hw _ (List.mem_of_getElem? (i := 28) rfl))) Via.refl e0 F1 (g := (mkF m 1 #[.val (.ref a1)] [(.ref a1)])) rfl rfl (hb hby d3_1)
  have hd2 : ¬ ((lcmpW (3 : Int64) (0 : Int64)) = (0 : Int32)) := by decide
  obtain ⟨fs, hr, hrun, hended, hW, hsame⟩ := X1.leave (v := some (.int (0 : Int32))) (fun h => by rw [Bd.returns] at h; cases h)
  refine ⟨_, _, pre0 _ ?_, hrun, hended, _, _, rfl, ?_, ⟨_, rfl⟩, hW, hsame.mono (by decide) (by decide)⟩
  · show Steps p.tables e below (s₁.setTop (mkF m 0 #[.val (.ref a1)] [])) _
    refine XS.aloadN X0.here hx rfl (hb hby d3_0) rfl rfl ?_
    show Steps p.tables e below (s₁.setTop (mkF m 1 #[.val (.ref a1)] [(.ref a1)])) _
    refine st1 _ ?_
    show Steps p.tables e below (T1.setTop (mkF m 4 #[.val (.ref a1)] [(.long (3 : Int64))])) _
    refine XS.lconst X1.here hx rfl (hb hby d3_4) ?_
    show Steps p.tables e below (T1.setTop (mkF m 5 #[.val (.ref a1)] [(.long (0 : Int64)), (.long (3 : Int64))])) _
    refine XS.lcmp X1.here hx rfl (hb hby d3_5) rfl ?_
    show Steps p.tables e below (T1.setTop (mkF m 6 #[.val (.ref a1)] [(.int (lcmpW (3 : Int64) (0 : Int64)))])) _
    refine XS.ifYes X1.here hx rfl (pc0 := 6) (pc' := 13) rfl (hb hby d3_6) rfl ((if0 _ _).trans (feq hd2).2) (by decide) (by decide) ?_
    show Steps p.tables e below (T1.setTop (mkF m 13 #[.val (.ref a1)] [])) _
    refine XS.iconst X1.here hx rfl (hb hby d3_13) ?_
    show Steps p.tables e below (T1.setTop (mkF m 14 #[.val (.ref a1)] [(.int (0 : Int32))])) _
    exact retN X1 hx (t := .boolean) Bd.returns (by simp) (hb hby d3_14) hr
  · show Q_isE_3 Z a1 h0 n0 _ T1.heap _
    rw [e1]
    exact ⟨rfl, N0, rfl⟩
def own_F (M : Int32) : Nat := if M = 16 then 0 else if M = 32 then 64 else if M = 64 then 192 else 448
theorem own_exaD {Z : State} {n0 : Nat} {h : Heap} {a : Addr} {q P : Int64} {M k : Int32} (D : Due Z n0 h a q M P k) : Exa Z h a "com/example/januswire/januswire/sim/DueEvents" := by obtain ⟨_, _, _, _, _, E, _⟩ := D; exact E
theorem own_penD {Z : State} {n0 : Nat} {h : Heap} {a : Addr} {q P : Int64} {M k : Int32} (D : Due Z n0 h a q M P k) : Fld Z h a "com/example/januswire/januswire/sim/DueEvents" "pending" "J" (.long P) := by obtain ⟨_, _, _, _, _, _, _, _, _, _, _, F, _⟩ := D; exact F
theorem own_t1 {t : Int64} (h0 : 0 ≤ t.toInt) (h1 : t.toInt ≤ 63) : (t - (-1)).toInt = t.toInt + 1 := by
  have a := c_lsub t (-1)
  have r := rng64 (t - (-1))
  have e : (-1 : Int64).toInt = -1 := rfl
  omega
theorem own_lt {t : Int64} (h0 : 0 ≤ t.toInt) (h1 : t.toInt ≤ 63) (L : Int32) : (lcmpW (t - (-1)) L.toInt64) < (0 : Int32) ↔ t.toInt + 1 < L.toInt := by
  rw [lw_lt, Int64.lt_iff_toInt_lt, own_t1 h0 h1, c_i2l]
theorem own_gtm {t : Int64} (h0 : 0 ≤ t.toInt) (h1 : t.toInt ≤ 63) (L : Int32) : (0 : Int32) < (lcmpW (t - (-1)) L.toInt64) ↔ L.toInt < t.toInt + 1 := by
  rw [lw_gt, Int64.lt_iff_toInt_lt, own_t1 h0 h1, c_i2l]
theorem own_gt1 {t : Int64} (h0 : 0 ≤ t.toInt) : (0 : Int32) < (lcmpW t (-1)) := by
  rw [lw_gt, Int64.lt_iff_toInt_lt]
  have e : (-1 : Int64).toInt = -1 := rfl
  omega
set_option maxRecDepth 65536 in
set_option maxHeartbeats 4000000 in
theorem schedD {p : Program} {l : Launch} {e : Env} {s : State} {m : MethodId} {args : Array Value} {below : List Frame} {meth : Method} {c : Code} {T0 : State} {locs : List Loc} {cells : Nat} {Z : State} {a0 : Array Value} {h0 : Heap} {n0 : Nat} {a1 : Addr} {t1 q1 P P' : Int64} {M k k' : Int32} {s0 : Nat}
    (X0 : Stand p l e room_1 s m args below meth c T0 locs cells (s0 + own_F M)) (hx : p.tables.exec = Jvm.exec) (hZ : Z.Warmed39 s.vm) (hw : ∀ d ∈ tables_1, d.before a0 Z = true) (hown : s.vm.findClass "com/example/januswire/januswire/sim/DueEventsIsEmptyPinLaw" = some m.cls) (e0 : T0.heap = h0) (O0 : Old Z n0 h0) (N0 : Fr n0 locs) (hD : Due Z n0 h0 a1 q1 M P k) (g1 : n0 ≤ a1) (ht0 : 0 ≤ t1.toInt) (ht1 : t1.toInt ≤ 63) (hgq : (0 : Int32) < (lcmpW t1 q1))
    {g : JFrame} (hg : g.method = m) (hmr : g.monitorRoom = 0) (hsize : g.locals.size = c.maxLocals) (hs : g.stack = [.null, .long t1, .ref a1]) (hd : decode c.code g.pc = .ok (.invokevirtual 16, 3)) (hcc : cells ≤ 32) (hss : s0 + own_F M ≤ 704) :
    ∃ (T' : State) (h' : Heap) (locs' : List Loc), Stand p l e room_1 s m args below meth c T' locs' cells (s0 + own_F M) ∧ T'.heap = h' ∧ Old Z n0 h' ∧ Fr n0 locs' ∧ Due Z n0 h' a1 q1 M P k ∧ Steps p.tables e below (T0.setTop g) (T'.setTop { g with pc := g.pc + 3, stack := [] }) := by
  obtain ⟨cq0, kq0, q0a, q0b, q0c⟩ := isOf hZ e0 (own_exaD hD)
  obtain ⟨_, _, ⟨T1, L1, k1, n1⟩, -, X1, ⟨Lc1, hQ1, l1, y1, z1⟩, st1⟩ := X0.virtualBack hx (y := (⟨"com/example/januswire/januswire/sim/DueEvents", "schedule", "(JLjava/lang/Runnable;)V"⟩ : MethodName)) (z := (⟨"com/example/januswire/januswire/sim/DueEvents", "schedule", "(JLjava/lang/Runnable;)V"⟩ : MethodName)) hown (mvT hZ (hw _ (List.mem_of_getElem? (i := 30) rfl))) (mvT hZ (hw _ (List.mem_of_getElem? (i := 31) rfl))) (notFace_of_selects (args := #[]) (mvT hZ (hw _ (List.mem_of_getElem? (i := 33) rfl)))) (mvT hZ (hw _ (List.mem_of_getElem? (i := 33) rfl))) (mvT hZ (hw _ (List.mem_of_getElem? (i := 32) rfl))) (by decide) (backOf (W := 0) (sc_drop l Z a0 hw [] a1 t1 q1 P M k h0 n0 O0 hD g1 (own_gt1 ht0) hgq) hZ (hw _ (List.mem_of_getElem? (i := 34) rfl)) (hw _ (List.mem_of_getElem? (i := 2) rfl)) (by decide) (by decide)) q0a q0c (g := g) hg hsize (Steps.refl _) (argsL := [(.long t1), .null]) (rest := []) (lenOf pd__JLjava_lang_Runnable__V rfl) hs (by rw [hmr]; exact Nat.le_of_eq rfl) hd (fun _ _ => ⟨rfl, e0, (by show cells + 0 ≤ 32; omega), (by show s0 + own_F M + 0 ≤ 704; omega)⟩)
  dsimp only [Pt.U, Pt.locs, Pt.cells, Pt.slots] at X1 l1 y1 z1 st1 hQ1
  subst l1 y1 z1
  obtain ⟨rfl, Nq, Oq, Dq⟩ := hQ1
  exact ⟨T1, T1.heap, _, X1, rfl, Oq, Fr.app N0 Nq, Dq, st1⟩
set_option maxRecDepth 65536 in
set_option maxHeartbeats 4000000 in
theorem schedI {p : Program} {l : Launch} {e : Env} {s : State} {m : MethodId} {args : Array Value} {below : List Frame} {meth : Method} {c : Code} {T0 : State} {locs : List Loc} {cells : Nat} {Z : State} {a0 : Array Value} {h0 : Heap} {n0 : Nat} {a1 : Addr} {t1 q1 P P' : Int64} {M k k' : Int32} {s0 : Nat}
    (X0 : Stand p l e room_1 s m args below meth c T0 locs cells (s0 + own_F M)) (hx : p.tables.exec = Jvm.exec) (hZ : Z.Warmed39 s.vm) (hw : ∀ d ∈ tables_1, d.before a0 Z = true) (hown : s.vm.findClass "com/example/januswire/januswire/sim/DueEventsIsEmptyPinLaw" = some m.cls) (e0 : T0.heap = h0) (O0 : Old Z n0 h0) (N0 : Fr n0 locs) (hD : Due Z n0 h0 a1 q1 M P k) (g1 : n0 ≤ a1) (ht0 : 0 ≤ t1.toInt) (ht1 : t1.toInt ≤ 63) (hle : ¬ ((0 : Int32) < (lcmpW t1 q1))) (hM : M = 16 ∨ M = 32 ∨ M = 64 ∨ M = 128) (hk0 : ¬ k < 0) (hk7 : k < (7 : Int32)) (hP : P + 1 = P') (hk : k + 1 = k')
    {g : JFrame} (hg : g.method = m) (hmr : g.monitorRoom = 0) (hsize : g.locals.size = c.maxLocals) (hs : g.stack = [.null, .long t1, .ref a1]) (hd : decode c.code g.pc = .ok (.invokevirtual 16, 3)) (hcc : cells + 3 ≤ 32) (hss : s0 + 8 + 448 ≤ 704) :
    ∃ (M' : Int32) (T' : State) (h' : Heap) (locs' : List Loc), (M' = 16 ∨ M' = 32 ∨ M' = 64 ∨ M' = 128) ∧ Stand p l e room_1 s m args below meth c T' locs' (cells + 3) (s0 + 8 + own_F M') ∧ T'.heap = h' ∧ Old Z n0 h' ∧ Fr n0 locs' ∧ Due Z n0 h' a1 q1 M' P' k' ∧ Steps p.tables e below (T0.setTop g) (T'.setTop { g with pc := g.pc + 3, stack := [] }) := by
  subst hP hk
  obtain ⟨cq0, kq0, q0a, q0b, q0c⟩ := isOf hZ e0 (own_exaD hD)
  have hgt := own_gt1 ht0
  rcases hM with rfl | rfl | rfl | rfl
  · have hF : own_F (16 : Int32) = 0 := rfl
    rw [hF] at X0
    by_cases c16 : t1.toInt < 15
    · obtain ⟨_, _, ⟨T1, L1, k1, n1⟩, -, X1, ⟨Lc1, hQ1, l1, y1, z1⟩, st1⟩ := X0.virtualBack hx (y := (⟨"com/example/januswire/januswire/sim/DueEvents", "schedule", "(JLjava/lang/Runnable;)V"⟩ : MethodName)) (z := (⟨"com/example/januswire/januswire/sim/DueEvents", "schedule", "(JLjava/lang/Runnable;)V"⟩ : MethodName)) hown (mvT hZ (hw _ (List.mem_of_getElem? (i := 30) rfl))) (mvT hZ (hw _ (List.mem_of_getElem? (i := 31) rfl))) (notFace_of_selects (args := #[]) (mvT hZ (hw _ (List.mem_of_getElem? (i := 33) rfl)))) (mvT hZ (hw _ (List.mem_of_getElem? (i := 33) rfl))) (mvT hZ (hw _ (List.mem_of_getElem? (i := 32) rfl))) (by decide) (backOf (W := 0) (sc_16_16 l Z a0 hw [] a1 t1 q1 P k h0 n0 O0 hD g1 hk0 hk7 hgt hle (fun z => by have z' := (own_gtm ht0 ht1 ((16 : Int32) - 1)).mp z; have e : ((16 : Int32) - 1).toInt = 15 := rfl; omega) ) hZ (hw _ (List.mem_of_getElem? (i := 34) rfl)) (hw _ (List.mem_of_getElem? (i := 2) rfl)) (by decide) (by decide)) q0a q0c (g := g) hg hsize (Steps.refl _) (argsL := [(.long t1), .null]) (rest := []) (lenOf pd__JLjava_lang_Runnable__V rfl) hs (by rw [hmr]; exact Nat.le_of_eq rfl) hd (fun _ _ => ⟨rfl, e0, (by show cells + 1 ≤ 32; omega), (by show s0 + 0 + 8 ≤ 704; omega)⟩)
      dsimp only [Pt.U, Pt.locs, Pt.cells, Pt.slots] at X1 l1 y1 z1 st1 hQ1
      subst l1 y1 z1
      obtain ⟨rfl, Nq, Oq, Dq⟩ := hQ1
      have hF' : own_F (16 : Int32) = 0 := rfl
      exact ⟨_, T1, T1.heap, _, by decide, X1.more (by show cells + 1 ≤ cells + 3; omega) (by show s0 + 0 + 8 ≤ s0 + 8 + own_F (16 : Int32); omega), rfl, Oq, Fr.app N0 Nq, Dq, st1⟩
    · by_cases c32 : t1.toInt < 31
      · obtain ⟨_, _, ⟨T1, L1, k1, n1⟩, -, X1, ⟨Lc1, hQ1, l1, y1, z1⟩, st1⟩ := X0.virtualBack hx (y := (⟨"com/example/januswire/januswire/sim/DueEvents", "schedule", "(JLjava/lang/Runnable;)V"⟩ : MethodName)) (z := (⟨"com/example/januswire/januswire/sim/DueEvents", "schedule", "(JLjava/lang/Runnable;)V"⟩ : MethodName)) hown (mvT hZ (hw _ (List.mem_of_getElem? (i := 30) rfl))) (mvT hZ (hw _ (List.mem_of_getElem? (i := 31) rfl))) (notFace_of_selects (args := #[]) (mvT hZ (hw _ (List.mem_of_getElem? (i := 33) rfl)))) (mvT hZ (hw _ (List.mem_of_getElem? (i := 33) rfl))) (mvT hZ (hw _ (List.mem_of_getElem? (i := 32) rfl))) (by decide) (backOf (W := 0) (sc_16_32 l Z a0 hw [] a1 t1 q1 P k h0 n0 O0 hD g1 hk0 hk7 hgt hle ((own_gtm ht0 ht1 ((16 : Int32) - 1)).mpr (by have e : ((16 : Int32) - 1).toInt = 15 := rfl; omega)) (fun z => by have z' := (own_lt ht0 ht1 (16 : Int32)).mp z; have e : (16 : Int32).toInt = 16 := rfl; omega) ((own_lt ht0 ht1 (32 : Int32)).mpr (by have e : (32 : Int32).toInt = 32 := rfl; omega))) hZ (hw _ (List.mem_of_getElem? (i := 34) rfl)) (hw _ (List.mem_of_getElem? (i := 2) rfl)) (by decide) (by decide)) q0a q0c (g := g) hg hsize (Steps.refl _) (argsL := [(.long t1), .null]) (rest := []) (lenOf pd__JLjava_lang_Runnable__V rfl) hs (by rw [hmr]; exact Nat.le_of_eq rfl) hd (fun _ _ => ⟨rfl, e0, (by show cells + 3 ≤ 32; omega), (by show s0 + 0 + 72 ≤ 704; omega)⟩)
        dsimp only [Pt.U, Pt.locs, Pt.cells, Pt.slots] at X1 l1 y1 z1 st1 hQ1
        subst l1 y1 z1
        obtain ⟨rfl, Nq, Oq, Dq⟩ := hQ1
        have hF' : own_F (32 : Int32) = 64 := rfl
        exact ⟨_, T1, T1.heap, _, by decide, X1.more (by show cells + 3 ≤ cells + 3; omega) (by show s0 + 0 + 72 ≤ s0 + 8 + own_F (32 : Int32); omega), rfl, Oq, Fr.app N0 Nq, Dq, st1⟩
      · by_cases c64 : t1.toInt < 63
        · obtain ⟨_, _, ⟨T1, L1, k1, n1⟩, -, X1, ⟨Lc1, hQ1, l1, y1, z1⟩, st1⟩ := X0.virtualBack hx (y := (⟨"com/example/januswire/januswire/sim/DueEvents", "schedule", "(JLjava/lang/Runnable;)V"⟩ : MethodName)) (z := (⟨"com/example/januswire/januswire/sim/DueEvents", "schedule", "(JLjava/lang/Runnable;)V"⟩ : MethodName)) hown (mvT hZ (hw _ (List.mem_of_getElem? (i := 30) rfl))) (mvT hZ (hw _ (List.mem_of_getElem? (i := 31) rfl))) (notFace_of_selects (args := #[]) (mvT hZ (hw _ (List.mem_of_getElem? (i := 33) rfl)))) (mvT hZ (hw _ (List.mem_of_getElem? (i := 33) rfl))) (mvT hZ (hw _ (List.mem_of_getElem? (i := 32) rfl))) (by decide) (backOf (W := 0) (sc_16_64 l Z a0 hw [] a1 t1 q1 P k h0 n0 O0 hD g1 hk0 hk7 hgt hle ((own_gtm ht0 ht1 ((16 : Int32) - 1)).mpr (by have e : ((16 : Int32) - 1).toInt = 15 := rfl; omega)) (fun z => by have z' := (own_lt ht0 ht1 (16 : Int32)).mp z; have e : (16 : Int32).toInt = 16 := rfl; omega) (fun z => by have z' := (own_lt ht0 ht1 (32 : Int32)).mp z; have e : (32 : Int32).toInt = 32 := rfl; omega) ((own_lt ht0 ht1 (64 : Int32)).mpr (by have e : (64 : Int32).toInt = 64 := rfl; omega))) hZ (hw _ (List.mem_of_getElem? (i := 34) rfl)) (hw _ (List.mem_of_getElem? (i := 2) rfl)) (by decide) (by decide)) q0a q0c (g := g) hg hsize (Steps.refl _) (argsL := [(.long t1), .null]) (rest := []) (lenOf pd__JLjava_lang_Runnable__V rfl) hs (by rw [hmr]; exact Nat.le_of_eq rfl) hd (fun _ _ => ⟨rfl, e0, (by show cells + 3 ≤ 32; omega), (by show s0 + 0 + 136 ≤ 704; omega)⟩)
          dsimp only [Pt.U, Pt.locs, Pt.cells, Pt.slots] at X1 l1 y1 z1 st1 hQ1
          subst l1 y1 z1
          obtain ⟨rfl, Nq, Oq, Dq⟩ := hQ1
          have hF' : own_F (64 : Int32) = 192 := rfl
          exact ⟨_, T1, T1.heap, _, by decide, X1.more (by show cells + 3 ≤ cells + 3; omega) (by show s0 + 0 + 136 ≤ s0 + 8 + own_F (64 : Int32); omega), rfl, Oq, Fr.app N0 Nq, Dq, st1⟩
        · obtain ⟨_, _, ⟨T1, L1, k1, n1⟩, -, X1, ⟨Lc1, hQ1, l1, y1, z1⟩, st1⟩ := X0.virtualBack hx (y := (⟨"com/example/januswire/januswire/sim/DueEvents", "schedule", "(JLjava/lang/Runnable;)V"⟩ : MethodName)) (z := (⟨"com/example/januswire/januswire/sim/DueEvents", "schedule", "(JLjava/lang/Runnable;)V"⟩ : MethodName)) hown (mvT hZ (hw _ (List.mem_of_getElem? (i := 30) rfl))) (mvT hZ (hw _ (List.mem_of_getElem? (i := 31) rfl))) (notFace_of_selects (args := #[]) (mvT hZ (hw _ (List.mem_of_getElem? (i := 33) rfl)))) (mvT hZ (hw _ (List.mem_of_getElem? (i := 33) rfl))) (mvT hZ (hw _ (List.mem_of_getElem? (i := 32) rfl))) (by decide) (backOf (W := 0) (sc_16_128 l Z a0 hw [] a1 t1 q1 P k h0 n0 O0 hD g1 hk0 hk7 hgt hle ((own_gtm ht0 ht1 ((16 : Int32) - 1)).mpr (by have e : ((16 : Int32) - 1).toInt = 15 := rfl; omega)) (fun z => by have z' := (own_lt ht0 ht1 (16 : Int32)).mp z; have e : (16 : Int32).toInt = 16 := rfl; omega) (fun z => by have z' := (own_lt ht0 ht1 (32 : Int32)).mp z; have e : (32 : Int32).toInt = 32 := rfl; omega) (fun z => by have z' := (own_lt ht0 ht1 (64 : Int32)).mp z; have e : (64 : Int32).toInt = 64 := rfl; omega) ((own_lt ht0 ht1 (128 : Int32)).mpr (by have e : (128 : Int32).toInt = 128 := rfl; omega))) hZ (hw _ (List.mem_of_getElem? (i := 34) rfl)) (hw _ (List.mem_of_getElem? (i := 2) rfl)) (by decide) (by decide)) q0a q0c (g := g) hg hsize (Steps.refl _) (argsL := [(.long t1), .null]) (rest := []) (lenOf pd__JLjava_lang_Runnable__V rfl) hs (by rw [hmr]; exact Nat.le_of_eq rfl) hd (fun _ _ => ⟨rfl, e0, (by show cells + 3 ≤ 32; omega), (by show s0 + 0 + 264 ≤ 704; omega)⟩)
          dsimp only [Pt.U, Pt.locs, Pt.cells, Pt.slots] at X1 l1 y1 z1 st1 hQ1
          subst l1 y1 z1
          obtain ⟨rfl, Nq, Oq, Dq⟩ := hQ1
          have hF' : own_F (128 : Int32) = 448 := rfl
          exact ⟨_, T1, T1.heap, _, by decide, X1.more (by show cells + 3 ≤ cells + 3; omega) (by show s0 + 0 + 264 ≤ s0 + 8 + own_F (128 : Int32); omega), rfl, Oq, Fr.app N0 Nq, Dq, st1⟩
  · have hF : own_F (32 : Int32) = 64 := rfl
    rw [hF] at X0
    by_cases c32 : t1.toInt < 31
    · obtain ⟨_, _, ⟨T1, L1, k1, n1⟩, -, X1, ⟨Lc1, hQ1, l1, y1, z1⟩, st1⟩ := X0.virtualBack hx (y := (⟨"com/example/januswire/januswire/sim/DueEvents", "schedule", "(JLjava/lang/Runnable;)V"⟩ : MethodName)) (z := (⟨"com/example/januswire/januswire/sim/DueEvents", "schedule", "(JLjava/lang/Runnable;)V"⟩ : MethodName)) hown (mvT hZ (hw _ (List.mem_of_getElem? (i := 30) rfl))) (mvT hZ (hw _ (List.mem_of_getElem? (i := 31) rfl))) (notFace_of_selects (args := #[]) (mvT hZ (hw _ (List.mem_of_getElem? (i := 33) rfl)))) (mvT hZ (hw _ (List.mem_of_getElem? (i := 33) rfl))) (mvT hZ (hw _ (List.mem_of_getElem? (i := 32) rfl))) (by decide) (backOf (W := 0) (sc_32_32 l Z a0 hw [] a1 t1 q1 P k h0 n0 O0 hD g1 hk0 hk7 hgt hle (fun z => by have z' := (own_gtm ht0 ht1 ((32 : Int32) - 1)).mp z; have e : ((32 : Int32) - 1).toInt = 31 := rfl; omega) ) hZ (hw _ (List.mem_of_getElem? (i := 34) rfl)) (hw _ (List.mem_of_getElem? (i := 2) rfl)) (by decide) (by decide)) q0a q0c (g := g) hg hsize (Steps.refl _) (argsL := [(.long t1), .null]) (rest := []) (lenOf pd__JLjava_lang_Runnable__V rfl) hs (by rw [hmr]; exact Nat.le_of_eq rfl) hd (fun _ _ => ⟨rfl, e0, (by show cells + 1 ≤ 32; omega), (by show s0 + 64 + 8 ≤ 704; omega)⟩)
      dsimp only [Pt.U, Pt.locs, Pt.cells, Pt.slots] at X1 l1 y1 z1 st1 hQ1
      subst l1 y1 z1
      obtain ⟨rfl, Nq, Oq, Dq⟩ := hQ1
      have hF' : own_F (32 : Int32) = 64 := rfl
      exact ⟨_, T1, T1.heap, _, by decide, X1.more (by show cells + 1 ≤ cells + 3; omega) (by show s0 + 64 + 8 ≤ s0 + 8 + own_F (32 : Int32); omega), rfl, Oq, Fr.app N0 Nq, Dq, st1⟩
    · by_cases c64 : t1.toInt < 63
      · obtain ⟨_, _, ⟨T1, L1, k1, n1⟩, -, X1, ⟨Lc1, hQ1, l1, y1, z1⟩, st1⟩ := X0.virtualBack hx (y := (⟨"com/example/januswire/januswire/sim/DueEvents", "schedule", "(JLjava/lang/Runnable;)V"⟩ : MethodName)) (z := (⟨"com/example/januswire/januswire/sim/DueEvents", "schedule", "(JLjava/lang/Runnable;)V"⟩ : MethodName)) hown (mvT hZ (hw _ (List.mem_of_getElem? (i := 30) rfl))) (mvT hZ (hw _ (List.mem_of_getElem? (i := 31) rfl))) (notFace_of_selects (args := #[]) (mvT hZ (hw _ (List.mem_of_getElem? (i := 33) rfl)))) (mvT hZ (hw _ (List.mem_of_getElem? (i := 33) rfl))) (mvT hZ (hw _ (List.mem_of_getElem? (i := 32) rfl))) (by decide) (backOf (W := 0) (sc_32_64 l Z a0 hw [] a1 t1 q1 P k h0 n0 O0 hD g1 hk0 hk7 hgt hle ((own_gtm ht0 ht1 ((32 : Int32) - 1)).mpr (by have e : ((32 : Int32) - 1).toInt = 31 := rfl; omega)) (fun z => by have z' := (own_lt ht0 ht1 (32 : Int32)).mp z; have e : (32 : Int32).toInt = 32 := rfl; omega) ((own_lt ht0 ht1 (64 : Int32)).mpr (by have e : (64 : Int32).toInt = 64 := rfl; omega))) hZ (hw _ (List.mem_of_getElem? (i := 34) rfl)) (hw _ (List.mem_of_getElem? (i := 2) rfl)) (by decide) (by decide)) q0a q0c (g := g) hg hsize (Steps.refl _) (argsL := [(.long t1), .null]) (rest := []) (lenOf pd__JLjava_lang_Runnable__V rfl) hs (by rw [hmr]; exact Nat.le_of_eq rfl) hd (fun _ _ => ⟨rfl, e0, (by show cells + 3 ≤ 32; omega), (by show s0 + 64 + 136 ≤ 704; omega)⟩)
        dsimp only [Pt.U, Pt.locs, Pt.cells, Pt.slots] at X1 l1 y1 z1 st1 hQ1
        subst l1 y1 z1
        obtain ⟨rfl, Nq, Oq, Dq⟩ := hQ1
        have hF' : own_F (64 : Int32) = 192 := rfl
        exact ⟨_, T1, T1.heap, _, by decide, X1.more (by show cells + 3 ≤ cells + 3; omega) (by show s0 + 64 + 136 ≤ s0 + 8 + own_F (64 : Int32); omega), rfl, Oq, Fr.app N0 Nq, Dq, st1⟩
      · obtain ⟨_, _, ⟨T1, L1, k1, n1⟩, -, X1, ⟨Lc1, hQ1, l1, y1, z1⟩, st1⟩ := X0.virtualBack hx (y := (⟨"com/example/januswire/januswire/sim/DueEvents", "schedule", "(JLjava/lang/Runnable;)V"⟩ : MethodName)) (z := (⟨"com/example/januswire/januswire/sim/DueEvents", "schedule", "(JLjava/lang/Runnable;)V"⟩ : MethodName)) hown (mvT hZ (hw _ (List.mem_of_getElem? (i := 30) rfl))) (mvT hZ (hw _ (List.mem_of_getElem? (i := 31) rfl))) (notFace_of_selects (args := #[]) (mvT hZ (hw _ (List.mem_of_getElem? (i := 33) rfl)))) (mvT hZ (hw _ (List.mem_of_getElem? (i := 33) rfl))) (mvT hZ (hw _ (List.mem_of_getElem? (i := 32) rfl))) (by decide) (backOf (W := 0) (sc_32_128 l Z a0 hw [] a1 t1 q1 P k h0 n0 O0 hD g1 hk0 hk7 hgt hle ((own_gtm ht0 ht1 ((32 : Int32) - 1)).mpr (by have e : ((32 : Int32) - 1).toInt = 31 := rfl; omega)) (fun z => by have z' := (own_lt ht0 ht1 (32 : Int32)).mp z; have e : (32 : Int32).toInt = 32 := rfl; omega) (fun z => by have z' := (own_lt ht0 ht1 (64 : Int32)).mp z; have e : (64 : Int32).toInt = 64 := rfl; omega) ((own_lt ht0 ht1 (128 : Int32)).mpr (by have e : (128 : Int32).toInt = 128 := rfl; omega))) hZ (hw _ (List.mem_of_getElem? (i := 34) rfl)) (hw _ (List.mem_of_getElem? (i := 2) rfl)) (by decide) (by decide)) q0a q0c (g := g) hg hsize (Steps.refl _) (argsL := [(.long t1), .null]) (rest := []) (lenOf pd__JLjava_lang_Runnable__V rfl) hs (by rw [hmr]; exact Nat.le_of_eq rfl) hd (fun _ _ => ⟨rfl, e0, (by show cells + 3 ≤ 32; omega), (by show s0 + 64 + 264 ≤ 704; omega)⟩)
        dsimp only [Pt.U, Pt.locs, Pt.cells, Pt.slots] at X1 l1 y1 z1 st1 hQ1
        subst l1 y1 z1
        obtain ⟨rfl, Nq, Oq, Dq⟩ := hQ1
        have hF' : own_F (128 : Int32) = 448 := rfl
        exact ⟨_, T1, T1.heap, _, by decide, X1.more (by show cells + 3 ≤ cells + 3; omega) (by show s0 + 64 + 264 ≤ s0 + 8 + own_F (128 : Int32); omega), rfl, Oq, Fr.app N0 Nq, Dq, st1⟩
  · have hF : own_F (64 : Int32) = 192 := rfl
    rw [hF] at X0
    by_cases c64 : t1.toInt < 63
    · obtain ⟨_, _, ⟨T1, L1, k1, n1⟩, -, X1, ⟨Lc1, hQ1, l1, y1, z1⟩, st1⟩ := X0.virtualBack hx (y := (⟨"com/example/januswire/januswire/sim/DueEvents", "schedule", "(JLjava/lang/Runnable;)V"⟩ : MethodName)) (z := (⟨"com/example/januswire/januswire/sim/DueEvents", "schedule", "(JLjava/lang/Runnable;)V"⟩ : MethodName)) hown (mvT hZ (hw _ (List.mem_of_getElem? (i := 30) rfl))) (mvT hZ (hw _ (List.mem_of_getElem? (i := 31) rfl))) (notFace_of_selects (args := #[]) (mvT hZ (hw _ (List.mem_of_getElem? (i := 33) rfl)))) (mvT hZ (hw _ (List.mem_of_getElem? (i := 33) rfl))) (mvT hZ (hw _ (List.mem_of_getElem? (i := 32) rfl))) (by decide) (backOf (W := 0) (sc_64_64 l Z a0 hw [] a1 t1 q1 P k h0 n0 O0 hD g1 hk0 hk7 hgt hle (fun z => by have z' := (own_gtm ht0 ht1 ((64 : Int32) - 1)).mp z; have e : ((64 : Int32) - 1).toInt = 63 := rfl; omega) ) hZ (hw _ (List.mem_of_getElem? (i := 34) rfl)) (hw _ (List.mem_of_getElem? (i := 2) rfl)) (by decide) (by decide)) q0a q0c (g := g) hg hsize (Steps.refl _) (argsL := [(.long t1), .null]) (rest := []) (lenOf pd__JLjava_lang_Runnable__V rfl) hs (by rw [hmr]; exact Nat.le_of_eq rfl) hd (fun _ _ => ⟨rfl, e0, (by show cells + 1 ≤ 32; omega), (by show s0 + 192 + 8 ≤ 704; omega)⟩)
      dsimp only [Pt.U, Pt.locs, Pt.cells, Pt.slots] at X1 l1 y1 z1 st1 hQ1
      subst l1 y1 z1
      obtain ⟨rfl, Nq, Oq, Dq⟩ := hQ1
      have hF' : own_F (64 : Int32) = 192 := rfl
      exact ⟨_, T1, T1.heap, _, by decide, X1.more (by show cells + 1 ≤ cells + 3; omega) (by show s0 + 192 + 8 ≤ s0 + 8 + own_F (64 : Int32); omega), rfl, Oq, Fr.app N0 Nq, Dq, st1⟩
    · obtain ⟨_, _, ⟨T1, L1, k1, n1⟩, -, X1, ⟨Lc1, hQ1, l1, y1, z1⟩, st1⟩ := X0.virtualBack hx (y := (⟨"com/example/januswire/januswire/sim/DueEvents", "schedule", "(JLjava/lang/Runnable;)V"⟩ : MethodName)) (z := (⟨"com/example/januswire/januswire/sim/DueEvents", "schedule", "(JLjava/lang/Runnable;)V"⟩ : MethodName)) hown (mvT hZ (hw _ (List.mem_of_getElem? (i := 30) rfl))) (mvT hZ (hw _ (List.mem_of_getElem? (i := 31) rfl))) (notFace_of_selects (args := #[]) (mvT hZ (hw _ (List.mem_of_getElem? (i := 33) rfl)))) (mvT hZ (hw _ (List.mem_of_getElem? (i := 33) rfl))) (mvT hZ (hw _ (List.mem_of_getElem? (i := 32) rfl))) (by decide) (backOf (W := 0) (sc_64_128 l Z a0 hw [] a1 t1 q1 P k h0 n0 O0 hD g1 hk0 hk7 hgt hle ((own_gtm ht0 ht1 ((64 : Int32) - 1)).mpr (by have e : ((64 : Int32) - 1).toInt = 63 := rfl; omega)) (fun z => by have z' := (own_lt ht0 ht1 (64 : Int32)).mp z; have e : (64 : Int32).toInt = 64 := rfl; omega) ((own_lt ht0 ht1 (128 : Int32)).mpr (by have e : (128 : Int32).toInt = 128 := rfl; omega))) hZ (hw _ (List.mem_of_getElem? (i := 34) rfl)) (hw _ (List.mem_of_getElem? (i := 2) rfl)) (by decide) (by decide)) q0a q0c (g := g) hg hsize (Steps.refl _) (argsL := [(.long t1), .null]) (rest := []) (lenOf pd__JLjava_lang_Runnable__V rfl) hs (by rw [hmr]; exact Nat.le_of_eq rfl) hd (fun _ _ => ⟨rfl, e0, (by show cells + 3 ≤ 32; omega), (by show s0 + 192 + 264 ≤ 704; omega)⟩)
      dsimp only [Pt.U, Pt.locs, Pt.cells, Pt.slots] at X1 l1 y1 z1 st1 hQ1
      subst l1 y1 z1
      obtain ⟨rfl, Nq, Oq, Dq⟩ := hQ1
      have hF' : own_F (128 : Int32) = 448 := rfl
      exact ⟨_, T1, T1.heap, _, by decide, X1.more (by show cells + 3 ≤ cells + 3; omega) (by show s0 + 192 + 264 ≤ s0 + 8 + own_F (128 : Int32); omega), rfl, Oq, Fr.app N0 Nq, Dq, st1⟩
  · have hF : own_F (128 : Int32) = 448 := rfl
    rw [hF] at X0
    obtain ⟨_, _, ⟨T1, L1, k1, n1⟩, -, X1, ⟨Lc1, hQ1, l1, y1, z1⟩, st1⟩ := X0.virtualBack hx (y := (⟨"com/example/januswire/januswire/sim/DueEvents", "schedule", "(JLjava/lang/Runnable;)V"⟩ : MethodName)) (z := (⟨"com/example/januswire/januswire/sim/DueEvents", "schedule", "(JLjava/lang/Runnable;)V"⟩ : MethodName)) hown (mvT hZ (hw _ (List.mem_of_getElem? (i := 30) rfl))) (mvT hZ (hw _ (List.mem_of_getElem? (i := 31) rfl))) (notFace_of_selects (args := #[]) (mvT hZ (hw _ (List.mem_of_getElem? (i := 33) rfl)))) (mvT hZ (hw _ (List.mem_of_getElem? (i := 33) rfl))) (mvT hZ (hw _ (List.mem_of_getElem? (i := 32) rfl))) (by decide) (backOf (W := 0) (sc_128_128 l Z a0 hw [] a1 t1 q1 P k h0 n0 O0 hD g1 hk0 hk7 hgt hle (fun z => by have z' := (own_gtm ht0 ht1 ((128 : Int32) - 1)).mp z; have e : ((128 : Int32) - 1).toInt = 127 := rfl; omega) ) hZ (hw _ (List.mem_of_getElem? (i := 34) rfl)) (hw _ (List.mem_of_getElem? (i := 2) rfl)) (by decide) (by decide)) q0a q0c (g := g) hg hsize (Steps.refl _) (argsL := [(.long t1), .null]) (rest := []) (lenOf pd__JLjava_lang_Runnable__V rfl) hs (by rw [hmr]; exact Nat.le_of_eq rfl) hd (fun _ _ => ⟨rfl, e0, (by show cells + 1 ≤ 32; omega), (by show s0 + 448 + 8 ≤ 704; omega)⟩)
    dsimp only [Pt.U, Pt.locs, Pt.cells, Pt.slots] at X1 l1 y1 z1 st1 hQ1
    subst l1 y1 z1
    obtain ⟨rfl, Nq, Oq, Dq⟩ := hQ1
    have hF' : own_F (128 : Int32) = 448 := rfl
    exact ⟨_, T1, T1.heap, _, by decide, X1.more (by show cells + 1 ≤ cells + 3; omega) (by show s0 + 448 + 8 ≤ s0 + 8 + own_F (128 : Int32); omega), rfl, Oq, Fr.app N0 Nq, Dq, st1⟩

theorem own_63 (x : Int32) : 0 ≤ ((x &&& (63 : Int32)).toInt64).toInt ∧ ((x &&& (63 : Int32)).toInt64).toInt ≤ 63 := by
  have e := c_mask x 63 6 (by decide) (by decide)
  rw [c_i2l, e]
  omega
theorem own_Fle {M : Int32} (h : M = 16 ∨ M = 32 ∨ M = 64 ∨ M = 128) : own_F M ≤ 448 := by rcases h with rfl | rfl | rfl | rfl <;> decide

theorem ef_rm0 (m : MethodId) (q1 : Int64) (p1 : Int32) (p2 : Int32) (p3 : Int32) (p4 : Int32) : entryFrame m #[(.long q1), (.int p1), (.int p2), (.int p3), (.int p4)] maxLocals = mkF m 0 #[.val (.long q1), .second, .val (.int p1), .val (.int p2), .val (.int p3), .val (.int p4), .unset, .unset, .unset, .unset, .unset, .unset, .unset, .unset, .unset, .unset] [] := by first | (simp [entryFrame, mkF, argsToLocals, Value.category, maxLocals]; done) | rfl
def Q_rm0 (Z : State) (q1 : Int64) (p1 p2 p3 p4 : Int32) (h0 : Heap) (n0 : Nat) (v : Option Value) (h : Heap) (L : List Loc) : Prop := v = some (.int (1 : Int32)) ∧ Fr n0 L
set_option maxRecDepth 65536 in
set_option maxHeartbeats 40000000 in
theorem rm0 (l : Launch) (Z : State) (a0 : Array Value) (hw : ∀ d ∈ tables_1, d.before a0 Z = true) (ws : List Jvm.Cond) (q1 : Int64) (p1 p2 p3 p4 : Int32) (h0 : Heap) (n0 : Nat) (O0 : Old Z n0 h0) :
    MetFree l x (head1 (Jvm.Cond.code x code maxLocals ret :: ws) room_1) (fun a U => a = #[(.long q1), (.int p1), (.int p2), (.int p3), (.int p4)] ∧ Z.Warmed39 U.vm ∧ U.heap = h0) (fun _ _ _ _ _ => True) (fun _ U o U' => ∃ v L, o = .returned v ∧ Q_rm0 Z q1 p1 p2 p3 p4 h0 n0 v U'.heap L ∧ FrameEnd U o U' L room_1.cells room_1.slots) := by
  refine MetFree.of_bodySF (plainFor_of_name pn_com_example_januswire_januswire_sim_DueEventsIsEmptyPinLaw) hisR ?_
  intro p e s m args below meth c s₁ Bd hml0 hP hK
  obtain ⟨rfl, hZ, hh⟩ := hP
  have hx := Bd.exec
  have hby := Bd.bytes
  have hml : c.maxLocals = 16 := hml0
  have hown : s.vm.findClass "com/example/januswire/januswire/sim/DueEventsIsEmptyPinLaw" = some m.cls := findClass_of_methodNamed Bd.named
  have hnm := (name_of_methodNamed Bd.named Bd.method).1
  have X0 : Stand p l e room_1 s m #[(.long q1), (.int p1), (.int p2), (.int p3), (.int p4)] below meth c s₁ [] 0 0 := Stand.of_body Bd
  have e0 : s₁.heap = h0 := by rw [← hh, Bd.state]; rfl
  have N0 := Fr.nil n0
  have pre0 : ∀ t, Steps p.tables e below (s₁.setTop (mkF m 0 #[.val (.long q1), .second, .val (.int p1), .val (.int p2), .val (.int p3), .val (.int p4), .unset, .unset, .unset, .unset, .unset, .unset, .unset, .unset, .unset, .unset] [])) t → Steps p.tables e below (s₁.setTop (entryFrame m #[(.long q1), (.int p1), (.int p2), (.int p3), (.int p4)] maxLocals)) t := fun t k => castTop (ef_rm0 m q1 p1 p2 p3 p4) k
  obtain ⟨T1, h1, X1, e1, E1, A1, D1, U1, st1⟩ := newO X0 hx hZ hown (hw _ (List.mem_of_getElem? (i := 0) rfl)) (hw _ (List.mem_of_getElem? (i := 1) rfl)) (hw _ (List.mem_of_getElem? (i := 2) rfl)) e0 (g := (mkF m 0 #[.val (.long q1), .second, .val (.int p1), .val (.int p2), .val (.int p3), .val (.int p4), .unset, .unset, .unset, .unset, .unset, .unset, .unset, .unset, .unset, .unset] [])) rfl (hb hby at_0) (by decide) (by decide)
  obtain ⟨b1, g1⟩ : ∃ z, z = h0.size := ⟨_, rfl⟩
  rw [← g1] at A1 D1 st1
  have g_b1 : n0 ≤ b1 := Nat.le_trans (own_le O0) (Nat.le_of_eq g1.symm)
  have O1 := O0.ext E1
  have F_events_b1 : Fld Z h1 b1 "com/example/januswire/januswire/sim/DueEvents" "events" "[[Ljava/lang/Runnable;" .null := D1 (Or.inl (hw _ (List.mem_of_getElem? (i := 12) rfl))) (ty := (.array (.array (.object "java/lang/Runnable")))) (by decide)
  have F_counts_b1 : Fld Z h1 b1 "com/example/januswire/januswire/sim/DueEvents" "counts" "[I" .null := D1 (Or.inl (hw _ (List.mem_of_getElem? (i := 15) rfl))) (ty := (.array .int)) (by decide)
  have F_mask_b1 : Fld Z h1 b1 "com/example/januswire/januswire/sim/DueEvents" "mask" "I" (.int (0 : Int32)) := D1 (Or.inl (hw _ (List.mem_of_getElem? (i := 17) rfl))) (ty := .int) (by decide)
  have F_current_b1 : Fld Z h1 b1 "com/example/januswire/januswire/sim/DueEvents" "current" "J" (.long (0 : Int64)) := D1 (Or.inl (hw _ (List.mem_of_getElem? (i := 20) rfl))) (ty := .long) (by decide)
  have F_lastTick_b1 : Fld Z h1 b1 "com/example/januswire/januswire/sim/DueEvents" "lastTick" "J" (.long (0 : Int64)) := D1 (Or.inr (hw _ (List.mem_of_getElem? (i := 22) rfl))) (ty := .long) (by decide)
  have F_pending_b1 : Fld Z h1 b1 "com/example/januswire/januswire/sim/DueEvents" "pending" "J" (.long (0 : Int64)) := D1 (Or.inl (hw _ (List.mem_of_getElem? (i := 29) rfl))) (ty := .long) (by decide)
  have F_droppedLate_b1 : Fld Z h1 b1 "com/example/januswire/januswire/sim/DueEvents" "droppedLate" "Z" (.int (0 : Int32)) := D1 (Or.inl (hw _ (List.mem_of_getElem? (i := 43) rfl))) (ty := .boolean) (by decide)
  obtain ⟨_, _, ⟨T2, L2, k2, n2⟩, -, X2, ⟨Lc2, hQ2, l2, y2, z2⟩, st2⟩ := X1.specialBack hx (y := (⟨"com/example/januswire/januswire/sim/DueEvents", "<init>", "(J)V"⟩ : MethodName)) rfl hown (mvT hZ (hw _ (List.mem_of_getElem? (i := 3) rfl))) (mvT hZ (hw _ (List.mem_of_getElem? (i := 4) rfl))) (mvT hZ (hw _ (List.mem_of_getElem? (i := 5) rfl))) (by decide) (backOf (W := 1) (ctor l Z a0 hw [] b1 q1 h1 n0 O1 A1 g_b1 F_events_b1 F_counts_b1 F_mask_b1 F_current_b1 F_lastTick_b1 F_pending_b1 F_droppedLate_b1) hZ (hw _ (List.mem_of_getElem? (i := 5) rfl)) (hw _ (List.mem_of_getElem? (i := 2) rfl)) (by decide) (by decide)) (g := (mkF m 5 #[.val (.long q1), .second, .val (.int p1), .val (.int p2), .val (.int p3), .val (.int p4), .unset, .unset, .unset, .unset, .unset, .unset, .unset, .unset, .unset, .unset] [(.long q1), (.ref b1), (.ref b1)])) rfl (by rw [hml]; rfl) (Steps.refl _) (a := b1) (argsL := [(.long q1)]) (rest := [(.ref b1)]) (lenOf pd__J_V rfl) rfl (by show 2 * 0 + _ ≤ _; exact Nat.le_of_eq rfl) (hb hby at_5) (fun _ _ => ⟨rfl, e1, (by decide : 1 + 2 ≤ _), (by decide : 7 + 32 ≤ _)⟩)
  dsimp only [Pt.U, Pt.locs, Pt.cells, Pt.slots] at X2 l2 y2 z2 st2 hQ2
  subst l2 y2 z2
  obtain ⟨rfl, Nq2, Oq2, Dq2⟩ := hQ2
  have N2 := Fr.app N0 Nq2
  obtain ⟨cq3, kq3, q3a, q3b, q3c⟩ := isOf hZ rfl (own_exaD Dq2)
  obtain ⟨_, _, ⟨T3, L3, k3, n3⟩, -, X3, ⟨Lc3, hQ3, l3, y3, z3⟩, st3⟩ := X2.virtualBack hx (y := (⟨"com/example/januswire/januswire/sim/DueEvents", "isEmpty", "()Z"⟩ : MethodName)) (z := (⟨"com/example/januswire/januswire/sim/DueEvents", "isEmpty", "()Z"⟩ : MethodName)) hown (mvT hZ (hw _ (List.mem_of_getElem? (i := 23) rfl))) (mvT hZ (hw _ (List.mem_of_getElem? (i := 24) rfl))) (notFace_of_selects (args := #[]) (mvT hZ (hw _ (List.mem_of_getElem? (i := 26) rfl)))) (mvT hZ (hw _ (List.mem_of_getElem? (i := 26) rfl))) (mvT hZ (hw _ (List.mem_of_getElem? (i := 25) rfl))) (by decide) (backOf (W := 0) (isE_0 l Z a0 hw [] b1 T2.heap n0 Oq2 (own_penD Dq2)) hZ (hw _ (List.mem_of_getElem? (i := 27) rfl)) (hw _ (List.mem_of_getElem? (i := 2) rfl)) (by decide) (by decide)) q3a q3c (g := (mkF m 40 #[.val (.long q1), .second, .val (.int p1), .val (.int p2), .val (.int p3), .val (.int p4), .val (.ref b1), .val (.long ((p2 &&& (63 : Int32)).toInt64)), .second, .val (.long ((p3 &&& (63 : Int32)).toInt64)), .second, .val (.long ((p4 &&& (63 : Int32)).toInt64)), .second, .val (.int (p1 &&& (3 : Int32))), .unset, .unset] [(.ref b1)])) rfl (by rw [hml]; rfl) (Steps.refl _) (argsL := []) (rest := []) (lenOf pd___Z rfl) rfl (by show 2 * 0 + _ ≤ _; exact Nat.le_of_eq rfl) (hb hby at_40) (fun _ _ => ⟨rfl, rfl, (by show 3 + 0 ≤ 32; omega), (by show 39 + own_F (16 : Int32) + 0 ≤ 704; have := own_Fle (Or.inl rfl); omega)⟩)
  dsimp only [Pt.U, Pt.locs, Pt.cells, Pt.slots] at X3 l3 y3 z3 st3 hQ3
  subst l3 y3 z3
  obtain ⟨rfl, Nq3, eq3⟩ := hQ3
  have N3 := Fr.app N2 Nq3
  have pre4 : ∀ t, Steps p.tables e below (T3.setTop (mkF m 51 #[.val (.long q1), .second, .val (.int p1), .val (.int p2), .val (.int p3), .val (.int p4), .val (.ref b1), .val (.long ((p2 &&& (63 : Int32)).toInt64)), .second, .val (.long ((p3 &&& (63 : Int32)).toInt64)), .second, .val (.long ((p4 &&& (63 : Int32)).toInt64)), .second, .val (.int (p1 &&& (3 : Int32))), .val (.int (1 : Int32)), .val (.int (0 : Int32))] [(.int (1 : Int32)), (.int (p1 &&& (3 : Int32)))])) t → Steps p.tables e below (s₁.setTop (entryFrame m #[(.long q1), (.int p1), (.int p2), (.int p3), (.int p4)] maxLocals)) t := by
    intro t kt
    refine pre0 _ ?_
    show Steps p.tables e below (s₁.setTop (mkF m 0 #[.val (.long q1), .second, .val (.int p1), .val (.int p2), .val (.int p3), .val (.int p4), .unset, .unset, .unset, .unset, .unset, .unset, .unset, .unset, .unset, .unset] [])) _
    refine st1 _ ?_
    show Steps p.tables e below (T1.setTop (mkF m 3 #[.val (.long q1), .second, .val (.int p1), .val (.int p2), .val (.int p3), .val (.int p4), .unset, .unset, .unset, .unset, .unset, .unset, .unset, .unset, .unset, .unset] [(.ref b1)])) _
    refine XS.dup X1.here hx rfl (hb hby at_3) rfl rfl ?_
    show Steps p.tables e below (T1.setTop (mkF m 4 #[.val (.long q1), .second, .val (.int p1), .val (.int p2), .val (.int p3), .val (.int p4), .unset, .unset, .unset, .unset, .unset, .unset, .unset, .unset, .unset, .unset] [(.ref b1), (.ref b1)])) _
    refine XS.lloadN X1.here hx rfl (hb hby at_4) rfl ?_
    show Steps p.tables e below (T1.setTop (mkF m 5 #[.val (.long q1), .second, .val (.int p1), .val (.int p2), .val (.int p3), .val (.int p4), .unset, .unset, .unset, .unset, .unset, .unset, .unset, .unset, .unset, .unset] [(.long q1), (.ref b1), (.ref b1)])) _
    refine st2.trans ?_
    show Steps p.tables e below (T2.setTop (mkF m 8 #[.val (.long q1), .second, .val (.int p1), .val (.int p2), .val (.int p3), .val (.int p4), .unset, .unset, .unset, .unset, .unset, .unset, .unset, .unset, .unset, .unset] [(.ref b1)])) _
    refine XS.astore X2.here hx rfl (hb hby at_8) rfl rfl (l' := #[.val (.long q1), .second, .val (.int p1), .val (.int p2), .val (.int p3), .val (.int p4), .val (.ref b1), .unset, .unset, .unset, .unset, .unset, .unset, .unset, .unset, .unset]) rfl ?_
    show Steps p.tables e below (T2.setTop (mkF m 10 #[.val (.long q1), .second, .val (.int p1), .val (.int p2), .val (.int p3), .val (.int p4), .val (.ref b1), .unset, .unset, .unset, .unset, .unset, .unset, .unset, .unset, .unset] [])) _
    refine XS.iloadN X2.here hx rfl (hb hby at_10) rfl ?_
    show Steps p.tables e below (T2.setTop (mkF m 11 #[.val (.long q1), .second, .val (.int p1), .val (.int p2), .val (.int p3), .val (.int p4), .val (.ref b1), .unset, .unset, .unset, .unset, .unset, .unset, .unset, .unset, .unset] [(.int p2)])) _
    refine XS.bipush X2.here hx rfl (hb hby at_11) ?_
    show Steps p.tables e below (T2.setTop (mkF m 13 #[.val (.long q1), .second, .val (.int p1), .val (.int p2), .val (.int p3), .val (.int p4), .val (.ref b1), .unset, .unset, .unset, .unset, .unset, .unset, .unset, .unset, .unset] [(.int (63 : Int32)), (.int p2)])) _
    refine XS.iand X2.here hx rfl (hb hby at_13) rfl ?_
    show Steps p.tables e below (T2.setTop (mkF m 14 #[.val (.long q1), .second, .val (.int p1), .val (.int p2), .val (.int p3), .val (.int p4), .val (.ref b1), .unset, .unset, .unset, .unset, .unset, .unset, .unset, .unset, .unset] [(.int (p2 &&& (63 : Int32)))])) _
    refine XS.i2l X2.here hx rfl (hb hby at_14) rfl ?_
    show Steps p.tables e below (T2.setTop (mkF m 15 #[.val (.long q1), .second, .val (.int p1), .val (.int p2), .val (.int p3), .val (.int p4), .val (.ref b1), .unset, .unset, .unset, .unset, .unset, .unset, .unset, .unset, .unset] [(.long ((p2 &&& (63 : Int32)).toInt64))])) _
    refine XS.lstore X2.here hx rfl (hb hby at_15) rfl (l' := #[.val (.long q1), .second, .val (.int p1), .val (.int p2), .val (.int p3), .val (.int p4), .val (.ref b1), .val (.long ((p2 &&& (63 : Int32)).toInt64)), .second, .unset, .unset, .unset, .unset, .unset, .unset, .unset]) rfl ?_
    show Steps p.tables e below (T2.setTop (mkF m 17 #[.val (.long q1), .second, .val (.int p1), .val (.int p2), .val (.int p3), .val (.int p4), .val (.ref b1), .val (.long ((p2 &&& (63 : Int32)).toInt64)), .second, .unset, .unset, .unset, .unset, .unset, .unset, .unset] [])) _
    refine XS.iload X2.here hx rfl (hb hby at_17) rfl ?_
    show Steps p.tables e below (T2.setTop (mkF m 19 #[.val (.long q1), .second, .val (.int p1), .val (.int p2), .val (.int p3), .val (.int p4), .val (.ref b1), .val (.long ((p2 &&& (63 : Int32)).toInt64)), .second, .unset, .unset, .unset, .unset, .unset, .unset, .unset] [(.int p3)])) _
    refine XS.bipush X2.here hx rfl (hb hby at_19) ?_
    show Steps p.tables e below (T2.setTop (mkF m 21 #[.val (.long q1), .second, .val (.int p1), .val (.int p2), .val (.int p3), .val (.int p4), .val (.ref b1), .val (.long ((p2 &&& (63 : Int32)).toInt64)), .second, .unset, .unset, .unset, .unset, .unset, .unset, .unset] [(.int (63 : Int32)), (.int p3)])) _
    refine XS.iand X2.here hx rfl (hb hby at_21) rfl ?_
    show Steps p.tables e below (T2.setTop (mkF m 22 #[.val (.long q1), .second, .val (.int p1), .val (.int p2), .val (.int p3), .val (.int p4), .val (.ref b1), .val (.long ((p2 &&& (63 : Int32)).toInt64)), .second, .unset, .unset, .unset, .unset, .unset, .unset, .unset] [(.int (p3 &&& (63 : Int32)))])) _
    refine XS.i2l X2.here hx rfl (hb hby at_22) rfl ?_
    show Steps p.tables e below (T2.setTop (mkF m 23 #[.val (.long q1), .second, .val (.int p1), .val (.int p2), .val (.int p3), .val (.int p4), .val (.ref b1), .val (.long ((p2 &&& (63 : Int32)).toInt64)), .second, .unset, .unset, .unset, .unset, .unset, .unset, .unset] [(.long ((p3 &&& (63 : Int32)).toInt64))])) _
    refine XS.lstore X2.here hx rfl (hb hby at_23) rfl (l' := #[.val (.long q1), .second, .val (.int p1), .val (.int p2), .val (.int p3), .val (.int p4), .val (.ref b1), .val (.long ((p2 &&& (63 : Int32)).toInt64)), .second, .val (.long ((p3 &&& (63 : Int32)).toInt64)), .second, .unset, .unset, .unset, .unset, .unset]) rfl ?_
    show Steps p.tables e below (T2.setTop (mkF m 25 #[.val (.long q1), .second, .val (.int p1), .val (.int p2), .val (.int p3), .val (.int p4), .val (.ref b1), .val (.long ((p2 &&& (63 : Int32)).toInt64)), .second, .val (.long ((p3 &&& (63 : Int32)).toInt64)), .second, .unset, .unset, .unset, .unset, .unset] [])) _
    refine XS.iload X2.here hx rfl (hb hby at_25) rfl ?_
    show Steps p.tables e below (T2.setTop (mkF m 27 #[.val (.long q1), .second, .val (.int p1), .val (.int p2), .val (.int p3), .val (.int p4), .val (.ref b1), .val (.long ((p2 &&& (63 : Int32)).toInt64)), .second, .val (.long ((p3 &&& (63 : Int32)).toInt64)), .second, .unset, .unset, .unset, .unset, .unset] [(.int p4)])) _
    refine XS.bipush X2.here hx rfl (hb hby at_27) ?_
    show Steps p.tables e below (T2.setTop (mkF m 29 #[.val (.long q1), .second, .val (.int p1), .val (.int p2), .val (.int p3), .val (.int p4), .val (.ref b1), .val (.long ((p2 &&& (63 : Int32)).toInt64)), .second, .val (.long ((p3 &&& (63 : Int32)).toInt64)), .second, .unset, .unset, .unset, .unset, .unset] [(.int (63 : Int32)), (.int p4)])) _
    refine XS.iand X2.here hx rfl (hb hby at_29) rfl ?_
    show Steps p.tables e below (T2.setTop (mkF m 30 #[.val (.long q1), .second, .val (.int p1), .val (.int p2), .val (.int p3), .val (.int p4), .val (.ref b1), .val (.long ((p2 &&& (63 : Int32)).toInt64)), .second, .val (.long ((p3 &&& (63 : Int32)).toInt64)), .second, .unset, .unset, .unset, .unset, .unset] [(.int (p4 &&& (63 : Int32)))])) _
    refine XS.i2l X2.here hx rfl (hb hby at_30) rfl ?_
    show Steps p.tables e below (T2.setTop (mkF m 31 #[.val (.long q1), .second, .val (.int p1), .val (.int p2), .val (.int p3), .val (.int p4), .val (.ref b1), .val (.long ((p2 &&& (63 : Int32)).toInt64)), .second, .val (.long ((p3 &&& (63 : Int32)).toInt64)), .second, .unset, .unset, .unset, .unset, .unset] [(.long ((p4 &&& (63 : Int32)).toInt64))])) _
    refine XS.lstore X2.here hx rfl (hb hby at_31) rfl (l' := #[.val (.long q1), .second, .val (.int p1), .val (.int p2), .val (.int p3), .val (.int p4), .val (.ref b1), .val (.long ((p2 &&& (63 : Int32)).toInt64)), .second, .val (.long ((p3 &&& (63 : Int32)).toInt64)), .second, .val (.long ((p4 &&& (63 : Int32)).toInt64)), .second, .unset, .unset, .unset]) rfl ?_
    show Steps p.tables e below (T2.setTop (mkF m 33 #[.val (.long q1), .second, .val (.int p1), .val (.int p2), .val (.int p3), .val (.int p4), .val (.ref b1), .val (.long ((p2 &&& (63 : Int32)).toInt64)), .second, .val (.long ((p3 &&& (63 : Int32)).toInt64)), .second, .val (.long ((p4 &&& (63 : Int32)).toInt64)), .second, .unset, .unset, .unset] [])) _
    refine XS.iloadN X2.here hx rfl (hb hby at_33) rfl ?_
    show Steps p.tables e below (T2.setTop (mkF m 34 #[.val (.long q1), .second, .val (.int p1), .val (.int p2), .val (.int p3), .val (.int p4), .val (.ref b1), .val (.long ((p2 &&& (63 : Int32)).toInt64)), .second, .val (.long ((p3 &&& (63 : Int32)).toInt64)), .second, .val (.long ((p4 &&& (63 : Int32)).toInt64)), .second, .unset, .unset, .unset] [(.int p1)])) _
    refine XS.iconst X2.here hx rfl (hb hby at_34) ?_
    show Steps p.tables e below (T2.setTop (mkF m 35 #[.val (.long q1), .second, .val (.int p1), .val (.int p2), .val (.int p3), .val (.int p4), .val (.ref b1), .val (.long ((p2 &&& (63 : Int32)).toInt64)), .second, .val (.long ((p3 &&& (63 : Int32)).toInt64)), .second, .val (.long ((p4 &&& (63 : Int32)).toInt64)), .second, .unset, .unset, .unset] [(.int (3 : Int32)), (.int p1)])) _
    refine XS.iand X2.here hx rfl (hb hby at_35) rfl ?_
    show Steps p.tables e below (T2.setTop (mkF m 36 #[.val (.long q1), .second, .val (.int p1), .val (.int p2), .val (.int p3), .val (.int p4), .val (.ref b1), .val (.long ((p2 &&& (63 : Int32)).toInt64)), .second, .val (.long ((p3 &&& (63 : Int32)).toInt64)), .second, .val (.long ((p4 &&& (63 : Int32)).toInt64)), .second, .unset, .unset, .unset] [(.int (p1 &&& (3 : Int32)))])) _
    refine XS.istore X2.here hx rfl (hb hby at_36) rfl (l' := #[.val (.long q1), .second, .val (.int p1), .val (.int p2), .val (.int p3), .val (.int p4), .val (.ref b1), .val (.long ((p2 &&& (63 : Int32)).toInt64)), .second, .val (.long ((p3 &&& (63 : Int32)).toInt64)), .second, .val (.long ((p4 &&& (63 : Int32)).toInt64)), .second, .val (.int (p1 &&& (3 : Int32))), .unset, .unset]) rfl ?_
    show Steps p.tables e below (T2.setTop (mkF m 38 #[.val (.long q1), .second, .val (.int p1), .val (.int p2), .val (.int p3), .val (.int p4), .val (.ref b1), .val (.long ((p2 &&& (63 : Int32)).toInt64)), .second, .val (.long ((p3 &&& (63 : Int32)).toInt64)), .second, .val (.long ((p4 &&& (63 : Int32)).toInt64)), .second, .val (.int (p1 &&& (3 : Int32))), .unset, .unset] [])) _
    refine XS.aload X2.here hx rfl (hb hby at_38) rfl rfl ?_
    show Steps p.tables e below (T2.setTop (mkF m 40 #[.val (.long q1), .second, .val (.int p1), .val (.int p2), .val (.int p3), .val (.int p4), .val (.ref b1), .val (.long ((p2 &&& (63 : Int32)).toInt64)), .second, .val (.long ((p3 &&& (63 : Int32)).toInt64)), .second, .val (.long ((p4 &&& (63 : Int32)).toInt64)), .second, .val (.int (p1 &&& (3 : Int32))), .unset, .unset] [(.ref b1)])) _
    refine st3.trans ?_
    show Steps p.tables e below (T3.setTop (mkF m 43 #[.val (.long q1), .second, .val (.int p1), .val (.int p2), .val (.int p3), .val (.int p4), .val (.ref b1), .val (.long ((p2 &&& (63 : Int32)).toInt64)), .second, .val (.long ((p3 &&& (63 : Int32)).toInt64)), .second, .val (.long ((p4 &&& (63 : Int32)).toInt64)), .second, .val (.int (p1 &&& (3 : Int32))), .unset, .unset] [(.int (1 : Int32))])) _
    refine XS.istore X3.here hx rfl (hb hby at_43) rfl (l' := #[.val (.long q1), .second, .val (.int p1), .val (.int p2), .val (.int p3), .val (.int p4), .val (.ref b1), .val (.long ((p2 &&& (63 : Int32)).toInt64)), .second, .val (.long ((p3 &&& (63 : Int32)).toInt64)), .second, .val (.long ((p4 &&& (63 : Int32)).toInt64)), .second, .val (.int (p1 &&& (3 : Int32))), .val (.int (1 : Int32)), .unset]) rfl ?_
    show Steps p.tables e below (T3.setTop (mkF m 45 #[.val (.long q1), .second, .val (.int p1), .val (.int p2), .val (.int p3), .val (.int p4), .val (.ref b1), .val (.long ((p2 &&& (63 : Int32)).toInt64)), .second, .val (.long ((p3 &&& (63 : Int32)).toInt64)), .second, .val (.long ((p4 &&& (63 : Int32)).toInt64)), .second, .val (.int (p1 &&& (3 : Int32))), .val (.int (1 : Int32)), .unset] [])) _
    refine XS.iconst X3.here hx rfl (hb hby at_45) ?_
    show Steps p.tables e below (T3.setTop (mkF m 46 #[.val (.long q1), .second, .val (.int p1), .val (.int p2), .val (.int p3), .val (.int p4), .val (.ref b1), .val (.long ((p2 &&& (63 : Int32)).toInt64)), .second, .val (.long ((p3 &&& (63 : Int32)).toInt64)), .second, .val (.long ((p4 &&& (63 : Int32)).toInt64)), .second, .val (.int (p1 &&& (3 : Int32))), .val (.int (1 : Int32)), .unset] [(.int (0 : Int32))])) _
    refine XS.istore X3.here hx rfl (hb hby at_46) rfl (l' := #[.val (.long q1), .second, .val (.int p1), .val (.int p2), .val (.int p3), .val (.int p4), .val (.ref b1), .val (.long ((p2 &&& (63 : Int32)).toInt64)), .second, .val (.long ((p3 &&& (63 : Int32)).toInt64)), .second, .val (.long ((p4 &&& (63 : Int32)).toInt64)), .second, .val (.int (p1 &&& (3 : Int32))), .val (.int (1 : Int32)), .val (.int (0 : Int32))]) rfl ?_
    show Steps p.tables e below (T3.setTop (mkF m 48 #[.val (.long q1), .second, .val (.int p1), .val (.int p2), .val (.int p3), .val (.int p4), .val (.ref b1), .val (.long ((p2 &&& (63 : Int32)).toInt64)), .second, .val (.long ((p3 &&& (63 : Int32)).toInt64)), .second, .val (.long ((p4 &&& (63 : Int32)).toInt64)), .second, .val (.int (p1 &&& (3 : Int32))), .val (.int (1 : Int32)), .val (.int (0 : Int32))] [])) _
    refine XS.iload X3.here hx rfl (hb hby at_48) rfl ?_
    show Steps p.tables e below (T3.setTop (mkF m 50 #[.val (.long q1), .second, .val (.int p1), .val (.int p2), .val (.int p3), .val (.int p4), .val (.ref b1), .val (.long ((p2 &&& (63 : Int32)).toInt64)), .second, .val (.long ((p3 &&& (63 : Int32)).toInt64)), .second, .val (.long ((p4 &&& (63 : Int32)).toInt64)), .second, .val (.int (p1 &&& (3 : Int32))), .val (.int (1 : Int32)), .val (.int (0 : Int32))] [(.int (p1 &&& (3 : Int32)))])) _
    refine XS.iconst X3.here hx rfl (hb hby at_50) ?_
    exact kt
  by_cases hc51_4 : (p1 &&& (3 : Int32)) < (1 : Int32)
  · have hd5 : (p1 &&& (3 : Int32)) < (2 : Int32) := Int32.lt_trans hc51_4 (by decide)
    have hd6 : (p1 &&& (3 : Int32)) < (3 : Int32) := Int32.lt_trans hc51_4 (by decide)
    obtain ⟨fs, hr, hrun, hended, hW, hsame⟩ := X3.leave (v := some (.int (1 : Int32))) (fun h => by rw [Bd.returns] at h; cases h)
    refine ⟨_, _, pre4 _ ?_, hrun, hended, _, _, rfl, ?_, ⟨_, rfl⟩, hW, hsame.mono (by show 3 ≤ 32; omega) (by show 39 + own_F (16 : Int32) ≤ 704; have := own_Fle (Or.inl rfl); omega)⟩
    · show Steps p.tables e below (T3.setTop (mkF m 51 #[.val (.long q1), .second, .val (.int p1), .val (.int p2), .val (.int p3), .val (.int p4), .val (.ref b1), .val (.long ((p2 &&& (63 : Int32)).toInt64)), .second, .val (.long ((p3 &&& (63 : Int32)).toInt64)), .second, .val (.long ((p4 &&& (63 : Int32)).toInt64)), .second, .val (.int (p1 &&& (3 : Int32))), .val (.int (1 : Int32)), .val (.int (0 : Int32))] [(.int (1 : Int32)), (.int (p1 &&& (3 : Int32)))])) _
      refine XS.icmpYes X3.here hx rfl (pc0 := 51) (pc' := 111) rfl (hb hby at_51) rfl (tlt hc51_4).1 (by decide) (by decide) ?_
      show Steps p.tables e below (T3.setTop (mkF m 111 #[.val (.long q1), .second, .val (.int p1), .val (.int p2), .val (.int p3), .val (.int p4), .val (.ref b1), .val (.long ((p2 &&& (63 : Int32)).toInt64)), .second, .val (.long ((p3 &&& (63 : Int32)).toInt64)), .second, .val (.long ((p4 &&& (63 : Int32)).toInt64)), .second, .val (.int (p1 &&& (3 : Int32))), .val (.int (1 : Int32)), .val (.int (0 : Int32))] [])) _
      refine XS.iload X3.here hx rfl (hb hby at_111) rfl ?_
      show Steps p.tables e below (T3.setTop (mkF m 113 #[.val (.long q1), .second, .val (.int p1), .val (.int p2), .val (.int p3), .val (.int p4), .val (.ref b1), .val (.long ((p2 &&& (63 : Int32)).toInt64)), .second, .val (.long ((p3 &&& (63 : Int32)).toInt64)), .second, .val (.long ((p4 &&& (63 : Int32)).toInt64)), .second, .val (.int (p1 &&& (3 : Int32))), .val (.int (1 : Int32)), .val (.int (0 : Int32))] [(.int (p1 &&& (3 : Int32)))])) _
      refine XS.iconst X3.here hx rfl (hb hby at_113) ?_
      show Steps p.tables e below (T3.setTop (mkF m 114 #[.val (.long q1), .second, .val (.int p1), .val (.int p2), .val (.int p3), .val (.int p4), .val (.ref b1), .val (.long ((p2 &&& (63 : Int32)).toInt64)), .second, .val (.long ((p3 &&& (63 : Int32)).toInt64)), .second, .val (.long ((p4 &&& (63 : Int32)).toInt64)), .second, .val (.int (p1 &&& (3 : Int32))), .val (.int (1 : Int32)), .val (.int (0 : Int32))] [(.int (2 : Int32)), (.int (p1 &&& (3 : Int32)))])) _
      refine XS.icmpYes X3.here hx rfl (pc0 := 114) (pc' := 174) rfl (hb hby at_114) rfl (tlt hd5).1 (by decide) (by decide) ?_
      show Steps p.tables e below (T3.setTop (mkF m 174 #[.val (.long q1), .second, .val (.int p1), .val (.int p2), .val (.int p3), .val (.int p4), .val (.ref b1), .val (.long ((p2 &&& (63 : Int32)).toInt64)), .second, .val (.long ((p3 &&& (63 : Int32)).toInt64)), .second, .val (.long ((p4 &&& (63 : Int32)).toInt64)), .second, .val (.int (p1 &&& (3 : Int32))), .val (.int (1 : Int32)), .val (.int (0 : Int32))] [])) _
      refine XS.iload X3.here hx rfl (hb hby at_174) rfl ?_
      show Steps p.tables e below (T3.setTop (mkF m 176 #[.val (.long q1), .second, .val (.int p1), .val (.int p2), .val (.int p3), .val (.int p4), .val (.ref b1), .val (.long ((p2 &&& (63 : Int32)).toInt64)), .second, .val (.long ((p3 &&& (63 : Int32)).toInt64)), .second, .val (.long ((p4 &&& (63 : Int32)).toInt64)), .second, .val (.int (p1 &&& (3 : Int32))), .val (.int (1 : Int32)), .val (.int (0 : Int32))] [(.int (p1 &&& (3 : Int32)))])) _
      refine XS.iconst X3.here hx rfl (hb hby at_176) ?_
      show Steps p.tables e below (T3.setTop (mkF m 177 #[.val (.long q1), .second, .val (.int p1), .val (.int p2), .val (.int p3), .val (.int p4), .val (.ref b1), .val (.long ((p2 &&& (63 : Int32)).toInt64)), .second, .val (.long ((p3 &&& (63 : Int32)).toInt64)), .second, .val (.long ((p4 &&& (63 : Int32)).toInt64)), .second, .val (.int (p1 &&& (3 : Int32))), .val (.int (1 : Int32)), .val (.int (0 : Int32))] [(.int (3 : Int32)), (.int (p1 &&& (3 : Int32)))])) _
      refine XS.icmpYes X3.here hx rfl (pc0 := 177) (pc' := 237) rfl (hb hby at_177) rfl (tlt hd6).1 (by decide) (by decide) ?_
      show Steps p.tables e below (T3.setTop (mkF m 237 #[.val (.long q1), .second, .val (.int p1), .val (.int p2), .val (.int p3), .val (.int p4), .val (.ref b1), .val (.long ((p2 &&& (63 : Int32)).toInt64)), .second, .val (.long ((p3 &&& (63 : Int32)).toInt64)), .second, .val (.long ((p4 &&& (63 : Int32)).toInt64)), .second, .val (.int (p1 &&& (3 : Int32))), .val (.int (1 : Int32)), .val (.int (0 : Int32))] [])) _
      refine XS.iload X3.here hx rfl (hb hby at_237) rfl ?_
      show Steps p.tables e below (T3.setTop (mkF m 239 #[.val (.long q1), .second, .val (.int p1), .val (.int p2), .val (.int p3), .val (.int p4), .val (.ref b1), .val (.long ((p2 &&& (63 : Int32)).toInt64)), .second, .val (.long ((p3 &&& (63 : Int32)).toInt64)), .second, .val (.long ((p4 &&& (63 : Int32)).toInt64)), .second, .val (.int (p1 &&& (3 : Int32))), .val (.int (1 : Int32)), .val (.int (0 : Int32))] [(.int (1 : Int32))])) _
      exact retN X3 hx (t := .boolean) Bd.returns (by simp) (hb hby at_239) hr
    · show Q_rm0 Z q1 p1 p2 p3 p4 h0 n0 _ T3.heap _
      rw [eq3]
      exact ⟨rfl, N3⟩
  · have pre7 : ∀ t, Steps p.tables e below (T3.setTop (mkF m 59 #[.val (.long q1), .second, .val (.int p1), .val (.int p2), .val (.int p3), .val (.int p4), .val (.ref b1), .val (.long ((p2 &&& (63 : Int32)).toInt64)), .second, .val (.long ((p3 &&& (63 : Int32)).toInt64)), .second, .val (.long ((p4 &&& (63 : Int32)).toInt64)), .second, .val (.int (p1 &&& (3 : Int32))), .val (.int (1 : Int32)), .val (.int (0 : Int32))] [.null, (.long ((p2 &&& (63 : Int32)).toInt64)), (.ref b1)])) t → Steps p.tables e below (s₁.setTop (entryFrame m #[(.long q1), (.int p1), (.int p2), (.int p3), (.int p4)] maxLocals)) t := by
      intro t kt
      refine pre4 _ ?_
      show Steps p.tables e below (T3.setTop (mkF m 51 #[.val (.long q1), .second, .val (.int p1), .val (.int p2), .val (.int p3), .val (.int p4), .val (.ref b1), .val (.long ((p2 &&& (63 : Int32)).toInt64)), .second, .val (.long ((p3 &&& (63 : Int32)).toInt64)), .second, .val (.long ((p4 &&& (63 : Int32)).toInt64)), .second, .val (.int (p1 &&& (3 : Int32))), .val (.int (1 : Int32)), .val (.int (0 : Int32))] [(.int (1 : Int32)), (.int (p1 &&& (3 : Int32)))])) _
      refine XS.icmpNo X3.here hx rfl (hb hby at_51) rfl (flt hc51_4).1 ?_
      show Steps p.tables e below (T3.setTop (mkF m 54 #[.val (.long q1), .second, .val (.int p1), .val (.int p2), .val (.int p3), .val (.int p4), .val (.ref b1), .val (.long ((p2 &&& (63 : Int32)).toInt64)), .second, .val (.long ((p3 &&& (63 : Int32)).toInt64)), .second, .val (.long ((p4 &&& (63 : Int32)).toInt64)), .second, .val (.int (p1 &&& (3 : Int32))), .val (.int (1 : Int32)), .val (.int (0 : Int32))] [])) _
      refine XS.aload X3.here hx rfl (hb hby at_54) rfl rfl ?_
      show Steps p.tables e below (T3.setTop (mkF m 56 #[.val (.long q1), .second, .val (.int p1), .val (.int p2), .val (.int p3), .val (.int p4), .val (.ref b1), .val (.long ((p2 &&& (63 : Int32)).toInt64)), .second, .val (.long ((p3 &&& (63 : Int32)).toInt64)), .second, .val (.long ((p4 &&& (63 : Int32)).toInt64)), .second, .val (.int (p1 &&& (3 : Int32))), .val (.int (1 : Int32)), .val (.int (0 : Int32))] [(.ref b1)])) _
      refine XS.lload X3.here hx rfl (hb hby at_56) rfl ?_
      show Steps p.tables e below (T3.setTop (mkF m 58 #[.val (.long q1), .second, .val (.int p1), .val (.int p2), .val (.int p3), .val (.int p4), .val (.ref b1), .val (.long ((p2 &&& (63 : Int32)).toInt64)), .second, .val (.long ((p3 &&& (63 : Int32)).toInt64)), .second, .val (.long ((p4 &&& (63 : Int32)).toInt64)), .second, .val (.int (p1 &&& (3 : Int32))), .val (.int (1 : Int32)), .val (.int (0 : Int32))] [(.long ((p2 &&& (63 : Int32)).toInt64)), (.ref b1)])) _
      refine XS.aconstNull X3.here hx rfl (hb hby at_58) ?_
      exact kt
    by_cases hc59_7 : (0 : Int32) < (lcmpW ((p2 &&& (63 : Int32)).toInt64) q1)
    · obtain ⟨T8, h8, locs8, X8, e8, O8, N8, D8, st8⟩ := schedD (s0 := 39) (M := (16 : Int32)) (P' := 0) (k' := 0) X3 hx hZ hw hown eq3 Oq2 N3 Dq2 g_b1 (own_63 p2).1 (own_63 p2).2 hc59_7 (g := (mkF m 59 #[.val (.long q1), .second, .val (.int p1), .val (.int p2), .val (.int p3), .val (.int p4), .val (.ref b1), .val (.long ((p2 &&& (63 : Int32)).toInt64)), .second, .val (.long ((p3 &&& (63 : Int32)).toInt64)), .second, .val (.long ((p4 &&& (63 : Int32)).toInt64)), .second, .val (.int (p1 &&& (3 : Int32))), .val (.int (1 : Int32)), .val (.int (0 : Int32))] [.null, (.long ((p2 &&& (63 : Int32)).toInt64)), (.ref b1)])) rfl rfl (by rw [hml]; rfl) rfl (hb hby at_59) (by omega) (by have := own_Fle (Or.inl rfl); omega)
      obtain ⟨cq9, kq9, q9a, q9b, q9c⟩ := isOf hZ e8 (own_exaD D8)
      obtain ⟨_, _, ⟨T9, L9, k9, n9⟩, -, X9, ⟨Lc9, hQ9, l9, y9, z9⟩, st9⟩ := X8.virtualBack hx (y := (⟨"com/example/januswire/januswire/sim/DueEvents", "isEmpty", "()Z"⟩ : MethodName)) (z := (⟨"com/example/januswire/januswire/sim/DueEvents", "isEmpty", "()Z"⟩ : MethodName)) hown (mvT hZ (hw _ (List.mem_of_getElem? (i := 23) rfl))) (mvT hZ (hw _ (List.mem_of_getElem? (i := 24) rfl))) (notFace_of_selects (args := #[]) (mvT hZ (hw _ (List.mem_of_getElem? (i := 26) rfl)))) (mvT hZ (hw _ (List.mem_of_getElem? (i := 26) rfl))) (mvT hZ (hw _ (List.mem_of_getElem? (i := 25) rfl))) (by decide) (backOf (W := 0) (isE_0 l Z a0 hw [] b1 h8 n0 O8 (own_penD D8)) hZ (hw _ (List.mem_of_getElem? (i := 27) rfl)) (hw _ (List.mem_of_getElem? (i := 2) rfl)) (by decide) (by decide)) q9a q9c (g := (mkF m 88 #[.val (.long q1), .second, .val (.int p1), .val (.int p2), .val (.int p3), .val (.int p4), .val (.ref b1), .val (.long ((p2 &&& (63 : Int32)).toInt64)), .second, .val (.long ((p3 &&& (63 : Int32)).toInt64)), .second, .val (.long ((p4 &&& (63 : Int32)).toInt64)), .second, .val (.int (p1 &&& (3 : Int32))), .val (.int (1 : Int32)), .val (.int (0 : Int32))] [(.ref b1)])) rfl (by rw [hml]; rfl) (Steps.refl _) (argsL := []) (rest := []) (lenOf pd___Z rfl) rfl (by show 2 * 0 + _ ≤ _; exact Nat.le_of_eq rfl) (hb hby at_88) (fun _ _ => ⟨rfl, e8, (by show 3 + 0 ≤ 32; omega), (by show 39 + own_F (16 : Int32) + 0 ≤ 704; have := own_Fle (Or.inl rfl); omega)⟩)
      dsimp only [Pt.U, Pt.locs, Pt.cells, Pt.slots] at X9 l9 y9 z9 st9 hQ9
      subst l9 y9 z9
      obtain ⟨rfl, Nq9, eq9⟩ := hQ9
      have N9 := Fr.app N8 Nq9
      have pre10 : ∀ t, Steps p.tables e below (T9.setTop (mkF m 114 #[.val (.long q1), .second, .val (.int p1), .val (.int p2), .val (.int p3), .val (.int p4), .val (.ref b1), .val (.long ((p2 &&& (63 : Int32)).toInt64)), .second, .val (.long ((p3 &&& (63 : Int32)).toInt64)), .second, .val (.long ((p4 &&& (63 : Int32)).toInt64)), .second, .val (.int (p1 &&& (3 : Int32))), .val (.int (1 : Int32)), .val (.int (0 : Int32))] [(.int (2 : Int32)), (.int (p1 &&& (3 : Int32)))])) t → Steps p.tables e below (s₁.setTop (entryFrame m #[(.long q1), (.int p1), (.int p2), (.int p3), (.int p4)] maxLocals)) t := by
        intro t kt
        refine pre7 _ ?_
        show Steps p.tables e below (T3.setTop (mkF m 59 #[.val (.long q1), .second, .val (.int p1), .val (.int p2), .val (.int p3), .val (.int p4), .val (.ref b1), .val (.long ((p2 &&& (63 : Int32)).toInt64)), .second, .val (.long ((p3 &&& (63 : Int32)).toInt64)), .second, .val (.long ((p4 &&& (63 : Int32)).toInt64)), .second, .val (.int (p1 &&& (3 : Int32))), .val (.int (1 : Int32)), .val (.int (0 : Int32))] [.null, (.long ((p2 &&& (63 : Int32)).toInt64)), (.ref b1)])) _
        refine st8.trans ?_
        show Steps p.tables e below (T8.setTop (mkF m 62 #[.val (.long q1), .second, .val (.int p1), .val (.int p2), .val (.int p3), .val (.int p4), .val (.ref b1), .val (.long ((p2 &&& (63 : Int32)).toInt64)), .second, .val (.long ((p3 &&& (63 : Int32)).toInt64)), .second, .val (.long ((p4 &&& (63 : Int32)).toInt64)), .second, .val (.int (p1 &&& (3 : Int32))), .val (.int (1 : Int32)), .val (.int (0 : Int32))] [])) _
        refine XS.iload X8.here hx rfl (hb hby at_62) rfl ?_
        show Steps p.tables e below (T8.setTop (mkF m 64 #[.val (.long q1), .second, .val (.int p1), .val (.int p2), .val (.int p3), .val (.int p4), .val (.ref b1), .val (.long ((p2 &&& (63 : Int32)).toInt64)), .second, .val (.long ((p3 &&& (63 : Int32)).toInt64)), .second, .val (.long ((p4 &&& (63 : Int32)).toInt64)), .second, .val (.int (p1 &&& (3 : Int32))), .val (.int (1 : Int32)), .val (.int (0 : Int32))] [(.int (0 : Int32))])) _
        refine XS.ifNo X8.here hx rfl (hb hby at_64) rfl ((if0 _ _).trans (teq (by decide : (0 : Int32) = (0 : Int32))).2) ?_
        show Steps p.tables e below (T8.setTop (mkF m 67 #[.val (.long q1), .second, .val (.int p1), .val (.int p2), .val (.int p3), .val (.int p4), .val (.ref b1), .val (.long ((p2 &&& (63 : Int32)).toInt64)), .second, .val (.long ((p3 &&& (63 : Int32)).toInt64)), .second, .val (.long ((p4 &&& (63 : Int32)).toInt64)), .second, .val (.int (p1 &&& (3 : Int32))), .val (.int (1 : Int32)), .val (.int (0 : Int32))] [])) _
        refine XS.lload X8.here hx rfl (hb hby at_67) rfl ?_
        show Steps p.tables e below (T8.setTop (mkF m 69 #[.val (.long q1), .second, .val (.int p1), .val (.int p2), .val (.int p3), .val (.int p4), .val (.ref b1), .val (.long ((p2 &&& (63 : Int32)).toInt64)), .second, .val (.long ((p3 &&& (63 : Int32)).toInt64)), .second, .val (.long ((p4 &&& (63 : Int32)).toInt64)), .second, .val (.int (p1 &&& (3 : Int32))), .val (.int (1 : Int32)), .val (.int (0 : Int32))] [(.long ((p2 &&& (63 : Int32)).toInt64))])) _
        refine XS.lloadN X8.here hx rfl (hb hby at_69) rfl ?_
        show Steps p.tables e below (T8.setTop (mkF m 70 #[.val (.long q1), .second, .val (.int p1), .val (.int p2), .val (.int p3), .val (.int p4), .val (.ref b1), .val (.long ((p2 &&& (63 : Int32)).toInt64)), .second, .val (.long ((p3 &&& (63 : Int32)).toInt64)), .second, .val (.long ((p4 &&& (63 : Int32)).toInt64)), .second, .val (.int (p1 &&& (3 : Int32))), .val (.int (1 : Int32)), .val (.int (0 : Int32))] [(.long q1), (.long ((p2 &&& (63 : Int32)).toInt64))])) _
        refine XS.lcmp X8.here hx rfl (hb hby at_70) rfl ?_
        show Steps p.tables e below (T8.setTop (mkF m 71 #[.val (.long q1), .second, .val (.int p1), .val (.int p2), .val (.int p3), .val (.int p4), .val (.ref b1), .val (.long ((p2 &&& (63 : Int32)).toInt64)), .second, .val (.long ((p3 &&& (63 : Int32)).toInt64)), .second, .val (.long ((p4 &&& (63 : Int32)).toInt64)), .second, .val (.int (p1 &&& (3 : Int32))), .val (.int (1 : Int32)), .val (.int (0 : Int32))] [(.int (lcmpW ((p2 &&& (63 : Int32)).toInt64) q1))])) _
        refine XS.ifYes X8.here hx rfl (pc0 := 71) (pc' := 78) rfl (hb hby at_71) rfl ((if0 _ _).trans (tlt hc59_7).2.2.1) (by decide) (by decide) ?_
        show Steps p.tables e below (T8.setTop (mkF m 78 #[.val (.long q1), .second, .val (.int p1), .val (.int p2), .val (.int p3), .val (.int p4), .val (.ref b1), .val (.long ((p2 &&& (63 : Int32)).toInt64)), .second, .val (.long ((p3 &&& (63 : Int32)).toInt64)), .second, .val (.long ((p4 &&& (63 : Int32)).toInt64)), .second, .val (.int (p1 &&& (3 : Int32))), .val (.int (1 : Int32)), .val (.int (0 : Int32))] [])) _
        refine XS.iconst X8.here hx rfl (hb hby at_78) ?_
        show Steps p.tables e below (T8.setTop (mkF m 79 #[.val (.long q1), .second, .val (.int p1), .val (.int p2), .val (.int p3), .val (.int p4), .val (.ref b1), .val (.long ((p2 &&& (63 : Int32)).toInt64)), .second, .val (.long ((p3 &&& (63 : Int32)).toInt64)), .second, .val (.long ((p4 &&& (63 : Int32)).toInt64)), .second, .val (.int (p1 &&& (3 : Int32))), .val (.int (1 : Int32)), .val (.int (0 : Int32))] [(.int (0 : Int32))])) _
        refine XS.istore X8.here hx rfl (hb hby at_79) rfl (l' := #[.val (.long q1), .second, .val (.int p1), .val (.int p2), .val (.int p3), .val (.int p4), .val (.ref b1), .val (.long ((p2 &&& (63 : Int32)).toInt64)), .second, .val (.long ((p3 &&& (63 : Int32)).toInt64)), .second, .val (.long ((p4 &&& (63 : Int32)).toInt64)), .second, .val (.int (p1 &&& (3 : Int32))), .val (.int (1 : Int32)), .val (.int (0 : Int32))]) rfl ?_
        show Steps p.tables e below (T8.setTop (mkF m 81 #[.val (.long q1), .second, .val (.int p1), .val (.int p2), .val (.int p3), .val (.int p4), .val (.ref b1), .val (.long ((p2 &&& (63 : Int32)).toInt64)), .second, .val (.long ((p3 &&& (63 : Int32)).toInt64)), .second, .val (.long ((p4 &&& (63 : Int32)).toInt64)), .second, .val (.int (p1 &&& (3 : Int32))), .val (.int (1 : Int32)), .val (.int (0 : Int32))] [])) _
        refine XS.iload X8.here hx rfl (hb hby at_81) rfl ?_
        show Steps p.tables e below (T8.setTop (mkF m 83 #[.val (.long q1), .second, .val (.int p1), .val (.int p2), .val (.int p3), .val (.int p4), .val (.ref b1), .val (.long ((p2 &&& (63 : Int32)).toInt64)), .second, .val (.long ((p3 &&& (63 : Int32)).toInt64)), .second, .val (.long ((p4 &&& (63 : Int32)).toInt64)), .second, .val (.int (p1 &&& (3 : Int32))), .val (.int (1 : Int32)), .val (.int (0 : Int32))] [(.int (1 : Int32))])) _
        refine XS.ifNo X8.here hx rfl (hb hby at_83) rfl ((if0 _ _).trans (feq (by decide : ¬ ((1 : Int32) = (0 : Int32)))).1) ?_
        show Steps p.tables e below (T8.setTop (mkF m 86 #[.val (.long q1), .second, .val (.int p1), .val (.int p2), .val (.int p3), .val (.int p4), .val (.ref b1), .val (.long ((p2 &&& (63 : Int32)).toInt64)), .second, .val (.long ((p3 &&& (63 : Int32)).toInt64)), .second, .val (.long ((p4 &&& (63 : Int32)).toInt64)), .second, .val (.int (p1 &&& (3 : Int32))), .val (.int (1 : Int32)), .val (.int (0 : Int32))] [])) _
        refine XS.aload X8.here hx rfl (hb hby at_86) rfl rfl ?_
        show Steps p.tables e below (T8.setTop (mkF m 88 #[.val (.long q1), .second, .val (.int p1), .val (.int p2), .val (.int p3), .val (.int p4), .val (.ref b1), .val (.long ((p2 &&& (63 : Int32)).toInt64)), .second, .val (.long ((p3 &&& (63 : Int32)).toInt64)), .second, .val (.long ((p4 &&& (63 : Int32)).toInt64)), .second, .val (.int (p1 &&& (3 : Int32))), .val (.int (1 : Int32)), .val (.int (0 : Int32))] [(.ref b1)])) _
        refine st9.trans ?_
        show Steps p.tables e below (T9.setTop (mkF m 91 #[.val (.long q1), .second, .val (.int p1), .val (.int p2), .val (.int p3), .val (.int p4), .val (.ref b1), .val (.long ((p2 &&& (63 : Int32)).toInt64)), .second, .val (.long ((p3 &&& (63 : Int32)).toInt64)), .second, .val (.long ((p4 &&& (63 : Int32)).toInt64)), .second, .val (.int (p1 &&& (3 : Int32))), .val (.int (1 : Int32)), .val (.int (0 : Int32))] [(.int (1 : Int32))])) _
        refine XS.iload X9.here hx rfl (hb hby at_91) rfl ?_
        show Steps p.tables e below (T9.setTop (mkF m 93 #[.val (.long q1), .second, .val (.int p1), .val (.int p2), .val (.int p3), .val (.int p4), .val (.ref b1), .val (.long ((p2 &&& (63 : Int32)).toInt64)), .second, .val (.long ((p3 &&& (63 : Int32)).toInt64)), .second, .val (.long ((p4 &&& (63 : Int32)).toInt64)), .second, .val (.int (p1 &&& (3 : Int32))), .val (.int (1 : Int32)), .val (.int (0 : Int32))] [(.int (0 : Int32)), (.int (1 : Int32))])) _
        refine XS.ifNo X9.here hx rfl (hb hby at_93) rfl ((if0 _ _).trans (teq (by decide : (0 : Int32) = (0 : Int32))).2) ?_
        show Steps p.tables e below (T9.setTop (mkF m 96 #[.val (.long q1), .second, .val (.int p1), .val (.int p2), .val (.int p3), .val (.int p4), .val (.ref b1), .val (.long ((p2 &&& (63 : Int32)).toInt64)), .second, .val (.long ((p3 &&& (63 : Int32)).toInt64)), .second, .val (.long ((p4 &&& (63 : Int32)).toInt64)), .second, .val (.int (p1 &&& (3 : Int32))), .val (.int (1 : Int32)), .val (.int (0 : Int32))] [(.int (1 : Int32))])) _
        refine XS.iconst X9.here hx rfl (hb hby at_96) ?_
        show Steps p.tables e below (T9.setTop (mkF m 97 #[.val (.long q1), .second, .val (.int p1), .val (.int p2), .val (.int p3), .val (.int p4), .val (.ref b1), .val (.long ((p2 &&& (63 : Int32)).toInt64)), .second, .val (.long ((p3 &&& (63 : Int32)).toInt64)), .second, .val (.long ((p4 &&& (63 : Int32)).toInt64)), .second, .val (.int (p1 &&& (3 : Int32))), .val (.int (1 : Int32)), .val (.int (0 : Int32))] [(.int (1 : Int32)), (.int (1 : Int32))])) _
        refine XS.goto X9.here hx rfl (pc0 := 97) (pc' := 101) rfl (hb hby at_97) (by decide) (by decide) ?_
        show Steps p.tables e below (T9.setTop (mkF m 101 #[.val (.long q1), .second, .val (.int p1), .val (.int p2), .val (.int p3), .val (.int p4), .val (.ref b1), .val (.long ((p2 &&& (63 : Int32)).toInt64)), .second, .val (.long ((p3 &&& (63 : Int32)).toInt64)), .second, .val (.long ((p4 &&& (63 : Int32)).toInt64)), .second, .val (.int (p1 &&& (3 : Int32))), .val (.int (1 : Int32)), .val (.int (0 : Int32))] [(.int (1 : Int32)), (.int (1 : Int32))])) _
        refine XS.icmpNo X9.here hx rfl (hb hby at_101) rfl (teq (by decide : (1 : Int32) = (1 : Int32))).2 ?_
        show Steps p.tables e below (T9.setTop (mkF m 104 #[.val (.long q1), .second, .val (.int p1), .val (.int p2), .val (.int p3), .val (.int p4), .val (.ref b1), .val (.long ((p2 &&& (63 : Int32)).toInt64)), .second, .val (.long ((p3 &&& (63 : Int32)).toInt64)), .second, .val (.long ((p4 &&& (63 : Int32)).toInt64)), .second, .val (.int (p1 &&& (3 : Int32))), .val (.int (1 : Int32)), .val (.int (0 : Int32))] [])) _
        refine XS.iconst X9.here hx rfl (hb hby at_104) ?_
        show Steps p.tables e below (T9.setTop (mkF m 105 #[.val (.long q1), .second, .val (.int p1), .val (.int p2), .val (.int p3), .val (.int p4), .val (.ref b1), .val (.long ((p2 &&& (63 : Int32)).toInt64)), .second, .val (.long ((p3 &&& (63 : Int32)).toInt64)), .second, .val (.long ((p4 &&& (63 : Int32)).toInt64)), .second, .val (.int (p1 &&& (3 : Int32))), .val (.int (1 : Int32)), .val (.int (0 : Int32))] [(.int (1 : Int32))])) _
        refine XS.goto X9.here hx rfl (pc0 := 105) (pc' := 109) rfl (hb hby at_105) (by decide) (by decide) ?_
        show Steps p.tables e below (T9.setTop (mkF m 109 #[.val (.long q1), .second, .val (.int p1), .val (.int p2), .val (.int p3), .val (.int p4), .val (.ref b1), .val (.long ((p2 &&& (63 : Int32)).toInt64)), .second, .val (.long ((p3 &&& (63 : Int32)).toInt64)), .second, .val (.long ((p4 &&& (63 : Int32)).toInt64)), .second, .val (.int (p1 &&& (3 : Int32))), .val (.int (1 : Int32)), .val (.int (0 : Int32))] [(.int (1 : Int32))])) _
        refine XS.istore X9.here hx rfl (hb hby at_109) rfl (l' := #[.val (.long q1), .second, .val (.int p1), .val (.int p2), .val (.int p3), .val (.int p4), .val (.ref b1), .val (.long ((p2 &&& (63 : Int32)).toInt64)), .second, .val (.long ((p3 &&& (63 : Int32)).toInt64)), .second, .val (.long ((p4 &&& (63 : Int32)).toInt64)), .second, .val (.int (p1 &&& (3 : Int32))), .val (.int (1 : Int32)), .val (.int (0 : Int32))]) rfl ?_
        show Steps p.tables e below (T9.setTop (mkF m 111 #[.val (.long q1), .second, .val (.int p1), .val (.int p2), .val (.int p3), .val (.int p4), .val (.ref b1), .val (.long ((p2 &&& (63 : Int32)).toInt64)), .second, .val (.long ((p3 &&& (63 : Int32)).toInt64)), .second, .val (.long ((p4 &&& (63 : Int32)).toInt64)), .second, .val (.int (p1 &&& (3 : Int32))), .val (.int (1 : Int32)), .val (.int (0 : Int32))] [])) _
        refine XS.iload X9.here hx rfl (hb hby at_111) rfl ?_
        show Steps p.tables e below (T9.setTop (mkF m 113 #[.val (.long q1), .second, .val (.int p1), .val (.int p2), .val (.int p3), .val (.int p4), .val (.ref b1), .val (.long ((p2 &&& (63 : Int32)).toInt64)), .second, .val (.long ((p3 &&& (63 : Int32)).toInt64)), .second, .val (.long ((p4 &&& (63 : Int32)).toInt64)), .second, .val (.int (p1 &&& (3 : Int32))), .val (.int (1 : Int32)), .val (.int (0 : Int32))] [(.int (p1 &&& (3 : Int32)))])) _
        refine XS.iconst X9.here hx rfl (hb hby at_113) ?_
        exact kt
      by_cases hc114_10 : (p1 &&& (3 : Int32)) < (2 : Int32)
      · have hd11 : (p1 &&& (3 : Int32)) < (3 : Int32) := Int32.lt_trans hc114_10 (by decide)
        obtain ⟨fs, hr, hrun, hended, hW, hsame⟩ := X9.leave (v := some (.int (1 : Int32))) (fun h => by rw [Bd.returns] at h; cases h)
        refine ⟨_, _, pre10 _ ?_, hrun, hended, _, _, rfl, ?_, ⟨_, rfl⟩, hW, hsame.mono (by show 3 ≤ 32; omega) (by show 39 + own_F (16 : Int32) ≤ 704; have := own_Fle (Or.inl rfl); omega)⟩
        · show Steps p.tables e below (T9.setTop (mkF m 114 #[.val (.long q1), .second, .val (.int p1), .val (.int p2), .val (.int p3), .val (.int p4), .val (.ref b1), .val (.long ((p2 &&& (63 : Int32)).toInt64)), .second, .val (.long ((p3 &&& (63 : Int32)).toInt64)), .second, .val (.long ((p4 &&& (63 : Int32)).toInt64)), .second, .val (.int (p1 &&& (3 : Int32))), .val (.int (1 : Int32)), .val (.int (0 : Int32))] [(.int (2 : Int32)), (.int (p1 &&& (3 : Int32)))])) _
          refine XS.icmpYes X9.here hx rfl (pc0 := 114) (pc' := 174) rfl (hb hby at_114) rfl (tlt hc114_10).1 (by decide) (by decide) ?_
          show Steps p.tables e below (T9.setTop (mkF m 174 #[.val (.long q1), .second, .val (.int p1), .val (.int p2), .val (.int p3), .val (.int p4), .val (.ref b1), .val (.long ((p2 &&& (63 : Int32)).toInt64)), .second, .val (.long ((p3 &&& (63 : Int32)).toInt64)), .second, .val (.long ((p4 &&& (63 : Int32)).toInt64)), .second, .val (.int (p1 &&& (3 : Int32))), .val (.int (1 : Int32)), .val (.int (0 : Int32))] [])) _
          refine XS.iload X9.here hx rfl (hb hby at_174) rfl ?_
          show Steps p.tables e below (T9.setTop (mkF m 176 #[.val (.long q1), .second, .val (.int p1), .val (.int p2), .val (.int p3), .val (.int p4), .val (.ref b1), .val (.long ((p2 &&& (63 : Int32)).toInt64)), .second, .val (.long ((p3 &&& (63 : Int32)).toInt64)), .second, .val (.long ((p4 &&& (63 : Int32)).toInt64)), .second, .val (.int (p1 &&& (3 : Int32))), .val (.int (1 : Int32)), .val (.int (0 : Int32))] [(.int (p1 &&& (3 : Int32)))])) _
          refine XS.iconst X9.here hx rfl (hb hby at_176) ?_
          show Steps p.tables e below (T9.setTop (mkF m 177 #[.val (.long q1), .second, .val (.int p1), .val (.int p2), .val (.int p3), .val (.int p4), .val (.ref b1), .val (.long ((p2 &&& (63 : Int32)).toInt64)), .second, .val (.long ((p3 &&& (63 : Int32)).toInt64)), .second, .val (.long ((p4 &&& (63 : Int32)).toInt64)), .second, .val (.int (p1 &&& (3 : Int32))), .val (.int (1 : Int32)), .val (.int (0 : Int32))] [(.int (3 : Int32)), (.int (p1 &&& (3 : Int32)))])) _
          refine XS.icmpYes X9.here hx rfl (pc0 := 177) (pc' := 237) rfl (hb hby at_177) rfl (tlt hd11).1 (by decide) (by decide) ?_
          show Steps p.tables e below (T9.setTop (mkF m 237 #[.val (.long q1), .second, .val (.int p1), .val (.int p2), .val (.int p3), .val (.int p4), .val (.ref b1), .val (.long ((p2 &&& (63 : Int32)).toInt64)), .second, .val (.long ((p3 &&& (63 : Int32)).toInt64)), .second, .val (.long ((p4 &&& (63 : Int32)).toInt64)), .second, .val (.int (p1 &&& (3 : Int32))), .val (.int (1 : Int32)), .val (.int (0 : Int32))] [])) _
          refine XS.iload X9.here hx rfl (hb hby at_237) rfl ?_
          show Steps p.tables e below (T9.setTop (mkF m 239 #[.val (.long q1), .second, .val (.int p1), .val (.int p2), .val (.int p3), .val (.int p4), .val (.ref b1), .val (.long ((p2 &&& (63 : Int32)).toInt64)), .second, .val (.long ((p3 &&& (63 : Int32)).toInt64)), .second, .val (.long ((p4 &&& (63 : Int32)).toInt64)), .second, .val (.int (p1 &&& (3 : Int32))), .val (.int (1 : Int32)), .val (.int (0 : Int32))] [(.int (1 : Int32))])) _
          exact retN X9 hx (t := .boolean) Bd.returns (by simp) (hb hby at_239) hr
        · show Q_rm0 Z q1 p1 p2 p3 p4 h0 n0 _ T9.heap _
          rw [eq9]
          exact ⟨rfl, N9⟩
      · have pre12 : ∀ t, Steps p.tables e below (T9.setTop (mkF m 122 #[.val (.long q1), .second, .val (.int p1), .val (.int p2), .val (.int p3), .val (.int p4), .val (.ref b1), .val (.long ((p2 &&& (63 : Int32)).toInt64)), .second, .val (.long ((p3 &&& (63 : Int32)).toInt64)), .second, .val (.long ((p4 &&& (63 : Int32)).toInt64)), .second, .val (.int (p1 &&& (3 : Int32))), .val (.int (1 : Int32)), .val (.int (0 : Int32))] [.null, (.long ((p3 &&& (63 : Int32)).toInt64)), (.ref b1)])) t → Steps p.tables e below (s₁.setTop (entryFrame m #[(.long q1), (.int p1), (.int p2), (.int p3), (.int p4)] maxLocals)) t := by
          intro t kt
          refine pre10 _ ?_
          show Steps p.tables e below (T9.setTop (mkF m 114 #[.val (.long q1), .second, .val (.int p1), .val (.int p2), .val (.int p3), .val (.int p4), .val (.ref b1), .val (.long ((p2 &&& (63 : Int32)).toInt64)), .second, .val (.long ((p3 &&& (63 : Int32)).toInt64)), .second, .val (.long ((p4 &&& (63 : Int32)).toInt64)), .second, .val (.int (p1 &&& (3 : Int32))), .val (.int (1 : Int32)), .val (.int (0 : Int32))] [(.int (2 : Int32)), (.int (p1 &&& (3 : Int32)))])) _
          refine XS.icmpNo X9.here hx rfl (hb hby at_114) rfl (flt hc114_10).1 ?_
          show Steps p.tables e below (T9.setTop (mkF m 117 #[.val (.long q1), .second, .val (.int p1), .val (.int p2), .val (.int p3), .val (.int p4), .val (.ref b1), .val (.long ((p2 &&& (63 : Int32)).toInt64)), .second, .val (.long ((p3 &&& (63 : Int32)).toInt64)), .second, .val (.long ((p4 &&& (63 : Int32)).toInt64)), .second, .val (.int (p1 &&& (3 : Int32))), .val (.int (1 : Int32)), .val (.int (0 : Int32))] [])) _
          refine XS.aload X9.here hx rfl (hb hby at_117) rfl rfl ?_
          show Steps p.tables e below (T9.setTop (mkF m 119 #[.val (.long q1), .second, .val (.int p1), .val (.int p2), .val (.int p3), .val (.int p4), .val (.ref b1), .val (.long ((p2 &&& (63 : Int32)).toInt64)), .second, .val (.long ((p3 &&& (63 : Int32)).toInt64)), .second, .val (.long ((p4 &&& (63 : Int32)).toInt64)), .second, .val (.int (p1 &&& (3 : Int32))), .val (.int (1 : Int32)), .val (.int (0 : Int32))] [(.ref b1)])) _
          refine XS.lload X9.here hx rfl (hb hby at_119) rfl ?_
          show Steps p.tables e below (T9.setTop (mkF m 121 #[.val (.long q1), .second, .val (.int p1), .val (.int p2), .val (.int p3), .val (.int p4), .val (.ref b1), .val (.long ((p2 &&& (63 : Int32)).toInt64)), .second, .val (.long ((p3 &&& (63 : Int32)).toInt64)), .second, .val (.long ((p4 &&& (63 : Int32)).toInt64)), .second, .val (.int (p1 &&& (3 : Int32))), .val (.int (1 : Int32)), .val (.int (0 : Int32))] [(.long ((p3 &&& (63 : Int32)).toInt64)), (.ref b1)])) _
          refine XS.aconstNull X9.here hx rfl (hb hby at_121) ?_
          exact kt
        by_cases hc122_12 : (0 : Int32) < (lcmpW ((p3 &&& (63 : Int32)).toInt64) q1)
        · obtain ⟨T13, h13, locs13, X13, e13, O13, N13, D13, st13⟩ := schedD (s0 := 39) (M := (16 : Int32)) (P' := 0) (k' := 0) X9 hx hZ hw hown eq9 O8 N9 D8 g_b1 (own_63 p3).1 (own_63 p3).2 hc122_12 (g := (mkF m 122 #[.val (.long q1), .second, .val (.int p1), .val (.int p2), .val (.int p3), .val (.int p4), .val (.ref b1), .val (.long ((p2 &&& (63 : Int32)).toInt64)), .second, .val (.long ((p3 &&& (63 : Int32)).toInt64)), .second, .val (.long ((p4 &&& (63 : Int32)).toInt64)), .second, .val (.int (p1 &&& (3 : Int32))), .val (.int (1 : Int32)), .val (.int (0 : Int32))] [.null, (.long ((p3 &&& (63 : Int32)).toInt64)), (.ref b1)])) rfl rfl (by rw [hml]; rfl) rfl (hb hby at_122) (by omega) (by have := own_Fle (Or.inl rfl); omega)
          obtain ⟨cq14, kq14, q14a, q14b, q14c⟩ := isOf hZ e13 (own_exaD D13)
          obtain ⟨_, _, ⟨T14, L14, k14, n14⟩, -, X14, ⟨Lc14, hQ14, l14, y14, z14⟩, st14⟩ := X13.virtualBack hx (y := (⟨"com/example/januswire/januswire/sim/DueEvents", "isEmpty", "()Z"⟩ : MethodName)) (z := (⟨"com/example/januswire/januswire/sim/DueEvents", "isEmpty", "()Z"⟩ : MethodName)) hown (mvT hZ (hw _ (List.mem_of_getElem? (i := 23) rfl))) (mvT hZ (hw _ (List.mem_of_getElem? (i := 24) rfl))) (notFace_of_selects (args := #[]) (mvT hZ (hw _ (List.mem_of_getElem? (i := 26) rfl)))) (mvT hZ (hw _ (List.mem_of_getElem? (i := 26) rfl))) (mvT hZ (hw _ (List.mem_of_getElem? (i := 25) rfl))) (by decide) (backOf (W := 0) (isE_0 l Z a0 hw [] b1 h13 n0 O13 (own_penD D13)) hZ (hw _ (List.mem_of_getElem? (i := 27) rfl)) (hw _ (List.mem_of_getElem? (i := 2) rfl)) (by decide) (by decide)) q14a q14c (g := (mkF m 151 #[.val (.long q1), .second, .val (.int p1), .val (.int p2), .val (.int p3), .val (.int p4), .val (.ref b1), .val (.long ((p2 &&& (63 : Int32)).toInt64)), .second, .val (.long ((p3 &&& (63 : Int32)).toInt64)), .second, .val (.long ((p4 &&& (63 : Int32)).toInt64)), .second, .val (.int (p1 &&& (3 : Int32))), .val (.int (1 : Int32)), .val (.int (0 : Int32))] [(.ref b1)])) rfl (by rw [hml]; rfl) (Steps.refl _) (argsL := []) (rest := []) (lenOf pd___Z rfl) rfl (by show 2 * 0 + _ ≤ _; exact Nat.le_of_eq rfl) (hb hby at_151) (fun _ _ => ⟨rfl, e13, (by show 3 + 0 ≤ 32; omega), (by show 39 + own_F (16 : Int32) + 0 ≤ 704; have := own_Fle (Or.inl rfl); omega)⟩)
          dsimp only [Pt.U, Pt.locs, Pt.cells, Pt.slots] at X14 l14 y14 z14 st14 hQ14
          subst l14 y14 z14
          obtain ⟨rfl, Nq14, eq14⟩ := hQ14
          have N14 := Fr.app N13 Nq14
          have pre15 : ∀ t, Steps p.tables e below (T14.setTop (mkF m 177 #[.val (.long q1), .second, .val (.int p1), .val (.int p2), .val (.int p3), .val (.int p4), .val (.ref b1), .val (.long ((p2 &&& (63 : Int32)).toInt64)), .second, .val (.long ((p3 &&& (63 : Int32)).toInt64)), .second, .val (.long ((p4 &&& (63 : Int32)).toInt64)), .second, .val (.int (p1 &&& (3 : Int32))), .val (.int (1 : Int32)), .val (.int (0 : Int32))] [(.int (3 : Int32)), (.int (p1 &&& (3 : Int32)))])) t → Steps p.tables e below (s₁.setTop (entryFrame m #[(.long q1), (.int p1), (.int p2), (.int p3), (.int p4)] maxLocals)) t := by
            intro t kt
            refine pre12 _ ?_
            show Steps p.tables e below (T9.setTop (mkF m 122 #[.val (.long q1), .second, .val (.int p1), .val (.int p2), .val (.int p3), .val (.int p4), .val (.ref b1), .val (.long ((p2 &&& (63 : Int32)).toInt64)), .second, .val (.long ((p3 &&& (63 : Int32)).toInt64)), .second, .val (.long ((p4 &&& (63 : Int32)).toInt64)), .second, .val (.int (p1 &&& (3 : Int32))), .val (.int (1 : Int32)), .val (.int (0 : Int32))] [.null, (.long ((p3 &&& (63 : Int32)).toInt64)), (.ref b1)])) _
            refine st13.trans ?_
            show Steps p.tables e below (T13.setTop (mkF m 125 #[.val (.long q1), .second, .val (.int p1), .val (.int p2), .val (.int p3), .val (.int p4), .val (.ref b1), .val (.long ((p2 &&& (63 : Int32)).toInt64)), .second, .val (.long ((p3 &&& (63 : Int32)).toInt64)), .second, .val (.long ((p4 &&& (63 : Int32)).toInt64)), .second, .val (.int (p1 &&& (3 : Int32))), .val (.int (1 : Int32)), .val (.int (0 : Int32))] [])) _
            refine XS.iload X13.here hx rfl (hb hby at_125) rfl ?_
            show Steps p.tables e below (T13.setTop (mkF m 127 #[.val (.long q1), .second, .val (.int p1), .val (.int p2), .val (.int p3), .val (.int p4), .val (.ref b1), .val (.long ((p2 &&& (63 : Int32)).toInt64)), .second, .val (.long ((p3 &&& (63 : Int32)).toInt64)), .second, .val (.long ((p4 &&& (63 : Int32)).toInt64)), .second, .val (.int (p1 &&& (3 : Int32))), .val (.int (1 : Int32)), .val (.int (0 : Int32))] [(.int (0 : Int32))])) _
            refine XS.ifNo X13.here hx rfl (hb hby at_127) rfl ((if0 _ _).trans (teq (by decide : (0 : Int32) = (0 : Int32))).2) ?_
            show Steps p.tables e below (T13.setTop (mkF m 130 #[.val (.long q1), .second, .val (.int p1), .val (.int p2), .val (.int p3), .val (.int p4), .val (.ref b1), .val (.long ((p2 &&& (63 : Int32)).toInt64)), .second, .val (.long ((p3 &&& (63 : Int32)).toInt64)), .second, .val (.long ((p4 &&& (63 : Int32)).toInt64)), .second, .val (.int (p1 &&& (3 : Int32))), .val (.int (1 : Int32)), .val (.int (0 : Int32))] [])) _
            refine XS.lload X13.here hx rfl (hb hby at_130) rfl ?_
            show Steps p.tables e below (T13.setTop (mkF m 132 #[.val (.long q1), .second, .val (.int p1), .val (.int p2), .val (.int p3), .val (.int p4), .val (.ref b1), .val (.long ((p2 &&& (63 : Int32)).toInt64)), .second, .val (.long ((p3 &&& (63 : Int32)).toInt64)), .second, .val (.long ((p4 &&& (63 : Int32)).toInt64)), .second, .val (.int (p1 &&& (3 : Int32))), .val (.int (1 : Int32)), .val (.int (0 : Int32))] [(.long ((p3 &&& (63 : Int32)).toInt64))])) _
            refine XS.lloadN X13.here hx rfl (hb hby at_132) rfl ?_
            show Steps p.tables e below (T13.setTop (mkF m 133 #[.val (.long q1), .second, .val (.int p1), .val (.int p2), .val (.int p3), .val (.int p4), .val (.ref b1), .val (.long ((p2 &&& (63 : Int32)).toInt64)), .second, .val (.long ((p3 &&& (63 : Int32)).toInt64)), .second, .val (.long ((p4 &&& (63 : Int32)).toInt64)), .second, .val (.int (p1 &&& (3 : Int32))), .val (.int (1 : Int32)), .val (.int (0 : Int32))] [(.long q1), (.long ((p3 &&& (63 : Int32)).toInt64))])) _
            refine XS.lcmp X13.here hx rfl (hb hby at_133) rfl ?_
            show Steps p.tables e below (T13.setTop (mkF m 134 #[.val (.long q1), .second, .val (.int p1), .val (.int p2), .val (.int p3), .val (.int p4), .val (.ref b1), .val (.long ((p2 &&& (63 : Int32)).toInt64)), .second, .val (.long ((p3 &&& (63 : Int32)).toInt64)), .second, .val (.long ((p4 &&& (63 : Int32)).toInt64)), .second, .val (.int (p1 &&& (3 : Int32))), .val (.int (1 : Int32)), .val (.int (0 : Int32))] [(.int (lcmpW ((p3 &&& (63 : Int32)).toInt64) q1))])) _
            refine XS.ifYes X13.here hx rfl (pc0 := 134) (pc' := 141) rfl (hb hby at_134) rfl ((if0 _ _).trans (tlt hc122_12).2.2.1) (by decide) (by decide) ?_
            show Steps p.tables e below (T13.setTop (mkF m 141 #[.val (.long q1), .second, .val (.int p1), .val (.int p2), .val (.int p3), .val (.int p4), .val (.ref b1), .val (.long ((p2 &&& (63 : Int32)).toInt64)), .second, .val (.long ((p3 &&& (63 : Int32)).toInt64)), .second, .val (.long ((p4 &&& (63 : Int32)).toInt64)), .second, .val (.int (p1 &&& (3 : Int32))), .val (.int (1 : Int32)), .val (.int (0 : Int32))] [])) _
            refine XS.iconst X13.here hx rfl (hb hby at_141) ?_
            show Steps p.tables e below (T13.setTop (mkF m 142 #[.val (.long q1), .second, .val (.int p1), .val (.int p2), .val (.int p3), .val (.int p4), .val (.ref b1), .val (.long ((p2 &&& (63 : Int32)).toInt64)), .second, .val (.long ((p3 &&& (63 : Int32)).toInt64)), .second, .val (.long ((p4 &&& (63 : Int32)).toInt64)), .second, .val (.int (p1 &&& (3 : Int32))), .val (.int (1 : Int32)), .val (.int (0 : Int32))] [(.int (0 : Int32))])) _
            refine XS.istore X13.here hx rfl (hb hby at_142) rfl (l' := #[.val (.long q1), .second, .val (.int p1), .val (.int p2), .val (.int p3), .val (.int p4), .val (.ref b1), .val (.long ((p2 &&& (63 : Int32)).toInt64)), .second, .val (.long ((p3 &&& (63 : Int32)).toInt64)), .second, .val (.long ((p4 &&& (63 : Int32)).toInt64)), .second, .val (.int (p1 &&& (3 : Int32))), .val (.int (1 : Int32)), .val (.int (0 : Int32))]) rfl ?_
            show Steps p.tables e below (T13.setTop (mkF m 144 #[.val (.long q1), .second, .val (.int p1), .val (.int p2), .val (.int p3), .val (.int p4), .val (.ref b1), .val (.long ((p2 &&& (63 : Int32)).toInt64)), .second, .val (.long ((p3 &&& (63 : Int32)).toInt64)), .second, .val (.long ((p4 &&& (63 : Int32)).toInt64)), .second, .val (.int (p1 &&& (3 : Int32))), .val (.int (1 : Int32)), .val (.int (0 : Int32))] [])) _
            refine XS.iload X13.here hx rfl (hb hby at_144) rfl ?_
            show Steps p.tables e below (T13.setTop (mkF m 146 #[.val (.long q1), .second, .val (.int p1), .val (.int p2), .val (.int p3), .val (.int p4), .val (.ref b1), .val (.long ((p2 &&& (63 : Int32)).toInt64)), .second, .val (.long ((p3 &&& (63 : Int32)).toInt64)), .second, .val (.long ((p4 &&& (63 : Int32)).toInt64)), .second, .val (.int (p1 &&& (3 : Int32))), .val (.int (1 : Int32)), .val (.int (0 : Int32))] [(.int (1 : Int32))])) _
            refine XS.ifNo X13.here hx rfl (hb hby at_146) rfl ((if0 _ _).trans (feq (by decide : ¬ ((1 : Int32) = (0 : Int32)))).1) ?_
            show Steps p.tables e below (T13.setTop (mkF m 149 #[.val (.long q1), .second, .val (.int p1), .val (.int p2), .val (.int p3), .val (.int p4), .val (.ref b1), .val (.long ((p2 &&& (63 : Int32)).toInt64)), .second, .val (.long ((p3 &&& (63 : Int32)).toInt64)), .second, .val (.long ((p4 &&& (63 : Int32)).toInt64)), .second, .val (.int (p1 &&& (3 : Int32))), .val (.int (1 : Int32)), .val (.int (0 : Int32))] [])) _
            refine XS.aload X13.here hx rfl (hb hby at_149) rfl rfl ?_
            show Steps p.tables e below (T13.setTop (mkF m 151 #[.val (.long q1), .second, .val (.int p1), .val (.int p2), .val (.int p3), .val (.int p4), .val (.ref b1), .val (.long ((p2 &&& (63 : Int32)).toInt64)), .second, .val (.long ((p3 &&& (63 : Int32)).toInt64)), .second, .val (.long ((p4 &&& (63 : Int32)).toInt64)), .second, .val (.int (p1 &&& (3 : Int32))), .val (.int (1 : Int32)), .val (.int (0 : Int32))] [(.ref b1)])) _
            refine st14.trans ?_
            show Steps p.tables e below (T14.setTop (mkF m 154 #[.val (.long q1), .second, .val (.int p1), .val (.int p2), .val (.int p3), .val (.int p4), .val (.ref b1), .val (.long ((p2 &&& (63 : Int32)).toInt64)), .second, .val (.long ((p3 &&& (63 : Int32)).toInt64)), .second, .val (.long ((p4 &&& (63 : Int32)).toInt64)), .second, .val (.int (p1 &&& (3 : Int32))), .val (.int (1 : Int32)), .val (.int (0 : Int32))] [(.int (1 : Int32))])) _
            refine XS.iload X14.here hx rfl (hb hby at_154) rfl ?_
            show Steps p.tables e below (T14.setTop (mkF m 156 #[.val (.long q1), .second, .val (.int p1), .val (.int p2), .val (.int p3), .val (.int p4), .val (.ref b1), .val (.long ((p2 &&& (63 : Int32)).toInt64)), .second, .val (.long ((p3 &&& (63 : Int32)).toInt64)), .second, .val (.long ((p4 &&& (63 : Int32)).toInt64)), .second, .val (.int (p1 &&& (3 : Int32))), .val (.int (1 : Int32)), .val (.int (0 : Int32))] [(.int (0 : Int32)), (.int (1 : Int32))])) _
            refine XS.ifNo X14.here hx rfl (hb hby at_156) rfl ((if0 _ _).trans (teq (by decide : (0 : Int32) = (0 : Int32))).2) ?_
            show Steps p.tables e below (T14.setTop (mkF m 159 #[.val (.long q1), .second, .val (.int p1), .val (.int p2), .val (.int p3), .val (.int p4), .val (.ref b1), .val (.long ((p2 &&& (63 : Int32)).toInt64)), .second, .val (.long ((p3 &&& (63 : Int32)).toInt64)), .second, .val (.long ((p4 &&& (63 : Int32)).toInt64)), .second, .val (.int (p1 &&& (3 : Int32))), .val (.int (1 : Int32)), .val (.int (0 : Int32))] [(.int (1 : Int32))])) _
            refine XS.iconst X14.here hx rfl (hb hby at_159) ?_
            show Steps p.tables e below (T14.setTop (mkF m 160 #[.val (.long q1), .second, .val (.int p1), .val (.int p2), .val (.int p3), .val (.int p4), .val (.ref b1), .val (.long ((p2 &&& (63 : Int32)).toInt64)), .second, .val (.long ((p3 &&& (63 : Int32)).toInt64)), .second, .val (.long ((p4 &&& (63 : Int32)).toInt64)), .second, .val (.int (p1 &&& (3 : Int32))), .val (.int (1 : Int32)), .val (.int (0 : Int32))] [(.int (1 : Int32)), (.int (1 : Int32))])) _
            refine XS.goto X14.here hx rfl (pc0 := 160) (pc' := 164) rfl (hb hby at_160) (by decide) (by decide) ?_
            show Steps p.tables e below (T14.setTop (mkF m 164 #[.val (.long q1), .second, .val (.int p1), .val (.int p2), .val (.int p3), .val (.int p4), .val (.ref b1), .val (.long ((p2 &&& (63 : Int32)).toInt64)), .second, .val (.long ((p3 &&& (63 : Int32)).toInt64)), .second, .val (.long ((p4 &&& (63 : Int32)).toInt64)), .second, .val (.int (p1 &&& (3 : Int32))), .val (.int (1 : Int32)), .val (.int (0 : Int32))] [(.int (1 : Int32)), (.int (1 : Int32))])) _
            refine XS.icmpNo X14.here hx rfl (hb hby at_164) rfl (teq (by decide : (1 : Int32) = (1 : Int32))).2 ?_
            show Steps p.tables e below (T14.setTop (mkF m 167 #[.val (.long q1), .second, .val (.int p1), .val (.int p2), .val (.int p3), .val (.int p4), .val (.ref b1), .val (.long ((p2 &&& (63 : Int32)).toInt64)), .second, .val (.long ((p3 &&& (63 : Int32)).toInt64)), .second, .val (.long ((p4 &&& (63 : Int32)).toInt64)), .second, .val (.int (p1 &&& (3 : Int32))), .val (.int (1 : Int32)), .val (.int (0 : Int32))] [])) _
            refine XS.iconst X14.here hx rfl (hb hby at_167) ?_
            show Steps p.tables e below (T14.setTop (mkF m 168 #[.val (.long q1), .second, .val (.int p1), .val (.int p2), .val (.int p3), .val (.int p4), .val (.ref b1), .val (.long ((p2 &&& (63 : Int32)).toInt64)), .second, .val (.long ((p3 &&& (63 : Int32)).toInt64)), .second, .val (.long ((p4 &&& (63 : Int32)).toInt64)), .second, .val (.int (p1 &&& (3 : Int32))), .val (.int (1 : Int32)), .val (.int (0 : Int32))] [(.int (1 : Int32))])) _
            refine XS.goto X14.here hx rfl (pc0 := 168) (pc' := 172) rfl (hb hby at_168) (by decide) (by decide) ?_
            show Steps p.tables e below (T14.setTop (mkF m 172 #[.val (.long q1), .second, .val (.int p1), .val (.int p2), .val (.int p3), .val (.int p4), .val (.ref b1), .val (.long ((p2 &&& (63 : Int32)).toInt64)), .second, .val (.long ((p3 &&& (63 : Int32)).toInt64)), .second, .val (.long ((p4 &&& (63 : Int32)).toInt64)), .second, .val (.int (p1 &&& (3 : Int32))), .val (.int (1 : Int32)), .val (.int (0 : Int32))] [(.int (1 : Int32))])) _
            refine XS.istore X14.here hx rfl (hb hby at_172) rfl (l' := #[.val (.long q1), .second, .val (.int p1), .val (.int p2), .val (.int p3), .val (.int p4), .val (.ref b1), .val (.long ((p2 &&& (63 : Int32)).toInt64)), .second, .val (.long ((p3 &&& (63 : Int32)).toInt64)), .second, .val (.long ((p4 &&& (63 : Int32)).toInt64)), .second, .val (.int (p1 &&& (3 : Int32))), .val (.int (1 : Int32)), .val (.int (0 : Int32))]) rfl ?_
            show Steps p.tables e below (T14.setTop (mkF m 174 #[.val (.long q1), .second, .val (.int p1), .val (.int p2), .val (.int p3), .val (.int p4), .val (.ref b1), .val (.long ((p2 &&& (63 : Int32)).toInt64)), .second, .val (.long ((p3 &&& (63 : Int32)).toInt64)), .second, .val (.long ((p4 &&& (63 : Int32)).toInt64)), .second, .val (.int (p1 &&& (3 : Int32))), .val (.int (1 : Int32)), .val (.int (0 : Int32))] [])) _
            refine XS.iload X14.here hx rfl (hb hby at_174) rfl ?_
            show Steps p.tables e below (T14.setTop (mkF m 176 #[.val (.long q1), .second, .val (.int p1), .val (.int p2), .val (.int p3), .val (.int p4), .val (.ref b1), .val (.long ((p2 &&& (63 : Int32)).toInt64)), .second, .val (.long ((p3 &&& (63 : Int32)).toInt64)), .second, .val (.long ((p4 &&& (63 : Int32)).toInt64)), .second, .val (.int (p1 &&& (3 : Int32))), .val (.int (1 : Int32)), .val (.int (0 : Int32))] [(.int (p1 &&& (3 : Int32)))])) _
            refine XS.iconst X14.here hx rfl (hb hby at_176) ?_
            exact kt
          by_cases hc177_15 : (p1 &&& (3 : Int32)) < (3 : Int32)
          · obtain ⟨fs, hr, hrun, hended, hW, hsame⟩ := X14.leave (v := some (.int (1 : Int32))) (fun h => by rw [Bd.returns] at h; cases h)
            refine ⟨_, _, pre15 _ ?_, hrun, hended, _, _, rfl, ?_, ⟨_, rfl⟩, hW, hsame.mono (by show 3 ≤ 32; omega) (by show 39 + own_F (16 : Int32) ≤ 704; have := own_Fle (Or.inl rfl); omega)⟩
            · show Steps p.tables e below (T14.setTop (mkF m 177 #[.val (.long q1), .second, .val (.int p1), .val (.int p2), .val (.int p3), .val (.int p4), .val (.ref b1), .val (.long ((p2 &&& (63 : Int32)).toInt64)), .second, .val (.long ((p3 &&& (63 : Int32)).toInt64)), .second, .val (.long ((p4 &&& (63 : Int32)).toInt64)), .second, .val (.int (p1 &&& (3 : Int32))), .val (.int (1 : Int32)), .val (.int (0 : Int32))] [(.int (3 : Int32)), (.int (p1 &&& (3 : Int32)))])) _
              refine XS.icmpYes X14.here hx rfl (pc0 := 177) (pc' := 237) rfl (hb hby at_177) rfl (tlt hc177_15).1 (by decide) (by decide) ?_
              show Steps p.tables e below (T14.setTop (mkF m 237 #[.val (.long q1), .second, .val (.int p1), .val (.int p2), .val (.int p3), .val (.int p4), .val (.ref b1), .val (.long ((p2 &&& (63 : Int32)).toInt64)), .second, .val (.long ((p3 &&& (63 : Int32)).toInt64)), .second, .val (.long ((p4 &&& (63 : Int32)).toInt64)), .second, .val (.int (p1 &&& (3 : Int32))), .val (.int (1 : Int32)), .val (.int (0 : Int32))] [])) _
              refine XS.iload X14.here hx rfl (hb hby at_237) rfl ?_
              show Steps p.tables e below (T14.setTop (mkF m 239 #[.val (.long q1), .second, .val (.int p1), .val (.int p2), .val (.int p3), .val (.int p4), .val (.ref b1), .val (.long ((p2 &&& (63 : Int32)).toInt64)), .second, .val (.long ((p3 &&& (63 : Int32)).toInt64)), .second, .val (.long ((p4 &&& (63 : Int32)).toInt64)), .second, .val (.int (p1 &&& (3 : Int32))), .val (.int (1 : Int32)), .val (.int (0 : Int32))] [(.int (1 : Int32))])) _
              exact retN X14 hx (t := .boolean) Bd.returns (by simp) (hb hby at_239) hr
            · show Q_rm0 Z q1 p1 p2 p3 p4 h0 n0 _ T14.heap _
              rw [eq14]
              exact ⟨rfl, N14⟩
          · have pre16 : ∀ t, Steps p.tables e below (T14.setTop (mkF m 185 #[.val (.long q1), .second, .val (.int p1), .val (.int p2), .val (.int p3), .val (.int p4), .val (.ref b1), .val (.long ((p2 &&& (63 : Int32)).toInt64)), .second, .val (.long ((p3 &&& (63 : Int32)).toInt64)), .second, .val (.long ((p4 &&& (63 : Int32)).toInt64)), .second, .val (.int (p1 &&& (3 : Int32))), .val (.int (1 : Int32)), .val (.int (0 : Int32))] [.null, (.long ((p4 &&& (63 : Int32)).toInt64)), (.ref b1)])) t → Steps p.tables e below (s₁.setTop (entryFrame m #[(.long q1), (.int p1), (.int p2), (.int p3), (.int p4)] maxLocals)) t := by
              intro t kt
              refine pre15 _ ?_
              show Steps p.tables e below (T14.setTop (mkF m 177 #[.val (.long q1), .second, .val (.int p1), .val (.int p2), .val (.int p3), .val (.int p4), .val (.ref b1), .val (.long ((p2 &&& (63 : Int32)).toInt64)), .second, .val (.long ((p3 &&& (63 : Int32)).toInt64)), .second, .val (.long ((p4 &&& (63 : Int32)).toInt64)), .second, .val (.int (p1 &&& (3 : Int32))), .val (.int (1 : Int32)), .val (.int (0 : Int32))] [(.int (3 : Int32)), (.int (p1 &&& (3 : Int32)))])) _
              refine XS.icmpNo X14.here hx rfl (hb hby at_177) rfl (flt hc177_15).1 ?_
              show Steps p.tables e below (T14.setTop (mkF m 180 #[.val (.long q1), .second, .val (.int p1), .val (.int p2), .val (.int p3), .val (.int p4), .val (.ref b1), .val (.long ((p2 &&& (63 : Int32)).toInt64)), .second, .val (.long ((p3 &&& (63 : Int32)).toInt64)), .second, .val (.long ((p4 &&& (63 : Int32)).toInt64)), .second, .val (.int (p1 &&& (3 : Int32))), .val (.int (1 : Int32)), .val (.int (0 : Int32))] [])) _
              refine XS.aload X14.here hx rfl (hb hby at_180) rfl rfl ?_
              show Steps p.tables e below (T14.setTop (mkF m 182 #[.val (.long q1), .second, .val (.int p1), .val (.int p2), .val (.int p3), .val (.int p4), .val (.ref b1), .val (.long ((p2 &&& (63 : Int32)).toInt64)), .second, .val (.long ((p3 &&& (63 : Int32)).toInt64)), .second, .val (.long ((p4 &&& (63 : Int32)).toInt64)), .second, .val (.int (p1 &&& (3 : Int32))), .val (.int (1 : Int32)), .val (.int (0 : Int32))] [(.ref b1)])) _
              refine XS.lload X14.here hx rfl (hb hby at_182) rfl ?_
              show Steps p.tables e below (T14.setTop (mkF m 184 #[.val (.long q1), .second, .val (.int p1), .val (.int p2), .val (.int p3), .val (.int p4), .val (.ref b1), .val (.long ((p2 &&& (63 : Int32)).toInt64)), .second, .val (.long ((p3 &&& (63 : Int32)).toInt64)), .second, .val (.long ((p4 &&& (63 : Int32)).toInt64)), .second, .val (.int (p1 &&& (3 : Int32))), .val (.int (1 : Int32)), .val (.int (0 : Int32))] [(.long ((p4 &&& (63 : Int32)).toInt64)), (.ref b1)])) _
              refine XS.aconstNull X14.here hx rfl (hb hby at_184) ?_
              exact kt
            by_cases hc185_16 : (0 : Int32) < (lcmpW ((p4 &&& (63 : Int32)).toInt64) q1)
            · obtain ⟨T17, h17, locs17, X17, e17, O17, N17, D17, st17⟩ := schedD (s0 := 39) (M := (16 : Int32)) (P' := 0) (k' := 0) X14 hx hZ hw hown eq14 O13 N14 D13 g_b1 (own_63 p4).1 (own_63 p4).2 hc185_16 (g := (mkF m 185 #[.val (.long q1), .second, .val (.int p1), .val (.int p2), .val (.int p3), .val (.int p4), .val (.ref b1), .val (.long ((p2 &&& (63 : Int32)).toInt64)), .second, .val (.long ((p3 &&& (63 : Int32)).toInt64)), .second, .val (.long ((p4 &&& (63 : Int32)).toInt64)), .second, .val (.int (p1 &&& (3 : Int32))), .val (.int (1 : Int32)), .val (.int (0 : Int32))] [.null, (.long ((p4 &&& (63 : Int32)).toInt64)), (.ref b1)])) rfl rfl (by rw [hml]; rfl) rfl (hb hby at_185) (by omega) (by have := own_Fle (Or.inl rfl); omega)
              obtain ⟨cq18, kq18, q18a, q18b, q18c⟩ := isOf hZ e17 (own_exaD D17)
              obtain ⟨_, _, ⟨T18, L18, k18, n18⟩, -, X18, ⟨Lc18, hQ18, l18, y18, z18⟩, st18⟩ := X17.virtualBack hx (y := (⟨"com/example/januswire/januswire/sim/DueEvents", "isEmpty", "()Z"⟩ : MethodName)) (z := (⟨"com/example/januswire/januswire/sim/DueEvents", "isEmpty", "()Z"⟩ : MethodName)) hown (mvT hZ (hw _ (List.mem_of_getElem? (i := 23) rfl))) (mvT hZ (hw _ (List.mem_of_getElem? (i := 24) rfl))) (notFace_of_selects (args := #[]) (mvT hZ (hw _ (List.mem_of_getElem? (i := 26) rfl)))) (mvT hZ (hw _ (List.mem_of_getElem? (i := 26) rfl))) (mvT hZ (hw _ (List.mem_of_getElem? (i := 25) rfl))) (by decide) (backOf (W := 0) (isE_0 l Z a0 hw [] b1 h17 n0 O17 (own_penD D17)) hZ (hw _ (List.mem_of_getElem? (i := 27) rfl)) (hw _ (List.mem_of_getElem? (i := 2) rfl)) (by decide) (by decide)) q18a q18c (g := (mkF m 214 #[.val (.long q1), .second, .val (.int p1), .val (.int p2), .val (.int p3), .val (.int p4), .val (.ref b1), .val (.long ((p2 &&& (63 : Int32)).toInt64)), .second, .val (.long ((p3 &&& (63 : Int32)).toInt64)), .second, .val (.long ((p4 &&& (63 : Int32)).toInt64)), .second, .val (.int (p1 &&& (3 : Int32))), .val (.int (1 : Int32)), .val (.int (0 : Int32))] [(.ref b1)])) rfl (by rw [hml]; rfl) (Steps.refl _) (argsL := []) (rest := []) (lenOf pd___Z rfl) rfl (by show 2 * 0 + _ ≤ _; exact Nat.le_of_eq rfl) (hb hby at_214) (fun _ _ => ⟨rfl, e17, (by show 3 + 0 ≤ 32; omega), (by show 39 + own_F (16 : Int32) + 0 ≤ 704; have := own_Fle (Or.inl rfl); omega)⟩)
              dsimp only [Pt.U, Pt.locs, Pt.cells, Pt.slots] at X18 l18 y18 z18 st18 hQ18
              subst l18 y18 z18
              obtain ⟨rfl, Nq18, eq18⟩ := hQ18
              have N18 := Fr.app N17 Nq18
              obtain ⟨fs, hr, hrun, hended, hW, hsame⟩ := X18.leave (v := some (.int (1 : Int32))) (fun h => by rw [Bd.returns] at h; cases h)
              refine ⟨_, _, pre16 _ ?_, hrun, hended, _, _, rfl, ?_, ⟨_, rfl⟩, hW, hsame.mono (by show 3 ≤ 32; omega) (by show 39 + own_F (16 : Int32) ≤ 704; have := own_Fle (Or.inl rfl); omega)⟩
              · show Steps p.tables e below (T14.setTop (mkF m 185 #[.val (.long q1), .second, .val (.int p1), .val (.int p2), .val (.int p3), .val (.int p4), .val (.ref b1), .val (.long ((p2 &&& (63 : Int32)).toInt64)), .second, .val (.long ((p3 &&& (63 : Int32)).toInt64)), .second, .val (.long ((p4 &&& (63 : Int32)).toInt64)), .second, .val (.int (p1 &&& (3 : Int32))), .val (.int (1 : Int32)), .val (.int (0 : Int32))] [.null, (.long ((p4 &&& (63 : Int32)).toInt64)), (.ref b1)])) _
                refine st17.trans ?_
                show Steps p.tables e below (T17.setTop (mkF m 188 #[.val (.long q1), .second, .val (.int p1), .val (.int p2), .val (.int p3), .val (.int p4), .val (.ref b1), .val (.long ((p2 &&& (63 : Int32)).toInt64)), .second, .val (.long ((p3 &&& (63 : Int32)).toInt64)), .second, .val (.long ((p4 &&& (63 : Int32)).toInt64)), .second, .val (.int (p1 &&& (3 : Int32))), .val (.int (1 : Int32)), .val (.int (0 : Int32))] [])) _
                refine XS.iload X17.here hx rfl (hb hby at_188) rfl ?_
                show Steps p.tables e below (T17.setTop (mkF m 190 #[.val (.long q1), .second, .val (.int p1), .val (.int p2), .val (.int p3), .val (.int p4), .val (.ref b1), .val (.long ((p2 &&& (63 : Int32)).toInt64)), .second, .val (.long ((p3 &&& (63 : Int32)).toInt64)), .second, .val (.long ((p4 &&& (63 : Int32)).toInt64)), .second, .val (.int (p1 &&& (3 : Int32))), .val (.int (1 : Int32)), .val (.int (0 : Int32))] [(.int (0 : Int32))])) _
                refine XS.ifNo X17.here hx rfl (hb hby at_190) rfl ((if0 _ _).trans (teq (by decide : (0 : Int32) = (0 : Int32))).2) ?_
                show Steps p.tables e below (T17.setTop (mkF m 193 #[.val (.long q1), .second, .val (.int p1), .val (.int p2), .val (.int p3), .val (.int p4), .val (.ref b1), .val (.long ((p2 &&& (63 : Int32)).toInt64)), .second, .val (.long ((p3 &&& (63 : Int32)).toInt64)), .second, .val (.long ((p4 &&& (63 : Int32)).toInt64)), .second, .val (.int (p1 &&& (3 : Int32))), .val (.int (1 : Int32)), .val (.int (0 : Int32))] [])) _
                refine XS.lload X17.here hx rfl (hb hby at_193) rfl ?_
                show Steps p.tables e below (T17.setTop (mkF m 195 #[.val (.long q1), .second, .val (.int p1), .val (.int p2), .val (.int p3), .val (.int p4), .val (.ref b1), .val (.long ((p2 &&& (63 : Int32)).toInt64)), .second, .val (.long ((p3 &&& (63 : Int32)).toInt64)), .second, .val (.long ((p4 &&& (63 : Int32)).toInt64)), .second, .val (.int (p1 &&& (3 : Int32))), .val (.int (1 : Int32)), .val (.int (0 : Int32))] [(.long ((p4 &&& (63 : Int32)).toInt64))])) _
                refine XS.lloadN X17.here hx rfl (hb hby at_195) rfl ?_
                show Steps p.tables e below (T17.setTop (mkF m 196 #[.val (.long q1), .second, .val (.int p1), .val (.int p2), .val (.int p3), .val (.int p4), .val (.ref b1), .val (.long ((p2 &&& (63 : Int32)).toInt64)), .second, .val (.long ((p3 &&& (63 : Int32)).toInt64)), .second, .val (.long ((p4 &&& (63 : Int32)).toInt64)), .second, .val (.int (p1 &&& (3 : Int32))), .val (.int (1 : Int32)), .val (.int (0 : Int32))] [(.long q1), (.long ((p4 &&& (63 : Int32)).toInt64))])) _
                refine XS.lcmp X17.here hx rfl (hb hby at_196) rfl ?_
                show Steps p.tables e below (T17.setTop (mkF m 197 #[.val (.long q1), .second, .val (.int p1), .val (.int p2), .val (.int p3), .val (.int p4), .val (.ref b1), .val (.long ((p2 &&& (63 : Int32)).toInt64)), .second, .val (.long ((p3 &&& (63 : Int32)).toInt64)), .second, .val (.long ((p4 &&& (63 : Int32)).toInt64)), .second, .val (.int (p1 &&& (3 : Int32))), .val (.int (1 : Int32)), .val (.int (0 : Int32))] [(.int (lcmpW ((p4 &&& (63 : Int32)).toInt64) q1))])) _
                refine XS.ifYes X17.here hx rfl (pc0 := 197) (pc' := 204) rfl (hb hby at_197) rfl ((if0 _ _).trans (tlt hc185_16).2.2.1) (by decide) (by decide) ?_
                show Steps p.tables e below (T17.setTop (mkF m 204 #[.val (.long q1), .second, .val (.int p1), .val (.int p2), .val (.int p3), .val (.int p4), .val (.ref b1), .val (.long ((p2 &&& (63 : Int32)).toInt64)), .second, .val (.long ((p3 &&& (63 : Int32)).toInt64)), .second, .val (.long ((p4 &&& (63 : Int32)).toInt64)), .second, .val (.int (p1 &&& (3 : Int32))), .val (.int (1 : Int32)), .val (.int (0 : Int32))] [])) _
                refine XS.iconst X17.here hx rfl (hb hby at_204) ?_
                show Steps p.tables e below (T17.setTop (mkF m 205 #[.val (.long q1), .second, .val (.int p1), .val (.int p2), .val (.int p3), .val (.int p4), .val (.ref b1), .val (.long ((p2 &&& (63 : Int32)).toInt64)), .second, .val (.long ((p3 &&& (63 : Int32)).toInt64)), .second, .val (.long ((p4 &&& (63 : Int32)).toInt64)), .second, .val (.int (p1 &&& (3 : Int32))), .val (.int (1 : Int32)), .val (.int (0 : Int32))] [(.int (0 : Int32))])) _
                refine XS.istore X17.here hx rfl (hb hby at_205) rfl (l' := #[.val (.long q1), .second, .val (.int p1), .val (.int p2), .val (.int p3), .val (.int p4), .val (.ref b1), .val (.long ((p2 &&& (63 : Int32)).toInt64)), .second, .val (.long ((p3 &&& (63 : Int32)).toInt64)), .second, .val (.long ((p4 &&& (63 : Int32)).toInt64)), .second, .val (.int (p1 &&& (3 : Int32))), .val (.int (1 : Int32)), .val (.int (0 : Int32))]) rfl ?_
                show Steps p.tables e below (T17.setTop (mkF m 207 #[.val (.long q1), .second, .val (.int p1), .val (.int p2), .val (.int p3), .val (.int p4), .val (.ref b1), .val (.long ((p2 &&& (63 : Int32)).toInt64)), .second, .val (.long ((p3 &&& (63 : Int32)).toInt64)), .second, .val (.long ((p4 &&& (63 : Int32)).toInt64)), .second, .val (.int (p1 &&& (3 : Int32))), .val (.int (1 : Int32)), .val (.int (0 : Int32))] [])) _
                refine XS.iload X17.here hx rfl (hb hby at_207) rfl ?_
                show Steps p.tables e below (T17.setTop (mkF m 209 #[.val (.long q1), .second, .val (.int p1), .val (.int p2), .val (.int p3), .val (.int p4), .val (.ref b1), .val (.long ((p2 &&& (63 : Int32)).toInt64)), .second, .val (.long ((p3 &&& (63 : Int32)).toInt64)), .second, .val (.long ((p4 &&& (63 : Int32)).toInt64)), .second, .val (.int (p1 &&& (3 : Int32))), .val (.int (1 : Int32)), .val (.int (0 : Int32))] [(.int (1 : Int32))])) _
                refine XS.ifNo X17.here hx rfl (hb hby at_209) rfl ((if0 _ _).trans (feq (by decide : ¬ ((1 : Int32) = (0 : Int32)))).1) ?_
                show Steps p.tables e below (T17.setTop (mkF m 212 #[.val (.long q1), .second, .val (.int p1), .val (.int p2), .val (.int p3), .val (.int p4), .val (.ref b1), .val (.long ((p2 &&& (63 : Int32)).toInt64)), .second, .val (.long ((p3 &&& (63 : Int32)).toInt64)), .second, .val (.long ((p4 &&& (63 : Int32)).toInt64)), .second, .val (.int (p1 &&& (3 : Int32))), .val (.int (1 : Int32)), .val (.int (0 : Int32))] [])) _
                refine XS.aload X17.here hx rfl (hb hby at_212) rfl rfl ?_
                show Steps p.tables e below (T17.setTop (mkF m 214 #[.val (.long q1), .second, .val (.int p1), .val (.int p2), .val (.int p3), .val (.int p4), .val (.ref b1), .val (.long ((p2 &&& (63 : Int32)).toInt64)), .second, .val (.long ((p3 &&& (63 : Int32)).toInt64)), .second, .val (.long ((p4 &&& (63 : Int32)).toInt64)), .second, .val (.int (p1 &&& (3 : Int32))), .val (.int (1 : Int32)), .val (.int (0 : Int32))] [(.ref b1)])) _
                refine st18.trans ?_
                show Steps p.tables e below (T18.setTop (mkF m 217 #[.val (.long q1), .second, .val (.int p1), .val (.int p2), .val (.int p3), .val (.int p4), .val (.ref b1), .val (.long ((p2 &&& (63 : Int32)).toInt64)), .second, .val (.long ((p3 &&& (63 : Int32)).toInt64)), .second, .val (.long ((p4 &&& (63 : Int32)).toInt64)), .second, .val (.int (p1 &&& (3 : Int32))), .val (.int (1 : Int32)), .val (.int (0 : Int32))] [(.int (1 : Int32))])) _
                refine XS.iload X18.here hx rfl (hb hby at_217) rfl ?_
                show Steps p.tables e below (T18.setTop (mkF m 219 #[.val (.long q1), .second, .val (.int p1), .val (.int p2), .val (.int p3), .val (.int p4), .val (.ref b1), .val (.long ((p2 &&& (63 : Int32)).toInt64)), .second, .val (.long ((p3 &&& (63 : Int32)).toInt64)), .second, .val (.long ((p4 &&& (63 : Int32)).toInt64)), .second, .val (.int (p1 &&& (3 : Int32))), .val (.int (1 : Int32)), .val (.int (0 : Int32))] [(.int (0 : Int32)), (.int (1 : Int32))])) _
                refine XS.ifNo X18.here hx rfl (hb hby at_219) rfl ((if0 _ _).trans (teq (by decide : (0 : Int32) = (0 : Int32))).2) ?_
                show Steps p.tables e below (T18.setTop (mkF m 222 #[.val (.long q1), .second, .val (.int p1), .val (.int p2), .val (.int p3), .val (.int p4), .val (.ref b1), .val (.long ((p2 &&& (63 : Int32)).toInt64)), .second, .val (.long ((p3 &&& (63 : Int32)).toInt64)), .second, .val (.long ((p4 &&& (63 : Int32)).toInt64)), .second, .val (.int (p1 &&& (3 : Int32))), .val (.int (1 : Int32)), .val (.int (0 : Int32))] [(.int (1 : Int32))])) _
                refine XS.iconst X18.here hx rfl (hb hby at_222) ?_
                show Steps p.tables e below (T18.setTop (mkF m 223 #[.val (.long q1), .second, .val (.int p1), .val (.int p2), .val (.int p3), .val (.int p4), .val (.ref b1), .val (.long ((p2 &&& (63 : Int32)).toInt64)), .second, .val (.long ((p3 &&& (63 : Int32)).toInt64)), .second, .val (.long ((p4 &&& (63 : Int32)).toInt64)), .second, .val (.int (p1 &&& (3 : Int32))), .val (.int (1 : Int32)), .val (.int (0 : Int32))] [(.int (1 : Int32)), (.int (1 : Int32))])) _
                refine XS.goto X18.here hx rfl (pc0 := 223) (pc' := 227) rfl (hb hby at_223) (by decide) (by decide) ?_
                show Steps p.tables e below (T18.setTop (mkF m 227 #[.val (.long q1), .second, .val (.int p1), .val (.int p2), .val (.int p3), .val (.int p4), .val (.ref b1), .val (.long ((p2 &&& (63 : Int32)).toInt64)), .second, .val (.long ((p3 &&& (63 : Int32)).toInt64)), .second, .val (.long ((p4 &&& (63 : Int32)).toInt64)), .second, .val (.int (p1 &&& (3 : Int32))), .val (.int (1 : Int32)), .val (.int (0 : Int32))] [(.int (1 : Int32)), (.int (1 : Int32))])) _
                refine XS.icmpNo X18.here hx rfl (hb hby at_227) rfl (teq (by decide : (1 : Int32) = (1 : Int32))).2 ?_
                show Steps p.tables e below (T18.setTop (mkF m 230 #[.val (.long q1), .second, .val (.int p1), .val (.int p2), .val (.int p3), .val (.int p4), .val (.ref b1), .val (.long ((p2 &&& (63 : Int32)).toInt64)), .second, .val (.long ((p3 &&& (63 : Int32)).toInt64)), .second, .val (.long ((p4 &&& (63 : Int32)).toInt64)), .second, .val (.int (p1 &&& (3 : Int32))), .val (.int (1 : Int32)), .val (.int (0 : Int32))] [])) _
                refine XS.iconst X18.here hx rfl (hb hby at_230) ?_
                show Steps p.tables e below (T18.setTop (mkF m 231 #[.val (.long q1), .second, .val (.int p1), .val (.int p2), .val (.int p3), .val (.int p4), .val (.ref b1), .val (.long ((p2 &&& (63 : Int32)).toInt64)), .second, .val (.long ((p3 &&& (63 : Int32)).toInt64)), .second, .val (.long ((p4 &&& (63 : Int32)).toInt64)), .second, .val (.int (p1 &&& (3 : Int32))), .val (.int (1 : Int32)), .val (.int (0 : Int32))] [(.int (1 : Int32))])) _
                refine XS.goto X18.here hx rfl (pc0 := 231) (pc' := 235) rfl (hb hby at_231) (by decide) (by decide) ?_
                show Steps p.tables e below (T18.setTop (mkF m 235 #[.val (.long q1), .second, .val (.int p1), .val (.int p2), .val (.int p3), .val (.int p4), .val (.ref b1), .val (.long ((p2 &&& (63 : Int32)).toInt64)), .second, .val (.long ((p3 &&& (63 : Int32)).toInt64)), .second, .val (.long ((p4 &&& (63 : Int32)).toInt64)), .second, .val (.int (p1 &&& (3 : Int32))), .val (.int (1 : Int32)), .val (.int (0 : Int32))] [(.int (1 : Int32))])) _
                refine XS.istore X18.here hx rfl (hb hby at_235) rfl (l' := #[.val (.long q1), .second, .val (.int p1), .val (.int p2), .val (.int p3), .val (.int p4), .val (.ref b1), .val (.long ((p2 &&& (63 : Int32)).toInt64)), .second, .val (.long ((p3 &&& (63 : Int32)).toInt64)), .second, .val (.long ((p4 &&& (63 : Int32)).toInt64)), .second, .val (.int (p1 &&& (3 : Int32))), .val (.int (1 : Int32)), .val (.int (0 : Int32))]) rfl ?_
                show Steps p.tables e below (T18.setTop (mkF m 237 #[.val (.long q1), .second, .val (.int p1), .val (.int p2), .val (.int p3), .val (.int p4), .val (.ref b1), .val (.long ((p2 &&& (63 : Int32)).toInt64)), .second, .val (.long ((p3 &&& (63 : Int32)).toInt64)), .second, .val (.long ((p4 &&& (63 : Int32)).toInt64)), .second, .val (.int (p1 &&& (3 : Int32))), .val (.int (1 : Int32)), .val (.int (0 : Int32))] [])) _
                refine XS.iload X18.here hx rfl (hb hby at_237) rfl ?_
                show Steps p.tables e below (T18.setTop (mkF m 239 #[.val (.long q1), .second, .val (.int p1), .val (.int p2), .val (.int p3), .val (.int p4), .val (.ref b1), .val (.long ((p2 &&& (63 : Int32)).toInt64)), .second, .val (.long ((p3 &&& (63 : Int32)).toInt64)), .second, .val (.long ((p4 &&& (63 : Int32)).toInt64)), .second, .val (.int (p1 &&& (3 : Int32))), .val (.int (1 : Int32)), .val (.int (0 : Int32))] [(.int (1 : Int32))])) _
                exact retN X18 hx (t := .boolean) Bd.returns (by simp) (hb hby at_239) hr
              · show Q_rm0 Z q1 p1 p2 p3 p4 h0 n0 _ T18.heap _
                rw [eq18]
                exact ⟨rfl, N18⟩
            · obtain ⟨M19, T19, h19, locs19, hM19, X19, e19, O19, N19, D19, st19⟩ := schedI (s0 := 39) (M := (16 : Int32)) (P' := (1 : Int64)) (k' := (1 : Int32)) X14 hx hZ hw hown eq14 O13 N14 D13 g_b1 (own_63 p4).1 (own_63 p4).2 hc185_16 (Or.inl rfl) (by decide) (by decide) (by decide) (by decide) (g := (mkF m 185 #[.val (.long q1), .second, .val (.int p1), .val (.int p2), .val (.int p3), .val (.int p4), .val (.ref b1), .val (.long ((p2 &&& (63 : Int32)).toInt64)), .second, .val (.long ((p3 &&& (63 : Int32)).toInt64)), .second, .val (.long ((p4 &&& (63 : Int32)).toInt64)), .second, .val (.int (p1 &&& (3 : Int32))), .val (.int (1 : Int32)), .val (.int (0 : Int32))] [.null, (.long ((p4 &&& (63 : Int32)).toInt64)), (.ref b1)])) rfl rfl (by rw [hml]; rfl) rfl (hb hby at_185) (by omega) (by omega)
              obtain ⟨cq20, kq20, q20a, q20b, q20c⟩ := isOf hZ e19 (own_exaD D19)
              obtain ⟨_, _, ⟨T20, L20, k20, n20⟩, -, X20, ⟨Lc20, hQ20, l20, y20, z20⟩, st20⟩ := X19.virtualBack hx (y := (⟨"com/example/januswire/januswire/sim/DueEvents", "isEmpty", "()Z"⟩ : MethodName)) (z := (⟨"com/example/januswire/januswire/sim/DueEvents", "isEmpty", "()Z"⟩ : MethodName)) hown (mvT hZ (hw _ (List.mem_of_getElem? (i := 23) rfl))) (mvT hZ (hw _ (List.mem_of_getElem? (i := 24) rfl))) (notFace_of_selects (args := #[]) (mvT hZ (hw _ (List.mem_of_getElem? (i := 26) rfl)))) (mvT hZ (hw _ (List.mem_of_getElem? (i := 26) rfl))) (mvT hZ (hw _ (List.mem_of_getElem? (i := 25) rfl))) (by decide) (backOf (W := 0) (isE_1 l Z a0 hw [] b1 h19 n0 O19 (own_penD D19)) hZ (hw _ (List.mem_of_getElem? (i := 27) rfl)) (hw _ (List.mem_of_getElem? (i := 2) rfl)) (by decide) (by decide)) q20a q20c (g := (mkF m 214 #[.val (.long q1), .second, .val (.int p1), .val (.int p2), .val (.int p3), .val (.int p4), .val (.ref b1), .val (.long ((p2 &&& (63 : Int32)).toInt64)), .second, .val (.long ((p3 &&& (63 : Int32)).toInt64)), .second, .val (.long ((p4 &&& (63 : Int32)).toInt64)), .second, .val (.int (p1 &&& (3 : Int32))), .val (.int (1 : Int32)), .val (.int (1 : Int32))] [(.ref b1)])) rfl (by rw [hml]; rfl) (Steps.refl _) (argsL := []) (rest := []) (lenOf pd___Z rfl) rfl (by show 2 * 0 + _ ≤ _; exact Nat.le_of_eq rfl) (hb hby at_214) (fun _ _ => ⟨rfl, e19, (by show 6 + 0 ≤ 32; omega), (by show 47 + own_F M19 + 0 ≤ 704; have := own_Fle hM19; omega)⟩)
              dsimp only [Pt.U, Pt.locs, Pt.cells, Pt.slots] at X20 l20 y20 z20 st20 hQ20
              subst l20 y20 z20
              obtain ⟨rfl, Nq20, eq20⟩ := hQ20
              have N20 := Fr.app N19 Nq20
              obtain ⟨fs, hr, hrun, hended, hW, hsame⟩ := X20.leave (v := some (.int (1 : Int32))) (fun h => by rw [Bd.returns] at h; cases h)
              refine ⟨_, _, pre16 _ ?_, hrun, hended, _, _, rfl, ?_, ⟨_, rfl⟩, hW, hsame.mono (by show 6 ≤ 32; omega) (by show 47 + own_F M19 ≤ 704; have := own_Fle hM19; omega)⟩
              · show Steps p.tables e below (T14.setTop (mkF m 185 #[.val (.long q1), .second, .val (.int p1), .val (.int p2), .val (.int p3), .val (.int p4), .val (.ref b1), .val (.long ((p2 &&& (63 : Int32)).toInt64)), .second, .val (.long ((p3 &&& (63 : Int32)).toInt64)), .second, .val (.long ((p4 &&& (63 : Int32)).toInt64)), .second, .val (.int (p1 &&& (3 : Int32))), .val (.int (1 : Int32)), .val (.int (0 : Int32))] [.null, (.long ((p4 &&& (63 : Int32)).toInt64)), (.ref b1)])) _
                refine st19.trans ?_
                show Steps p.tables e below (T19.setTop (mkF m 188 #[.val (.long q1), .second, .val (.int p1), .val (.int p2), .val (.int p3), .val (.int p4), .val (.ref b1), .val (.long ((p2 &&& (63 : Int32)).toInt64)), .second, .val (.long ((p3 &&& (63 : Int32)).toInt64)), .second, .val (.long ((p4 &&& (63 : Int32)).toInt64)), .second, .val (.int (p1 &&& (3 : Int32))), .val (.int (1 : Int32)), .val (.int (0 : Int32))] [])) _
                refine XS.iload X19.here hx rfl (hb hby at_188) rfl ?_
                show Steps p.tables e below (T19.setTop (mkF m 190 #[.val (.long q1), .second, .val (.int p1), .val (.int p2), .val (.int p3), .val (.int p4), .val (.ref b1), .val (.long ((p2 &&& (63 : Int32)).toInt64)), .second, .val (.long ((p3 &&& (63 : Int32)).toInt64)), .second, .val (.long ((p4 &&& (63 : Int32)).toInt64)), .second, .val (.int (p1 &&& (3 : Int32))), .val (.int (1 : Int32)), .val (.int (0 : Int32))] [(.int (0 : Int32))])) _
                refine XS.ifNo X19.here hx rfl (hb hby at_190) rfl ((if0 _ _).trans (teq (by decide : (0 : Int32) = (0 : Int32))).2) ?_
                show Steps p.tables e below (T19.setTop (mkF m 193 #[.val (.long q1), .second, .val (.int p1), .val (.int p2), .val (.int p3), .val (.int p4), .val (.ref b1), .val (.long ((p2 &&& (63 : Int32)).toInt64)), .second, .val (.long ((p3 &&& (63 : Int32)).toInt64)), .second, .val (.long ((p4 &&& (63 : Int32)).toInt64)), .second, .val (.int (p1 &&& (3 : Int32))), .val (.int (1 : Int32)), .val (.int (0 : Int32))] [])) _
                refine XS.lload X19.here hx rfl (hb hby at_193) rfl ?_
                show Steps p.tables e below (T19.setTop (mkF m 195 #[.val (.long q1), .second, .val (.int p1), .val (.int p2), .val (.int p3), .val (.int p4), .val (.ref b1), .val (.long ((p2 &&& (63 : Int32)).toInt64)), .second, .val (.long ((p3 &&& (63 : Int32)).toInt64)), .second, .val (.long ((p4 &&& (63 : Int32)).toInt64)), .second, .val (.int (p1 &&& (3 : Int32))), .val (.int (1 : Int32)), .val (.int (0 : Int32))] [(.long ((p4 &&& (63 : Int32)).toInt64))])) _
                refine XS.lloadN X19.here hx rfl (hb hby at_195) rfl ?_
                show Steps p.tables e below (T19.setTop (mkF m 196 #[.val (.long q1), .second, .val (.int p1), .val (.int p2), .val (.int p3), .val (.int p4), .val (.ref b1), .val (.long ((p2 &&& (63 : Int32)).toInt64)), .second, .val (.long ((p3 &&& (63 : Int32)).toInt64)), .second, .val (.long ((p4 &&& (63 : Int32)).toInt64)), .second, .val (.int (p1 &&& (3 : Int32))), .val (.int (1 : Int32)), .val (.int (0 : Int32))] [(.long q1), (.long ((p4 &&& (63 : Int32)).toInt64))])) _
                refine XS.lcmp X19.here hx rfl (hb hby at_196) rfl ?_
                show Steps p.tables e below (T19.setTop (mkF m 197 #[.val (.long q1), .second, .val (.int p1), .val (.int p2), .val (.int p3), .val (.int p4), .val (.ref b1), .val (.long ((p2 &&& (63 : Int32)).toInt64)), .second, .val (.long ((p3 &&& (63 : Int32)).toInt64)), .second, .val (.long ((p4 &&& (63 : Int32)).toInt64)), .second, .val (.int (p1 &&& (3 : Int32))), .val (.int (1 : Int32)), .val (.int (0 : Int32))] [(.int (lcmpW ((p4 &&& (63 : Int32)).toInt64) q1))])) _
                refine XS.ifNo X19.here hx rfl (hb hby at_197) rfl ((if0 _ _).trans (flt hc185_16).2.2.1) ?_
                show Steps p.tables e below (T19.setTop (mkF m 200 #[.val (.long q1), .second, .val (.int p1), .val (.int p2), .val (.int p3), .val (.int p4), .val (.ref b1), .val (.long ((p2 &&& (63 : Int32)).toInt64)), .second, .val (.long ((p3 &&& (63 : Int32)).toInt64)), .second, .val (.long ((p4 &&& (63 : Int32)).toInt64)), .second, .val (.int (p1 &&& (3 : Int32))), .val (.int (1 : Int32)), .val (.int (0 : Int32))] [])) _
                refine XS.iconst X19.here hx rfl (hb hby at_200) ?_
                show Steps p.tables e below (T19.setTop (mkF m 201 #[.val (.long q1), .second, .val (.int p1), .val (.int p2), .val (.int p3), .val (.int p4), .val (.ref b1), .val (.long ((p2 &&& (63 : Int32)).toInt64)), .second, .val (.long ((p3 &&& (63 : Int32)).toInt64)), .second, .val (.long ((p4 &&& (63 : Int32)).toInt64)), .second, .val (.int (p1 &&& (3 : Int32))), .val (.int (1 : Int32)), .val (.int (0 : Int32))] [(.int (1 : Int32))])) _
                refine XS.goto X19.here hx rfl (pc0 := 201) (pc' := 205) rfl (hb hby at_201) (by decide) (by decide) ?_
                show Steps p.tables e below (T19.setTop (mkF m 205 #[.val (.long q1), .second, .val (.int p1), .val (.int p2), .val (.int p3), .val (.int p4), .val (.ref b1), .val (.long ((p2 &&& (63 : Int32)).toInt64)), .second, .val (.long ((p3 &&& (63 : Int32)).toInt64)), .second, .val (.long ((p4 &&& (63 : Int32)).toInt64)), .second, .val (.int (p1 &&& (3 : Int32))), .val (.int (1 : Int32)), .val (.int (0 : Int32))] [(.int (1 : Int32))])) _
                refine XS.istore X19.here hx rfl (hb hby at_205) rfl (l' := #[.val (.long q1), .second, .val (.int p1), .val (.int p2), .val (.int p3), .val (.int p4), .val (.ref b1), .val (.long ((p2 &&& (63 : Int32)).toInt64)), .second, .val (.long ((p3 &&& (63 : Int32)).toInt64)), .second, .val (.long ((p4 &&& (63 : Int32)).toInt64)), .second, .val (.int (p1 &&& (3 : Int32))), .val (.int (1 : Int32)), .val (.int (1 : Int32))]) rfl ?_
                show Steps p.tables e below (T19.setTop (mkF m 207 #[.val (.long q1), .second, .val (.int p1), .val (.int p2), .val (.int p3), .val (.int p4), .val (.ref b1), .val (.long ((p2 &&& (63 : Int32)).toInt64)), .second, .val (.long ((p3 &&& (63 : Int32)).toInt64)), .second, .val (.long ((p4 &&& (63 : Int32)).toInt64)), .second, .val (.int (p1 &&& (3 : Int32))), .val (.int (1 : Int32)), .val (.int (1 : Int32))] [])) _
                refine XS.iload X19.here hx rfl (hb hby at_207) rfl ?_
                show Steps p.tables e below (T19.setTop (mkF m 209 #[.val (.long q1), .second, .val (.int p1), .val (.int p2), .val (.int p3), .val (.int p4), .val (.ref b1), .val (.long ((p2 &&& (63 : Int32)).toInt64)), .second, .val (.long ((p3 &&& (63 : Int32)).toInt64)), .second, .val (.long ((p4 &&& (63 : Int32)).toInt64)), .second, .val (.int (p1 &&& (3 : Int32))), .val (.int (1 : Int32)), .val (.int (1 : Int32))] [(.int (1 : Int32))])) _
                refine XS.ifNo X19.here hx rfl (hb hby at_209) rfl ((if0 _ _).trans (feq (by decide : ¬ ((1 : Int32) = (0 : Int32)))).1) ?_
                show Steps p.tables e below (T19.setTop (mkF m 212 #[.val (.long q1), .second, .val (.int p1), .val (.int p2), .val (.int p3), .val (.int p4), .val (.ref b1), .val (.long ((p2 &&& (63 : Int32)).toInt64)), .second, .val (.long ((p3 &&& (63 : Int32)).toInt64)), .second, .val (.long ((p4 &&& (63 : Int32)).toInt64)), .second, .val (.int (p1 &&& (3 : Int32))), .val (.int (1 : Int32)), .val (.int (1 : Int32))] [])) _
                refine XS.aload X19.here hx rfl (hb hby at_212) rfl rfl ?_
                show Steps p.tables e below (T19.setTop (mkF m 214 #[.val (.long q1), .second, .val (.int p1), .val (.int p2), .val (.int p3), .val (.int p4), .val (.ref b1), .val (.long ((p2 &&& (63 : Int32)).toInt64)), .second, .val (.long ((p3 &&& (63 : Int32)).toInt64)), .second, .val (.long ((p4 &&& (63 : Int32)).toInt64)), .second, .val (.int (p1 &&& (3 : Int32))), .val (.int (1 : Int32)), .val (.int (1 : Int32))] [(.ref b1)])) _
                refine st20.trans ?_
                show Steps p.tables e below (T20.setTop (mkF m 217 #[.val (.long q1), .second, .val (.int p1), .val (.int p2), .val (.int p3), .val (.int p4), .val (.ref b1), .val (.long ((p2 &&& (63 : Int32)).toInt64)), .second, .val (.long ((p3 &&& (63 : Int32)).toInt64)), .second, .val (.long ((p4 &&& (63 : Int32)).toInt64)), .second, .val (.int (p1 &&& (3 : Int32))), .val (.int (1 : Int32)), .val (.int (1 : Int32))] [(.int (0 : Int32))])) _
                refine XS.iload X20.here hx rfl (hb hby at_217) rfl ?_
                show Steps p.tables e below (T20.setTop (mkF m 219 #[.val (.long q1), .second, .val (.int p1), .val (.int p2), .val (.int p3), .val (.int p4), .val (.ref b1), .val (.long ((p2 &&& (63 : Int32)).toInt64)), .second, .val (.long ((p3 &&& (63 : Int32)).toInt64)), .second, .val (.long ((p4 &&& (63 : Int32)).toInt64)), .second, .val (.int (p1 &&& (3 : Int32))), .val (.int (1 : Int32)), .val (.int (1 : Int32))] [(.int (1 : Int32)), (.int (0 : Int32))])) _
                refine XS.ifYes X20.here hx rfl (pc0 := 219) (pc' := 226) rfl (hb hby at_219) rfl ((if0 _ _).trans (feq (by decide : ¬ ((1 : Int32) = (0 : Int32)))).2) (by decide) (by decide) ?_
                show Steps p.tables e below (T20.setTop (mkF m 226 #[.val (.long q1), .second, .val (.int p1), .val (.int p2), .val (.int p3), .val (.int p4), .val (.ref b1), .val (.long ((p2 &&& (63 : Int32)).toInt64)), .second, .val (.long ((p3 &&& (63 : Int32)).toInt64)), .second, .val (.long ((p4 &&& (63 : Int32)).toInt64)), .second, .val (.int (p1 &&& (3 : Int32))), .val (.int (1 : Int32)), .val (.int (1 : Int32))] [(.int (0 : Int32))])) _
                refine XS.iconst X20.here hx rfl (hb hby at_226) ?_
                show Steps p.tables e below (T20.setTop (mkF m 227 #[.val (.long q1), .second, .val (.int p1), .val (.int p2), .val (.int p3), .val (.int p4), .val (.ref b1), .val (.long ((p2 &&& (63 : Int32)).toInt64)), .second, .val (.long ((p3 &&& (63 : Int32)).toInt64)), .second, .val (.long ((p4 &&& (63 : Int32)).toInt64)), .second, .val (.int (p1 &&& (3 : Int32))), .val (.int (1 : Int32)), .val (.int (1 : Int32))] [(.int (0 : Int32)), (.int (0 : Int32))])) _
                refine XS.icmpNo X20.here hx rfl (hb hby at_227) rfl (teq (by decide : (0 : Int32) = (0 : Int32))).2 ?_
                show Steps p.tables e below (T20.setTop (mkF m 230 #[.val (.long q1), .second, .val (.int p1), .val (.int p2), .val (.int p3), .val (.int p4), .val (.ref b1), .val (.long ((p2 &&& (63 : Int32)).toInt64)), .second, .val (.long ((p3 &&& (63 : Int32)).toInt64)), .second, .val (.long ((p4 &&& (63 : Int32)).toInt64)), .second, .val (.int (p1 &&& (3 : Int32))), .val (.int (1 : Int32)), .val (.int (1 : Int32))] [])) _
                refine XS.iconst X20.here hx rfl (hb hby at_230) ?_
                show Steps p.tables e below (T20.setTop (mkF m 231 #[.val (.long q1), .second, .val (.int p1), .val (.int p2), .val (.int p3), .val (.int p4), .val (.ref b1), .val (.long ((p2 &&& (63 : Int32)).toInt64)), .second, .val (.long ((p3 &&& (63 : Int32)).toInt64)), .second, .val (.long ((p4 &&& (63 : Int32)).toInt64)), .second, .val (.int (p1 &&& (3 : Int32))), .val (.int (1 : Int32)), .val (.int (1 : Int32))] [(.int (1 : Int32))])) _
                refine XS.goto X20.here hx rfl (pc0 := 231) (pc' := 235) rfl (hb hby at_231) (by decide) (by decide) ?_
                show Steps p.tables e below (T20.setTop (mkF m 235 #[.val (.long q1), .second, .val (.int p1), .val (.int p2), .val (.int p3), .val (.int p4), .val (.ref b1), .val (.long ((p2 &&& (63 : Int32)).toInt64)), .second, .val (.long ((p3 &&& (63 : Int32)).toInt64)), .second, .val (.long ((p4 &&& (63 : Int32)).toInt64)), .second, .val (.int (p1 &&& (3 : Int32))), .val (.int (1 : Int32)), .val (.int (1 : Int32))] [(.int (1 : Int32))])) _
                refine XS.istore X20.here hx rfl (hb hby at_235) rfl (l' := #[.val (.long q1), .second, .val (.int p1), .val (.int p2), .val (.int p3), .val (.int p4), .val (.ref b1), .val (.long ((p2 &&& (63 : Int32)).toInt64)), .second, .val (.long ((p3 &&& (63 : Int32)).toInt64)), .second, .val (.long ((p4 &&& (63 : Int32)).toInt64)), .second, .val (.int (p1 &&& (3 : Int32))), .val (.int (1 : Int32)), .val (.int (1 : Int32))]) rfl ?_
                show Steps p.tables e below (T20.setTop (mkF m 237 #[.val (.long q1), .second, .val (.int p1), .val (.int p2), .val (.int p3), .val (.int p4), .val (.ref b1), .val (.long ((p2 &&& (63 : Int32)).toInt64)), .second, .val (.long ((p3 &&& (63 : Int32)).toInt64)), .second, .val (.long ((p4 &&& (63 : Int32)).toInt64)), .second, .val (.int (p1 &&& (3 : Int32))), .val (.int (1 : Int32)), .val (.int (1 : Int32))] [])) _
                refine XS.iload X20.here hx rfl (hb hby at_237) rfl ?_
                show Steps p.tables e below (T20.setTop (mkF m 239 #[.val (.long q1), .second, .val (.int p1), .val (.int p2), .val (.int p3), .val (.int p4), .val (.ref b1), .val (.long ((p2 &&& (63 : Int32)).toInt64)), .second, .val (.long ((p3 &&& (63 : Int32)).toInt64)), .second, .val (.long ((p4 &&& (63 : Int32)).toInt64)), .second, .val (.int (p1 &&& (3 : Int32))), .val (.int (1 : Int32)), .val (.int (1 : Int32))] [(.int (1 : Int32))])) _
                exact retN X20 hx (t := .boolean) Bd.returns (by simp) (hb hby at_239) hr
              · show Q_rm0 Z q1 p1 p2 p3 p4 h0 n0 _ T20.heap _
                rw [eq20]
                exact ⟨rfl, N20⟩
        · obtain ⟨M21, T21, h21, locs21, hM21, X21, e21, O21, N21, D21, st21⟩ := schedI (s0 := 39) (M := (16 : Int32)) (P' := (1 : Int64)) (k' := (1 : Int32)) X9 hx hZ hw hown eq9 O8 N9 D8 g_b1 (own_63 p3).1 (own_63 p3).2 hc122_12 (Or.inl rfl) (by decide) (by decide) (by decide) (by decide) (g := (mkF m 122 #[.val (.long q1), .second, .val (.int p1), .val (.int p2), .val (.int p3), .val (.int p4), .val (.ref b1), .val (.long ((p2 &&& (63 : Int32)).toInt64)), .second, .val (.long ((p3 &&& (63 : Int32)).toInt64)), .second, .val (.long ((p4 &&& (63 : Int32)).toInt64)), .second, .val (.int (p1 &&& (3 : Int32))), .val (.int (1 : Int32)), .val (.int (0 : Int32))] [.null, (.long ((p3 &&& (63 : Int32)).toInt64)), (.ref b1)])) rfl rfl (by rw [hml]; rfl) rfl (hb hby at_122) (by omega) (by omega)
          obtain ⟨cq22, kq22, q22a, q22b, q22c⟩ := isOf hZ e21 (own_exaD D21)
          obtain ⟨_, _, ⟨T22, L22, k22, n22⟩, -, X22, ⟨Lc22, hQ22, l22, y22, z22⟩, st22⟩ := X21.virtualBack hx (y := (⟨"com/example/januswire/januswire/sim/DueEvents", "isEmpty", "()Z"⟩ : MethodName)) (z := (⟨"com/example/januswire/januswire/sim/DueEvents", "isEmpty", "()Z"⟩ : MethodName)) hown (mvT hZ (hw _ (List.mem_of_getElem? (i := 23) rfl))) (mvT hZ (hw _ (List.mem_of_getElem? (i := 24) rfl))) (notFace_of_selects (args := #[]) (mvT hZ (hw _ (List.mem_of_getElem? (i := 26) rfl)))) (mvT hZ (hw _ (List.mem_of_getElem? (i := 26) rfl))) (mvT hZ (hw _ (List.mem_of_getElem? (i := 25) rfl))) (by decide) (backOf (W := 0) (isE_1 l Z a0 hw [] b1 h21 n0 O21 (own_penD D21)) hZ (hw _ (List.mem_of_getElem? (i := 27) rfl)) (hw _ (List.mem_of_getElem? (i := 2) rfl)) (by decide) (by decide)) q22a q22c (g := (mkF m 151 #[.val (.long q1), .second, .val (.int p1), .val (.int p2), .val (.int p3), .val (.int p4), .val (.ref b1), .val (.long ((p2 &&& (63 : Int32)).toInt64)), .second, .val (.long ((p3 &&& (63 : Int32)).toInt64)), .second, .val (.long ((p4 &&& (63 : Int32)).toInt64)), .second, .val (.int (p1 &&& (3 : Int32))), .val (.int (1 : Int32)), .val (.int (1 : Int32))] [(.ref b1)])) rfl (by rw [hml]; rfl) (Steps.refl _) (argsL := []) (rest := []) (lenOf pd___Z rfl) rfl (by show 2 * 0 + _ ≤ _; exact Nat.le_of_eq rfl) (hb hby at_151) (fun _ _ => ⟨rfl, e21, (by show 6 + 0 ≤ 32; omega), (by show 47 + own_F M21 + 0 ≤ 704; have := own_Fle hM21; omega)⟩)
          dsimp only [Pt.U, Pt.locs, Pt.cells, Pt.slots] at X22 l22 y22 z22 st22 hQ22
          subst l22 y22 z22
          obtain ⟨rfl, Nq22, eq22⟩ := hQ22
          have N22 := Fr.app N21 Nq22
          have pre23 : ∀ t, Steps p.tables e below (T22.setTop (mkF m 177 #[.val (.long q1), .second, .val (.int p1), .val (.int p2), .val (.int p3), .val (.int p4), .val (.ref b1), .val (.long ((p2 &&& (63 : Int32)).toInt64)), .second, .val (.long ((p3 &&& (63 : Int32)).toInt64)), .second, .val (.long ((p4 &&& (63 : Int32)).toInt64)), .second, .val (.int (p1 &&& (3 : Int32))), .val (.int (1 : Int32)), .val (.int (1 : Int32))] [(.int (3 : Int32)), (.int (p1 &&& (3 : Int32)))])) t → Steps p.tables e below (s₁.setTop (entryFrame m #[(.long q1), (.int p1), (.int p2), (.int p3), (.int p4)] maxLocals)) t := by
            intro t kt
            refine pre12 _ ?_
            show Steps p.tables e below (T9.setTop (mkF m 122 #[.val (.long q1), .second, .val (.int p1), .val (.int p2), .val (.int p3), .val (.int p4), .val (.ref b1), .val (.long ((p2 &&& (63 : Int32)).toInt64)), .second, .val (.long ((p3 &&& (63 : Int32)).toInt64)), .second, .val (.long ((p4 &&& (63 : Int32)).toInt64)), .second, .val (.int (p1 &&& (3 : Int32))), .val (.int (1 : Int32)), .val (.int (0 : Int32))] [.null, (.long ((p3 &&& (63 : Int32)).toInt64)), (.ref b1)])) _
            refine st21.trans ?_
            show Steps p.tables e below (T21.setTop (mkF m 125 #[.val (.long q1), .second, .val (.int p1), .val (.int p2), .val (.int p3), .val (.int p4), .val (.ref b1), .val (.long ((p2 &&& (63 : Int32)).toInt64)), .second, .val (.long ((p3 &&& (63 : Int32)).toInt64)), .second, .val (.long ((p4 &&& (63 : Int32)).toInt64)), .second, .val (.int (p1 &&& (3 : Int32))), .val (.int (1 : Int32)), .val (.int (0 : Int32))] [])) _
            refine XS.iload X21.here hx rfl (hb hby at_125) rfl ?_
            show Steps p.tables e below (T21.setTop (mkF m 127 #[.val (.long q1), .second, .val (.int p1), .val (.int p2), .val (.int p3), .val (.int p4), .val (.ref b1), .val (.long ((p2 &&& (63 : Int32)).toInt64)), .second, .val (.long ((p3 &&& (63 : Int32)).toInt64)), .second, .val (.long ((p4 &&& (63 : Int32)).toInt64)), .second, .val (.int (p1 &&& (3 : Int32))), .val (.int (1 : Int32)), .val (.int (0 : Int32))] [(.int (0 : Int32))])) _
            refine XS.ifNo X21.here hx rfl (hb hby at_127) rfl ((if0 _ _).trans (teq (by decide : (0 : Int32) = (0 : Int32))).2) ?_
            show Steps p.tables e below (T21.setTop (mkF m 130 #[.val (.long q1), .second, .val (.int p1), .val (.int p2), .val (.int p3), .val (.int p4), .val (.ref b1), .val (.long ((p2 &&& (63 : Int32)).toInt64)), .second, .val (.long ((p3 &&& (63 : Int32)).toInt64)), .second, .val (.long ((p4 &&& (63 : Int32)).toInt64)), .second, .val (.int (p1 &&& (3 : Int32))), .val (.int (1 : Int32)), .val (.int (0 : Int32))] [])) _
            refine XS.lload X21.here hx rfl (hb hby at_130) rfl ?_
            show Steps p.tables e below (T21.setTop (mkF m 132 #[.val (.long q1), .second, .val (.int p1), .val (.int p2), .val (.int p3), .val (.int p4), .val (.ref b1), .val (.long ((p2 &&& (63 : Int32)).toInt64)), .second, .val (.long ((p3 &&& (63 : Int32)).toInt64)), .second, .val (.long ((p4 &&& (63 : Int32)).toInt64)), .second, .val (.int (p1 &&& (3 : Int32))), .val (.int (1 : Int32)), .val (.int (0 : Int32))] [(.long ((p3 &&& (63 : Int32)).toInt64))])) _
            refine XS.lloadN X21.here hx rfl (hb hby at_132) rfl ?_
            show Steps p.tables e below (T21.setTop (mkF m 133 #[.val (.long q1), .second, .val (.int p1), .val (.int p2), .val (.int p3), .val (.int p4), .val (.ref b1), .val (.long ((p2 &&& (63 : Int32)).toInt64)), .second, .val (.long ((p3 &&& (63 : Int32)).toInt64)), .second, .val (.long ((p4 &&& (63 : Int32)).toInt64)), .second, .val (.int (p1 &&& (3 : Int32))), .val (.int (1 : Int32)), .val (.int (0 : Int32))] [(.long q1), (.long ((p3 &&& (63 : Int32)).toInt64))])) _
            refine XS.lcmp X21.here hx rfl (hb hby at_133) rfl ?_
            show Steps p.tables e below (T21.setTop (mkF m 134 #[.val (.long q1), .second, .val (.int p1), .val (.int p2), .val (.int p3), .val (.int p4), .val (.ref b1), .val (.long ((p2 &&& (63 : Int32)).toInt64)), .second, .val (.long ((p3 &&& (63 : Int32)).toInt64)), .second, .val (.long ((p4 &&& (63 : Int32)).toInt64)), .second, .val (.int (p1 &&& (3 : Int32))), .val (.int (1 : Int32)), .val (.int (0 : Int32))] [(.int (lcmpW ((p3 &&& (63 : Int32)).toInt64) q1))])) _
            refine XS.ifNo X21.here hx rfl (hb hby at_134) rfl ((if0 _ _).trans (flt hc122_12).2.2.1) ?_
            show Steps p.tables e below (T21.setTop (mkF m 137 #[.val (.long q1), .second, .val (.int p1), .val (.int p2), .val (.int p3), .val (.int p4), .val (.ref b1), .val (.long ((p2 &&& (63 : Int32)).toInt64)), .second, .val (.long ((p3 &&& (63 : Int32)).toInt64)), .second, .val (.long ((p4 &&& (63 : Int32)).toInt64)), .second, .val (.int (p1 &&& (3 : Int32))), .val (.int (1 : Int32)), .val (.int (0 : Int32))] [])) _
            refine XS.iconst X21.here hx rfl (hb hby at_137) ?_
            show Steps p.tables e below (T21.setTop (mkF m 138 #[.val (.long q1), .second, .val (.int p1), .val (.int p2), .val (.int p3), .val (.int p4), .val (.ref b1), .val (.long ((p2 &&& (63 : Int32)).toInt64)), .second, .val (.long ((p3 &&& (63 : Int32)).toInt64)), .second, .val (.long ((p4 &&& (63 : Int32)).toInt64)), .second, .val (.int (p1 &&& (3 : Int32))), .val (.int (1 : Int32)), .val (.int (0 : Int32))] [(.int (1 : Int32))])) _
            refine XS.goto X21.here hx rfl (pc0 := 138) (pc' := 142) rfl (hb hby at_138) (by decide) (by decide) ?_
            show Steps p.tables e below (T21.setTop (mkF m 142 #[.val (.long q1), .second, .val (.int p1), .val (.int p2), .val (.int p3), .val (.int p4), .val (.ref b1), .val (.long ((p2 &&& (63 : Int32)).toInt64)), .second, .val (.long ((p3 &&& (63 : Int32)).toInt64)), .second, .val (.long ((p4 &&& (63 : Int32)).toInt64)), .second, .val (.int (p1 &&& (3 : Int32))), .val (.int (1 : Int32)), .val (.int (0 : Int32))] [(.int (1 : Int32))])) _
            refine XS.istore X21.here hx rfl (hb hby at_142) rfl (l' := #[.val (.long q1), .second, .val (.int p1), .val (.int p2), .val (.int p3), .val (.int p4), .val (.ref b1), .val (.long ((p2 &&& (63 : Int32)).toInt64)), .second, .val (.long ((p3 &&& (63 : Int32)).toInt64)), .second, .val (.long ((p4 &&& (63 : Int32)).toInt64)), .second, .val (.int (p1 &&& (3 : Int32))), .val (.int (1 : Int32)), .val (.int (1 : Int32))]) rfl ?_
            show Steps p.tables e below (T21.setTop (mkF m 144 #[.val (.long q1), .second, .val (.int p1), .val (.int p2), .val (.int p3), .val (.int p4), .val (.ref b1), .val (.long ((p2 &&& (63 : Int32)).toInt64)), .second, .val (.long ((p3 &&& (63 : Int32)).toInt64)), .second, .val (.long ((p4 &&& (63 : Int32)).toInt64)), .second, .val (.int (p1 &&& (3 : Int32))), .val (.int (1 : Int32)), .val (.int (1 : Int32))] [])) _
            refine XS.iload X21.here hx rfl (hb hby at_144) rfl ?_
            show Steps p.tables e below (T21.setTop (mkF m 146 #[.val (.long q1), .second, .val (.int p1), .val (.int p2), .val (.int p3), .val (.int p4), .val (.ref b1), .val (.long ((p2 &&& (63 : Int32)).toInt64)), .second, .val (.long ((p3 &&& (63 : Int32)).toInt64)), .second, .val (.long ((p4 &&& (63 : Int32)).toInt64)), .second, .val (.int (p1 &&& (3 : Int32))), .val (.int (1 : Int32)), .val (.int (1 : Int32))] [(.int (1 : Int32))])) _
            refine XS.ifNo X21.here hx rfl (hb hby at_146) rfl ((if0 _ _).trans (feq (by decide : ¬ ((1 : Int32) = (0 : Int32)))).1) ?_
            show Steps p.tables e below (T21.setTop (mkF m 149 #[.val (.long q1), .second, .val (.int p1), .val (.int p2), .val (.int p3), .val (.int p4), .val (.ref b1), .val (.long ((p2 &&& (63 : Int32)).toInt64)), .second, .val (.long ((p3 &&& (63 : Int32)).toInt64)), .second, .val (.long ((p4 &&& (63 : Int32)).toInt64)), .second, .val (.int (p1 &&& (3 : Int32))), .val (.int (1 : Int32)), .val (.int (1 : Int32))] [])) _
            refine XS.aload X21.here hx rfl (hb hby at_149) rfl rfl ?_
            show Steps p.tables e below (T21.setTop (mkF m 151 #[.val (.long q1), .second, .val (.int p1), .val (.int p2), .val (.int p3), .val (.int p4), .val (.ref b1), .val (.long ((p2 &&& (63 : Int32)).toInt64)), .second, .val (.long ((p3 &&& (63 : Int32)).toInt64)), .second, .val (.long ((p4 &&& (63 : Int32)).toInt64)), .second, .val (.int (p1 &&& (3 : Int32))), .val (.int (1 : Int32)), .val (.int (1 : Int32))] [(.ref b1)])) _
            refine st22.trans ?_
            show Steps p.tables e below (T22.setTop (mkF m 154 #[.val (.long q1), .second, .val (.int p1), .val (.int p2), .val (.int p3), .val (.int p4), .val (.ref b1), .val (.long ((p2 &&& (63 : Int32)).toInt64)), .second, .val (.long ((p3 &&& (63 : Int32)).toInt64)), .second, .val (.long ((p4 &&& (63 : Int32)).toInt64)), .second, .val (.int (p1 &&& (3 : Int32))), .val (.int (1 : Int32)), .val (.int (1 : Int32))] [(.int (0 : Int32))])) _
            refine XS.iload X22.here hx rfl (hb hby at_154) rfl ?_
            show Steps p.tables e below (T22.setTop (mkF m 156 #[.val (.long q1), .second, .val (.int p1), .val (.int p2), .val (.int p3), .val (.int p4), .val (.ref b1), .val (.long ((p2 &&& (63 : Int32)).toInt64)), .second, .val (.long ((p3 &&& (63 : Int32)).toInt64)), .second, .val (.long ((p4 &&& (63 : Int32)).toInt64)), .second, .val (.int (p1 &&& (3 : Int32))), .val (.int (1 : Int32)), .val (.int (1 : Int32))] [(.int (1 : Int32)), (.int (0 : Int32))])) _
            refine XS.ifYes X22.here hx rfl (pc0 := 156) (pc' := 163) rfl (hb hby at_156) rfl ((if0 _ _).trans (feq (by decide : ¬ ((1 : Int32) = (0 : Int32)))).2) (by decide) (by decide) ?_
            show Steps p.tables e below (T22.setTop (mkF m 163 #[.val (.long q1), .second, .val (.int p1), .val (.int p2), .val (.int p3), .val (.int p4), .val (.ref b1), .val (.long ((p2 &&& (63 : Int32)).toInt64)), .second, .val (.long ((p3 &&& (63 : Int32)).toInt64)), .second, .val (.long ((p4 &&& (63 : Int32)).toInt64)), .second, .val (.int (p1 &&& (3 : Int32))), .val (.int (1 : Int32)), .val (.int (1 : Int32))] [(.int (0 : Int32))])) _
            refine XS.iconst X22.here hx rfl (hb hby at_163) ?_
            show Steps p.tables e below (T22.setTop (mkF m 164 #[.val (.long q1), .second, .val (.int p1), .val (.int p2), .val (.int p3), .val (.int p4), .val (.ref b1), .val (.long ((p2 &&& (63 : Int32)).toInt64)), .second, .val (.long ((p3 &&& (63 : Int32)).toInt64)), .second, .val (.long ((p4 &&& (63 : Int32)).toInt64)), .second, .val (.int (p1 &&& (3 : Int32))), .val (.int (1 : Int32)), .val (.int (1 : Int32))] [(.int (0 : Int32)), (.int (0 : Int32))])) _
            refine XS.icmpNo X22.here hx rfl (hb hby at_164) rfl (teq (by decide : (0 : Int32) = (0 : Int32))).2 ?_
            show Steps p.tables e below (T22.setTop (mkF m 167 #[.val (.long q1), .second, .val (.int p1), .val (.int p2), .val (.int p3), .val (.int p4), .val (.ref b1), .val (.long ((p2 &&& (63 : Int32)).toInt64)), .second, .val (.long ((p3 &&& (63 : Int32)).toInt64)), .second, .val (.long ((p4 &&& (63 : Int32)).toInt64)), .second, .val (.int (p1 &&& (3 : Int32))), .val (.int (1 : Int32)), .val (.int (1 : Int32))] [])) _
            refine XS.iconst X22.here hx rfl (hb hby at_167) ?_
            show Steps p.tables e below (T22.setTop (mkF m 168 #[.val (.long q1), .second, .val (.int p1), .val (.int p2), .val (.int p3), .val (.int p4), .val (.ref b1), .val (.long ((p2 &&& (63 : Int32)).toInt64)), .second, .val (.long ((p3 &&& (63 : Int32)).toInt64)), .second, .val (.long ((p4 &&& (63 : Int32)).toInt64)), .second, .val (.int (p1 &&& (3 : Int32))), .val (.int (1 : Int32)), .val (.int (1 : Int32))] [(.int (1 : Int32))])) _
            refine XS.goto X22.here hx rfl (pc0 := 168) (pc' := 172) rfl (hb hby at_168) (by decide) (by decide) ?_
            show Steps p.tables e below (T22.setTop (mkF m 172 #[.val (.long q1), .second, .val (.int p1), .val (.int p2), .val (.int p3), .val (.int p4), .val (.ref b1), .val (.long ((p2 &&& (63 : Int32)).toInt64)), .second, .val (.long ((p3 &&& (63 : Int32)).toInt64)), .second, .val (.long ((p4 &&& (63 : Int32)).toInt64)), .second, .val (.int (p1 &&& (3 : Int32))), .val (.int (1 : Int32)), .val (.int (1 : Int32))] [(.int (1 : Int32))])) _
            refine XS.istore X22.here hx rfl (hb hby at_172) rfl (l' := #[.val (.long q1), .second, .val (.int p1), .val (.int p2), .val (.int p3), .val (.int p4), .val (.ref b1), .val (.long ((p2 &&& (63 : Int32)).toInt64)), .second, .val (.long ((p3 &&& (63 : Int32)).toInt64)), .second, .val (.long ((p4 &&& (63 : Int32)).toInt64)), .second, .val (.int (p1 &&& (3 : Int32))), .val (.int (1 : Int32)), .val (.int (1 : Int32))]) rfl ?_
            show Steps p.tables e below (T22.setTop (mkF m 174 #[.val (.long q1), .second, .val (.int p1), .val (.int p2), .val (.int p3), .val (.int p4), .val (.ref b1), .val (.long ((p2 &&& (63 : Int32)).toInt64)), .second, .val (.long ((p3 &&& (63 : Int32)).toInt64)), .second, .val (.long ((p4 &&& (63 : Int32)).toInt64)), .second, .val (.int (p1 &&& (3 : Int32))), .val (.int (1 : Int32)), .val (.int (1 : Int32))] [])) _
            refine XS.iload X22.here hx rfl (hb hby at_174) rfl ?_
            show Steps p.tables e below (T22.setTop (mkF m 176 #[.val (.long q1), .second, .val (.int p1), .val (.int p2), .val (.int p3), .val (.int p4), .val (.ref b1), .val (.long ((p2 &&& (63 : Int32)).toInt64)), .second, .val (.long ((p3 &&& (63 : Int32)).toInt64)), .second, .val (.long ((p4 &&& (63 : Int32)).toInt64)), .second, .val (.int (p1 &&& (3 : Int32))), .val (.int (1 : Int32)), .val (.int (1 : Int32))] [(.int (p1 &&& (3 : Int32)))])) _
            refine XS.iconst X22.here hx rfl (hb hby at_176) ?_
            exact kt
          by_cases hc177_23 : (p1 &&& (3 : Int32)) < (3 : Int32)
          · obtain ⟨fs, hr, hrun, hended, hW, hsame⟩ := X22.leave (v := some (.int (1 : Int32))) (fun h => by rw [Bd.returns] at h; cases h)
            refine ⟨_, _, pre23 _ ?_, hrun, hended, _, _, rfl, ?_, ⟨_, rfl⟩, hW, hsame.mono (by show 6 ≤ 32; omega) (by show 47 + own_F M21 ≤ 704; have := own_Fle hM21; omega)⟩
            · show Steps p.tables e below (T22.setTop (mkF m 177 #[.val (.long q1), .second, .val (.int p1), .val (.int p2), .val (.int p3), .val (.int p4), .val (.ref b1), .val (.long ((p2 &&& (63 : Int32)).toInt64)), .second, .val (.long ((p3 &&& (63 : Int32)).toInt64)), .second, .val (.long ((p4 &&& (63 : Int32)).toInt64)), .second, .val (.int (p1 &&& (3 : Int32))), .val (.int (1 : Int32)), .val (.int (1 : Int32))] [(.int (3 : Int32)), (.int (p1 &&& (3 : Int32)))])) _
              refine XS.icmpYes X22.here hx rfl (pc0 := 177) (pc' := 237) rfl (hb hby at_177) rfl (tlt hc177_23).1 (by decide) (by decide) ?_
              show Steps p.tables e below (T22.setTop (mkF m 237 #[.val (.long q1), .second, .val (.int p1), .val (.int p2), .val (.int p3), .val (.int p4), .val (.ref b1), .val (.long ((p2 &&& (63 : Int32)).toInt64)), .second, .val (.long ((p3 &&& (63 : Int32)).toInt64)), .second, .val (.long ((p4 &&& (63 : Int32)).toInt64)), .second, .val (.int (p1 &&& (3 : Int32))), .val (.int (1 : Int32)), .val (.int (1 : Int32))] [])) _
              refine XS.iload X22.here hx rfl (hb hby at_237) rfl ?_
              show Steps p.tables e below (T22.setTop (mkF m 239 #[.val (.long q1), .second, .val (.int p1), .val (.int p2), .val (.int p3), .val (.int p4), .val (.ref b1), .val (.long ((p2 &&& (63 : Int32)).toInt64)), .second, .val (.long ((p3 &&& (63 : Int32)).toInt64)), .second, .val (.long ((p4 &&& (63 : Int32)).toInt64)), .second, .val (.int (p1 &&& (3 : Int32))), .val (.int (1 : Int32)), .val (.int (1 : Int32))] [(.int (1 : Int32))])) _
              exact retN X22 hx (t := .boolean) Bd.returns (by simp) (hb hby at_239) hr
            · show Q_rm0 Z q1 p1 p2 p3 p4 h0 n0 _ T22.heap _
              rw [eq22]
              exact ⟨rfl, N22⟩
          · have pre24 : ∀ t, Steps p.tables e below (T22.setTop (mkF m 185 #[.val (.long q1), .second, .val (.int p1), .val (.int p2), .val (.int p3), .val (.int p4), .val (.ref b1), .val (.long ((p2 &&& (63 : Int32)).toInt64)), .second, .val (.long ((p3 &&& (63 : Int32)).toInt64)), .second, .val (.long ((p4 &&& (63 : Int32)).toInt64)), .second, .val (.int (p1 &&& (3 : Int32))), .val (.int (1 : Int32)), .val (.int (1 : Int32))] [.null, (.long ((p4 &&& (63 : Int32)).toInt64)), (.ref b1)])) t → Steps p.tables e below (s₁.setTop (entryFrame m #[(.long q1), (.int p1), (.int p2), (.int p3), (.int p4)] maxLocals)) t := by
              intro t kt
              refine pre23 _ ?_
              show Steps p.tables e below (T22.setTop (mkF m 177 #[.val (.long q1), .second, .val (.int p1), .val (.int p2), .val (.int p3), .val (.int p4), .val (.ref b1), .val (.long ((p2 &&& (63 : Int32)).toInt64)), .second, .val (.long ((p3 &&& (63 : Int32)).toInt64)), .second, .val (.long ((p4 &&& (63 : Int32)).toInt64)), .second, .val (.int (p1 &&& (3 : Int32))), .val (.int (1 : Int32)), .val (.int (1 : Int32))] [(.int (3 : Int32)), (.int (p1 &&& (3 : Int32)))])) _
              refine XS.icmpNo X22.here hx rfl (hb hby at_177) rfl (flt hc177_23).1 ?_
              show Steps p.tables e below (T22.setTop (mkF m 180 #[.val (.long q1), .second, .val (.int p1), .val (.int p2), .val (.int p3), .val (.int p4), .val (.ref b1), .val (.long ((p2 &&& (63 : Int32)).toInt64)), .second, .val (.long ((p3 &&& (63 : Int32)).toInt64)), .second, .val (.long ((p4 &&& (63 : Int32)).toInt64)), .second, .val (.int (p1 &&& (3 : Int32))), .val (.int (1 : Int32)), .val (.int (1 : Int32))] [])) _
              refine XS.aload X22.here hx rfl (hb hby at_180) rfl rfl ?_
              show Steps p.tables e below (T22.setTop (mkF m 182 #[.val (.long q1), .second, .val (.int p1), .val (.int p2), .val (.int p3), .val (.int p4), .val (.ref b1), .val (.long ((p2 &&& (63 : Int32)).toInt64)), .second, .val (.long ((p3 &&& (63 : Int32)).toInt64)), .second, .val (.long ((p4 &&& (63 : Int32)).toInt64)), .second, .val (.int (p1 &&& (3 : Int32))), .val (.int (1 : Int32)), .val (.int (1 : Int32))] [(.ref b1)])) _
              refine XS.lload X22.here hx rfl (hb hby at_182) rfl ?_
              show Steps p.tables e below (T22.setTop (mkF m 184 #[.val (.long q1), .second, .val (.int p1), .val (.int p2), .val (.int p3), .val (.int p4), .val (.ref b1), .val (.long ((p2 &&& (63 : Int32)).toInt64)), .second, .val (.long ((p3 &&& (63 : Int32)).toInt64)), .second, .val (.long ((p4 &&& (63 : Int32)).toInt64)), .second, .val (.int (p1 &&& (3 : Int32))), .val (.int (1 : Int32)), .val (.int (1 : Int32))] [(.long ((p4 &&& (63 : Int32)).toInt64)), (.ref b1)])) _
              refine XS.aconstNull X22.here hx rfl (hb hby at_184) ?_
              exact kt
            by_cases hc185_24 : (0 : Int32) < (lcmpW ((p4 &&& (63 : Int32)).toInt64) q1)
            · obtain ⟨T25, h25, locs25, X25, e25, O25, N25, D25, st25⟩ := schedD (s0 := 47) (M := M21) (P' := 0) (k' := 0) X22 hx hZ hw hown eq22 O21 N22 D21 g_b1 (own_63 p4).1 (own_63 p4).2 hc185_24 (g := (mkF m 185 #[.val (.long q1), .second, .val (.int p1), .val (.int p2), .val (.int p3), .val (.int p4), .val (.ref b1), .val (.long ((p2 &&& (63 : Int32)).toInt64)), .second, .val (.long ((p3 &&& (63 : Int32)).toInt64)), .second, .val (.long ((p4 &&& (63 : Int32)).toInt64)), .second, .val (.int (p1 &&& (3 : Int32))), .val (.int (1 : Int32)), .val (.int (1 : Int32))] [.null, (.long ((p4 &&& (63 : Int32)).toInt64)), (.ref b1)])) rfl rfl (by rw [hml]; rfl) rfl (hb hby at_185) (by omega) (by have := own_Fle hM21; omega)
              obtain ⟨cq26, kq26, q26a, q26b, q26c⟩ := isOf hZ e25 (own_exaD D25)
              obtain ⟨_, _, ⟨T26, L26, k26, n26⟩, -, X26, ⟨Lc26, hQ26, l26, y26, z26⟩, st26⟩ := X25.virtualBack hx (y := (⟨"com/example/januswire/januswire/sim/DueEvents", "isEmpty", "()Z"⟩ : MethodName)) (z := (⟨"com/example/januswire/januswire/sim/DueEvents", "isEmpty", "()Z"⟩ : MethodName)) hown (mvT hZ (hw _ (List.mem_of_getElem? (i := 23) rfl))) (mvT hZ (hw _ (List.mem_of_getElem? (i := 24) rfl))) (notFace_of_selects (args := #[]) (mvT hZ (hw _ (List.mem_of_getElem? (i := 26) rfl)))) (mvT hZ (hw _ (List.mem_of_getElem? (i := 26) rfl))) (mvT hZ (hw _ (List.mem_of_getElem? (i := 25) rfl))) (by decide) (backOf (W := 0) (isE_1 l Z a0 hw [] b1 h25 n0 O25 (own_penD D25)) hZ (hw _ (List.mem_of_getElem? (i := 27) rfl)) (hw _ (List.mem_of_getElem? (i := 2) rfl)) (by decide) (by decide)) q26a q26c (g := (mkF m 214 #[.val (.long q1), .second, .val (.int p1), .val (.int p2), .val (.int p3), .val (.int p4), .val (.ref b1), .val (.long ((p2 &&& (63 : Int32)).toInt64)), .second, .val (.long ((p3 &&& (63 : Int32)).toInt64)), .second, .val (.long ((p4 &&& (63 : Int32)).toInt64)), .second, .val (.int (p1 &&& (3 : Int32))), .val (.int (1 : Int32)), .val (.int (1 : Int32))] [(.ref b1)])) rfl (by rw [hml]; rfl) (Steps.refl _) (argsL := []) (rest := []) (lenOf pd___Z rfl) rfl (by show 2 * 0 + _ ≤ _; exact Nat.le_of_eq rfl) (hb hby at_214) (fun _ _ => ⟨rfl, e25, (by show 6 + 0 ≤ 32; omega), (by show 47 + own_F M21 + 0 ≤ 704; have := own_Fle hM21; omega)⟩)
              dsimp only [Pt.U, Pt.locs, Pt.cells, Pt.slots] at X26 l26 y26 z26 st26 hQ26
              subst l26 y26 z26
              obtain ⟨rfl, Nq26, eq26⟩ := hQ26
              have N26 := Fr.app N25 Nq26
              obtain ⟨fs, hr, hrun, hended, hW, hsame⟩ := X26.leave (v := some (.int (1 : Int32))) (fun h => by rw [Bd.returns] at h; cases h)
              refine ⟨_, _, pre24 _ ?_, hrun, hended, _, _, rfl, ?_, ⟨_, rfl⟩, hW, hsame.mono (by show 6 ≤ 32; omega) (by show 47 + own_F M21 ≤ 704; have := own_Fle hM21; omega)⟩
              · show Steps p.tables e below (T22.setTop (mkF m 185 #[.val (.long q1), .second, .val (.int p1), .val (.int p2), .val (.int p3), .val (.int p4), .val (.ref b1), .val (.long ((p2 &&& (63 : Int32)).toInt64)), .second, .val (.long ((p3 &&& (63 : Int32)).toInt64)), .second, .val (.long ((p4 &&& (63 : Int32)).toInt64)), .second, .val (.int (p1 &&& (3 : Int32))), .val (.int (1 : Int32)), .val (.int (1 : Int32))] [.null, (.long ((p4 &&& (63 : Int32)).toInt64)), (.ref b1)])) _
                refine st25.trans ?_
                show Steps p.tables e below (T25.setTop (mkF m 188 #[.val (.long q1), .second, .val (.int p1), .val (.int p2), .val (.int p3), .val (.int p4), .val (.ref b1), .val (.long ((p2 &&& (63 : Int32)).toInt64)), .second, .val (.long ((p3 &&& (63 : Int32)).toInt64)), .second, .val (.long ((p4 &&& (63 : Int32)).toInt64)), .second, .val (.int (p1 &&& (3 : Int32))), .val (.int (1 : Int32)), .val (.int (1 : Int32))] [])) _
                refine XS.iload X25.here hx rfl (hb hby at_188) rfl ?_
                show Steps p.tables e below (T25.setTop (mkF m 190 #[.val (.long q1), .second, .val (.int p1), .val (.int p2), .val (.int p3), .val (.int p4), .val (.ref b1), .val (.long ((p2 &&& (63 : Int32)).toInt64)), .second, .val (.long ((p3 &&& (63 : Int32)).toInt64)), .second, .val (.long ((p4 &&& (63 : Int32)).toInt64)), .second, .val (.int (p1 &&& (3 : Int32))), .val (.int (1 : Int32)), .val (.int (1 : Int32))] [(.int (1 : Int32))])) _
                refine XS.ifYes X25.here hx rfl (pc0 := 190) (pc' := 200) rfl (hb hby at_190) rfl ((if0 _ _).trans (feq (by decide : ¬ ((1 : Int32) = (0 : Int32)))).2) (by decide) (by decide) ?_
                show Steps p.tables e below (T25.setTop (mkF m 200 #[.val (.long q1), .second, .val (.int p1), .val (.int p2), .val (.int p3), .val (.int p4), .val (.ref b1), .val (.long ((p2 &&& (63 : Int32)).toInt64)), .second, .val (.long ((p3 &&& (63 : Int32)).toInt64)), .second, .val (.long ((p4 &&& (63 : Int32)).toInt64)), .second, .val (.int (p1 &&& (3 : Int32))), .val (.int (1 : Int32)), .val (.int (1 : Int32))] [])) _
                refine XS.iconst X25.here hx rfl (hb hby at_200) ?_
                show Steps p.tables e below (T25.setTop (mkF m 201 #[.val (.long q1), .second, .val (.int p1), .val (.int p2), .val (.int p3), .val (.int p4), .val (.ref b1), .val (.long ((p2 &&& (63 : Int32)).toInt64)), .second, .val (.long ((p3 &&& (63 : Int32)).toInt64)), .second, .val (.long ((p4 &&& (63 : Int32)).toInt64)), .second, .val (.int (p1 &&& (3 : Int32))), .val (.int (1 : Int32)), .val (.int (1 : Int32))] [(.int (1 : Int32))])) _
                refine XS.goto X25.here hx rfl (pc0 := 201) (pc' := 205) rfl (hb hby at_201) (by decide) (by decide) ?_
                show Steps p.tables e below (T25.setTop (mkF m 205 #[.val (.long q1), .second, .val (.int p1), .val (.int p2), .val (.int p3), .val (.int p4), .val (.ref b1), .val (.long ((p2 &&& (63 : Int32)).toInt64)), .second, .val (.long ((p3 &&& (63 : Int32)).toInt64)), .second, .val (.long ((p4 &&& (63 : Int32)).toInt64)), .second, .val (.int (p1 &&& (3 : Int32))), .val (.int (1 : Int32)), .val (.int (1 : Int32))] [(.int (1 : Int32))])) _
                refine XS.istore X25.here hx rfl (hb hby at_205) rfl (l' := #[.val (.long q1), .second, .val (.int p1), .val (.int p2), .val (.int p3), .val (.int p4), .val (.ref b1), .val (.long ((p2 &&& (63 : Int32)).toInt64)), .second, .val (.long ((p3 &&& (63 : Int32)).toInt64)), .second, .val (.long ((p4 &&& (63 : Int32)).toInt64)), .second, .val (.int (p1 &&& (3 : Int32))), .val (.int (1 : Int32)), .val (.int (1 : Int32))]) rfl ?_
                show Steps p.tables e below (T25.setTop (mkF m 207 #[.val (.long q1), .second, .val (.int p1), .val (.int p2), .val (.int p3), .val (.int p4), .val (.ref b1), .val (.long ((p2 &&& (63 : Int32)).toInt64)), .second, .val (.long ((p3 &&& (63 : Int32)).toInt64)), .second, .val (.long ((p4 &&& (63 : Int32)).toInt64)), .second, .val (.int (p1 &&& (3 : Int32))), .val (.int (1 : Int32)), .val (.int (1 : Int32))] [])) _
                refine XS.iload X25.here hx rfl (hb hby at_207) rfl ?_
                show Steps p.tables e below (T25.setTop (mkF m 209 #[.val (.long q1), .second, .val (.int p1), .val (.int p2), .val (.int p3), .val (.int p4), .val (.ref b1), .val (.long ((p2 &&& (63 : Int32)).toInt64)), .second, .val (.long ((p3 &&& (63 : Int32)).toInt64)), .second, .val (.long ((p4 &&& (63 : Int32)).toInt64)), .second, .val (.int (p1 &&& (3 : Int32))), .val (.int (1 : Int32)), .val (.int (1 : Int32))] [(.int (1 : Int32))])) _
                refine XS.ifNo X25.here hx rfl (hb hby at_209) rfl ((if0 _ _).trans (feq (by decide : ¬ ((1 : Int32) = (0 : Int32)))).1) ?_
                show Steps p.tables e below (T25.setTop (mkF m 212 #[.val (.long q1), .second, .val (.int p1), .val (.int p2), .val (.int p3), .val (.int p4), .val (.ref b1), .val (.long ((p2 &&& (63 : Int32)).toInt64)), .second, .val (.long ((p3 &&& (63 : Int32)).toInt64)), .second, .val (.long ((p4 &&& (63 : Int32)).toInt64)), .second, .val (.int (p1 &&& (3 : Int32))), .val (.int (1 : Int32)), .val (.int (1 : Int32))] [])) _
                refine XS.aload X25.here hx rfl (hb hby at_212) rfl rfl ?_
                show Steps p.tables e below (T25.setTop (mkF m 214 #[.val (.long q1), .second, .val (.int p1), .val (.int p2), .val (.int p3), .val (.int p4), .val (.ref b1), .val (.long ((p2 &&& (63 : Int32)).toInt64)), .second, .val (.long ((p3 &&& (63 : Int32)).toInt64)), .second, .val (.long ((p4 &&& (63 : Int32)).toInt64)), .second, .val (.int (p1 &&& (3 : Int32))), .val (.int (1 : Int32)), .val (.int (1 : Int32))] [(.ref b1)])) _
                refine st26.trans ?_
                show Steps p.tables e below (T26.setTop (mkF m 217 #[.val (.long q1), .second, .val (.int p1), .val (.int p2), .val (.int p3), .val (.int p4), .val (.ref b1), .val (.long ((p2 &&& (63 : Int32)).toInt64)), .second, .val (.long ((p3 &&& (63 : Int32)).toInt64)), .second, .val (.long ((p4 &&& (63 : Int32)).toInt64)), .second, .val (.int (p1 &&& (3 : Int32))), .val (.int (1 : Int32)), .val (.int (1 : Int32))] [(.int (0 : Int32))])) _
                refine XS.iload X26.here hx rfl (hb hby at_217) rfl ?_
                show Steps p.tables e below (T26.setTop (mkF m 219 #[.val (.long q1), .second, .val (.int p1), .val (.int p2), .val (.int p3), .val (.int p4), .val (.ref b1), .val (.long ((p2 &&& (63 : Int32)).toInt64)), .second, .val (.long ((p3 &&& (63 : Int32)).toInt64)), .second, .val (.long ((p4 &&& (63 : Int32)).toInt64)), .second, .val (.int (p1 &&& (3 : Int32))), .val (.int (1 : Int32)), .val (.int (1 : Int32))] [(.int (1 : Int32)), (.int (0 : Int32))])) _
                refine XS.ifYes X26.here hx rfl (pc0 := 219) (pc' := 226) rfl (hb hby at_219) rfl ((if0 _ _).trans (feq (by decide : ¬ ((1 : Int32) = (0 : Int32)))).2) (by decide) (by decide) ?_
                show Steps p.tables e below (T26.setTop (mkF m 226 #[.val (.long q1), .second, .val (.int p1), .val (.int p2), .val (.int p3), .val (.int p4), .val (.ref b1), .val (.long ((p2 &&& (63 : Int32)).toInt64)), .second, .val (.long ((p3 &&& (63 : Int32)).toInt64)), .second, .val (.long ((p4 &&& (63 : Int32)).toInt64)), .second, .val (.int (p1 &&& (3 : Int32))), .val (.int (1 : Int32)), .val (.int (1 : Int32))] [(.int (0 : Int32))])) _
                refine XS.iconst X26.here hx rfl (hb hby at_226) ?_
                show Steps p.tables e below (T26.setTop (mkF m 227 #[.val (.long q1), .second, .val (.int p1), .val (.int p2), .val (.int p3), .val (.int p4), .val (.ref b1), .val (.long ((p2 &&& (63 : Int32)).toInt64)), .second, .val (.long ((p3 &&& (63 : Int32)).toInt64)), .second, .val (.long ((p4 &&& (63 : Int32)).toInt64)), .second, .val (.int (p1 &&& (3 : Int32))), .val (.int (1 : Int32)), .val (.int (1 : Int32))] [(.int (0 : Int32)), (.int (0 : Int32))])) _
                refine XS.icmpNo X26.here hx rfl (hb hby at_227) rfl (teq (by decide : (0 : Int32) = (0 : Int32))).2 ?_
                show Steps p.tables e below (T26.setTop (mkF m 230 #[.val (.long q1), .second, .val (.int p1), .val (.int p2), .val (.int p3), .val (.int p4), .val (.ref b1), .val (.long ((p2 &&& (63 : Int32)).toInt64)), .second, .val (.long ((p3 &&& (63 : Int32)).toInt64)), .second, .val (.long ((p4 &&& (63 : Int32)).toInt64)), .second, .val (.int (p1 &&& (3 : Int32))), .val (.int (1 : Int32)), .val (.int (1 : Int32))] [])) _
                refine XS.iconst X26.here hx rfl (hb hby at_230) ?_
                show Steps p.tables e below (T26.setTop (mkF m 231 #[.val (.long q1), .second, .val (.int p1), .val (.int p2), .val (.int p3), .val (.int p4), .val (.ref b1), .val (.long ((p2 &&& (63 : Int32)).toInt64)), .second, .val (.long ((p3 &&& (63 : Int32)).toInt64)), .second, .val (.long ((p4 &&& (63 : Int32)).toInt64)), .second, .val (.int (p1 &&& (3 : Int32))), .val (.int (1 : Int32)), .val (.int (1 : Int32))] [(.int (1 : Int32))])) _
                refine XS.goto X26.here hx rfl (pc0 := 231) (pc' := 235) rfl (hb hby at_231) (by decide) (by decide) ?_
                show Steps p.tables e below (T26.setTop (mkF m 235 #[.val (.long q1), .second, .val (.int p1), .val (.int p2), .val (.int p3), .val (.int p4), .val (.ref b1), .val (.long ((p2 &&& (63 : Int32)).toInt64)), .second, .val (.long ((p3 &&& (63 : Int32)).toInt64)), .second, .val (.long ((p4 &&& (63 : Int32)).toInt64)), .second, .val (.int (p1 &&& (3 : Int32))), .val (.int (1 : Int32)), .val (.int (1 : Int32))] [(.int (1 : Int32))])) _
                refine XS.istore X26.here hx rfl (hb hby at_235) rfl (l' := #[.val (.long q1), .second, .val (.int p1), .val (.int p2), .val (.int p3), .val (.int p4), .val (.ref b1), .val (.long ((p2 &&& (63 : Int32)).toInt64)), .second, .val (.long ((p3 &&& (63 : Int32)).toInt64)), .second, .val (.long ((p4 &&& (63 : Int32)).toInt64)), .second, .val (.int (p1 &&& (3 : Int32))), .val (.int (1 : Int32)), .val (.int (1 : Int32))]) rfl ?_
                show Steps p.tables e below (T26.setTop (mkF m 237 #[.val (.long q1), .second, .val (.int p1), .val (.int p2), .val (.int p3), .val (.int p4), .val (.ref b1), .val (.long ((p2 &&& (63 : Int32)).toInt64)), .second, .val (.long ((p3 &&& (63 : Int32)).toInt64)), .second, .val (.long ((p4 &&& (63 : Int32)).toInt64)), .second, .val (.int (p1 &&& (3 : Int32))), .val (.int (1 : Int32)), .val (.int (1 : Int32))] [])) _
                refine XS.iload X26.here hx rfl (hb hby at_237) rfl ?_
                show Steps p.tables e below (T26.setTop (mkF m 239 #[.val (.long q1), .second, .val (.int p1), .val (.int p2), .val (.int p3), .val (.int p4), .val (.ref b1), .val (.long ((p2 &&& (63 : Int32)).toInt64)), .second, .val (.long ((p3 &&& (63 : Int32)).toInt64)), .second, .val (.long ((p4 &&& (63 : Int32)).toInt64)), .second, .val (.int (p1 &&& (3 : Int32))), .val (.int (1 : Int32)), .val (.int (1 : Int32))] [(.int (1 : Int32))])) _
                exact retN X26 hx (t := .boolean) Bd.returns (by simp) (hb hby at_239) hr
              · show Q_rm0 Z q1 p1 p2 p3 p4 h0 n0 _ T26.heap _
                rw [eq26]
                exact ⟨rfl, N26⟩
            · obtain ⟨M27, T27, h27, locs27, hM27, X27, e27, O27, N27, D27, st27⟩ := schedI (s0 := 47) (M := M21) (P' := (2 : Int64)) (k' := (2 : Int32)) X22 hx hZ hw hown eq22 O21 N22 D21 g_b1 (own_63 p4).1 (own_63 p4).2 hc185_24 hM21 (by decide) (by decide) (by decide) (by decide) (g := (mkF m 185 #[.val (.long q1), .second, .val (.int p1), .val (.int p2), .val (.int p3), .val (.int p4), .val (.ref b1), .val (.long ((p2 &&& (63 : Int32)).toInt64)), .second, .val (.long ((p3 &&& (63 : Int32)).toInt64)), .second, .val (.long ((p4 &&& (63 : Int32)).toInt64)), .second, .val (.int (p1 &&& (3 : Int32))), .val (.int (1 : Int32)), .val (.int (1 : Int32))] [.null, (.long ((p4 &&& (63 : Int32)).toInt64)), (.ref b1)])) rfl rfl (by rw [hml]; rfl) rfl (hb hby at_185) (by omega) (by omega)
              obtain ⟨cq28, kq28, q28a, q28b, q28c⟩ := isOf hZ e27 (own_exaD D27)
              obtain ⟨_, _, ⟨T28, L28, k28, n28⟩, -, X28, ⟨Lc28, hQ28, l28, y28, z28⟩, st28⟩ := X27.virtualBack hx (y := (⟨"com/example/januswire/januswire/sim/DueEvents", "isEmpty", "()Z"⟩ : MethodName)) (z := (⟨"com/example/januswire/januswire/sim/DueEvents", "isEmpty", "()Z"⟩ : MethodName)) hown (mvT hZ (hw _ (List.mem_of_getElem? (i := 23) rfl))) (mvT hZ (hw _ (List.mem_of_getElem? (i := 24) rfl))) (notFace_of_selects (args := #[]) (mvT hZ (hw _ (List.mem_of_getElem? (i := 26) rfl)))) (mvT hZ (hw _ (List.mem_of_getElem? (i := 26) rfl))) (mvT hZ (hw _ (List.mem_of_getElem? (i := 25) rfl))) (by decide) (backOf (W := 0) (isE_2 l Z a0 hw [] b1 h27 n0 O27 (own_penD D27)) hZ (hw _ (List.mem_of_getElem? (i := 27) rfl)) (hw _ (List.mem_of_getElem? (i := 2) rfl)) (by decide) (by decide)) q28a q28c (g := (mkF m 214 #[.val (.long q1), .second, .val (.int p1), .val (.int p2), .val (.int p3), .val (.int p4), .val (.ref b1), .val (.long ((p2 &&& (63 : Int32)).toInt64)), .second, .val (.long ((p3 &&& (63 : Int32)).toInt64)), .second, .val (.long ((p4 &&& (63 : Int32)).toInt64)), .second, .val (.int (p1 &&& (3 : Int32))), .val (.int (1 : Int32)), .val (.int (1 : Int32))] [(.ref b1)])) rfl (by rw [hml]; rfl) (Steps.refl _) (argsL := []) (rest := []) (lenOf pd___Z rfl) rfl (by show 2 * 0 + _ ≤ _; exact Nat.le_of_eq rfl) (hb hby at_214) (fun _ _ => ⟨rfl, e27, (by show 9 + 0 ≤ 32; omega), (by show 55 + own_F M27 + 0 ≤ 704; have := own_Fle hM27; omega)⟩)
              dsimp only [Pt.U, Pt.locs, Pt.cells, Pt.slots] at X28 l28 y28 z28 st28 hQ28
              subst l28 y28 z28
              obtain ⟨rfl, Nq28, eq28⟩ := hQ28
              have N28 := Fr.app N27 Nq28
              obtain ⟨fs, hr, hrun, hended, hW, hsame⟩ := X28.leave (v := some (.int (1 : Int32))) (fun h => by rw [Bd.returns] at h; cases h)
              refine ⟨_, _, pre24 _ ?_, hrun, hended, _, _, rfl, ?_, ⟨_, rfl⟩, hW, hsame.mono (by show 9 ≤ 32; omega) (by show 55 + own_F M27 ≤ 704; have := own_Fle hM27; omega)⟩
              · show Steps p.tables e below (T22.setTop (mkF m 185 #[.val (.long q1), .second, .val (.int p1), .val (.int p2), .val (.int p3), .val (.int p4), .val (.ref b1), .val (.long ((p2 &&& (63 : Int32)).toInt64)), .second, .val (.long ((p3 &&& (63 : Int32)).toInt64)), .second, .val (.long ((p4 &&& (63 : Int32)).toInt64)), .second, .val (.int (p1 &&& (3 : Int32))), .val (.int (1 : Int32)), .val (.int (1 : Int32))] [.null, (.long ((p4 &&& (63 : Int32)).toInt64)), (.ref b1)])) _
                refine st27.trans ?_
                show Steps p.tables e below (T27.setTop (mkF m 188 #[.val (.long q1), .second, .val (.int p1), .val (.int p2), .val (.int p3), .val (.int p4), .val (.ref b1), .val (.long ((p2 &&& (63 : Int32)).toInt64)), .second, .val (.long ((p3 &&& (63 : Int32)).toInt64)), .second, .val (.long ((p4 &&& (63 : Int32)).toInt64)), .second, .val (.int (p1 &&& (3 : Int32))), .val (.int (1 : Int32)), .val (.int (1 : Int32))] [])) _
                refine XS.iload X27.here hx rfl (hb hby at_188) rfl ?_
                show Steps p.tables e below (T27.setTop (mkF m 190 #[.val (.long q1), .second, .val (.int p1), .val (.int p2), .val (.int p3), .val (.int p4), .val (.ref b1), .val (.long ((p2 &&& (63 : Int32)).toInt64)), .second, .val (.long ((p3 &&& (63 : Int32)).toInt64)), .second, .val (.long ((p4 &&& (63 : Int32)).toInt64)), .second, .val (.int (p1 &&& (3 : Int32))), .val (.int (1 : Int32)), .val (.int (1 : Int32))] [(.int (1 : Int32))])) _
                refine XS.ifYes X27.here hx rfl (pc0 := 190) (pc' := 200) rfl (hb hby at_190) rfl ((if0 _ _).trans (feq (by decide : ¬ ((1 : Int32) = (0 : Int32)))).2) (by decide) (by decide) ?_
                show Steps p.tables e below (T27.setTop (mkF m 200 #[.val (.long q1), .second, .val (.int p1), .val (.int p2), .val (.int p3), .val (.int p4), .val (.ref b1), .val (.long ((p2 &&& (63 : Int32)).toInt64)), .second, .val (.long ((p3 &&& (63 : Int32)).toInt64)), .second, .val (.long ((p4 &&& (63 : Int32)).toInt64)), .second, .val (.int (p1 &&& (3 : Int32))), .val (.int (1 : Int32)), .val (.int (1 : Int32))] [])) _
                refine XS.iconst X27.here hx rfl (hb hby at_200) ?_
                show Steps p.tables e below (T27.setTop (mkF m 201 #[.val (.long q1), .second, .val (.int p1), .val (.int p2), .val (.int p3), .val (.int p4), .val (.ref b1), .val (.long ((p2 &&& (63 : Int32)).toInt64)), .second, .val (.long ((p3 &&& (63 : Int32)).toInt64)), .second, .val (.long ((p4 &&& (63 : Int32)).toInt64)), .second, .val (.int (p1 &&& (3 : Int32))), .val (.int (1 : Int32)), .val (.int (1 : Int32))] [(.int (1 : Int32))])) _
                refine XS.goto X27.here hx rfl (pc0 := 201) (pc' := 205) rfl (hb hby at_201) (by decide) (by decide) ?_
                show Steps p.tables e below (T27.setTop (mkF m 205 #[.val (.long q1), .second, .val (.int p1), .val (.int p2), .val (.int p3), .val (.int p4), .val (.ref b1), .val (.long ((p2 &&& (63 : Int32)).toInt64)), .second, .val (.long ((p3 &&& (63 : Int32)).toInt64)), .second, .val (.long ((p4 &&& (63 : Int32)).toInt64)), .second, .val (.int (p1 &&& (3 : Int32))), .val (.int (1 : Int32)), .val (.int (1 : Int32))] [(.int (1 : Int32))])) _
                refine XS.istore X27.here hx rfl (hb hby at_205) rfl (l' := #[.val (.long q1), .second, .val (.int p1), .val (.int p2), .val (.int p3), .val (.int p4), .val (.ref b1), .val (.long ((p2 &&& (63 : Int32)).toInt64)), .second, .val (.long ((p3 &&& (63 : Int32)).toInt64)), .second, .val (.long ((p4 &&& (63 : Int32)).toInt64)), .second, .val (.int (p1 &&& (3 : Int32))), .val (.int (1 : Int32)), .val (.int (1 : Int32))]) rfl ?_
                show Steps p.tables e below (T27.setTop (mkF m 207 #[.val (.long q1), .second, .val (.int p1), .val (.int p2), .val (.int p3), .val (.int p4), .val (.ref b1), .val (.long ((p2 &&& (63 : Int32)).toInt64)), .second, .val (.long ((p3 &&& (63 : Int32)).toInt64)), .second, .val (.long ((p4 &&& (63 : Int32)).toInt64)), .second, .val (.int (p1 &&& (3 : Int32))), .val (.int (1 : Int32)), .val (.int (1 : Int32))] [])) _
                refine XS.iload X27.here hx rfl (hb hby at_207) rfl ?_
                show Steps p.tables e below (T27.setTop (mkF m 209 #[.val (.long q1), .second, .val (.int p1), .val (.int p2), .val (.int p3), .val (.int p4), .val (.ref b1), .val (.long ((p2 &&& (63 : Int32)).toInt64)), .second, .val (.long ((p3 &&& (63 : Int32)).toInt64)), .second, .val (.long ((p4 &&& (63 : Int32)).toInt64)), .second, .val (.int (p1 &&& (3 : Int32))), .val (.int (1 : Int32)), .val (.int (1 : Int32))] [(.int (1 : Int32))])) _
                refine XS.ifNo X27.here hx rfl (hb hby at_209) rfl ((if0 _ _).trans (feq (by decide : ¬ ((1 : Int32) = (0 : Int32)))).1) ?_
                show Steps p.tables e below (T27.setTop (mkF m 212 #[.val (.long q1), .second, .val (.int p1), .val (.int p2), .val (.int p3), .val (.int p4), .val (.ref b1), .val (.long ((p2 &&& (63 : Int32)).toInt64)), .second, .val (.long ((p3 &&& (63 : Int32)).toInt64)), .second, .val (.long ((p4 &&& (63 : Int32)).toInt64)), .second, .val (.int (p1 &&& (3 : Int32))), .val (.int (1 : Int32)), .val (.int (1 : Int32))] [])) _
                refine XS.aload X27.here hx rfl (hb hby at_212) rfl rfl ?_
                show Steps p.tables e below (T27.setTop (mkF m 214 #[.val (.long q1), .second, .val (.int p1), .val (.int p2), .val (.int p3), .val (.int p4), .val (.ref b1), .val (.long ((p2 &&& (63 : Int32)).toInt64)), .second, .val (.long ((p3 &&& (63 : Int32)).toInt64)), .second, .val (.long ((p4 &&& (63 : Int32)).toInt64)), .second, .val (.int (p1 &&& (3 : Int32))), .val (.int (1 : Int32)), .val (.int (1 : Int32))] [(.ref b1)])) _
                refine st28.trans ?_
                show Steps p.tables e below (T28.setTop (mkF m 217 #[.val (.long q1), .second, .val (.int p1), .val (.int p2), .val (.int p3), .val (.int p4), .val (.ref b1), .val (.long ((p2 &&& (63 : Int32)).toInt64)), .second, .val (.long ((p3 &&& (63 : Int32)).toInt64)), .second, .val (.long ((p4 &&& (63 : Int32)).toInt64)), .second, .val (.int (p1 &&& (3 : Int32))), .val (.int (1 : Int32)), .val (.int (1 : Int32))] [(.int (0 : Int32))])) _
                refine XS.iload X28.here hx rfl (hb hby at_217) rfl ?_
                show Steps p.tables e below (T28.setTop (mkF m 219 #[.val (.long q1), .second, .val (.int p1), .val (.int p2), .val (.int p3), .val (.int p4), .val (.ref b1), .val (.long ((p2 &&& (63 : Int32)).toInt64)), .second, .val (.long ((p3 &&& (63 : Int32)).toInt64)), .second, .val (.long ((p4 &&& (63 : Int32)).toInt64)), .second, .val (.int (p1 &&& (3 : Int32))), .val (.int (1 : Int32)), .val (.int (1 : Int32))] [(.int (1 : Int32)), (.int (0 : Int32))])) _
                refine XS.ifYes X28.here hx rfl (pc0 := 219) (pc' := 226) rfl (hb hby at_219) rfl ((if0 _ _).trans (feq (by decide : ¬ ((1 : Int32) = (0 : Int32)))).2) (by decide) (by decide) ?_
                show Steps p.tables e below (T28.setTop (mkF m 226 #[.val (.long q1), .second, .val (.int p1), .val (.int p2), .val (.int p3), .val (.int p4), .val (.ref b1), .val (.long ((p2 &&& (63 : Int32)).toInt64)), .second, .val (.long ((p3 &&& (63 : Int32)).toInt64)), .second, .val (.long ((p4 &&& (63 : Int32)).toInt64)), .second, .val (.int (p1 &&& (3 : Int32))), .val (.int (1 : Int32)), .val (.int (1 : Int32))] [(.int (0 : Int32))])) _
                refine XS.iconst X28.here hx rfl (hb hby at_226) ?_
                show Steps p.tables e below (T28.setTop (mkF m 227 #[.val (.long q1), .second, .val (.int p1), .val (.int p2), .val (.int p3), .val (.int p4), .val (.ref b1), .val (.long ((p2 &&& (63 : Int32)).toInt64)), .second, .val (.long ((p3 &&& (63 : Int32)).toInt64)), .second, .val (.long ((p4 &&& (63 : Int32)).toInt64)), .second, .val (.int (p1 &&& (3 : Int32))), .val (.int (1 : Int32)), .val (.int (1 : Int32))] [(.int (0 : Int32)), (.int (0 : Int32))])) _
                refine XS.icmpNo X28.here hx rfl (hb hby at_227) rfl (teq (by decide : (0 : Int32) = (0 : Int32))).2 ?_
                show Steps p.tables e below (T28.setTop (mkF m 230 #[.val (.long q1), .second, .val (.int p1), .val (.int p2), .val (.int p3), .val (.int p4), .val (.ref b1), .val (.long ((p2 &&& (63 : Int32)).toInt64)), .second, .val (.long ((p3 &&& (63 : Int32)).toInt64)), .second, .val (.long ((p4 &&& (63 : Int32)).toInt64)), .second, .val (.int (p1 &&& (3 : Int32))), .val (.int (1 : Int32)), .val (.int (1 : Int32))] [])) _
                refine XS.iconst X28.here hx rfl (hb hby at_230) ?_
                show Steps p.tables e below (T28.setTop (mkF m 231 #[.val (.long q1), .second, .val (.int p1), .val (.int p2), .val (.int p3), .val (.int p4), .val (.ref b1), .val (.long ((p2 &&& (63 : Int32)).toInt64)), .second, .val (.long ((p3 &&& (63 : Int32)).toInt64)), .second, .val (.long ((p4 &&& (63 : Int32)).toInt64)), .second, .val (.int (p1 &&& (3 : Int32))), .val (.int (1 : Int32)), .val (.int (1 : Int32))] [(.int (1 : Int32))])) _
                refine XS.goto X28.here hx rfl (pc0 := 231) (pc' := 235) rfl (hb hby at_231) (by decide) (by decide) ?_
                show Steps p.tables e below (T28.setTop (mkF m 235 #[.val (.long q1), .second, .val (.int p1), .val (.int p2), .val (.int p3), .val (.int p4), .val (.ref b1), .val (.long ((p2 &&& (63 : Int32)).toInt64)), .second, .val (.long ((p3 &&& (63 : Int32)).toInt64)), .second, .val (.long ((p4 &&& (63 : Int32)).toInt64)), .second, .val (.int (p1 &&& (3 : Int32))), .val (.int (1 : Int32)), .val (.int (1 : Int32))] [(.int (1 : Int32))])) _
                refine XS.istore X28.here hx rfl (hb hby at_235) rfl (l' := #[.val (.long q1), .second, .val (.int p1), .val (.int p2), .val (.int p3), .val (.int p4), .val (.ref b1), .val (.long ((p2 &&& (63 : Int32)).toInt64)), .second, .val (.long ((p3 &&& (63 : Int32)).toInt64)), .second, .val (.long ((p4 &&& (63 : Int32)).toInt64)), .second, .val (.int (p1 &&& (3 : Int32))), .val (.int (1 : Int32)), .val (.int (1 : Int32))]) rfl ?_
                show Steps p.tables e below (T28.setTop (mkF m 237 #[.val (.long q1), .second, .val (.int p1), .val (.int p2), .val (.int p3), .val (.int p4), .val (.ref b1), .val (.long ((p2 &&& (63 : Int32)).toInt64)), .second, .val (.long ((p3 &&& (63 : Int32)).toInt64)), .second, .val (.long ((p4 &&& (63 : Int32)).toInt64)), .second, .val (.int (p1 &&& (3 : Int32))), .val (.int (1 : Int32)), .val (.int (1 : Int32))] [])) _
                refine XS.iload X28.here hx rfl (hb hby at_237) rfl ?_
                show Steps p.tables e below (T28.setTop (mkF m 239 #[.val (.long q1), .second, .val (.int p1), .val (.int p2), .val (.int p3), .val (.int p4), .val (.ref b1), .val (.long ((p2 &&& (63 : Int32)).toInt64)), .second, .val (.long ((p3 &&& (63 : Int32)).toInt64)), .second, .val (.long ((p4 &&& (63 : Int32)).toInt64)), .second, .val (.int (p1 &&& (3 : Int32))), .val (.int (1 : Int32)), .val (.int (1 : Int32))] [(.int (1 : Int32))])) _
                exact retN X28 hx (t := .boolean) Bd.returns (by simp) (hb hby at_239) hr
              · show Q_rm0 Z q1 p1 p2 p3 p4 h0 n0 _ T28.heap _
                rw [eq28]
                exact ⟨rfl, N28⟩
    · obtain ⟨M29, T29, h29, locs29, hM29, X29, e29, O29, N29, D29, st29⟩ := schedI (s0 := 39) (M := (16 : Int32)) (P' := (1 : Int64)) (k' := (1 : Int32)) X3 hx hZ hw hown eq3 Oq2 N3 Dq2 g_b1 (own_63 p2).1 (own_63 p2).2 hc59_7 (Or.inl rfl) (by decide) (by decide) (by decide) (by decide) (g := (mkF m 59 #[.val (.long q1), .second, .val (.int p1), .val (.int p2), .val (.int p3), .val (.int p4), .val (.ref b1), .val (.long ((p2 &&& (63 : Int32)).toInt64)), .second, .val (.long ((p3 &&& (63 : Int32)).toInt64)), .second, .val (.long ((p4 &&& (63 : Int32)).toInt64)), .second, .val (.int (p1 &&& (3 : Int32))), .val (.int (1 : Int32)), .val (.int (0 : Int32))] [.null, (.long ((p2 &&& (63 : Int32)).toInt64)), (.ref b1)])) rfl rfl (by rw [hml]; rfl) rfl (hb hby at_59) (by omega) (by omega)
      obtain ⟨cq30, kq30, q30a, q30b, q30c⟩ := isOf hZ e29 (own_exaD D29)
      obtain ⟨_, _, ⟨T30, L30, k30, n30⟩, -, X30, ⟨Lc30, hQ30, l30, y30, z30⟩, st30⟩ := X29.virtualBack hx (y := (⟨"com/example/januswire/januswire/sim/DueEvents", "isEmpty", "()Z"⟩ : MethodName)) (z := (⟨"com/example/januswire/januswire/sim/DueEvents", "isEmpty", "()Z"⟩ : MethodName)) hown (mvT hZ (hw _ (List.mem_of_getElem? (i := 23) rfl))) (mvT hZ (hw _ (List.mem_of_getElem? (i := 24) rfl))) (notFace_of_selects (args := #[]) (mvT hZ (hw _ (List.mem_of_getElem? (i := 26) rfl)))) (mvT hZ (hw _ (List.mem_of_getElem? (i := 26) rfl))) (mvT hZ (hw _ (List.mem_of_getElem? (i := 25) rfl))) (by decide) (backOf (W := 0) (isE_1 l Z a0 hw [] b1 h29 n0 O29 (own_penD D29)) hZ (hw _ (List.mem_of_getElem? (i := 27) rfl)) (hw _ (List.mem_of_getElem? (i := 2) rfl)) (by decide) (by decide)) q30a q30c (g := (mkF m 88 #[.val (.long q1), .second, .val (.int p1), .val (.int p2), .val (.int p3), .val (.int p4), .val (.ref b1), .val (.long ((p2 &&& (63 : Int32)).toInt64)), .second, .val (.long ((p3 &&& (63 : Int32)).toInt64)), .second, .val (.long ((p4 &&& (63 : Int32)).toInt64)), .second, .val (.int (p1 &&& (3 : Int32))), .val (.int (1 : Int32)), .val (.int (1 : Int32))] [(.ref b1)])) rfl (by rw [hml]; rfl) (Steps.refl _) (argsL := []) (rest := []) (lenOf pd___Z rfl) rfl (by show 2 * 0 + _ ≤ _; exact Nat.le_of_eq rfl) (hb hby at_88) (fun _ _ => ⟨rfl, e29, (by show 6 + 0 ≤ 32; omega), (by show 47 + own_F M29 + 0 ≤ 704; have := own_Fle hM29; omega)⟩)
      dsimp only [Pt.U, Pt.locs, Pt.cells, Pt.slots] at X30 l30 y30 z30 st30 hQ30
      subst l30 y30 z30
      obtain ⟨rfl, Nq30, eq30⟩ := hQ30
      have N30 := Fr.app N29 Nq30
      have pre31 : ∀ t, Steps p.tables e below (T30.setTop (mkF m 114 #[.val (.long q1), .second, .val (.int p1), .val (.int p2), .val (.int p3), .val (.int p4), .val (.ref b1), .val (.long ((p2 &&& (63 : Int32)).toInt64)), .second, .val (.long ((p3 &&& (63 : Int32)).toInt64)), .second, .val (.long ((p4 &&& (63 : Int32)).toInt64)), .second, .val (.int (p1 &&& (3 : Int32))), .val (.int (1 : Int32)), .val (.int (1 : Int32))] [(.int (2 : Int32)), (.int (p1 &&& (3 : Int32)))])) t → Steps p.tables e below (s₁.setTop (entryFrame m #[(.long q1), (.int p1), (.int p2), (.int p3), (.int p4)] maxLocals)) t := by
        intro t kt
        refine pre7 _ ?_
        show Steps p.tables e below (T3.setTop (mkF m 59 #[.val (.long q1), .second, .val (.int p1), .val (.int p2), .val (.int p3), .val (.int p4), .val (.ref b1), .val (.long ((p2 &&& (63 : Int32)).toInt64)), .second, .val (.long ((p3 &&& (63 : Int32)).toInt64)), .second, .val (.long ((p4 &&& (63 : Int32)).toInt64)), .second, .val (.int (p1 &&& (3 : Int32))), .val (.int (1 : Int32)), .val (.int (0 : Int32))] [.null, (.long ((p2 &&& (63 : Int32)).toInt64)), (.ref b1)])) _
        refine st29.trans ?_
        show Steps p.tables e below (T29.setTop (mkF m 62 #[.val (.long q1), .second, .val (.int p1), .val (.int p2), .val (.int p3), .val (.int p4), .val (.ref b1), .val (.long ((p2 &&& (63 : Int32)).toInt64)), .second, .val (.long ((p3 &&& (63 : Int32)).toInt64)), .second, .val (.long ((p4 &&& (63 : Int32)).toInt64)), .second, .val (.int (p1 &&& (3 : Int32))), .val (.int (1 : Int32)), .val (.int (0 : Int32))] [])) _
        refine XS.iload X29.here hx rfl (hb hby at_62) rfl ?_
        show Steps p.tables e below (T29.setTop (mkF m 64 #[.val (.long q1), .second, .val (.int p1), .val (.int p2), .val (.int p3), .val (.int p4), .val (.ref b1), .val (.long ((p2 &&& (63 : Int32)).toInt64)), .second, .val (.long ((p3 &&& (63 : Int32)).toInt64)), .second, .val (.long ((p4 &&& (63 : Int32)).toInt64)), .second, .val (.int (p1 &&& (3 : Int32))), .val (.int (1 : Int32)), .val (.int (0 : Int32))] [(.int (0 : Int32))])) _
        refine XS.ifNo X29.here hx rfl (hb hby at_64) rfl ((if0 _ _).trans (teq (by decide : (0 : Int32) = (0 : Int32))).2) ?_
        show Steps p.tables e below (T29.setTop (mkF m 67 #[.val (.long q1), .second, .val (.int p1), .val (.int p2), .val (.int p3), .val (.int p4), .val (.ref b1), .val (.long ((p2 &&& (63 : Int32)).toInt64)), .second, .val (.long ((p3 &&& (63 : Int32)).toInt64)), .second, .val (.long ((p4 &&& (63 : Int32)).toInt64)), .second, .val (.int (p1 &&& (3 : Int32))), .val (.int (1 : Int32)), .val (.int (0 : Int32))] [])) _
        refine XS.lload X29.here hx rfl (hb hby at_67) rfl ?_
        show Steps p.tables e below (T29.setTop (mkF m 69 #[.val (.long q1), .second, .val (.int p1), .val (.int p2), .val (.int p3), .val (.int p4), .val (.ref b1), .val (.long ((p2 &&& (63 : Int32)).toInt64)), .second, .val (.long ((p3 &&& (63 : Int32)).toInt64)), .second, .val (.long ((p4 &&& (63 : Int32)).toInt64)), .second, .val (.int (p1 &&& (3 : Int32))), .val (.int (1 : Int32)), .val (.int (0 : Int32))] [(.long ((p2 &&& (63 : Int32)).toInt64))])) _
        refine XS.lloadN X29.here hx rfl (hb hby at_69) rfl ?_
        show Steps p.tables e below (T29.setTop (mkF m 70 #[.val (.long q1), .second, .val (.int p1), .val (.int p2), .val (.int p3), .val (.int p4), .val (.ref b1), .val (.long ((p2 &&& (63 : Int32)).toInt64)), .second, .val (.long ((p3 &&& (63 : Int32)).toInt64)), .second, .val (.long ((p4 &&& (63 : Int32)).toInt64)), .second, .val (.int (p1 &&& (3 : Int32))), .val (.int (1 : Int32)), .val (.int (0 : Int32))] [(.long q1), (.long ((p2 &&& (63 : Int32)).toInt64))])) _
        refine XS.lcmp X29.here hx rfl (hb hby at_70) rfl ?_
        show Steps p.tables e below (T29.setTop (mkF m 71 #[.val (.long q1), .second, .val (.int p1), .val (.int p2), .val (.int p3), .val (.int p4), .val (.ref b1), .val (.long ((p2 &&& (63 : Int32)).toInt64)), .second, .val (.long ((p3 &&& (63 : Int32)).toInt64)), .second, .val (.long ((p4 &&& (63 : Int32)).toInt64)), .second, .val (.int (p1 &&& (3 : Int32))), .val (.int (1 : Int32)), .val (.int (0 : Int32))] [(.int (lcmpW ((p2 &&& (63 : Int32)).toInt64) q1))])) _
        refine XS.ifNo X29.here hx rfl (hb hby at_71) rfl ((if0 _ _).trans (flt hc59_7).2.2.1) ?_
        show Steps p.tables e below (T29.setTop (mkF m 74 #[.val (.long q1), .second, .val (.int p1), .val (.int p2), .val (.int p3), .val (.int p4), .val (.ref b1), .val (.long ((p2 &&& (63 : Int32)).toInt64)), .second, .val (.long ((p3 &&& (63 : Int32)).toInt64)), .second, .val (.long ((p4 &&& (63 : Int32)).toInt64)), .second, .val (.int (p1 &&& (3 : Int32))), .val (.int (1 : Int32)), .val (.int (0 : Int32))] [])) _
        refine XS.iconst X29.here hx rfl (hb hby at_74) ?_
        show Steps p.tables e below (T29.setTop (mkF m 75 #[.val (.long q1), .second, .val (.int p1), .val (.int p2), .val (.int p3), .val (.int p4), .val (.ref b1), .val (.long ((p2 &&& (63 : Int32)).toInt64)), .second, .val (.long ((p3 &&& (63 : Int32)).toInt64)), .second, .val (.long ((p4 &&& (63 : Int32)).toInt64)), .second, .val (.int (p1 &&& (3 : Int32))), .val (.int (1 : Int32)), .val (.int (0 : Int32))] [(.int (1 : Int32))])) _
        refine XS.goto X29.here hx rfl (pc0 := 75) (pc' := 79) rfl (hb hby at_75) (by decide) (by decide) ?_
        show Steps p.tables e below (T29.setTop (mkF m 79 #[.val (.long q1), .second, .val (.int p1), .val (.int p2), .val (.int p3), .val (.int p4), .val (.ref b1), .val (.long ((p2 &&& (63 : Int32)).toInt64)), .second, .val (.long ((p3 &&& (63 : Int32)).toInt64)), .second, .val (.long ((p4 &&& (63 : Int32)).toInt64)), .second, .val (.int (p1 &&& (3 : Int32))), .val (.int (1 : Int32)), .val (.int (0 : Int32))] [(.int (1 : Int32))])) _
        refine XS.istore X29.here hx rfl (hb hby at_79) rfl (l' := #[.val (.long q1), .second, .val (.int p1), .val (.int p2), .val (.int p3), .val (.int p4), .val (.ref b1), .val (.long ((p2 &&& (63 : Int32)).toInt64)), .second, .val (.long ((p3 &&& (63 : Int32)).toInt64)), .second, .val (.long ((p4 &&& (63 : Int32)).toInt64)), .second, .val (.int (p1 &&& (3 : Int32))), .val (.int (1 : Int32)), .val (.int (1 : Int32))]) rfl ?_
        show Steps p.tables e below (T29.setTop (mkF m 81 #[.val (.long q1), .second, .val (.int p1), .val (.int p2), .val (.int p3), .val (.int p4), .val (.ref b1), .val (.long ((p2 &&& (63 : Int32)).toInt64)), .second, .val (.long ((p3 &&& (63 : Int32)).toInt64)), .second, .val (.long ((p4 &&& (63 : Int32)).toInt64)), .second, .val (.int (p1 &&& (3 : Int32))), .val (.int (1 : Int32)), .val (.int (1 : Int32))] [])) _
        refine XS.iload X29.here hx rfl (hb hby at_81) rfl ?_
        show Steps p.tables e below (T29.setTop (mkF m 83 #[.val (.long q1), .second, .val (.int p1), .val (.int p2), .val (.int p3), .val (.int p4), .val (.ref b1), .val (.long ((p2 &&& (63 : Int32)).toInt64)), .second, .val (.long ((p3 &&& (63 : Int32)).toInt64)), .second, .val (.long ((p4 &&& (63 : Int32)).toInt64)), .second, .val (.int (p1 &&& (3 : Int32))), .val (.int (1 : Int32)), .val (.int (1 : Int32))] [(.int (1 : Int32))])) _
        refine XS.ifNo X29.here hx rfl (hb hby at_83) rfl ((if0 _ _).trans (feq (by decide : ¬ ((1 : Int32) = (0 : Int32)))).1) ?_
        show Steps p.tables e below (T29.setTop (mkF m 86 #[.val (.long q1), .second, .val (.int p1), .val (.int p2), .val (.int p3), .val (.int p4), .val (.ref b1), .val (.long ((p2 &&& (63 : Int32)).toInt64)), .second, .val (.long ((p3 &&& (63 : Int32)).toInt64)), .second, .val (.long ((p4 &&& (63 : Int32)).toInt64)), .second, .val (.int (p1 &&& (3 : Int32))), .val (.int (1 : Int32)), .val (.int (1 : Int32))] [])) _
        refine XS.aload X29.here hx rfl (hb hby at_86) rfl rfl ?_
        show Steps p.tables e below (T29.setTop (mkF m 88 #[.val (.long q1), .second, .val (.int p1), .val (.int p2), .val (.int p3), .val (.int p4), .val (.ref b1), .val (.long ((p2 &&& (63 : Int32)).toInt64)), .second, .val (.long ((p3 &&& (63 : Int32)).toInt64)), .second, .val (.long ((p4 &&& (63 : Int32)).toInt64)), .second, .val (.int (p1 &&& (3 : Int32))), .val (.int (1 : Int32)), .val (.int (1 : Int32))] [(.ref b1)])) _
        refine st30.trans ?_
        show Steps p.tables e below (T30.setTop (mkF m 91 #[.val (.long q1), .second, .val (.int p1), .val (.int p2), .val (.int p3), .val (.int p4), .val (.ref b1), .val (.long ((p2 &&& (63 : Int32)).toInt64)), .second, .val (.long ((p3 &&& (63 : Int32)).toInt64)), .second, .val (.long ((p4 &&& (63 : Int32)).toInt64)), .second, .val (.int (p1 &&& (3 : Int32))), .val (.int (1 : Int32)), .val (.int (1 : Int32))] [(.int (0 : Int32))])) _
        refine XS.iload X30.here hx rfl (hb hby at_91) rfl ?_
        show Steps p.tables e below (T30.setTop (mkF m 93 #[.val (.long q1), .second, .val (.int p1), .val (.int p2), .val (.int p3), .val (.int p4), .val (.ref b1), .val (.long ((p2 &&& (63 : Int32)).toInt64)), .second, .val (.long ((p3 &&& (63 : Int32)).toInt64)), .second, .val (.long ((p4 &&& (63 : Int32)).toInt64)), .second, .val (.int (p1 &&& (3 : Int32))), .val (.int (1 : Int32)), .val (.int (1 : Int32))] [(.int (1 : Int32)), (.int (0 : Int32))])) _
        refine XS.ifYes X30.here hx rfl (pc0 := 93) (pc' := 100) rfl (hb hby at_93) rfl ((if0 _ _).trans (feq (by decide : ¬ ((1 : Int32) = (0 : Int32)))).2) (by decide) (by decide) ?_
        show Steps p.tables e below (T30.setTop (mkF m 100 #[.val (.long q1), .second, .val (.int p1), .val (.int p2), .val (.int p3), .val (.int p4), .val (.ref b1), .val (.long ((p2 &&& (63 : Int32)).toInt64)), .second, .val (.long ((p3 &&& (63 : Int32)).toInt64)), .second, .val (.long ((p4 &&& (63 : Int32)).toInt64)), .second, .val (.int (p1 &&& (3 : Int32))), .val (.int (1 : Int32)), .val (.int (1 : Int32))] [(.int (0 : Int32))])) _
        refine XS.iconst X30.here hx rfl (hb hby at_100) ?_
        show Steps p.tables e below (T30.setTop (mkF m 101 #[.val (.long q1), .second, .val (.int p1), .val (.int p2), .val (.int p3), .val (.int p4), .val (.ref b1), .val (.long ((p2 &&& (63 : Int32)).toInt64)), .second, .val (.long ((p3 &&& (63 : Int32)).toInt64)), .second, .val (.long ((p4 &&& (63 : Int32)).toInt64)), .second, .val (.int (p1 &&& (3 : Int32))), .val (.int (1 : Int32)), .val (.int (1 : Int32))] [(.int (0 : Int32)), (.int (0 : Int32))])) _
        refine XS.icmpNo X30.here hx rfl (hb hby at_101) rfl (teq (by decide : (0 : Int32) = (0 : Int32))).2 ?_
        show Steps p.tables e below (T30.setTop (mkF m 104 #[.val (.long q1), .second, .val (.int p1), .val (.int p2), .val (.int p3), .val (.int p4), .val (.ref b1), .val (.long ((p2 &&& (63 : Int32)).toInt64)), .second, .val (.long ((p3 &&& (63 : Int32)).toInt64)), .second, .val (.long ((p4 &&& (63 : Int32)).toInt64)), .second, .val (.int (p1 &&& (3 : Int32))), .val (.int (1 : Int32)), .val (.int (1 : Int32))] [])) _
        refine XS.iconst X30.here hx rfl (hb hby at_104) ?_
        show Steps p.tables e below (T30.setTop (mkF m 105 #[.val (.long q1), .second, .val (.int p1), .val (.int p2), .val (.int p3), .val (.int p4), .val (.ref b1), .val (.long ((p2 &&& (63 : Int32)).toInt64)), .second, .val (.long ((p3 &&& (63 : Int32)).toInt64)), .second, .val (.long ((p4 &&& (63 : Int32)).toInt64)), .second, .val (.int (p1 &&& (3 : Int32))), .val (.int (1 : Int32)), .val (.int (1 : Int32))] [(.int (1 : Int32))])) _
        refine XS.goto X30.here hx rfl (pc0 := 105) (pc' := 109) rfl (hb hby at_105) (by decide) (by decide) ?_
        show Steps p.tables e below (T30.setTop (mkF m 109 #[.val (.long q1), .second, .val (.int p1), .val (.int p2), .val (.int p3), .val (.int p4), .val (.ref b1), .val (.long ((p2 &&& (63 : Int32)).toInt64)), .second, .val (.long ((p3 &&& (63 : Int32)).toInt64)), .second, .val (.long ((p4 &&& (63 : Int32)).toInt64)), .second, .val (.int (p1 &&& (3 : Int32))), .val (.int (1 : Int32)), .val (.int (1 : Int32))] [(.int (1 : Int32))])) _
        refine XS.istore X30.here hx rfl (hb hby at_109) rfl (l' := #[.val (.long q1), .second, .val (.int p1), .val (.int p2), .val (.int p3), .val (.int p4), .val (.ref b1), .val (.long ((p2 &&& (63 : Int32)).toInt64)), .second, .val (.long ((p3 &&& (63 : Int32)).toInt64)), .second, .val (.long ((p4 &&& (63 : Int32)).toInt64)), .second, .val (.int (p1 &&& (3 : Int32))), .val (.int (1 : Int32)), .val (.int (1 : Int32))]) rfl ?_
        show Steps p.tables e below (T30.setTop (mkF m 111 #[.val (.long q1), .second, .val (.int p1), .val (.int p2), .val (.int p3), .val (.int p4), .val (.ref b1), .val (.long ((p2 &&& (63 : Int32)).toInt64)), .second, .val (.long ((p3 &&& (63 : Int32)).toInt64)), .second, .val (.long ((p4 &&& (63 : Int32)).toInt64)), .second, .val (.int (p1 &&& (3 : Int32))), .val (.int (1 : Int32)), .val (.int (1 : Int32))] [])) _
        refine XS.iload X30.here hx rfl (hb hby at_111) rfl ?_
        show Steps p.tables e below (T30.setTop (mkF m 113 #[.val (.long q1), .second, .val (.int p1), .val (.int p2), .val (.int p3), .val (.int p4), .val (.ref b1), .val (.long ((p2 &&& (63 : Int32)).toInt64)), .second, .val (.long ((p3 &&& (63 : Int32)).toInt64)), .second, .val (.long ((p4 &&& (63 : Int32)).toInt64)), .second, .val (.int (p1 &&& (3 : Int32))), .val (.int (1 : Int32)), .val (.int (1 : Int32))] [(.int (p1 &&& (3 : Int32)))])) _
        refine XS.iconst X30.here hx rfl (hb hby at_113) ?_
        exact kt
      by_cases hc114_31 : (p1 &&& (3 : Int32)) < (2 : Int32)
      · have hd32 : (p1 &&& (3 : Int32)) < (3 : Int32) := Int32.lt_trans hc114_31 (by decide)
        obtain ⟨fs, hr, hrun, hended, hW, hsame⟩ := X30.leave (v := some (.int (1 : Int32))) (fun h => by rw [Bd.returns] at h; cases h)
        refine ⟨_, _, pre31 _ ?_, hrun, hended, _, _, rfl, ?_, ⟨_, rfl⟩, hW, hsame.mono (by show 6 ≤ 32; omega) (by show 47 + own_F M29 ≤ 704; have := own_Fle hM29; omega)⟩
        · show Steps p.tables e below (T30.setTop (mkF m 114 #[.val (.long q1), .second, .val (.int p1), .val (.int p2), .val (.int p3), .val (.int p4), .val (.ref b1), .val (.long ((p2 &&& (63 : Int32)).toInt64)), .second, .val (.long ((p3 &&& (63 : Int32)).toInt64)), .second, .val (.long ((p4 &&& (63 : Int32)).toInt64)), .second, .val (.int (p1 &&& (3 : Int32))), .val (.int (1 : Int32)), .val (.int (1 : Int32))] [(.int (2 : Int32)), (.int (p1 &&& (3 : Int32)))])) _
          refine XS.icmpYes X30.here hx rfl (pc0 := 114) (pc' := 174) rfl (hb hby at_114) rfl (tlt hc114_31).1 (by decide) (by decide) ?_
          show Steps p.tables e below (T30.setTop (mkF m 174 #[.val (.long q1), .second, .val (.int p1), .val (.int p2), .val (.int p3), .val (.int p4), .val (.ref b1), .val (.long ((p2 &&& (63 : Int32)).toInt64)), .second, .val (.long ((p3 &&& (63 : Int32)).toInt64)), .second, .val (.long ((p4 &&& (63 : Int32)).toInt64)), .second, .val (.int (p1 &&& (3 : Int32))), .val (.int (1 : Int32)), .val (.int (1 : Int32))] [])) _
          refine XS.iload X30.here hx rfl (hb hby at_174) rfl ?_
          show Steps p.tables e below (T30.setTop (mkF m 176 #[.val (.long q1), .second, .val (.int p1), .val (.int p2), .val (.int p3), .val (.int p4), .val (.ref b1), .val (.long ((p2 &&& (63 : Int32)).toInt64)), .second, .val (.long ((p3 &&& (63 : Int32)).toInt64)), .second, .val (.long ((p4 &&& (63 : Int32)).toInt64)), .second, .val (.int (p1 &&& (3 : Int32))), .val (.int (1 : Int32)), .val (.int (1 : Int32))] [(.int (p1 &&& (3 : Int32)))])) _
          refine XS.iconst X30.here hx rfl (hb hby at_176) ?_
          show Steps p.tables e below (T30.setTop (mkF m 177 #[.val (.long q1), .second, .val (.int p1), .val (.int p2), .val (.int p3), .val (.int p4), .val (.ref b1), .val (.long ((p2 &&& (63 : Int32)).toInt64)), .second, .val (.long ((p3 &&& (63 : Int32)).toInt64)), .second, .val (.long ((p4 &&& (63 : Int32)).toInt64)), .second, .val (.int (p1 &&& (3 : Int32))), .val (.int (1 : Int32)), .val (.int (1 : Int32))] [(.int (3 : Int32)), (.int (p1 &&& (3 : Int32)))])) _
          refine XS.icmpYes X30.here hx rfl (pc0 := 177) (pc' := 237) rfl (hb hby at_177) rfl (tlt hd32).1 (by decide) (by decide) ?_
          show Steps p.tables e below (T30.setTop (mkF m 237 #[.val (.long q1), .second, .val (.int p1), .val (.int p2), .val (.int p3), .val (.int p4), .val (.ref b1), .val (.long ((p2 &&& (63 : Int32)).toInt64)), .second, .val (.long ((p3 &&& (63 : Int32)).toInt64)), .second, .val (.long ((p4 &&& (63 : Int32)).toInt64)), .second, .val (.int (p1 &&& (3 : Int32))), .val (.int (1 : Int32)), .val (.int (1 : Int32))] [])) _
          refine XS.iload X30.here hx rfl (hb hby at_237) rfl ?_
          show Steps p.tables e below (T30.setTop (mkF m 239 #[.val (.long q1), .second, .val (.int p1), .val (.int p2), .val (.int p3), .val (.int p4), .val (.ref b1), .val (.long ((p2 &&& (63 : Int32)).toInt64)), .second, .val (.long ((p3 &&& (63 : Int32)).toInt64)), .second, .val (.long ((p4 &&& (63 : Int32)).toInt64)), .second, .val (.int (p1 &&& (3 : Int32))), .val (.int (1 : Int32)), .val (.int (1 : Int32))] [(.int (1 : Int32))])) _
          exact retN X30 hx (t := .boolean) Bd.returns (by simp) (hb hby at_239) hr
        · show Q_rm0 Z q1 p1 p2 p3 p4 h0 n0 _ T30.heap _
          rw [eq30]
          exact ⟨rfl, N30⟩
      · have pre33 : ∀ t, Steps p.tables e below (T30.setTop (mkF m 122 #[.val (.long q1), .second, .val (.int p1), .val (.int p2), .val (.int p3), .val (.int p4), .val (.ref b1), .val (.long ((p2 &&& (63 : Int32)).toInt64)), .second, .val (.long ((p3 &&& (63 : Int32)).toInt64)), .second, .val (.long ((p4 &&& (63 : Int32)).toInt64)), .second, .val (.int (p1 &&& (3 : Int32))), .val (.int (1 : Int32)), .val (.int (1 : Int32))] [.null, (.long ((p3 &&& (63 : Int32)).toInt64)), (.ref b1)])) t → Steps p.tables e below (s₁.setTop (entryFrame m #[(.long q1), (.int p1), (.int p2), (.int p3), (.int p4)] maxLocals)) t := by
          intro t kt
          refine pre31 _ ?_
          show Steps p.tables e below (T30.setTop (mkF m 114 #[.val (.long q1), .second, .val (.int p1), .val (.int p2), .val (.int p3), .val (.int p4), .val (.ref b1), .val (.long ((p2 &&& (63 : Int32)).toInt64)), .second, .val (.long ((p3 &&& (63 : Int32)).toInt64)), .second, .val (.long ((p4 &&& (63 : Int32)).toInt64)), .second, .val (.int (p1 &&& (3 : Int32))), .val (.int (1 : Int32)), .val (.int (1 : Int32))] [(.int (2 : Int32)), (.int (p1 &&& (3 : Int32)))])) _
          refine XS.icmpNo X30.here hx rfl (hb hby at_114) rfl (flt hc114_31).1 ?_
          show Steps p.tables e below (T30.setTop (mkF m 117 #[.val (.long q1), .second, .val (.int p1), .val (.int p2), .val (.int p3), .val (.int p4), .val (.ref b1), .val (.long ((p2 &&& (63 : Int32)).toInt64)), .second, .val (.long ((p3 &&& (63 : Int32)).toInt64)), .second, .val (.long ((p4 &&& (63 : Int32)).toInt64)), .second, .val (.int (p1 &&& (3 : Int32))), .val (.int (1 : Int32)), .val (.int (1 : Int32))] [])) _
          refine XS.aload X30.here hx rfl (hb hby at_117) rfl rfl ?_
          show Steps p.tables e below (T30.setTop (mkF m 119 #[.val (.long q1), .second, .val (.int p1), .val (.int p2), .val (.int p3), .val (.int p4), .val (.ref b1), .val (.long ((p2 &&& (63 : Int32)).toInt64)), .second, .val (.long ((p3 &&& (63 : Int32)).toInt64)), .second, .val (.long ((p4 &&& (63 : Int32)).toInt64)), .second, .val (.int (p1 &&& (3 : Int32))), .val (.int (1 : Int32)), .val (.int (1 : Int32))] [(.ref b1)])) _
          refine XS.lload X30.here hx rfl (hb hby at_119) rfl ?_
          show Steps p.tables e below (T30.setTop (mkF m 121 #[.val (.long q1), .second, .val (.int p1), .val (.int p2), .val (.int p3), .val (.int p4), .val (.ref b1), .val (.long ((p2 &&& (63 : Int32)).toInt64)), .second, .val (.long ((p3 &&& (63 : Int32)).toInt64)), .second, .val (.long ((p4 &&& (63 : Int32)).toInt64)), .second, .val (.int (p1 &&& (3 : Int32))), .val (.int (1 : Int32)), .val (.int (1 : Int32))] [(.long ((p3 &&& (63 : Int32)).toInt64)), (.ref b1)])) _
          refine XS.aconstNull X30.here hx rfl (hb hby at_121) ?_
          exact kt
        by_cases hc122_33 : (0 : Int32) < (lcmpW ((p3 &&& (63 : Int32)).toInt64) q1)
        · obtain ⟨T34, h34, locs34, X34, e34, O34, N34, D34, st34⟩ := schedD (s0 := 47) (M := M29) (P' := 0) (k' := 0) X30 hx hZ hw hown eq30 O29 N30 D29 g_b1 (own_63 p3).1 (own_63 p3).2 hc122_33 (g := (mkF m 122 #[.val (.long q1), .second, .val (.int p1), .val (.int p2), .val (.int p3), .val (.int p4), .val (.ref b1), .val (.long ((p2 &&& (63 : Int32)).toInt64)), .second, .val (.long ((p3 &&& (63 : Int32)).toInt64)), .second, .val (.long ((p4 &&& (63 : Int32)).toInt64)), .second, .val (.int (p1 &&& (3 : Int32))), .val (.int (1 : Int32)), .val (.int (1 : Int32))] [.null, (.long ((p3 &&& (63 : Int32)).toInt64)), (.ref b1)])) rfl rfl (by rw [hml]; rfl) rfl (hb hby at_122) (by omega) (by have := own_Fle hM29; omega)
          obtain ⟨cq35, kq35, q35a, q35b, q35c⟩ := isOf hZ e34 (own_exaD D34)
          obtain ⟨_, _, ⟨T35, L35, k35, n35⟩, -, X35, ⟨Lc35, hQ35, l35, y35, z35⟩, st35⟩ := X34.virtualBack hx (y := (⟨"com/example/januswire/januswire/sim/DueEvents", "isEmpty", "()Z"⟩ : MethodName)) (z := (⟨"com/example/januswire/januswire/sim/DueEvents", "isEmpty", "()Z"⟩ : MethodName)) hown (mvT hZ (hw _ (List.mem_of_getElem? (i := 23) rfl))) (mvT hZ (hw _ (List.mem_of_getElem? (i := 24) rfl))) (notFace_of_selects (args := #[]) (mvT hZ (hw _ (List.mem_of_getElem? (i := 26) rfl)))) (mvT hZ (hw _ (List.mem_of_getElem? (i := 26) rfl))) (mvT hZ (hw _ (List.mem_of_getElem? (i := 25) rfl))) (by decide) (backOf (W := 0) (isE_1 l Z a0 hw [] b1 h34 n0 O34 (own_penD D34)) hZ (hw _ (List.mem_of_getElem? (i := 27) rfl)) (hw _ (List.mem_of_getElem? (i := 2) rfl)) (by decide) (by decide)) q35a q35c (g := (mkF m 151 #[.val (.long q1), .second, .val (.int p1), .val (.int p2), .val (.int p3), .val (.int p4), .val (.ref b1), .val (.long ((p2 &&& (63 : Int32)).toInt64)), .second, .val (.long ((p3 &&& (63 : Int32)).toInt64)), .second, .val (.long ((p4 &&& (63 : Int32)).toInt64)), .second, .val (.int (p1 &&& (3 : Int32))), .val (.int (1 : Int32)), .val (.int (1 : Int32))] [(.ref b1)])) rfl (by rw [hml]; rfl) (Steps.refl _) (argsL := []) (rest := []) (lenOf pd___Z rfl) rfl (by show 2 * 0 + _ ≤ _; exact Nat.le_of_eq rfl) (hb hby at_151) (fun _ _ => ⟨rfl, e34, (by show 6 + 0 ≤ 32; omega), (by show 47 + own_F M29 + 0 ≤ 704; have := own_Fle hM29; omega)⟩)
          dsimp only [Pt.U, Pt.locs, Pt.cells, Pt.slots] at X35 l35 y35 z35 st35 hQ35
          subst l35 y35 z35
          obtain ⟨rfl, Nq35, eq35⟩ := hQ35
          have N35 := Fr.app N34 Nq35
          have pre36 : ∀ t, Steps p.tables e below (T35.setTop (mkF m 177 #[.val (.long q1), .second, .val (.int p1), .val (.int p2), .val (.int p3), .val (.int p4), .val (.ref b1), .val (.long ((p2 &&& (63 : Int32)).toInt64)), .second, .val (.long ((p3 &&& (63 : Int32)).toInt64)), .second, .val (.long ((p4 &&& (63 : Int32)).toInt64)), .second, .val (.int (p1 &&& (3 : Int32))), .val (.int (1 : Int32)), .val (.int (1 : Int32))] [(.int (3 : Int32)), (.int (p1 &&& (3 : Int32)))])) t → Steps p.tables e below (s₁.setTop (entryFrame m #[(.long q1), (.int p1), (.int p2), (.int p3), (.int p4)] maxLocals)) t := by
            intro t kt
            refine pre33 _ ?_
            show Steps p.tables e below (T30.setTop (mkF m 122 #[.val (.long q1), .second, .val (.int p1), .val (.int p2), .val (.int p3), .val (.int p4), .val (.ref b1), .val (.long ((p2 &&& (63 : Int32)).toInt64)), .second, .val (.long ((p3 &&& (63 : Int32)).toInt64)), .second, .val (.long ((p4 &&& (63 : Int32)).toInt64)), .second, .val (.int (p1 &&& (3 : Int32))), .val (.int (1 : Int32)), .val (.int (1 : Int32))] [.null, (.long ((p3 &&& (63 : Int32)).toInt64)), (.ref b1)])) _
            refine st34.trans ?_
            show Steps p.tables e below (T34.setTop (mkF m 125 #[.val (.long q1), .second, .val (.int p1), .val (.int p2), .val (.int p3), .val (.int p4), .val (.ref b1), .val (.long ((p2 &&& (63 : Int32)).toInt64)), .second, .val (.long ((p3 &&& (63 : Int32)).toInt64)), .second, .val (.long ((p4 &&& (63 : Int32)).toInt64)), .second, .val (.int (p1 &&& (3 : Int32))), .val (.int (1 : Int32)), .val (.int (1 : Int32))] [])) _
            refine XS.iload X34.here hx rfl (hb hby at_125) rfl ?_
            show Steps p.tables e below (T34.setTop (mkF m 127 #[.val (.long q1), .second, .val (.int p1), .val (.int p2), .val (.int p3), .val (.int p4), .val (.ref b1), .val (.long ((p2 &&& (63 : Int32)).toInt64)), .second, .val (.long ((p3 &&& (63 : Int32)).toInt64)), .second, .val (.long ((p4 &&& (63 : Int32)).toInt64)), .second, .val (.int (p1 &&& (3 : Int32))), .val (.int (1 : Int32)), .val (.int (1 : Int32))] [(.int (1 : Int32))])) _
            refine XS.ifYes X34.here hx rfl (pc0 := 127) (pc' := 137) rfl (hb hby at_127) rfl ((if0 _ _).trans (feq (by decide : ¬ ((1 : Int32) = (0 : Int32)))).2) (by decide) (by decide) ?_
            show Steps p.tables e below (T34.setTop (mkF m 137 #[.val (.long q1), .second, .val (.int p1), .val (.int p2), .val (.int p3), .val (.int p4), .val (.ref b1), .val (.long ((p2 &&& (63 : Int32)).toInt64)), .second, .val (.long ((p3 &&& (63 : Int32)).toInt64)), .second, .val (.long ((p4 &&& (63 : Int32)).toInt64)), .second, .val (.int (p1 &&& (3 : Int32))), .val (.int (1 : Int32)), .val (.int (1 : Int32))] [])) _
            refine XS.iconst X34.here hx rfl (hb hby at_137) ?_
            show Steps p.tables e below (T34.setTop (mkF m 138 #[.val (.long q1), .second, .val (.int p1), .val (.int p2), .val (.int p3), .val (.int p4), .val (.ref b1), .val (.long ((p2 &&& (63 : Int32)).toInt64)), .second, .val (.long ((p3 &&& (63 : Int32)).toInt64)), .second, .val (.long ((p4 &&& (63 : Int32)).toInt64)), .second, .val (.int (p1 &&& (3 : Int32))), .val (.int (1 : Int32)), .val (.int (1 : Int32))] [(.int (1 : Int32))])) _
            refine XS.goto X34.here hx rfl (pc0 := 138) (pc' := 142) rfl (hb hby at_138) (by decide) (by decide) ?_
            show Steps p.tables e below (T34.setTop (mkF m 142 #[.val (.long q1), .second, .val (.int p1), .val (.int p2), .val (.int p3), .val (.int p4), .val (.ref b1), .val (.long ((p2 &&& (63 : Int32)).toInt64)), .second, .val (.long ((p3 &&& (63 : Int32)).toInt64)), .second, .val (.long ((p4 &&& (63 : Int32)).toInt64)), .second, .val (.int (p1 &&& (3 : Int32))), .val (.int (1 : Int32)), .val (.int (1 : Int32))] [(.int (1 : Int32))])) _
            refine XS.istore X34.here hx rfl (hb hby at_142) rfl (l' := #[.val (.long q1), .second, .val (.int p1), .val (.int p2), .val (.int p3), .val (.int p4), .val (.ref b1), .val (.long ((p2 &&& (63 : Int32)).toInt64)), .second, .val (.long ((p3 &&& (63 : Int32)).toInt64)), .second, .val (.long ((p4 &&& (63 : Int32)).toInt64)), .second, .val (.int (p1 &&& (3 : Int32))), .val (.int (1 : Int32)), .val (.int (1 : Int32))]) rfl ?_
            show Steps p.tables e below (T34.setTop (mkF m 144 #[.val (.long q1), .second, .val (.int p1), .val (.int p2), .val (.int p3), .val (.int p4), .val (.ref b1), .val (.long ((p2 &&& (63 : Int32)).toInt64)), .second, .val (.long ((p3 &&& (63 : Int32)).toInt64)), .second, .val (.long ((p4 &&& (63 : Int32)).toInt64)), .second, .val (.int (p1 &&& (3 : Int32))), .val (.int (1 : Int32)), .val (.int (1 : Int32))] [])) _
            refine XS.iload X34.here hx rfl (hb hby at_144) rfl ?_
            show Steps p.tables e below (T34.setTop (mkF m 146 #[.val (.long q1), .second, .val (.int p1), .val (.int p2), .val (.int p3), .val (.int p4), .val (.ref b1), .val (.long ((p2 &&& (63 : Int32)).toInt64)), .second, .val (.long ((p3 &&& (63 : Int32)).toInt64)), .second, .val (.long ((p4 &&& (63 : Int32)).toInt64)), .second, .val (.int (p1 &&& (3 : Int32))), .val (.int (1 : Int32)), .val (.int (1 : Int32))] [(.int (1 : Int32))])) _
            refine XS.ifNo X34.here hx rfl (hb hby at_146) rfl ((if0 _ _).trans (feq (by decide : ¬ ((1 : Int32) = (0 : Int32)))).1) ?_
            show Steps p.tables e below (T34.setTop (mkF m 149 #[.val (.long q1), .second, .val (.int p1), .val (.int p2), .val (.int p3), .val (.int p4), .val (.ref b1), .val (.long ((p2 &&& (63 : Int32)).toInt64)), .second, .val (.long ((p3 &&& (63 : Int32)).toInt64)), .second, .val (.long ((p4 &&& (63 : Int32)).toInt64)), .second, .val (.int (p1 &&& (3 : Int32))), .val (.int (1 : Int32)), .val (.int (1 : Int32))] [])) _
            refine XS.aload X34.here hx rfl (hb hby at_149) rfl rfl ?_
            show Steps p.tables e below (T34.setTop (mkF m 151 #[.val (.long q1), .second, .val (.int p1), .val (.int p2), .val (.int p3), .val (.int p4), .val (.ref b1), .val (.long ((p2 &&& (63 : Int32)).toInt64)), .second, .val (.long ((p3 &&& (63 : Int32)).toInt64)), .second, .val (.long ((p4 &&& (63 : Int32)).toInt64)), .second, .val (.int (p1 &&& (3 : Int32))), .val (.int (1 : Int32)), .val (.int (1 : Int32))] [(.ref b1)])) _
            refine st35.trans ?_
            show Steps p.tables e below (T35.setTop (mkF m 154 #[.val (.long q1), .second, .val (.int p1), .val (.int p2), .val (.int p3), .val (.int p4), .val (.ref b1), .val (.long ((p2 &&& (63 : Int32)).toInt64)), .second, .val (.long ((p3 &&& (63 : Int32)).toInt64)), .second, .val (.long ((p4 &&& (63 : Int32)).toInt64)), .second, .val (.int (p1 &&& (3 : Int32))), .val (.int (1 : Int32)), .val (.int (1 : Int32))] [(.int (0 : Int32))])) _
            refine XS.iload X35.here hx rfl (hb hby at_154) rfl ?_
            show Steps p.tables e below (T35.setTop (mkF m 156 #[.val (.long q1), .second, .val (.int p1), .val (.int p2), .val (.int p3), .val (.int p4), .val (.ref b1), .val (.long ((p2 &&& (63 : Int32)).toInt64)), .second, .val (.long ((p3 &&& (63 : Int32)).toInt64)), .second, .val (.long ((p4 &&& (63 : Int32)).toInt64)), .second, .val (.int (p1 &&& (3 : Int32))), .val (.int (1 : Int32)), .val (.int (1 : Int32))] [(.int (1 : Int32)), (.int (0 : Int32))])) _
            refine XS.ifYes X35.here hx rfl (pc0 := 156) (pc' := 163) rfl (hb hby at_156) rfl ((if0 _ _).trans (feq (by decide : ¬ ((1 : Int32) = (0 : Int32)))).2) (by decide) (by decide) ?_
            show Steps p.tables e below (T35.setTop (mkF m 163 #[.val (.long q1), .second, .val (.int p1), .val (.int p2), .val (.int p3), .val (.int p4), .val (.ref b1), .val (.long ((p2 &&& (63 : Int32)).toInt64)), .second, .val (.long ((p3 &&& (63 : Int32)).toInt64)), .second, .val (.long ((p4 &&& (63 : Int32)).toInt64)), .second, .val (.int (p1 &&& (3 : Int32))), .val (.int (1 : Int32)), .val (.int (1 : Int32))] [(.int (0 : Int32))])) _
            refine XS.iconst X35.here hx rfl (hb hby at_163) ?_
            show Steps p.tables e below (T35.setTop (mkF m 164 #[.val (.long q1), .second, .val (.int p1), .val (.int p2), .val (.int p3), .val (.int p4), .val (.ref b1), .val (.long ((p2 &&& (63 : Int32)).toInt64)), .second, .val (.long ((p3 &&& (63 : Int32)).toInt64)), .second, .val (.long ((p4 &&& (63 : Int32)).toInt64)), .second, .val (.int (p1 &&& (3 : Int32))), .val (.int (1 : Int32)), .val (.int (1 : Int32))] [(.int (0 : Int32)), (.int (0 : Int32))])) _
            refine XS.icmpNo X35.here hx rfl (hb hby at_164) rfl (teq (by decide : (0 : Int32) = (0 : Int32))).2 ?_
            show Steps p.tables e below (T35.setTop (mkF m 167 #[.val (.long q1), .second, .val (.int p1), .val (.int p2), .val (.int p3), .val (.int p4), .val (.ref b1), .val (.long ((p2 &&& (63 : Int32)).toInt64)), .second, .val (.long ((p3 &&& (63 : Int32)).toInt64)), .second, .val (.long ((p4 &&& (63 : Int32)).toInt64)), .second, .val (.int (p1 &&& (3 : Int32))), .val (.int (1 : Int32)), .val (.int (1 : Int32))] [])) _
            refine XS.iconst X35.here hx rfl (hb hby at_167) ?_
            show Steps p.tables e below (T35.setTop (mkF m 168 #[.val (.long q1), .second, .val (.int p1), .val (.int p2), .val (.int p3), .val (.int p4), .val (.ref b1), .val (.long ((p2 &&& (63 : Int32)).toInt64)), .second, .val (.long ((p3 &&& (63 : Int32)).toInt64)), .second, .val (.long ((p4 &&& (63 : Int32)).toInt64)), .second, .val (.int (p1 &&& (3 : Int32))), .val (.int (1 : Int32)), .val (.int (1 : Int32))] [(.int (1 : Int32))])) _
            refine XS.goto X35.here hx rfl (pc0 := 168) (pc' := 172) rfl (hb hby at_168) (by decide) (by decide) ?_
            show Steps p.tables e below (T35.setTop (mkF m 172 #[.val (.long q1), .second, .val (.int p1), .val (.int p2), .val (.int p3), .val (.int p4), .val (.ref b1), .val (.long ((p2 &&& (63 : Int32)).toInt64)), .second, .val (.long ((p3 &&& (63 : Int32)).toInt64)), .second, .val (.long ((p4 &&& (63 : Int32)).toInt64)), .second, .val (.int (p1 &&& (3 : Int32))), .val (.int (1 : Int32)), .val (.int (1 : Int32))] [(.int (1 : Int32))])) _
            refine XS.istore X35.here hx rfl (hb hby at_172) rfl (l' := #[.val (.long q1), .second, .val (.int p1), .val (.int p2), .val (.int p3), .val (.int p4), .val (.ref b1), .val (.long ((p2 &&& (63 : Int32)).toInt64)), .second, .val (.long ((p3 &&& (63 : Int32)).toInt64)), .second, .val (.long ((p4 &&& (63 : Int32)).toInt64)), .second, .val (.int (p1 &&& (3 : Int32))), .val (.int (1 : Int32)), .val (.int (1 : Int32))]) rfl ?_
            show Steps p.tables e below (T35.setTop (mkF m 174 #[.val (.long q1), .second, .val (.int p1), .val (.int p2), .val (.int p3), .val (.int p4), .val (.ref b1), .val (.long ((p2 &&& (63 : Int32)).toInt64)), .second, .val (.long ((p3 &&& (63 : Int32)).toInt64)), .second, .val (.long ((p4 &&& (63 : Int32)).toInt64)), .second, .val (.int (p1 &&& (3 : Int32))), .val (.int (1 : Int32)), .val (.int (1 : Int32))] [])) _
            refine XS.iload X35.here hx rfl (hb hby at_174) rfl ?_
            show Steps p.tables e below (T35.setTop (mkF m 176 #[.val (.long q1), .second, .val (.int p1), .val (.int p2), .val (.int p3), .val (.int p4), .val (.ref b1), .val (.long ((p2 &&& (63 : Int32)).toInt64)), .second, .val (.long ((p3 &&& (63 : Int32)).toInt64)), .second, .val (.long ((p4 &&& (63 : Int32)).toInt64)), .second, .val (.int (p1 &&& (3 : Int32))), .val (.int (1 : Int32)), .val (.int (1 : Int32))] [(.int (p1 &&& (3 : Int32)))])) _
            refine XS.iconst X35.here hx rfl (hb hby at_176) ?_
            exact kt
          by_cases hc177_36 : (p1 &&& (3 : Int32)) < (3 : Int32)
          · obtain ⟨fs, hr, hrun, hended, hW, hsame⟩ := X35.leave (v := some (.int (1 : Int32))) (fun h => by rw [Bd.returns] at h; cases h)
            refine ⟨_, _, pre36 _ ?_, hrun, hended, _, _, rfl, ?_, ⟨_, rfl⟩, hW, hsame.mono (by show 6 ≤ 32; omega) (by show 47 + own_F M29 ≤ 704; have := own_Fle hM29; omega)⟩
            · show Steps p.tables e below (T35.setTop (mkF m 177 #[.val (.long q1), .second, .val (.int p1), .val (.int p2), .val (.int p3), .val (.int p4), .val (.ref b1), .val (.long ((p2 &&& (63 : Int32)).toInt64)), .second, .val (.long ((p3 &&& (63 : Int32)).toInt64)), .second, .val (.long ((p4 &&& (63 : Int32)).toInt64)), .second, .val (.int (p1 &&& (3 : Int32))), .val (.int (1 : Int32)), .val (.int (1 : Int32))] [(.int (3 : Int32)), (.int (p1 &&& (3 : Int32)))])) _
              refine XS.icmpYes X35.here hx rfl (pc0 := 177) (pc' := 237) rfl (hb hby at_177) rfl (tlt hc177_36).1 (by decide) (by decide) ?_
              show Steps p.tables e below (T35.setTop (mkF m 237 #[.val (.long q1), .second, .val (.int p1), .val (.int p2), .val (.int p3), .val (.int p4), .val (.ref b1), .val (.long ((p2 &&& (63 : Int32)).toInt64)), .second, .val (.long ((p3 &&& (63 : Int32)).toInt64)), .second, .val (.long ((p4 &&& (63 : Int32)).toInt64)), .second, .val (.int (p1 &&& (3 : Int32))), .val (.int (1 : Int32)), .val (.int (1 : Int32))] [])) _
              refine XS.iload X35.here hx rfl (hb hby at_237) rfl ?_
              show Steps p.tables e below (T35.setTop (mkF m 239 #[.val (.long q1), .second, .val (.int p1), .val (.int p2), .val (.int p3), .val (.int p4), .val (.ref b1), .val (.long ((p2 &&& (63 : Int32)).toInt64)), .second, .val (.long ((p3 &&& (63 : Int32)).toInt64)), .second, .val (.long ((p4 &&& (63 : Int32)).toInt64)), .second, .val (.int (p1 &&& (3 : Int32))), .val (.int (1 : Int32)), .val (.int (1 : Int32))] [(.int (1 : Int32))])) _
              exact retN X35 hx (t := .boolean) Bd.returns (by simp) (hb hby at_239) hr
            · show Q_rm0 Z q1 p1 p2 p3 p4 h0 n0 _ T35.heap _
              rw [eq35]
              exact ⟨rfl, N35⟩
          · have pre37 : ∀ t, Steps p.tables e below (T35.setTop (mkF m 185 #[.val (.long q1), .second, .val (.int p1), .val (.int p2), .val (.int p3), .val (.int p4), .val (.ref b1), .val (.long ((p2 &&& (63 : Int32)).toInt64)), .second, .val (.long ((p3 &&& (63 : Int32)).toInt64)), .second, .val (.long ((p4 &&& (63 : Int32)).toInt64)), .second, .val (.int (p1 &&& (3 : Int32))), .val (.int (1 : Int32)), .val (.int (1 : Int32))] [.null, (.long ((p4 &&& (63 : Int32)).toInt64)), (.ref b1)])) t → Steps p.tables e below (s₁.setTop (entryFrame m #[(.long q1), (.int p1), (.int p2), (.int p3), (.int p4)] maxLocals)) t := by
              intro t kt
              refine pre36 _ ?_
              show Steps p.tables e below (T35.setTop (mkF m 177 #[.val (.long q1), .second, .val (.int p1), .val (.int p2), .val (.int p3), .val (.int p4), .val (.ref b1), .val (.long ((p2 &&& (63 : Int32)).toInt64)), .second, .val (.long ((p3 &&& (63 : Int32)).toInt64)), .second, .val (.long ((p4 &&& (63 : Int32)).toInt64)), .second, .val (.int (p1 &&& (3 : Int32))), .val (.int (1 : Int32)), .val (.int (1 : Int32))] [(.int (3 : Int32)), (.int (p1 &&& (3 : Int32)))])) _
              refine XS.icmpNo X35.here hx rfl (hb hby at_177) rfl (flt hc177_36).1 ?_
              show Steps p.tables e below (T35.setTop (mkF m 180 #[.val (.long q1), .second, .val (.int p1), .val (.int p2), .val (.int p3), .val (.int p4), .val (.ref b1), .val (.long ((p2 &&& (63 : Int32)).toInt64)), .second, .val (.long ((p3 &&& (63 : Int32)).toInt64)), .second, .val (.long ((p4 &&& (63 : Int32)).toInt64)), .second, .val (.int (p1 &&& (3 : Int32))), .val (.int (1 : Int32)), .val (.int (1 : Int32))] [])) _
              refine XS.aload X35.here hx rfl (hb hby at_180) rfl rfl ?_
              show Steps p.tables e below (T35.setTop (mkF m 182 #[.val (.long q1), .second, .val (.int p1), .val (.int p2), .val (.int p3), .val (.int p4), .val (.ref b1), .val (.long ((p2 &&& (63 : Int32)).toInt64)), .second, .val (.long ((p3 &&& (63 : Int32)).toInt64)), .second, .val (.long ((p4 &&& (63 : Int32)).toInt64)), .second, .val (.int (p1 &&& (3 : Int32))), .val (.int (1 : Int32)), .val (.int (1 : Int32))] [(.ref b1)])) _
              refine XS.lload X35.here hx rfl (hb hby at_182) rfl ?_
              show Steps p.tables e below (T35.setTop (mkF m 184 #[.val (.long q1), .second, .val (.int p1), .val (.int p2), .val (.int p3), .val (.int p4), .val (.ref b1), .val (.long ((p2 &&& (63 : Int32)).toInt64)), .second, .val (.long ((p3 &&& (63 : Int32)).toInt64)), .second, .val (.long ((p4 &&& (63 : Int32)).toInt64)), .second, .val (.int (p1 &&& (3 : Int32))), .val (.int (1 : Int32)), .val (.int (1 : Int32))] [(.long ((p4 &&& (63 : Int32)).toInt64)), (.ref b1)])) _
              refine XS.aconstNull X35.here hx rfl (hb hby at_184) ?_
              exact kt
            by_cases hc185_37 : (0 : Int32) < (lcmpW ((p4 &&& (63 : Int32)).toInt64) q1)
            · obtain ⟨T38, h38, locs38, X38, e38, O38, N38, D38, st38⟩ := schedD (s0 := 47) (M := M29) (P' := 0) (k' := 0) X35 hx hZ hw hown eq35 O34 N35 D34 g_b1 (own_63 p4).1 (own_63 p4).2 hc185_37 (g := (mkF m 185 #[.val (.long q1), .second, .val (.int p1), .val (.int p2), .val (.int p3), .val (.int p4), .val (.ref b1), .val (.long ((p2 &&& (63 : Int32)).toInt64)), .second, .val (.long ((p3 &&& (63 : Int32)).toInt64)), .second, .val (.long ((p4 &&& (63 : Int32)).toInt64)), .second, .val (.int (p1 &&& (3 : Int32))), .val (.int (1 : Int32)), .val (.int (1 : Int32))] [.null, (.long ((p4 &&& (63 : Int32)).toInt64)), (.ref b1)])) rfl rfl (by rw [hml]; rfl) rfl (hb hby at_185) (by omega) (by have := own_Fle hM29; omega)
              obtain ⟨cq39, kq39, q39a, q39b, q39c⟩ := isOf hZ e38 (own_exaD D38)
              obtain ⟨_, _, ⟨T39, L39, k39, n39⟩, -, X39, ⟨Lc39, hQ39, l39, y39, z39⟩, st39⟩ := X38.virtualBack hx (y := (⟨"com/example/januswire/januswire/sim/DueEvents", "isEmpty", "()Z"⟩ : MethodName)) (z := (⟨"com/example/januswire/januswire/sim/DueEvents", "isEmpty", "()Z"⟩ : MethodName)) hown (mvT hZ (hw _ (List.mem_of_getElem? (i := 23) rfl))) (mvT hZ (hw _ (List.mem_of_getElem? (i := 24) rfl))) (notFace_of_selects (args := #[]) (mvT hZ (hw _ (List.mem_of_getElem? (i := 26) rfl)))) (mvT hZ (hw _ (List.mem_of_getElem? (i := 26) rfl))) (mvT hZ (hw _ (List.mem_of_getElem? (i := 25) rfl))) (by decide) (backOf (W := 0) (isE_1 l Z a0 hw [] b1 h38 n0 O38 (own_penD D38)) hZ (hw _ (List.mem_of_getElem? (i := 27) rfl)) (hw _ (List.mem_of_getElem? (i := 2) rfl)) (by decide) (by decide)) q39a q39c (g := (mkF m 214 #[.val (.long q1), .second, .val (.int p1), .val (.int p2), .val (.int p3), .val (.int p4), .val (.ref b1), .val (.long ((p2 &&& (63 : Int32)).toInt64)), .second, .val (.long ((p3 &&& (63 : Int32)).toInt64)), .second, .val (.long ((p4 &&& (63 : Int32)).toInt64)), .second, .val (.int (p1 &&& (3 : Int32))), .val (.int (1 : Int32)), .val (.int (1 : Int32))] [(.ref b1)])) rfl (by rw [hml]; rfl) (Steps.refl _) (argsL := []) (rest := []) (lenOf pd___Z rfl) rfl (by show 2 * 0 + _ ≤ _; exact Nat.le_of_eq rfl) (hb hby at_214) (fun _ _ => ⟨rfl, e38, (by show 6 + 0 ≤ 32; omega), (by show 47 + own_F M29 + 0 ≤ 704; have := own_Fle hM29; omega)⟩)
              dsimp only [Pt.U, Pt.locs, Pt.cells, Pt.slots] at X39 l39 y39 z39 st39 hQ39
              subst l39 y39 z39
              obtain ⟨rfl, Nq39, eq39⟩ := hQ39
              have N39 := Fr.app N38 Nq39
              obtain ⟨fs, hr, hrun, hended, hW, hsame⟩ := X39.leave (v := some (.int (1 : Int32))) (fun h => by rw [Bd.returns] at h; cases h)
              refine ⟨_, _, pre37 _ ?_, hrun, hended, _, _, rfl, ?_, ⟨_, rfl⟩, hW, hsame.mono (by show 6 ≤ 32; omega) (by show 47 + own_F M29 ≤ 704; have := own_Fle hM29; omega)⟩
              · show Steps p.tables e below (T35.setTop (mkF m 185 #[.val (.long q1), .second, .val (.int p1), .val (.int p2), .val (.int p3), .val (.int p4), .val (.ref b1), .val (.long ((p2 &&& (63 : Int32)).toInt64)), .second, .val (.long ((p3 &&& (63 : Int32)).toInt64)), .second, .val (.long ((p4 &&& (63 : Int32)).toInt64)), .second, .val (.int (p1 &&& (3 : Int32))), .val (.int (1 : Int32)), .val (.int (1 : Int32))] [.null, (.long ((p4 &&& (63 : Int32)).toInt64)), (.ref b1)])) _
                refine st38.trans ?_
                show Steps p.tables e below (T38.setTop (mkF m 188 #[.val (.long q1), .second, .val (.int p1), .val (.int p2), .val (.int p3), .val (.int p4), .val (.ref b1), .val (.long ((p2 &&& (63 : Int32)).toInt64)), .second, .val (.long ((p3 &&& (63 : Int32)).toInt64)), .second, .val (.long ((p4 &&& (63 : Int32)).toInt64)), .second, .val (.int (p1 &&& (3 : Int32))), .val (.int (1 : Int32)), .val (.int (1 : Int32))] [])) _
                refine XS.iload X38.here hx rfl (hb hby at_188) rfl ?_
                show Steps p.tables e below (T38.setTop (mkF m 190 #[.val (.long q1), .second, .val (.int p1), .val (.int p2), .val (.int p3), .val (.int p4), .val (.ref b1), .val (.long ((p2 &&& (63 : Int32)).toInt64)), .second, .val (.long ((p3 &&& (63 : Int32)).toInt64)), .second, .val (.long ((p4 &&& (63 : Int32)).toInt64)), .second, .val (.int (p1 &&& (3 : Int32))), .val (.int (1 : Int32)), .val (.int (1 : Int32))] [(.int (1 : Int32))])) _
                refine XS.ifYes X38.here hx rfl (pc0 := 190) (pc' := 200) rfl (hb hby at_190) rfl ((if0 _ _).trans (feq (by decide : ¬ ((1 : Int32) = (0 : Int32)))).2) (by decide) (by decide) ?_
                show Steps p.tables e below (T38.setTop (mkF m 200 #[.val (.long q1), .second, .val (.int p1), .val (.int p2), .val (.int p3), .val (.int p4), .val (.ref b1), .val (.long ((p2 &&& (63 : Int32)).toInt64)), .second, .val (.long ((p3 &&& (63 : Int32)).toInt64)), .second, .val (.long ((p4 &&& (63 : Int32)).toInt64)), .second, .val (.int (p1 &&& (3 : Int32))), .val (.int (1 : Int32)), .val (.int (1 : Int32))] [])) _
                refine XS.iconst X38.here hx rfl (hb hby at_200) ?_
                show Steps p.tables e below (T38.setTop (mkF m 201 #[.val (.long q1), .second, .val (.int p1), .val (.int p2), .val (.int p3), .val (.int p4), .val (.ref b1), .val (.long ((p2 &&& (63 : Int32)).toInt64)), .second, .val (.long ((p3 &&& (63 : Int32)).toInt64)), .second, .val (.long ((p4 &&& (63 : Int32)).toInt64)), .second, .val (.int (p1 &&& (3 : Int32))), .val (.int (1 : Int32)), .val (.int (1 : Int32))] [(.int (1 : Int32))])) _
                refine XS.goto X38.here hx rfl (pc0 := 201) (pc' := 205) rfl (hb hby at_201) (by decide) (by decide) ?_
                show Steps p.tables e below (T38.setTop (mkF m 205 #[.val (.long q1), .second, .val (.int p1), .val (.int p2), .val (.int p3), .val (.int p4), .val (.ref b1), .val (.long ((p2 &&& (63 : Int32)).toInt64)), .second, .val (.long ((p3 &&& (63 : Int32)).toInt64)), .second, .val (.long ((p4 &&& (63 : Int32)).toInt64)), .second, .val (.int (p1 &&& (3 : Int32))), .val (.int (1 : Int32)), .val (.int (1 : Int32))] [(.int (1 : Int32))])) _
                refine XS.istore X38.here hx rfl (hb hby at_205) rfl (l' := #[.val (.long q1), .second, .val (.int p1), .val (.int p2), .val (.int p3), .val (.int p4), .val (.ref b1), .val (.long ((p2 &&& (63 : Int32)).toInt64)), .second, .val (.long ((p3 &&& (63 : Int32)).toInt64)), .second, .val (.long ((p4 &&& (63 : Int32)).toInt64)), .second, .val (.int (p1 &&& (3 : Int32))), .val (.int (1 : Int32)), .val (.int (1 : Int32))]) rfl ?_
                show Steps p.tables e below (T38.setTop (mkF m 207 #[.val (.long q1), .second, .val (.int p1), .val (.int p2), .val (.int p3), .val (.int p4), .val (.ref b1), .val (.long ((p2 &&& (63 : Int32)).toInt64)), .second, .val (.long ((p3 &&& (63 : Int32)).toInt64)), .second, .val (.long ((p4 &&& (63 : Int32)).toInt64)), .second, .val (.int (p1 &&& (3 : Int32))), .val (.int (1 : Int32)), .val (.int (1 : Int32))] [])) _
                refine XS.iload X38.here hx rfl (hb hby at_207) rfl ?_
                show Steps p.tables e below (T38.setTop (mkF m 209 #[.val (.long q1), .second, .val (.int p1), .val (.int p2), .val (.int p3), .val (.int p4), .val (.ref b1), .val (.long ((p2 &&& (63 : Int32)).toInt64)), .second, .val (.long ((p3 &&& (63 : Int32)).toInt64)), .second, .val (.long ((p4 &&& (63 : Int32)).toInt64)), .second, .val (.int (p1 &&& (3 : Int32))), .val (.int (1 : Int32)), .val (.int (1 : Int32))] [(.int (1 : Int32))])) _
                refine XS.ifNo X38.here hx rfl (hb hby at_209) rfl ((if0 _ _).trans (feq (by decide : ¬ ((1 : Int32) = (0 : Int32)))).1) ?_
                show Steps p.tables e below (T38.setTop (mkF m 212 #[.val (.long q1), .second, .val (.int p1), .val (.int p2), .val (.int p3), .val (.int p4), .val (.ref b1), .val (.long ((p2 &&& (63 : Int32)).toInt64)), .second, .val (.long ((p3 &&& (63 : Int32)).toInt64)), .second, .val (.long ((p4 &&& (63 : Int32)).toInt64)), .second, .val (.int (p1 &&& (3 : Int32))), .val (.int (1 : Int32)), .val (.int (1 : Int32))] [])) _
                refine XS.aload X38.here hx rfl (hb hby at_212) rfl rfl ?_
                show Steps p.tables e below (T38.setTop (mkF m 214 #[.val (.long q1), .second, .val (.int p1), .val (.int p2), .val (.int p3), .val (.int p4), .val (.ref b1), .val (.long ((p2 &&& (63 : Int32)).toInt64)), .second, .val (.long ((p3 &&& (63 : Int32)).toInt64)), .second, .val (.long ((p4 &&& (63 : Int32)).toInt64)), .second, .val (.int (p1 &&& (3 : Int32))), .val (.int (1 : Int32)), .val (.int (1 : Int32))] [(.ref b1)])) _
                refine st39.trans ?_
                show Steps p.tables e below (T39.setTop (mkF m 217 #[.val (.long q1), .second, .val (.int p1), .val (.int p2), .val (.int p3), .val (.int p4), .val (.ref b1), .val (.long ((p2 &&& (63 : Int32)).toInt64)), .second, .val (.long ((p3 &&& (63 : Int32)).toInt64)), .second, .val (.long ((p4 &&& (63 : Int32)).toInt64)), .second, .val (.int (p1 &&& (3 : Int32))), .val (.int (1 : Int32)), .val (.int (1 : Int32))] [(.int (0 : Int32))])) _
                refine XS.iload X39.here hx rfl (hb hby at_217) rfl ?_
                show Steps p.tables e below (T39.setTop (mkF m 219 #[.val (.long q1), .second, .val (.int p1), .val (.int p2), .val (.int p3), .val (.int p4), .val (.ref b1), .val (.long ((p2 &&& (63 : Int32)).toInt64)), .second, .val (.long ((p3 &&& (63 : Int32)).toInt64)), .second, .val (.long ((p4 &&& (63 : Int32)).toInt64)), .second, .val (.int (p1 &&& (3 : Int32))), .val (.int (1 : Int32)), .val (.int (1 : Int32))] [(.int (1 : Int32)), (.int (0 : Int32))])) _
                refine XS.ifYes X39.here hx rfl (pc0 := 219) (pc' := 226) rfl (hb hby at_219) rfl ((if0 _ _).trans (feq (by decide : ¬ ((1 : Int32) = (0 : Int32)))).2) (by decide) (by decide) ?_
                show Steps p.tables e below (T39.setTop (mkF m 226 #[.val (.long q1), .second, .val (.int p1), .val (.int p2), .val (.int p3), .val (.int p4), .val (.ref b1), .val (.long ((p2 &&& (63 : Int32)).toInt64)), .second, .val (.long ((p3 &&& (63 : Int32)).toInt64)), .second, .val (.long ((p4 &&& (63 : Int32)).toInt64)), .second, .val (.int (p1 &&& (3 : Int32))), .val (.int (1 : Int32)), .val (.int (1 : Int32))] [(.int (0 : Int32))])) _
                refine XS.iconst X39.here hx rfl (hb hby at_226) ?_
                show Steps p.tables e below (T39.setTop (mkF m 227 #[.val (.long q1), .second, .val (.int p1), .val (.int p2), .val (.int p3), .val (.int p4), .val (.ref b1), .val (.long ((p2 &&& (63 : Int32)).toInt64)), .second, .val (.long ((p3 &&& (63 : Int32)).toInt64)), .second, .val (.long ((p4 &&& (63 : Int32)).toInt64)), .second, .val (.int (p1 &&& (3 : Int32))), .val (.int (1 : Int32)), .val (.int (1 : Int32))] [(.int (0 : Int32)), (.int (0 : Int32))])) _
                refine XS.icmpNo X39.here hx rfl (hb hby at_227) rfl (teq (by decide : (0 : Int32) = (0 : Int32))).2 ?_
                show Steps p.tables e below (T39.setTop (mkF m 230 #[.val (.long q1), .second, .val (.int p1), .val (.int p2), .val (.int p3), .val (.int p4), .val (.ref b1), .val (.long ((p2 &&& (63 : Int32)).toInt64)), .second, .val (.long ((p3 &&& (63 : Int32)).toInt64)), .second, .val (.long ((p4 &&& (63 : Int32)).toInt64)), .second, .val (.int (p1 &&& (3 : Int32))), .val (.int (1 : Int32)), .val (.int (1 : Int32))] [])) _
                refine XS.iconst X39.here hx rfl (hb hby at_230) ?_
                show Steps p.tables e below (T39.setTop (mkF m 231 #[.val (.long q1), .second, .val (.int p1), .val (.int p2), .val (.int p3), .val (.int p4), .val (.ref b1), .val (.long ((p2 &&& (63 : Int32)).toInt64)), .second, .val (.long ((p3 &&& (63 : Int32)).toInt64)), .second, .val (.long ((p4 &&& (63 : Int32)).toInt64)), .second, .val (.int (p1 &&& (3 : Int32))), .val (.int (1 : Int32)), .val (.int (1 : Int32))] [(.int (1 : Int32))])) _
                refine XS.goto X39.here hx rfl (pc0 := 231) (pc' := 235) rfl (hb hby at_231) (by decide) (by decide) ?_
                show Steps p.tables e below (T39.setTop (mkF m 235 #[.val (.long q1), .second, .val (.int p1), .val (.int p2), .val (.int p3), .val (.int p4), .val (.ref b1), .val (.long ((p2 &&& (63 : Int32)).toInt64)), .second, .val (.long ((p3 &&& (63 : Int32)).toInt64)), .second, .val (.long ((p4 &&& (63 : Int32)).toInt64)), .second, .val (.int (p1 &&& (3 : Int32))), .val (.int (1 : Int32)), .val (.int (1 : Int32))] [(.int (1 : Int32))])) _
                refine XS.istore X39.here hx rfl (hb hby at_235) rfl (l' := #[.val (.long q1), .second, .val (.int p1), .val (.int p2), .val (.int p3), .val (.int p4), .val (.ref b1), .val (.long ((p2 &&& (63 : Int32)).toInt64)), .second, .val (.long ((p3 &&& (63 : Int32)).toInt64)), .second, .val (.long ((p4 &&& (63 : Int32)).toInt64)), .second, .val (.int (p1 &&& (3 : Int32))), .val (.int (1 : Int32)), .val (.int (1 : Int32))]) rfl ?_
                show Steps p.tables e below (T39.setTop (mkF m 237 #[.val (.long q1), .second, .val (.int p1), .val (.int p2), .val (.int p3), .val (.int p4), .val (.ref b1), .val (.long ((p2 &&& (63 : Int32)).toInt64)), .second, .val (.long ((p3 &&& (63 : Int32)).toInt64)), .second, .val (.long ((p4 &&& (63 : Int32)).toInt64)), .second, .val (.int (p1 &&& (3 : Int32))), .val (.int (1 : Int32)), .val (.int (1 : Int32))] [])) _
                refine XS.iload X39.here hx rfl (hb hby at_237) rfl ?_
                show Steps p.tables e below (T39.setTop (mkF m 239 #[.val (.long q1), .second, .val (.int p1), .val (.int p2), .val (.int p3), .val (.int p4), .val (.ref b1), .val (.long ((p2 &&& (63 : Int32)).toInt64)), .second, .val (.long ((p3 &&& (63 : Int32)).toInt64)), .second, .val (.long ((p4 &&& (63 : Int32)).toInt64)), .second, .val (.int (p1 &&& (3 : Int32))), .val (.int (1 : Int32)), .val (.int (1 : Int32))] [(.int (1 : Int32))])) _
                exact retN X39 hx (t := .boolean) Bd.returns (by simp) (hb hby at_239) hr
              · show Q_rm0 Z q1 p1 p2 p3 p4 h0 n0 _ T39.heap _
                rw [eq39]
                exact ⟨rfl, N39⟩
            · obtain ⟨M40, T40, h40, locs40, hM40, X40, e40, O40, N40, D40, st40⟩ := schedI (s0 := 47) (M := M29) (P' := (2 : Int64)) (k' := (2 : Int32)) X35 hx hZ hw hown eq35 O34 N35 D34 g_b1 (own_63 p4).1 (own_63 p4).2 hc185_37 hM29 (by decide) (by decide) (by decide) (by decide) (g := (mkF m 185 #[.val (.long q1), .second, .val (.int p1), .val (.int p2), .val (.int p3), .val (.int p4), .val (.ref b1), .val (.long ((p2 &&& (63 : Int32)).toInt64)), .second, .val (.long ((p3 &&& (63 : Int32)).toInt64)), .second, .val (.long ((p4 &&& (63 : Int32)).toInt64)), .second, .val (.int (p1 &&& (3 : Int32))), .val (.int (1 : Int32)), .val (.int (1 : Int32))] [.null, (.long ((p4 &&& (63 : Int32)).toInt64)), (.ref b1)])) rfl rfl (by rw [hml]; rfl) rfl (hb hby at_185) (by omega) (by omega)
              obtain ⟨cq41, kq41, q41a, q41b, q41c⟩ := isOf hZ e40 (own_exaD D40)
              obtain ⟨_, _, ⟨T41, L41, k41, n41⟩, -, X41, ⟨Lc41, hQ41, l41, y41, z41⟩, st41⟩ := X40.virtualBack hx (y := (⟨"com/example/januswire/januswire/sim/DueEvents", "isEmpty", "()Z"⟩ : MethodName)) (z := (⟨"com/example/januswire/januswire/sim/DueEvents", "isEmpty", "()Z"⟩ : MethodName)) hown (mvT hZ (hw _ (List.mem_of_getElem? (i := 23) rfl))) (mvT hZ (hw _ (List.mem_of_getElem? (i := 24) rfl))) (notFace_of_selects (args := #[]) (mvT hZ (hw _ (List.mem_of_getElem? (i := 26) rfl)))) (mvT hZ (hw _ (List.mem_of_getElem? (i := 26) rfl))) (mvT hZ (hw _ (List.mem_of_getElem? (i := 25) rfl))) (by decide) (backOf (W := 0) (isE_2 l Z a0 hw [] b1 h40 n0 O40 (own_penD D40)) hZ (hw _ (List.mem_of_getElem? (i := 27) rfl)) (hw _ (List.mem_of_getElem? (i := 2) rfl)) (by decide) (by decide)) q41a q41c (g := (mkF m 214 #[.val (.long q1), .second, .val (.int p1), .val (.int p2), .val (.int p3), .val (.int p4), .val (.ref b1), .val (.long ((p2 &&& (63 : Int32)).toInt64)), .second, .val (.long ((p3 &&& (63 : Int32)).toInt64)), .second, .val (.long ((p4 &&& (63 : Int32)).toInt64)), .second, .val (.int (p1 &&& (3 : Int32))), .val (.int (1 : Int32)), .val (.int (1 : Int32))] [(.ref b1)])) rfl (by rw [hml]; rfl) (Steps.refl _) (argsL := []) (rest := []) (lenOf pd___Z rfl) rfl (by show 2 * 0 + _ ≤ _; exact Nat.le_of_eq rfl) (hb hby at_214) (fun _ _ => ⟨rfl, e40, (by show 9 + 0 ≤ 32; omega), (by show 55 + own_F M40 + 0 ≤ 704; have := own_Fle hM40; omega)⟩)
              dsimp only [Pt.U, Pt.locs, Pt.cells, Pt.slots] at X41 l41 y41 z41 st41 hQ41
              subst l41 y41 z41
              obtain ⟨rfl, Nq41, eq41⟩ := hQ41
              have N41 := Fr.app N40 Nq41
              obtain ⟨fs, hr, hrun, hended, hW, hsame⟩ := X41.leave (v := some (.int (1 : Int32))) (fun h => by rw [Bd.returns] at h; cases h)
              refine ⟨_, _, pre37 _ ?_, hrun, hended, _, _, rfl, ?_, ⟨_, rfl⟩, hW, hsame.mono (by show 9 ≤ 32; omega) (by show 55 + own_F M40 ≤ 704; have := own_Fle hM40; omega)⟩
              · show Steps p.tables e below (T35.setTop (mkF m 185 #[.val (.long q1), .second, .val (.int p1), .val (.int p2), .val (.int p3), .val (.int p4), .val (.ref b1), .val (.long ((p2 &&& (63 : Int32)).toInt64)), .second, .val (.long ((p3 &&& (63 : Int32)).toInt64)), .second, .val (.long ((p4 &&& (63 : Int32)).toInt64)), .second, .val (.int (p1 &&& (3 : Int32))), .val (.int (1 : Int32)), .val (.int (1 : Int32))] [.null, (.long ((p4 &&& (63 : Int32)).toInt64)), (.ref b1)])) _
                refine st40.trans ?_
                show Steps p.tables e below (T40.setTop (mkF m 188 #[.val (.long q1), .second, .val (.int p1), .val (.int p2), .val (.int p3), .val (.int p4), .val (.ref b1), .val (.long ((p2 &&& (63 : Int32)).toInt64)), .second, .val (.long ((p3 &&& (63 : Int32)).toInt64)), .second, .val (.long ((p4 &&& (63 : Int32)).toInt64)), .second, .val (.int (p1 &&& (3 : Int32))), .val (.int (1 : Int32)), .val (.int (1 : Int32))] [])) _
                refine XS.iload X40.here hx rfl (hb hby at_188) rfl ?_
                show Steps p.tables e below (T40.setTop (mkF m 190 #[.val (.long q1), .second, .val (.int p1), .val (.int p2), .val (.int p3), .val (.int p4), .val (.ref b1), .val (.long ((p2 &&& (63 : Int32)).toInt64)), .second, .val (.long ((p3 &&& (63 : Int32)).toInt64)), .second, .val (.long ((p4 &&& (63 : Int32)).toInt64)), .second, .val (.int (p1 &&& (3 : Int32))), .val (.int (1 : Int32)), .val (.int (1 : Int32))] [(.int (1 : Int32))])) _
                refine XS.ifYes X40.here hx rfl (pc0 := 190) (pc' := 200) rfl (hb hby at_190) rfl ((if0 _ _).trans (feq (by decide : ¬ ((1 : Int32) = (0 : Int32)))).2) (by decide) (by decide) ?_
                show Steps p.tables e below (T40.setTop (mkF m 200 #[.val (.long q1), .second, .val (.int p1), .val (.int p2), .val (.int p3), .val (.int p4), .val (.ref b1), .val (.long ((p2 &&& (63 : Int32)).toInt64)), .second, .val (.long ((p3 &&& (63 : Int32)).toInt64)), .second, .val (.long ((p4 &&& (63 : Int32)).toInt64)), .second, .val (.int (p1 &&& (3 : Int32))), .val (.int (1 : Int32)), .val (.int (1 : Int32))] [])) _
                refine XS.iconst X40.here hx rfl (hb hby at_200) ?_
                show Steps p.tables e below (T40.setTop (mkF m 201 #[.val (.long q1), .second, .val (.int p1), .val (.int p2), .val (.int p3), .val (.int p4), .val (.ref b1), .val (.long ((p2 &&& (63 : Int32)).toInt64)), .second, .val (.long ((p3 &&& (63 : Int32)).toInt64)), .second, .val (.long ((p4 &&& (63 : Int32)).toInt64)), .second, .val (.int (p1 &&& (3 : Int32))), .val (.int (1 : Int32)), .val (.int (1 : Int32))] [(.int (1 : Int32))])) _
                refine XS.goto X40.here hx rfl (pc0 := 201) (pc' := 205) rfl (hb hby at_201) (by decide) (by decide) ?_
                show Steps p.tables e below (T40.setTop (mkF m 205 #[.val (.long q1), .second, .val (.int p1), .val (.int p2), .val (.int p3), .val (.int p4), .val (.ref b1), .val (.long ((p2 &&& (63 : Int32)).toInt64)), .second, .val (.long ((p3 &&& (63 : Int32)).toInt64)), .second, .val (.long ((p4 &&& (63 : Int32)).toInt64)), .second, .val (.int (p1 &&& (3 : Int32))), .val (.int (1 : Int32)), .val (.int (1 : Int32))] [(.int (1 : Int32))])) _
                refine XS.istore X40.here hx rfl (hb hby at_205) rfl (l' := #[.val (.long q1), .second, .val (.int p1), .val (.int p2), .val (.int p3), .val (.int p4), .val (.ref b1), .val (.long ((p2 &&& (63 : Int32)).toInt64)), .second, .val (.long ((p3 &&& (63 : Int32)).toInt64)), .second, .val (.long ((p4 &&& (63 : Int32)).toInt64)), .second, .val (.int (p1 &&& (3 : Int32))), .val (.int (1 : Int32)), .val (.int (1 : Int32))]) rfl ?_
                show Steps p.tables e below (T40.setTop (mkF m 207 #[.val (.long q1), .second, .val (.int p1), .val (.int p2), .val (.int p3), .val (.int p4), .val (.ref b1), .val (.long ((p2 &&& (63 : Int32)).toInt64)), .second, .val (.long ((p3 &&& (63 : Int32)).toInt64)), .second, .val (.long ((p4 &&& (63 : Int32)).toInt64)), .second, .val (.int (p1 &&& (3 : Int32))), .val (.int (1 : Int32)), .val (.int (1 : Int32))] [])) _
                refine XS.iload X40.here hx rfl (hb hby at_207) rfl ?_
                show Steps p.tables e below (T40.setTop (mkF m 209 #[.val (.long q1), .second, .val (.int p1), .val (.int p2), .val (.int p3), .val (.int p4), .val (.ref b1), .val (.long ((p2 &&& (63 : Int32)).toInt64)), .second, .val (.long ((p3 &&& (63 : Int32)).toInt64)), .second, .val (.long ((p4 &&& (63 : Int32)).toInt64)), .second, .val (.int (p1 &&& (3 : Int32))), .val (.int (1 : Int32)), .val (.int (1 : Int32))] [(.int (1 : Int32))])) _
                refine XS.ifNo X40.here hx rfl (hb hby at_209) rfl ((if0 _ _).trans (feq (by decide : ¬ ((1 : Int32) = (0 : Int32)))).1) ?_
                show Steps p.tables e below (T40.setTop (mkF m 212 #[.val (.long q1), .second, .val (.int p1), .val (.int p2), .val (.int p3), .val (.int p4), .val (.ref b1), .val (.long ((p2 &&& (63 : Int32)).toInt64)), .second, .val (.long ((p3 &&& (63 : Int32)).toInt64)), .second, .val (.long ((p4 &&& (63 : Int32)).toInt64)), .second, .val (.int (p1 &&& (3 : Int32))), .val (.int (1 : Int32)), .val (.int (1 : Int32))] [])) _
                refine XS.aload X40.here hx rfl (hb hby at_212) rfl rfl ?_
                show Steps p.tables e below (T40.setTop (mkF m 214 #[.val (.long q1), .second, .val (.int p1), .val (.int p2), .val (.int p3), .val (.int p4), .val (.ref b1), .val (.long ((p2 &&& (63 : Int32)).toInt64)), .second, .val (.long ((p3 &&& (63 : Int32)).toInt64)), .second, .val (.long ((p4 &&& (63 : Int32)).toInt64)), .second, .val (.int (p1 &&& (3 : Int32))), .val (.int (1 : Int32)), .val (.int (1 : Int32))] [(.ref b1)])) _
                refine st41.trans ?_
                show Steps p.tables e below (T41.setTop (mkF m 217 #[.val (.long q1), .second, .val (.int p1), .val (.int p2), .val (.int p3), .val (.int p4), .val (.ref b1), .val (.long ((p2 &&& (63 : Int32)).toInt64)), .second, .val (.long ((p3 &&& (63 : Int32)).toInt64)), .second, .val (.long ((p4 &&& (63 : Int32)).toInt64)), .second, .val (.int (p1 &&& (3 : Int32))), .val (.int (1 : Int32)), .val (.int (1 : Int32))] [(.int (0 : Int32))])) _
                refine XS.iload X41.here hx rfl (hb hby at_217) rfl ?_
                show Steps p.tables e below (T41.setTop (mkF m 219 #[.val (.long q1), .second, .val (.int p1), .val (.int p2), .val (.int p3), .val (.int p4), .val (.ref b1), .val (.long ((p2 &&& (63 : Int32)).toInt64)), .second, .val (.long ((p3 &&& (63 : Int32)).toInt64)), .second, .val (.long ((p4 &&& (63 : Int32)).toInt64)), .second, .val (.int (p1 &&& (3 : Int32))), .val (.int (1 : Int32)), .val (.int (1 : Int32))] [(.int (1 : Int32)), (.int (0 : Int32))])) _
                refine XS.ifYes X41.here hx rfl (pc0 := 219) (pc' := 226) rfl (hb hby at_219) rfl ((if0 _ _).trans (feq (by decide : ¬ ((1 : Int32) = (0 : Int32)))).2) (by decide) (by decide) ?_
                show Steps p.tables e below (T41.setTop (mkF m 226 #[.val (.long q1), .second, .val (.int p1), .val (.int p2), .val (.int p3), .val (.int p4), .val (.ref b1), .val (.long ((p2 &&& (63 : Int32)).toInt64)), .second, .val (.long ((p3 &&& (63 : Int32)).toInt64)), .second, .val (.long ((p4 &&& (63 : Int32)).toInt64)), .second, .val (.int (p1 &&& (3 : Int32))), .val (.int (1 : Int32)), .val (.int (1 : Int32))] [(.int (0 : Int32))])) _
                refine XS.iconst X41.here hx rfl (hb hby at_226) ?_
                show Steps p.tables e below (T41.setTop (mkF m 227 #[.val (.long q1), .second, .val (.int p1), .val (.int p2), .val (.int p3), .val (.int p4), .val (.ref b1), .val (.long ((p2 &&& (63 : Int32)).toInt64)), .second, .val (.long ((p3 &&& (63 : Int32)).toInt64)), .second, .val (.long ((p4 &&& (63 : Int32)).toInt64)), .second, .val (.int (p1 &&& (3 : Int32))), .val (.int (1 : Int32)), .val (.int (1 : Int32))] [(.int (0 : Int32)), (.int (0 : Int32))])) _
                refine XS.icmpNo X41.here hx rfl (hb hby at_227) rfl (teq (by decide : (0 : Int32) = (0 : Int32))).2 ?_
                show Steps p.tables e below (T41.setTop (mkF m 230 #[.val (.long q1), .second, .val (.int p1), .val (.int p2), .val (.int p3), .val (.int p4), .val (.ref b1), .val (.long ((p2 &&& (63 : Int32)).toInt64)), .second, .val (.long ((p3 &&& (63 : Int32)).toInt64)), .second, .val (.long ((p4 &&& (63 : Int32)).toInt64)), .second, .val (.int (p1 &&& (3 : Int32))), .val (.int (1 : Int32)), .val (.int (1 : Int32))] [])) _
                refine XS.iconst X41.here hx rfl (hb hby at_230) ?_
                show Steps p.tables e below (T41.setTop (mkF m 231 #[.val (.long q1), .second, .val (.int p1), .val (.int p2), .val (.int p3), .val (.int p4), .val (.ref b1), .val (.long ((p2 &&& (63 : Int32)).toInt64)), .second, .val (.long ((p3 &&& (63 : Int32)).toInt64)), .second, .val (.long ((p4 &&& (63 : Int32)).toInt64)), .second, .val (.int (p1 &&& (3 : Int32))), .val (.int (1 : Int32)), .val (.int (1 : Int32))] [(.int (1 : Int32))])) _
                refine XS.goto X41.here hx rfl (pc0 := 231) (pc' := 235) rfl (hb hby at_231) (by decide) (by decide) ?_
                show Steps p.tables e below (T41.setTop (mkF m 235 #[.val (.long q1), .second, .val (.int p1), .val (.int p2), .val (.int p3), .val (.int p4), .val (.ref b1), .val (.long ((p2 &&& (63 : Int32)).toInt64)), .second, .val (.long ((p3 &&& (63 : Int32)).toInt64)), .second, .val (.long ((p4 &&& (63 : Int32)).toInt64)), .second, .val (.int (p1 &&& (3 : Int32))), .val (.int (1 : Int32)), .val (.int (1 : Int32))] [(.int (1 : Int32))])) _
                refine XS.istore X41.here hx rfl (hb hby at_235) rfl (l' := #[.val (.long q1), .second, .val (.int p1), .val (.int p2), .val (.int p3), .val (.int p4), .val (.ref b1), .val (.long ((p2 &&& (63 : Int32)).toInt64)), .second, .val (.long ((p3 &&& (63 : Int32)).toInt64)), .second, .val (.long ((p4 &&& (63 : Int32)).toInt64)), .second, .val (.int (p1 &&& (3 : Int32))), .val (.int (1 : Int32)), .val (.int (1 : Int32))]) rfl ?_
                show Steps p.tables e below (T41.setTop (mkF m 237 #[.val (.long q1), .second, .val (.int p1), .val (.int p2), .val (.int p3), .val (.int p4), .val (.ref b1), .val (.long ((p2 &&& (63 : Int32)).toInt64)), .second, .val (.long ((p3 &&& (63 : Int32)).toInt64)), .second, .val (.long ((p4 &&& (63 : Int32)).toInt64)), .second, .val (.int (p1 &&& (3 : Int32))), .val (.int (1 : Int32)), .val (.int (1 : Int32))] [])) _
                refine XS.iload X41.here hx rfl (hb hby at_237) rfl ?_
                show Steps p.tables e below (T41.setTop (mkF m 239 #[.val (.long q1), .second, .val (.int p1), .val (.int p2), .val (.int p3), .val (.int p4), .val (.ref b1), .val (.long ((p2 &&& (63 : Int32)).toInt64)), .second, .val (.long ((p3 &&& (63 : Int32)).toInt64)), .second, .val (.long ((p4 &&& (63 : Int32)).toInt64)), .second, .val (.int (p1 &&& (3 : Int32))), .val (.int (1 : Int32)), .val (.int (1 : Int32))] [(.int (1 : Int32))])) _
                exact retN X41 hx (t := .boolean) Bd.returns (by simp) (hb hby at_239) hr
              · show Q_rm0 Z q1 p1 p2 p3 p4 h0 n0 _ T41.heap _
                rw [eq41]
                exact ⟨rfl, N41⟩
        · obtain ⟨M42, T42, h42, locs42, hM42, X42, e42, O42, N42, D42, st42⟩ := schedI (s0 := 47) (M := M29) (P' := (2 : Int64)) (k' := (2 : Int32)) X30 hx hZ hw hown eq30 O29 N30 D29 g_b1 (own_63 p3).1 (own_63 p3).2 hc122_33 hM29 (by decide) (by decide) (by decide) (by decide) (g := (mkF m 122 #[.val (.long q1), .second, .val (.int p1), .val (.int p2), .val (.int p3), .val (.int p4), .val (.ref b1), .val (.long ((p2 &&& (63 : Int32)).toInt64)), .second, .val (.long ((p3 &&& (63 : Int32)).toInt64)), .second, .val (.long ((p4 &&& (63 : Int32)).toInt64)), .second, .val (.int (p1 &&& (3 : Int32))), .val (.int (1 : Int32)), .val (.int (1 : Int32))] [.null, (.long ((p3 &&& (63 : Int32)).toInt64)), (.ref b1)])) rfl rfl (by rw [hml]; rfl) rfl (hb hby at_122) (by omega) (by omega)
          obtain ⟨cq43, kq43, q43a, q43b, q43c⟩ := isOf hZ e42 (own_exaD D42)
          obtain ⟨_, _, ⟨T43, L43, k43, n43⟩, -, X43, ⟨Lc43, hQ43, l43, y43, z43⟩, st43⟩ := X42.virtualBack hx (y := (⟨"com/example/januswire/januswire/sim/DueEvents", "isEmpty", "()Z"⟩ : MethodName)) (z := (⟨"com/example/januswire/januswire/sim/DueEvents", "isEmpty", "()Z"⟩ : MethodName)) hown (mvT hZ (hw _ (List.mem_of_getElem? (i := 23) rfl))) (mvT hZ (hw _ (List.mem_of_getElem? (i := 24) rfl))) (notFace_of_selects (args := #[]) (mvT hZ (hw _ (List.mem_of_getElem? (i := 26) rfl)))) (mvT hZ (hw _ (List.mem_of_getElem? (i := 26) rfl))) (mvT hZ (hw _ (List.mem_of_getElem? (i := 25) rfl))) (by decide) (backOf (W := 0) (isE_2 l Z a0 hw [] b1 h42 n0 O42 (own_penD D42)) hZ (hw _ (List.mem_of_getElem? (i := 27) rfl)) (hw _ (List.mem_of_getElem? (i := 2) rfl)) (by decide) (by decide)) q43a q43c (g := (mkF m 151 #[.val (.long q1), .second, .val (.int p1), .val (.int p2), .val (.int p3), .val (.int p4), .val (.ref b1), .val (.long ((p2 &&& (63 : Int32)).toInt64)), .second, .val (.long ((p3 &&& (63 : Int32)).toInt64)), .second, .val (.long ((p4 &&& (63 : Int32)).toInt64)), .second, .val (.int (p1 &&& (3 : Int32))), .val (.int (1 : Int32)), .val (.int (1 : Int32))] [(.ref b1)])) rfl (by rw [hml]; rfl) (Steps.refl _) (argsL := []) (rest := []) (lenOf pd___Z rfl) rfl (by show 2 * 0 + _ ≤ _; exact Nat.le_of_eq rfl) (hb hby at_151) (fun _ _ => ⟨rfl, e42, (by show 9 + 0 ≤ 32; omega), (by show 55 + own_F M42 + 0 ≤ 704; have := own_Fle hM42; omega)⟩)
          dsimp only [Pt.U, Pt.locs, Pt.cells, Pt.slots] at X43 l43 y43 z43 st43 hQ43
          subst l43 y43 z43
          obtain ⟨rfl, Nq43, eq43⟩ := hQ43
          have N43 := Fr.app N42 Nq43
          have pre44 : ∀ t, Steps p.tables e below (T43.setTop (mkF m 177 #[.val (.long q1), .second, .val (.int p1), .val (.int p2), .val (.int p3), .val (.int p4), .val (.ref b1), .val (.long ((p2 &&& (63 : Int32)).toInt64)), .second, .val (.long ((p3 &&& (63 : Int32)).toInt64)), .second, .val (.long ((p4 &&& (63 : Int32)).toInt64)), .second, .val (.int (p1 &&& (3 : Int32))), .val (.int (1 : Int32)), .val (.int (1 : Int32))] [(.int (3 : Int32)), (.int (p1 &&& (3 : Int32)))])) t → Steps p.tables e below (s₁.setTop (entryFrame m #[(.long q1), (.int p1), (.int p2), (.int p3), (.int p4)] maxLocals)) t := by
            intro t kt
            refine pre33 _ ?_
            show Steps p.tables e below (T30.setTop (mkF m 122 #[.val (.long q1), .second, .val (.int p1), .val (.int p2), .val (.int p3), .val (.int p4), .val (.ref b1), .val (.long ((p2 &&& (63 : Int32)).toInt64)), .second, .val (.long ((p3 &&& (63 : Int32)).toInt64)), .second, .val (.long ((p4 &&& (63 : Int32)).toInt64)), .second, .val (.int (p1 &&& (3 : Int32))), .val (.int (1 : Int32)), .val (.int (1 : Int32))] [.null, (.long ((p3 &&& (63 : Int32)).toInt64)), (.ref b1)])) _
            refine st42.trans ?_
            show Steps p.tables e below (T42.setTop (mkF m 125 #[.val (.long q1), .second, .val (.int p1), .val (.int p2), .val (.int p3), .val (.int p4), .val (.ref b1), .val (.long ((p2 &&& (63 : Int32)).toInt64)), .second, .val (.long ((p3 &&& (63 : Int32)).toInt64)), .second, .val (.long ((p4 &&& (63 : Int32)).toInt64)), .second, .val (.int (p1 &&& (3 : Int32))), .val (.int (1 : Int32)), .val (.int (1 : Int32))] [])) _
            refine XS.iload X42.here hx rfl (hb hby at_125) rfl ?_
            show Steps p.tables e below (T42.setTop (mkF m 127 #[.val (.long q1), .second, .val (.int p1), .val (.int p2), .val (.int p3), .val (.int p4), .val (.ref b1), .val (.long ((p2 &&& (63 : Int32)).toInt64)), .second, .val (.long ((p3 &&& (63 : Int32)).toInt64)), .second, .val (.long ((p4 &&& (63 : Int32)).toInt64)), .second, .val (.int (p1 &&& (3 : Int32))), .val (.int (1 : Int32)), .val (.int (1 : Int32))] [(.int (1 : Int32))])) _
            refine XS.ifYes X42.here hx rfl (pc0 := 127) (pc' := 137) rfl (hb hby at_127) rfl ((if0 _ _).trans (feq (by decide : ¬ ((1 : Int32) = (0 : Int32)))).2) (by decide) (by decide) ?_
            show Steps p.tables e below (T42.setTop (mkF m 137 #[.val (.long q1), .second, .val (.int p1), .val (.int p2), .val (.int p3), .val (.int p4), .val (.ref b1), .val (.long ((p2 &&& (63 : Int32)).toInt64)), .second, .val (.long ((p3 &&& (63 : Int32)).toInt64)), .second, .val (.long ((p4 &&& (63 : Int32)).toInt64)), .second, .val (.int (p1 &&& (3 : Int32))), .val (.int (1 : Int32)), .val (.int (1 : Int32))] [])) _
            refine XS.iconst X42.here hx rfl (hb hby at_137) ?_
            show Steps p.tables e below (T42.setTop (mkF m 138 #[.val (.long q1), .second, .val (.int p1), .val (.int p2), .val (.int p3), .val (.int p4), .val (.ref b1), .val (.long ((p2 &&& (63 : Int32)).toInt64)), .second, .val (.long ((p3 &&& (63 : Int32)).toInt64)), .second, .val (.long ((p4 &&& (63 : Int32)).toInt64)), .second, .val (.int (p1 &&& (3 : Int32))), .val (.int (1 : Int32)), .val (.int (1 : Int32))] [(.int (1 : Int32))])) _
            refine XS.goto X42.here hx rfl (pc0 := 138) (pc' := 142) rfl (hb hby at_138) (by decide) (by decide) ?_
            show Steps p.tables e below (T42.setTop (mkF m 142 #[.val (.long q1), .second, .val (.int p1), .val (.int p2), .val (.int p3), .val (.int p4), .val (.ref b1), .val (.long ((p2 &&& (63 : Int32)).toInt64)), .second, .val (.long ((p3 &&& (63 : Int32)).toInt64)), .second, .val (.long ((p4 &&& (63 : Int32)).toInt64)), .second, .val (.int (p1 &&& (3 : Int32))), .val (.int (1 : Int32)), .val (.int (1 : Int32))] [(.int (1 : Int32))])) _
            refine XS.istore X42.here hx rfl (hb hby at_142) rfl (l' := #[.val (.long q1), .second, .val (.int p1), .val (.int p2), .val (.int p3), .val (.int p4), .val (.ref b1), .val (.long ((p2 &&& (63 : Int32)).toInt64)), .second, .val (.long ((p3 &&& (63 : Int32)).toInt64)), .second, .val (.long ((p4 &&& (63 : Int32)).toInt64)), .second, .val (.int (p1 &&& (3 : Int32))), .val (.int (1 : Int32)), .val (.int (1 : Int32))]) rfl ?_
            show Steps p.tables e below (T42.setTop (mkF m 144 #[.val (.long q1), .second, .val (.int p1), .val (.int p2), .val (.int p3), .val (.int p4), .val (.ref b1), .val (.long ((p2 &&& (63 : Int32)).toInt64)), .second, .val (.long ((p3 &&& (63 : Int32)).toInt64)), .second, .val (.long ((p4 &&& (63 : Int32)).toInt64)), .second, .val (.int (p1 &&& (3 : Int32))), .val (.int (1 : Int32)), .val (.int (1 : Int32))] [])) _
            refine XS.iload X42.here hx rfl (hb hby at_144) rfl ?_
            show Steps p.tables e below (T42.setTop (mkF m 146 #[.val (.long q1), .second, .val (.int p1), .val (.int p2), .val (.int p3), .val (.int p4), .val (.ref b1), .val (.long ((p2 &&& (63 : Int32)).toInt64)), .second, .val (.long ((p3 &&& (63 : Int32)).toInt64)), .second, .val (.long ((p4 &&& (63 : Int32)).toInt64)), .second, .val (.int (p1 &&& (3 : Int32))), .val (.int (1 : Int32)), .val (.int (1 : Int32))] [(.int (1 : Int32))])) _
            refine XS.ifNo X42.here hx rfl (hb hby at_146) rfl ((if0 _ _).trans (feq (by decide : ¬ ((1 : Int32) = (0 : Int32)))).1) ?_
            show Steps p.tables e below (T42.setTop (mkF m 149 #[.val (.long q1), .second, .val (.int p1), .val (.int p2), .val (.int p3), .val (.int p4), .val (.ref b1), .val (.long ((p2 &&& (63 : Int32)).toInt64)), .second, .val (.long ((p3 &&& (63 : Int32)).toInt64)), .second, .val (.long ((p4 &&& (63 : Int32)).toInt64)), .second, .val (.int (p1 &&& (3 : Int32))), .val (.int (1 : Int32)), .val (.int (1 : Int32))] [])) _
            refine XS.aload X42.here hx rfl (hb hby at_149) rfl rfl ?_
            show Steps p.tables e below (T42.setTop (mkF m 151 #[.val (.long q1), .second, .val (.int p1), .val (.int p2), .val (.int p3), .val (.int p4), .val (.ref b1), .val (.long ((p2 &&& (63 : Int32)).toInt64)), .second, .val (.long ((p3 &&& (63 : Int32)).toInt64)), .second, .val (.long ((p4 &&& (63 : Int32)).toInt64)), .second, .val (.int (p1 &&& (3 : Int32))), .val (.int (1 : Int32)), .val (.int (1 : Int32))] [(.ref b1)])) _
            refine st43.trans ?_
            show Steps p.tables e below (T43.setTop (mkF m 154 #[.val (.long q1), .second, .val (.int p1), .val (.int p2), .val (.int p3), .val (.int p4), .val (.ref b1), .val (.long ((p2 &&& (63 : Int32)).toInt64)), .second, .val (.long ((p3 &&& (63 : Int32)).toInt64)), .second, .val (.long ((p4 &&& (63 : Int32)).toInt64)), .second, .val (.int (p1 &&& (3 : Int32))), .val (.int (1 : Int32)), .val (.int (1 : Int32))] [(.int (0 : Int32))])) _
            refine XS.iload X43.here hx rfl (hb hby at_154) rfl ?_
            show Steps p.tables e below (T43.setTop (mkF m 156 #[.val (.long q1), .second, .val (.int p1), .val (.int p2), .val (.int p3), .val (.int p4), .val (.ref b1), .val (.long ((p2 &&& (63 : Int32)).toInt64)), .second, .val (.long ((p3 &&& (63 : Int32)).toInt64)), .second, .val (.long ((p4 &&& (63 : Int32)).toInt64)), .second, .val (.int (p1 &&& (3 : Int32))), .val (.int (1 : Int32)), .val (.int (1 : Int32))] [(.int (1 : Int32)), (.int (0 : Int32))])) _
            refine XS.ifYes X43.here hx rfl (pc0 := 156) (pc' := 163) rfl (hb hby at_156) rfl ((if0 _ _).trans (feq (by decide : ¬ ((1 : Int32) = (0 : Int32)))).2) (by decide) (by decide) ?_
            show Steps p.tables e below (T43.setTop (mkF m 163 #[.val (.long q1), .second, .val (.int p1), .val (.int p2), .val (.int p3), .val (.int p4), .val (.ref b1), .val (.long ((p2 &&& (63 : Int32)).toInt64)), .second, .val (.long ((p3 &&& (63 : Int32)).toInt64)), .second, .val (.long ((p4 &&& (63 : Int32)).toInt64)), .second, .val (.int (p1 &&& (3 : Int32))), .val (.int (1 : Int32)), .val (.int (1 : Int32))] [(.int (0 : Int32))])) _
            refine XS.iconst X43.here hx rfl (hb hby at_163) ?_
            show Steps p.tables e below (T43.setTop (mkF m 164 #[.val (.long q1), .second, .val (.int p1), .val (.int p2), .val (.int p3), .val (.int p4), .val (.ref b1), .val (.long ((p2 &&& (63 : Int32)).toInt64)), .second, .val (.long ((p3 &&& (63 : Int32)).toInt64)), .second, .val (.long ((p4 &&& (63 : Int32)).toInt64)), .second, .val (.int (p1 &&& (3 : Int32))), .val (.int (1 : Int32)), .val (.int (1 : Int32))] [(.int (0 : Int32)), (.int (0 : Int32))])) _
            refine XS.icmpNo X43.here hx rfl (hb hby at_164) rfl (teq (by decide : (0 : Int32) = (0 : Int32))).2 ?_
            show Steps p.tables e below (T43.setTop (mkF m 167 #[.val (.long q1), .second, .val (.int p1), .val (.int p2), .val (.int p3), .val (.int p4), .val (.ref b1), .val (.long ((p2 &&& (63 : Int32)).toInt64)), .second, .val (.long ((p3 &&& (63 : Int32)).toInt64)), .second, .val (.long ((p4 &&& (63 : Int32)).toInt64)), .second, .val (.int (p1 &&& (3 : Int32))), .val (.int (1 : Int32)), .val (.int (1 : Int32))] [])) _
            refine XS.iconst X43.here hx rfl (hb hby at_167) ?_
            show Steps p.tables e below (T43.setTop (mkF m 168 #[.val (.long q1), .second, .val (.int p1), .val (.int p2), .val (.int p3), .val (.int p4), .val (.ref b1), .val (.long ((p2 &&& (63 : Int32)).toInt64)), .second, .val (.long ((p3 &&& (63 : Int32)).toInt64)), .second, .val (.long ((p4 &&& (63 : Int32)).toInt64)), .second, .val (.int (p1 &&& (3 : Int32))), .val (.int (1 : Int32)), .val (.int (1 : Int32))] [(.int (1 : Int32))])) _
            refine XS.goto X43.here hx rfl (pc0 := 168) (pc' := 172) rfl (hb hby at_168) (by decide) (by decide) ?_
            show Steps p.tables e below (T43.setTop (mkF m 172 #[.val (.long q1), .second, .val (.int p1), .val (.int p2), .val (.int p3), .val (.int p4), .val (.ref b1), .val (.long ((p2 &&& (63 : Int32)).toInt64)), .second, .val (.long ((p3 &&& (63 : Int32)).toInt64)), .second, .val (.long ((p4 &&& (63 : Int32)).toInt64)), .second, .val (.int (p1 &&& (3 : Int32))), .val (.int (1 : Int32)), .val (.int (1 : Int32))] [(.int (1 : Int32))])) _
            refine XS.istore X43.here hx rfl (hb hby at_172) rfl (l' := #[.val (.long q1), .second, .val (.int p1), .val (.int p2), .val (.int p3), .val (.int p4), .val (.ref b1), .val (.long ((p2 &&& (63 : Int32)).toInt64)), .second, .val (.long ((p3 &&& (63 : Int32)).toInt64)), .second, .val (.long ((p4 &&& (63 : Int32)).toInt64)), .second, .val (.int (p1 &&& (3 : Int32))), .val (.int (1 : Int32)), .val (.int (1 : Int32))]) rfl ?_
            show Steps p.tables e below (T43.setTop (mkF m 174 #[.val (.long q1), .second, .val (.int p1), .val (.int p2), .val (.int p3), .val (.int p4), .val (.ref b1), .val (.long ((p2 &&& (63 : Int32)).toInt64)), .second, .val (.long ((p3 &&& (63 : Int32)).toInt64)), .second, .val (.long ((p4 &&& (63 : Int32)).toInt64)), .second, .val (.int (p1 &&& (3 : Int32))), .val (.int (1 : Int32)), .val (.int (1 : Int32))] [])) _
            refine XS.iload X43.here hx rfl (hb hby at_174) rfl ?_
            show Steps p.tables e below (T43.setTop (mkF m 176 #[.val (.long q1), .second, .val (.int p1), .val (.int p2), .val (.int p3), .val (.int p4), .val (.ref b1), .val (.long ((p2 &&& (63 : Int32)).toInt64)), .second, .val (.long ((p3 &&& (63 : Int32)).toInt64)), .second, .val (.long ((p4 &&& (63 : Int32)).toInt64)), .second, .val (.int (p1 &&& (3 : Int32))), .val (.int (1 : Int32)), .val (.int (1 : Int32))] [(.int (p1 &&& (3 : Int32)))])) _
            refine XS.iconst X43.here hx rfl (hb hby at_176) ?_
            exact kt
          by_cases hc177_44 : (p1 &&& (3 : Int32)) < (3 : Int32)
          · obtain ⟨fs, hr, hrun, hended, hW, hsame⟩ := X43.leave (v := some (.int (1 : Int32))) (fun h => by rw [Bd.returns] at h; cases h)
            refine ⟨_, _, pre44 _ ?_, hrun, hended, _, _, rfl, ?_, ⟨_, rfl⟩, hW, hsame.mono (by show 9 ≤ 32; omega) (by show 55 + own_F M42 ≤ 704; have := own_Fle hM42; omega)⟩
            · show Steps p.tables e below (T43.setTop (mkF m 177 #[.val (.long q1), .second, .val (.int p1), .val (.int p2), .val (.int p3), .val (.int p4), .val (.ref b1), .val (.long ((p2 &&& (63 : Int32)).toInt64)), .second, .val (.long ((p3 &&& (63 : Int32)).toInt64)), .second, .val (.long ((p4 &&& (63 : Int32)).toInt64)), .second, .val (.int (p1 &&& (3 : Int32))), .val (.int (1 : Int32)), .val (.int (1 : Int32))] [(.int (3 : Int32)), (.int (p1 &&& (3 : Int32)))])) _
              refine XS.icmpYes X43.here hx rfl (pc0 := 177) (pc' := 237) rfl (hb hby at_177) rfl (tlt hc177_44).1 (by decide) (by decide) ?_
              show Steps p.tables e below (T43.setTop (mkF m 237 #[.val (.long q1), .second, .val (.int p1), .val (.int p2), .val (.int p3), .val (.int p4), .val (.ref b1), .val (.long ((p2 &&& (63 : Int32)).toInt64)), .second, .val (.long ((p3 &&& (63 : Int32)).toInt64)), .second, .val (.long ((p4 &&& (63 : Int32)).toInt64)), .second, .val (.int (p1 &&& (3 : Int32))), .val (.int (1 : Int32)), .val (.int (1 : Int32))] [])) _
              refine XS.iload X43.here hx rfl (hb hby at_237) rfl ?_
              show Steps p.tables e below (T43.setTop (mkF m 239 #[.val (.long q1), .second, .val (.int p1), .val (.int p2), .val (.int p3), .val (.int p4), .val (.ref b1), .val (.long ((p2 &&& (63 : Int32)).toInt64)), .second, .val (.long ((p3 &&& (63 : Int32)).toInt64)), .second, .val (.long ((p4 &&& (63 : Int32)).toInt64)), .second, .val (.int (p1 &&& (3 : Int32))), .val (.int (1 : Int32)), .val (.int (1 : Int32))] [(.int (1 : Int32))])) _
              exact retN X43 hx (t := .boolean) Bd.returns (by simp) (hb hby at_239) hr
            · show Q_rm0 Z q1 p1 p2 p3 p4 h0 n0 _ T43.heap _
              rw [eq43]
              exact ⟨rfl, N43⟩
          · have pre45 : ∀ t, Steps p.tables e below (T43.setTop (mkF m 185 #[.val (.long q1), .second, .val (.int p1), .val (.int p2), .val (.int p3), .val (.int p4), .val (.ref b1), .val (.long ((p2 &&& (63 : Int32)).toInt64)), .second, .val (.long ((p3 &&& (63 : Int32)).toInt64)), .second, .val (.long ((p4 &&& (63 : Int32)).toInt64)), .second, .val (.int (p1 &&& (3 : Int32))), .val (.int (1 : Int32)), .val (.int (1 : Int32))] [.null, (.long ((p4 &&& (63 : Int32)).toInt64)), (.ref b1)])) t → Steps p.tables e below (s₁.setTop (entryFrame m #[(.long q1), (.int p1), (.int p2), (.int p3), (.int p4)] maxLocals)) t := by
              intro t kt
              refine pre44 _ ?_
              show Steps p.tables e below (T43.setTop (mkF m 177 #[.val (.long q1), .second, .val (.int p1), .val (.int p2), .val (.int p3), .val (.int p4), .val (.ref b1), .val (.long ((p2 &&& (63 : Int32)).toInt64)), .second, .val (.long ((p3 &&& (63 : Int32)).toInt64)), .second, .val (.long ((p4 &&& (63 : Int32)).toInt64)), .second, .val (.int (p1 &&& (3 : Int32))), .val (.int (1 : Int32)), .val (.int (1 : Int32))] [(.int (3 : Int32)), (.int (p1 &&& (3 : Int32)))])) _
              refine XS.icmpNo X43.here hx rfl (hb hby at_177) rfl (flt hc177_44).1 ?_
              show Steps p.tables e below (T43.setTop (mkF m 180 #[.val (.long q1), .second, .val (.int p1), .val (.int p2), .val (.int p3), .val (.int p4), .val (.ref b1), .val (.long ((p2 &&& (63 : Int32)).toInt64)), .second, .val (.long ((p3 &&& (63 : Int32)).toInt64)), .second, .val (.long ((p4 &&& (63 : Int32)).toInt64)), .second, .val (.int (p1 &&& (3 : Int32))), .val (.int (1 : Int32)), .val (.int (1 : Int32))] [])) _
              refine XS.aload X43.here hx rfl (hb hby at_180) rfl rfl ?_
              show Steps p.tables e below (T43.setTop (mkF m 182 #[.val (.long q1), .second, .val (.int p1), .val (.int p2), .val (.int p3), .val (.int p4), .val (.ref b1), .val (.long ((p2 &&& (63 : Int32)).toInt64)), .second, .val (.long ((p3 &&& (63 : Int32)).toInt64)), .second, .val (.long ((p4 &&& (63 : Int32)).toInt64)), .second, .val (.int (p1 &&& (3 : Int32))), .val (.int (1 : Int32)), .val (.int (1 : Int32))] [(.ref b1)])) _
              refine XS.lload X43.here hx rfl (hb hby at_182) rfl ?_
              show Steps p.tables e below (T43.setTop (mkF m 184 #[.val (.long q1), .second, .val (.int p1), .val (.int p2), .val (.int p3), .val (.int p4), .val (.ref b1), .val (.long ((p2 &&& (63 : Int32)).toInt64)), .second, .val (.long ((p3 &&& (63 : Int32)).toInt64)), .second, .val (.long ((p4 &&& (63 : Int32)).toInt64)), .second, .val (.int (p1 &&& (3 : Int32))), .val (.int (1 : Int32)), .val (.int (1 : Int32))] [(.long ((p4 &&& (63 : Int32)).toInt64)), (.ref b1)])) _
              refine XS.aconstNull X43.here hx rfl (hb hby at_184) ?_
              exact kt
            by_cases hc185_45 : (0 : Int32) < (lcmpW ((p4 &&& (63 : Int32)).toInt64) q1)
            · obtain ⟨T46, h46, locs46, X46, e46, O46, N46, D46, st46⟩ := schedD (s0 := 55) (M := M42) (P' := 0) (k' := 0) X43 hx hZ hw hown eq43 O42 N43 D42 g_b1 (own_63 p4).1 (own_63 p4).2 hc185_45 (g := (mkF m 185 #[.val (.long q1), .second, .val (.int p1), .val (.int p2), .val (.int p3), .val (.int p4), .val (.ref b1), .val (.long ((p2 &&& (63 : Int32)).toInt64)), .second, .val (.long ((p3 &&& (63 : Int32)).toInt64)), .second, .val (.long ((p4 &&& (63 : Int32)).toInt64)), .second, .val (.int (p1 &&& (3 : Int32))), .val (.int (1 : Int32)), .val (.int (1 : Int32))] [.null, (.long ((p4 &&& (63 : Int32)).toInt64)), (.ref b1)])) rfl rfl (by rw [hml]; rfl) rfl (hb hby at_185) (by omega) (by have := own_Fle hM42; omega)
              obtain ⟨cq47, kq47, q47a, q47b, q47c⟩ := isOf hZ e46 (own_exaD D46)
              obtain ⟨_, _, ⟨T47, L47, k47, n47⟩, -, X47, ⟨Lc47, hQ47, l47, y47, z47⟩, st47⟩ := X46.virtualBack hx (y := (⟨"com/example/januswire/januswire/sim/DueEvents", "isEmpty", "()Z"⟩ : MethodName)) (z := (⟨"com/example/januswire/januswire/sim/DueEvents", "isEmpty", "()Z"⟩ : MethodName)) hown (mvT hZ (hw _ (List.mem_of_getElem? (i := 23) rfl))) (mvT hZ (hw _ (List.mem_of_getElem? (i := 24) rfl))) (notFace_of_selects (args := #[]) (mvT hZ (hw _ (List.mem_of_getElem? (i := 26) rfl)))) (mvT hZ (hw _ (List.mem_of_getElem? (i := 26) rfl))) (mvT hZ (hw _ (List.mem_of_getElem? (i := 25) rfl))) (by decide) (backOf (W := 0) (isE_2 l Z a0 hw [] b1 h46 n0 O46 (own_penD D46)) hZ (hw _ (List.mem_of_getElem? (i := 27) rfl)) (hw _ (List.mem_of_getElem? (i := 2) rfl)) (by decide) (by decide)) q47a q47c (g := (mkF m 214 #[.val (.long q1), .second, .val (.int p1), .val (.int p2), .val (.int p3), .val (.int p4), .val (.ref b1), .val (.long ((p2 &&& (63 : Int32)).toInt64)), .second, .val (.long ((p3 &&& (63 : Int32)).toInt64)), .second, .val (.long ((p4 &&& (63 : Int32)).toInt64)), .second, .val (.int (p1 &&& (3 : Int32))), .val (.int (1 : Int32)), .val (.int (1 : Int32))] [(.ref b1)])) rfl (by rw [hml]; rfl) (Steps.refl _) (argsL := []) (rest := []) (lenOf pd___Z rfl) rfl (by show 2 * 0 + _ ≤ _; exact Nat.le_of_eq rfl) (hb hby at_214) (fun _ _ => ⟨rfl, e46, (by show 9 + 0 ≤ 32; omega), (by show 55 + own_F M42 + 0 ≤ 704; have := own_Fle hM42; omega)⟩)
              dsimp only [Pt.U, Pt.locs, Pt.cells, Pt.slots] at X47 l47 y47 z47 st47 hQ47
              subst l47 y47 z47
              obtain ⟨rfl, Nq47, eq47⟩ := hQ47
              have N47 := Fr.app N46 Nq47
              obtain ⟨fs, hr, hrun, hended, hW, hsame⟩ := X47.leave (v := some (.int (1 : Int32))) (fun h => by rw [Bd.returns] at h; cases h)
              refine ⟨_, _, pre45 _ ?_, hrun, hended, _, _, rfl, ?_, ⟨_, rfl⟩, hW, hsame.mono (by show 9 ≤ 32; omega) (by show 55 + own_F M42 ≤ 704; have := own_Fle hM42; omega)⟩
              · show Steps p.tables e below (T43.setTop (mkF m 185 #[.val (.long q1), .second, .val (.int p1), .val (.int p2), .val (.int p3), .val (.int p4), .val (.ref b1), .val (.long ((p2 &&& (63 : Int32)).toInt64)), .second, .val (.long ((p3 &&& (63 : Int32)).toInt64)), .second, .val (.long ((p4 &&& (63 : Int32)).toInt64)), .second, .val (.int (p1 &&& (3 : Int32))), .val (.int (1 : Int32)), .val (.int (1 : Int32))] [.null, (.long ((p4 &&& (63 : Int32)).toInt64)), (.ref b1)])) _
                refine st46.trans ?_
                show Steps p.tables e below (T46.setTop (mkF m 188 #[.val (.long q1), .second, .val (.int p1), .val (.int p2), .val (.int p3), .val (.int p4), .val (.ref b1), .val (.long ((p2 &&& (63 : Int32)).toInt64)), .second, .val (.long ((p3 &&& (63 : Int32)).toInt64)), .second, .val (.long ((p4 &&& (63 : Int32)).toInt64)), .second, .val (.int (p1 &&& (3 : Int32))), .val (.int (1 : Int32)), .val (.int (1 : Int32))] [])) _
                refine XS.iload X46.here hx rfl (hb hby at_188) rfl ?_
                show Steps p.tables e below (T46.setTop (mkF m 190 #[.val (.long q1), .second, .val (.int p1), .val (.int p2), .val (.int p3), .val (.int p4), .val (.ref b1), .val (.long ((p2 &&& (63 : Int32)).toInt64)), .second, .val (.long ((p3 &&& (63 : Int32)).toInt64)), .second, .val (.long ((p4 &&& (63 : Int32)).toInt64)), .second, .val (.int (p1 &&& (3 : Int32))), .val (.int (1 : Int32)), .val (.int (1 : Int32))] [(.int (1 : Int32))])) _
                refine XS.ifYes X46.here hx rfl (pc0 := 190) (pc' := 200) rfl (hb hby at_190) rfl ((if0 _ _).trans (feq (by decide : ¬ ((1 : Int32) = (0 : Int32)))).2) (by decide) (by decide) ?_
                show Steps p.tables e below (T46.setTop (mkF m 200 #[.val (.long q1), .second, .val (.int p1), .val (.int p2), .val (.int p3), .val (.int p4), .val (.ref b1), .val (.long ((p2 &&& (63 : Int32)).toInt64)), .second, .val (.long ((p3 &&& (63 : Int32)).toInt64)), .second, .val (.long ((p4 &&& (63 : Int32)).toInt64)), .second, .val (.int (p1 &&& (3 : Int32))), .val (.int (1 : Int32)), .val (.int (1 : Int32))] [])) _
                refine XS.iconst X46.here hx rfl (hb hby at_200) ?_
                show Steps p.tables e below (T46.setTop (mkF m 201 #[.val (.long q1), .second, .val (.int p1), .val (.int p2), .val (.int p3), .val (.int p4), .val (.ref b1), .val (.long ((p2 &&& (63 : Int32)).toInt64)), .second, .val (.long ((p3 &&& (63 : Int32)).toInt64)), .second, .val (.long ((p4 &&& (63 : Int32)).toInt64)), .second, .val (.int (p1 &&& (3 : Int32))), .val (.int (1 : Int32)), .val (.int (1 : Int32))] [(.int (1 : Int32))])) _
                refine XS.goto X46.here hx rfl (pc0 := 201) (pc' := 205) rfl (hb hby at_201) (by decide) (by decide) ?_
                show Steps p.tables e below (T46.setTop (mkF m 205 #[.val (.long q1), .second, .val (.int p1), .val (.int p2), .val (.int p3), .val (.int p4), .val (.ref b1), .val (.long ((p2 &&& (63 : Int32)).toInt64)), .second, .val (.long ((p3 &&& (63 : Int32)).toInt64)), .second, .val (.long ((p4 &&& (63 : Int32)).toInt64)), .second, .val (.int (p1 &&& (3 : Int32))), .val (.int (1 : Int32)), .val (.int (1 : Int32))] [(.int (1 : Int32))])) _
                refine XS.istore X46.here hx rfl (hb hby at_205) rfl (l' := #[.val (.long q1), .second, .val (.int p1), .val (.int p2), .val (.int p3), .val (.int p4), .val (.ref b1), .val (.long ((p2 &&& (63 : Int32)).toInt64)), .second, .val (.long ((p3 &&& (63 : Int32)).toInt64)), .second, .val (.long ((p4 &&& (63 : Int32)).toInt64)), .second, .val (.int (p1 &&& (3 : Int32))), .val (.int (1 : Int32)), .val (.int (1 : Int32))]) rfl ?_
                show Steps p.tables e below (T46.setTop (mkF m 207 #[.val (.long q1), .second, .val (.int p1), .val (.int p2), .val (.int p3), .val (.int p4), .val (.ref b1), .val (.long ((p2 &&& (63 : Int32)).toInt64)), .second, .val (.long ((p3 &&& (63 : Int32)).toInt64)), .second, .val (.long ((p4 &&& (63 : Int32)).toInt64)), .second, .val (.int (p1 &&& (3 : Int32))), .val (.int (1 : Int32)), .val (.int (1 : Int32))] [])) _
                refine XS.iload X46.here hx rfl (hb hby at_207) rfl ?_
                show Steps p.tables e below (T46.setTop (mkF m 209 #[.val (.long q1), .second, .val (.int p1), .val (.int p2), .val (.int p3), .val (.int p4), .val (.ref b1), .val (.long ((p2 &&& (63 : Int32)).toInt64)), .second, .val (.long ((p3 &&& (63 : Int32)).toInt64)), .second, .val (.long ((p4 &&& (63 : Int32)).toInt64)), .second, .val (.int (p1 &&& (3 : Int32))), .val (.int (1 : Int32)), .val (.int (1 : Int32))] [(.int (1 : Int32))])) _
                refine XS.ifNo X46.here hx rfl (hb hby at_209) rfl ((if0 _ _).trans (feq (by decide : ¬ ((1 : Int32) = (0 : Int32)))).1) ?_
                show Steps p.tables e below (T46.setTop (mkF m 212 #[.val (.long q1), .second, .val (.int p1), .val (.int p2), .val (.int p3), .val (.int p4), .val (.ref b1), .val (.long ((p2 &&& (63 : Int32)).toInt64)), .second, .val (.long ((p3 &&& (63 : Int32)).toInt64)), .second, .val (.long ((p4 &&& (63 : Int32)).toInt64)), .second, .val (.int (p1 &&& (3 : Int32))), .val (.int (1 : Int32)), .val (.int (1 : Int32))] [])) _
                refine XS.aload X46.here hx rfl (hb hby at_212) rfl rfl ?_
                show Steps p.tables e below (T46.setTop (mkF m 214 #[.val (.long q1), .second, .val (.int p1), .val (.int p2), .val (.int p3), .val (.int p4), .val (.ref b1), .val (.long ((p2 &&& (63 : Int32)).toInt64)), .second, .val (.long ((p3 &&& (63 : Int32)).toInt64)), .second, .val (.long ((p4 &&& (63 : Int32)).toInt64)), .second, .val (.int (p1 &&& (3 : Int32))), .val (.int (1 : Int32)), .val (.int (1 : Int32))] [(.ref b1)])) _
                refine st47.trans ?_
                show Steps p.tables e below (T47.setTop (mkF m 217 #[.val (.long q1), .second, .val (.int p1), .val (.int p2), .val (.int p3), .val (.int p4), .val (.ref b1), .val (.long ((p2 &&& (63 : Int32)).toInt64)), .second, .val (.long ((p3 &&& (63 : Int32)).toInt64)), .second, .val (.long ((p4 &&& (63 : Int32)).toInt64)), .second, .val (.int (p1 &&& (3 : Int32))), .val (.int (1 : Int32)), .val (.int (1 : Int32))] [(.int (0 : Int32))])) _
                refine XS.iload X47.here hx rfl (hb hby at_217) rfl ?_
                show Steps p.tables e below (T47.setTop (mkF m 219 #[.val (.long q1), .second, .val (.int p1), .val (.int p2), .val (.int p3), .val (.int p4), .val (.ref b1), .val (.long ((p2 &&& (63 : Int32)).toInt64)), .second, .val (.long ((p3 &&& (63 : Int32)).toInt64)), .second, .val (.long ((p4 &&& (63 : Int32)).toInt64)), .second, .val (.int (p1 &&& (3 : Int32))), .val (.int (1 : Int32)), .val (.int (1 : Int32))] [(.int (1 : Int32)), (.int (0 : Int32))])) _
                refine XS.ifYes X47.here hx rfl (pc0 := 219) (pc' := 226) rfl (hb hby at_219) rfl ((if0 _ _).trans (feq (by decide : ¬ ((1 : Int32) = (0 : Int32)))).2) (by decide) (by decide) ?_
                show Steps p.tables e below (T47.setTop (mkF m 226 #[.val (.long q1), .second, .val (.int p1), .val (.int p2), .val (.int p3), .val (.int p4), .val (.ref b1), .val (.long ((p2 &&& (63 : Int32)).toInt64)), .second, .val (.long ((p3 &&& (63 : Int32)).toInt64)), .second, .val (.long ((p4 &&& (63 : Int32)).toInt64)), .second, .val (.int (p1 &&& (3 : Int32))), .val (.int (1 : Int32)), .val (.int (1 : Int32))] [(.int (0 : Int32))])) _
                refine XS.iconst X47.here hx rfl (hb hby at_226) ?_
                show Steps p.tables e below (T47.setTop (mkF m 227 #[.val (.long q1), .second, .val (.int p1), .val (.int p2), .val (.int p3), .val (.int p4), .val (.ref b1), .val (.long ((p2 &&& (63 : Int32)).toInt64)), .second, .val (.long ((p3 &&& (63 : Int32)).toInt64)), .second, .val (.long ((p4 &&& (63 : Int32)).toInt64)), .second, .val (.int (p1 &&& (3 : Int32))), .val (.int (1 : Int32)), .val (.int (1 : Int32))] [(.int (0 : Int32)), (.int (0 : Int32))])) _
                refine XS.icmpNo X47.here hx rfl (hb hby at_227) rfl (teq (by decide : (0 : Int32) = (0 : Int32))).2 ?_
                show Steps p.tables e below (T47.setTop (mkF m 230 #[.val (.long q1), .second, .val (.int p1), .val (.int p2), .val (.int p3), .val (.int p4), .val (.ref b1), .val (.long ((p2 &&& (63 : Int32)).toInt64)), .second, .val (.long ((p3 &&& (63 : Int32)).toInt64)), .second, .val (.long ((p4 &&& (63 : Int32)).toInt64)), .second, .val (.int (p1 &&& (3 : Int32))), .val (.int (1 : Int32)), .val (.int (1 : Int32))] [])) _
                refine XS.iconst X47.here hx rfl (hb hby at_230) ?_
                show Steps p.tables e below (T47.setTop (mkF m 231 #[.val (.long q1), .second, .val (.int p1), .val (.int p2), .val (.int p3), .val (.int p4), .val (.ref b1), .val (.long ((p2 &&& (63 : Int32)).toInt64)), .second, .val (.long ((p3 &&& (63 : Int32)).toInt64)), .second, .val (.long ((p4 &&& (63 : Int32)).toInt64)), .second, .val (.int (p1 &&& (3 : Int32))), .val (.int (1 : Int32)), .val (.int (1 : Int32))] [(.int (1 : Int32))])) _
                refine XS.goto X47.here hx rfl (pc0 := 231) (pc' := 235) rfl (hb hby at_231) (by decide) (by decide) ?_
                show Steps p.tables e below (T47.setTop (mkF m 235 #[.val (.long q1), .second, .val (.int p1), .val (.int p2), .val (.int p3), .val (.int p4), .val (.ref b1), .val (.long ((p2 &&& (63 : Int32)).toInt64)), .second, .val (.long ((p3 &&& (63 : Int32)).toInt64)), .second, .val (.long ((p4 &&& (63 : Int32)).toInt64)), .second, .val (.int (p1 &&& (3 : Int32))), .val (.int (1 : Int32)), .val (.int (1 : Int32))] [(.int (1 : Int32))])) _
                refine XS.istore X47.here hx rfl (hb hby at_235) rfl (l' := #[.val (.long q1), .second, .val (.int p1), .val (.int p2), .val (.int p3), .val (.int p4), .val (.ref b1), .val (.long ((p2 &&& (63 : Int32)).toInt64)), .second, .val (.long ((p3 &&& (63 : Int32)).toInt64)), .second, .val (.long ((p4 &&& (63 : Int32)).toInt64)), .second, .val (.int (p1 &&& (3 : Int32))), .val (.int (1 : Int32)), .val (.int (1 : Int32))]) rfl ?_
                show Steps p.tables e below (T47.setTop (mkF m 237 #[.val (.long q1), .second, .val (.int p1), .val (.int p2), .val (.int p3), .val (.int p4), .val (.ref b1), .val (.long ((p2 &&& (63 : Int32)).toInt64)), .second, .val (.long ((p3 &&& (63 : Int32)).toInt64)), .second, .val (.long ((p4 &&& (63 : Int32)).toInt64)), .second, .val (.int (p1 &&& (3 : Int32))), .val (.int (1 : Int32)), .val (.int (1 : Int32))] [])) _
                refine XS.iload X47.here hx rfl (hb hby at_237) rfl ?_
                show Steps p.tables e below (T47.setTop (mkF m 239 #[.val (.long q1), .second, .val (.int p1), .val (.int p2), .val (.int p3), .val (.int p4), .val (.ref b1), .val (.long ((p2 &&& (63 : Int32)).toInt64)), .second, .val (.long ((p3 &&& (63 : Int32)).toInt64)), .second, .val (.long ((p4 &&& (63 : Int32)).toInt64)), .second, .val (.int (p1 &&& (3 : Int32))), .val (.int (1 : Int32)), .val (.int (1 : Int32))] [(.int (1 : Int32))])) _
                exact retN X47 hx (t := .boolean) Bd.returns (by simp) (hb hby at_239) hr
              · show Q_rm0 Z q1 p1 p2 p3 p4 h0 n0 _ T47.heap _
                rw [eq47]
                exact ⟨rfl, N47⟩
            · obtain ⟨M48, T48, h48, locs48, hM48, X48, e48, O48, N48, D48, st48⟩ := schedI (s0 := 55) (M := M42) (P' := (3 : Int64)) (k' := (3 : Int32)) X43 hx hZ hw hown eq43 O42 N43 D42 g_b1 (own_63 p4).1 (own_63 p4).2 hc185_45 hM42 (by decide) (by decide) (by decide) (by decide) (g := (mkF m 185 #[.val (.long q1), .second, .val (.int p1), .val (.int p2), .val (.int p3), .val (.int p4), .val (.ref b1), .val (.long ((p2 &&& (63 : Int32)).toInt64)), .second, .val (.long ((p3 &&& (63 : Int32)).toInt64)), .second, .val (.long ((p4 &&& (63 : Int32)).toInt64)), .second, .val (.int (p1 &&& (3 : Int32))), .val (.int (1 : Int32)), .val (.int (1 : Int32))] [.null, (.long ((p4 &&& (63 : Int32)).toInt64)), (.ref b1)])) rfl rfl (by rw [hml]; rfl) rfl (hb hby at_185) (by omega) (by omega)
              obtain ⟨cq49, kq49, q49a, q49b, q49c⟩ := isOf hZ e48 (own_exaD D48)
              obtain ⟨_, _, ⟨T49, L49, k49, n49⟩, -, X49, ⟨Lc49, hQ49, l49, y49, z49⟩, st49⟩ := X48.virtualBack hx (y := (⟨"com/example/januswire/januswire/sim/DueEvents", "isEmpty", "()Z"⟩ : MethodName)) (z := (⟨"com/example/januswire/januswire/sim/DueEvents", "isEmpty", "()Z"⟩ : MethodName)) hown (mvT hZ (hw _ (List.mem_of_getElem? (i := 23) rfl))) (mvT hZ (hw _ (List.mem_of_getElem? (i := 24) rfl))) (notFace_of_selects (args := #[]) (mvT hZ (hw _ (List.mem_of_getElem? (i := 26) rfl)))) (mvT hZ (hw _ (List.mem_of_getElem? (i := 26) rfl))) (mvT hZ (hw _ (List.mem_of_getElem? (i := 25) rfl))) (by decide) (backOf (W := 0) (isE_3 l Z a0 hw [] b1 h48 n0 O48 (own_penD D48)) hZ (hw _ (List.mem_of_getElem? (i := 27) rfl)) (hw _ (List.mem_of_getElem? (i := 2) rfl)) (by decide) (by decide)) q49a q49c (g := (mkF m 214 #[.val (.long q1), .second, .val (.int p1), .val (.int p2), .val (.int p3), .val (.int p4), .val (.ref b1), .val (.long ((p2 &&& (63 : Int32)).toInt64)), .second, .val (.long ((p3 &&& (63 : Int32)).toInt64)), .second, .val (.long ((p4 &&& (63 : Int32)).toInt64)), .second, .val (.int (p1 &&& (3 : Int32))), .val (.int (1 : Int32)), .val (.int (1 : Int32))] [(.ref b1)])) rfl (by rw [hml]; rfl) (Steps.refl _) (argsL := []) (rest := []) (lenOf pd___Z rfl) rfl (by show 2 * 0 + _ ≤ _; exact Nat.le_of_eq rfl) (hb hby at_214) (fun _ _ => ⟨rfl, e48, (by show 12 + 0 ≤ 32; omega), (by show 63 + own_F M48 + 0 ≤ 704; have := own_Fle hM48; omega)⟩)
              dsimp only [Pt.U, Pt.locs, Pt.cells, Pt.slots] at X49 l49 y49 z49 st49 hQ49
              subst l49 y49 z49
              obtain ⟨rfl, Nq49, eq49⟩ := hQ49
              have N49 := Fr.app N48 Nq49
              obtain ⟨fs, hr, hrun, hended, hW, hsame⟩ := X49.leave (v := some (.int (1 : Int32))) (fun h => by rw [Bd.returns] at h; cases h)
              refine ⟨_, _, pre45 _ ?_, hrun, hended, _, _, rfl, ?_, ⟨_, rfl⟩, hW, hsame.mono (by show 12 ≤ 32; omega) (by show 63 + own_F M48 ≤ 704; have := own_Fle hM48; omega)⟩
              · show Steps p.tables e below (T43.setTop (mkF m 185 #[.val (.long q1), .second, .val (.int p1), .val (.int p2), .val (.int p3), .val (.int p4), .val (.ref b1), .val (.long ((p2 &&& (63 : Int32)).toInt64)), .second, .val (.long ((p3 &&& (63 : Int32)).toInt64)), .second, .val (.long ((p4 &&& (63 : Int32)).toInt64)), .second, .val (.int (p1 &&& (3 : Int32))), .val (.int (1 : Int32)), .val (.int (1 : Int32))] [.null, (.long ((p4 &&& (63 : Int32)).toInt64)), (.ref b1)])) _
                refine st48.trans ?_
                show Steps p.tables e below (T48.setTop (mkF m 188 #[.val (.long q1), .second, .val (.int p1), .val (.int p2), .val (.int p3), .val (.int p4), .val (.ref b1), .val (.long ((p2 &&& (63 : Int32)).toInt64)), .second, .val (.long ((p3 &&& (63 : Int32)).toInt64)), .second, .val (.long ((p4 &&& (63 : Int32)).toInt64)), .second, .val (.int (p1 &&& (3 : Int32))), .val (.int (1 : Int32)), .val (.int (1 : Int32))] [])) _
                refine XS.iload X48.here hx rfl (hb hby at_188) rfl ?_
                show Steps p.tables e below (T48.setTop (mkF m 190 #[.val (.long q1), .second, .val (.int p1), .val (.int p2), .val (.int p3), .val (.int p4), .val (.ref b1), .val (.long ((p2 &&& (63 : Int32)).toInt64)), .second, .val (.long ((p3 &&& (63 : Int32)).toInt64)), .second, .val (.long ((p4 &&& (63 : Int32)).toInt64)), .second, .val (.int (p1 &&& (3 : Int32))), .val (.int (1 : Int32)), .val (.int (1 : Int32))] [(.int (1 : Int32))])) _
                refine XS.ifYes X48.here hx rfl (pc0 := 190) (pc' := 200) rfl (hb hby at_190) rfl ((if0 _ _).trans (feq (by decide : ¬ ((1 : Int32) = (0 : Int32)))).2) (by decide) (by decide) ?_
                show Steps p.tables e below (T48.setTop (mkF m 200 #[.val (.long q1), .second, .val (.int p1), .val (.int p2), .val (.int p3), .val (.int p4), .val (.ref b1), .val (.long ((p2 &&& (63 : Int32)).toInt64)), .second, .val (.long ((p3 &&& (63 : Int32)).toInt64)), .second, .val (.long ((p4 &&& (63 : Int32)).toInt64)), .second, .val (.int (p1 &&& (3 : Int32))), .val (.int (1 : Int32)), .val (.int (1 : Int32))] [])) _
                refine XS.iconst X48.here hx rfl (hb hby at_200) ?_
                show Steps p.tables e below (T48.setTop (mkF m 201 #[.val (.long q1), .second, .val (.int p1), .val (.int p2), .val (.int p3), .val (.int p4), .val (.ref b1), .val (.long ((p2 &&& (63 : Int32)).toInt64)), .second, .val (.long ((p3 &&& (63 : Int32)).toInt64)), .second, .val (.long ((p4 &&& (63 : Int32)).toInt64)), .second, .val (.int (p1 &&& (3 : Int32))), .val (.int (1 : Int32)), .val (.int (1 : Int32))] [(.int (1 : Int32))])) _
                refine XS.goto X48.here hx rfl (pc0 := 201) (pc' := 205) rfl (hb hby at_201) (by decide) (by decide) ?_
                show Steps p.tables e below (T48.setTop (mkF m 205 #[.val (.long q1), .second, .val (.int p1), .val (.int p2), .val (.int p3), .val (.int p4), .val (.ref b1), .val (.long ((p2 &&& (63 : Int32)).toInt64)), .second, .val (.long ((p3 &&& (63 : Int32)).toInt64)), .second, .val (.long ((p4 &&& (63 : Int32)).toInt64)), .second, .val (.int (p1 &&& (3 : Int32))), .val (.int (1 : Int32)), .val (.int (1 : Int32))] [(.int (1 : Int32))])) _
                refine XS.istore X48.here hx rfl (hb hby at_205) rfl (l' := #[.val (.long q1), .second, .val (.int p1), .val (.int p2), .val (.int p3), .val (.int p4), .val (.ref b1), .val (.long ((p2 &&& (63 : Int32)).toInt64)), .second, .val (.long ((p3 &&& (63 : Int32)).toInt64)), .second, .val (.long ((p4 &&& (63 : Int32)).toInt64)), .second, .val (.int (p1 &&& (3 : Int32))), .val (.int (1 : Int32)), .val (.int (1 : Int32))]) rfl ?_
                show Steps p.tables e below (T48.setTop (mkF m 207 #[.val (.long q1), .second, .val (.int p1), .val (.int p2), .val (.int p3), .val (.int p4), .val (.ref b1), .val (.long ((p2 &&& (63 : Int32)).toInt64)), .second, .val (.long ((p3 &&& (63 : Int32)).toInt64)), .second, .val (.long ((p4 &&& (63 : Int32)).toInt64)), .second, .val (.int (p1 &&& (3 : Int32))), .val (.int (1 : Int32)), .val (.int (1 : Int32))] [])) _
                refine XS.iload X48.here hx rfl (hb hby at_207) rfl ?_
                show Steps p.tables e below (T48.setTop (mkF m 209 #[.val (.long q1), .second, .val (.int p1), .val (.int p2), .val (.int p3), .val (.int p4), .val (.ref b1), .val (.long ((p2 &&& (63 : Int32)).toInt64)), .second, .val (.long ((p3 &&& (63 : Int32)).toInt64)), .second, .val (.long ((p4 &&& (63 : Int32)).toInt64)), .second, .val (.int (p1 &&& (3 : Int32))), .val (.int (1 : Int32)), .val (.int (1 : Int32))] [(.int (1 : Int32))])) _
                refine XS.ifNo X48.here hx rfl (hb hby at_209) rfl ((if0 _ _).trans (feq (by decide : ¬ ((1 : Int32) = (0 : Int32)))).1) ?_
                show Steps p.tables e below (T48.setTop (mkF m 212 #[.val (.long q1), .second, .val (.int p1), .val (.int p2), .val (.int p3), .val (.int p4), .val (.ref b1), .val (.long ((p2 &&& (63 : Int32)).toInt64)), .second, .val (.long ((p3 &&& (63 : Int32)).toInt64)), .second, .val (.long ((p4 &&& (63 : Int32)).toInt64)), .second, .val (.int (p1 &&& (3 : Int32))), .val (.int (1 : Int32)), .val (.int (1 : Int32))] [])) _
                refine XS.aload X48.here hx rfl (hb hby at_212) rfl rfl ?_
                show Steps p.tables e below (T48.setTop (mkF m 214 #[.val (.long q1), .second, .val (.int p1), .val (.int p2), .val (.int p3), .val (.int p4), .val (.ref b1), .val (.long ((p2 &&& (63 : Int32)).toInt64)), .second, .val (.long ((p3 &&& (63 : Int32)).toInt64)), .second, .val (.long ((p4 &&& (63 : Int32)).toInt64)), .second, .val (.int (p1 &&& (3 : Int32))), .val (.int (1 : Int32)), .val (.int (1 : Int32))] [(.ref b1)])) _
                refine st49.trans ?_
                show Steps p.tables e below (T49.setTop (mkF m 217 #[.val (.long q1), .second, .val (.int p1), .val (.int p2), .val (.int p3), .val (.int p4), .val (.ref b1), .val (.long ((p2 &&& (63 : Int32)).toInt64)), .second, .val (.long ((p3 &&& (63 : Int32)).toInt64)), .second, .val (.long ((p4 &&& (63 : Int32)).toInt64)), .second, .val (.int (p1 &&& (3 : Int32))), .val (.int (1 : Int32)), .val (.int (1 : Int32))] [(.int (0 : Int32))])) _
                refine XS.iload X49.here hx rfl (hb hby at_217) rfl ?_
                show Steps p.tables e below (T49.setTop (mkF m 219 #[.val (.long q1), .second, .val (.int p1), .val (.int p2), .val (.int p3), .val (.int p4), .val (.ref b1), .val (.long ((p2 &&& (63 : Int32)).toInt64)), .second, .val (.long ((p3 &&& (63 : Int32)).toInt64)), .second, .val (.long ((p4 &&& (63 : Int32)).toInt64)), .second, .val (.int (p1 &&& (3 : Int32))), .val (.int (1 : Int32)), .val (.int (1 : Int32))] [(.int (1 : Int32)), (.int (0 : Int32))])) _
                refine XS.ifYes X49.here hx rfl (pc0 := 219) (pc' := 226) rfl (hb hby at_219) rfl ((if0 _ _).trans (feq (by decide : ¬ ((1 : Int32) = (0 : Int32)))).2) (by decide) (by decide) ?_
                show Steps p.tables e below (T49.setTop (mkF m 226 #[.val (.long q1), .second, .val (.int p1), .val (.int p2), .val (.int p3), .val (.int p4), .val (.ref b1), .val (.long ((p2 &&& (63 : Int32)).toInt64)), .second, .val (.long ((p3 &&& (63 : Int32)).toInt64)), .second, .val (.long ((p4 &&& (63 : Int32)).toInt64)), .second, .val (.int (p1 &&& (3 : Int32))), .val (.int (1 : Int32)), .val (.int (1 : Int32))] [(.int (0 : Int32))])) _
                refine XS.iconst X49.here hx rfl (hb hby at_226) ?_
                show Steps p.tables e below (T49.setTop (mkF m 227 #[.val (.long q1), .second, .val (.int p1), .val (.int p2), .val (.int p3), .val (.int p4), .val (.ref b1), .val (.long ((p2 &&& (63 : Int32)).toInt64)), .second, .val (.long ((p3 &&& (63 : Int32)).toInt64)), .second, .val (.long ((p4 &&& (63 : Int32)).toInt64)), .second, .val (.int (p1 &&& (3 : Int32))), .val (.int (1 : Int32)), .val (.int (1 : Int32))] [(.int (0 : Int32)), (.int (0 : Int32))])) _
                refine XS.icmpNo X49.here hx rfl (hb hby at_227) rfl (teq (by decide : (0 : Int32) = (0 : Int32))).2 ?_
                show Steps p.tables e below (T49.setTop (mkF m 230 #[.val (.long q1), .second, .val (.int p1), .val (.int p2), .val (.int p3), .val (.int p4), .val (.ref b1), .val (.long ((p2 &&& (63 : Int32)).toInt64)), .second, .val (.long ((p3 &&& (63 : Int32)).toInt64)), .second, .val (.long ((p4 &&& (63 : Int32)).toInt64)), .second, .val (.int (p1 &&& (3 : Int32))), .val (.int (1 : Int32)), .val (.int (1 : Int32))] [])) _
                refine XS.iconst X49.here hx rfl (hb hby at_230) ?_
                show Steps p.tables e below (T49.setTop (mkF m 231 #[.val (.long q1), .second, .val (.int p1), .val (.int p2), .val (.int p3), .val (.int p4), .val (.ref b1), .val (.long ((p2 &&& (63 : Int32)).toInt64)), .second, .val (.long ((p3 &&& (63 : Int32)).toInt64)), .second, .val (.long ((p4 &&& (63 : Int32)).toInt64)), .second, .val (.int (p1 &&& (3 : Int32))), .val (.int (1 : Int32)), .val (.int (1 : Int32))] [(.int (1 : Int32))])) _
                refine XS.goto X49.here hx rfl (pc0 := 231) (pc' := 235) rfl (hb hby at_231) (by decide) (by decide) ?_
                show Steps p.tables e below (T49.setTop (mkF m 235 #[.val (.long q1), .second, .val (.int p1), .val (.int p2), .val (.int p3), .val (.int p4), .val (.ref b1), .val (.long ((p2 &&& (63 : Int32)).toInt64)), .second, .val (.long ((p3 &&& (63 : Int32)).toInt64)), .second, .val (.long ((p4 &&& (63 : Int32)).toInt64)), .second, .val (.int (p1 &&& (3 : Int32))), .val (.int (1 : Int32)), .val (.int (1 : Int32))] [(.int (1 : Int32))])) _
                refine XS.istore X49.here hx rfl (hb hby at_235) rfl (l' := #[.val (.long q1), .second, .val (.int p1), .val (.int p2), .val (.int p3), .val (.int p4), .val (.ref b1), .val (.long ((p2 &&& (63 : Int32)).toInt64)), .second, .val (.long ((p3 &&& (63 : Int32)).toInt64)), .second, .val (.long ((p4 &&& (63 : Int32)).toInt64)), .second, .val (.int (p1 &&& (3 : Int32))), .val (.int (1 : Int32)), .val (.int (1 : Int32))]) rfl ?_
                show Steps p.tables e below (T49.setTop (mkF m 237 #[.val (.long q1), .second, .val (.int p1), .val (.int p2), .val (.int p3), .val (.int p4), .val (.ref b1), .val (.long ((p2 &&& (63 : Int32)).toInt64)), .second, .val (.long ((p3 &&& (63 : Int32)).toInt64)), .second, .val (.long ((p4 &&& (63 : Int32)).toInt64)), .second, .val (.int (p1 &&& (3 : Int32))), .val (.int (1 : Int32)), .val (.int (1 : Int32))] [])) _
                refine XS.iload X49.here hx rfl (hb hby at_237) rfl ?_
                show Steps p.tables e below (T49.setTop (mkF m 239 #[.val (.long q1), .second, .val (.int p1), .val (.int p2), .val (.int p3), .val (.int p4), .val (.ref b1), .val (.long ((p2 &&& (63 : Int32)).toInt64)), .second, .val (.long ((p3 &&& (63 : Int32)).toInt64)), .second, .val (.long ((p4 &&& (63 : Int32)).toInt64)), .second, .val (.int (p1 &&& (3 : Int32))), .val (.int (1 : Int32)), .val (.int (1 : Int32))] [(.int (1 : Int32))])) _
                exact retN X49 hx (t := .boolean) Bd.returns (by simp) (hb hby at_239) hr
              · show Q_rm0 Z q1 p1 p2 p3 p4 h0 n0 _ T49.heap _
                rw [eq49]
                exact ⟨rfl, N49⟩
set_option maxRecDepth 65536 in
set_option maxHeartbeats 40000000 in
theorem comes_1 {Post : Tables → Env → Array Value → State → Outcome → State → Prop} (hpost : ∀ tb e args s v u, (limb_1_1.after args s (.returned v) u = true ∧ limb_1_2.after args s (.returned v) u = true ∧ True) → FrameEnd s (.returned v) u (Jvm.fieldLocs frame_1_writes args s ++ Jvm.arrayLocs frame_1_arrays args s ++ Jvm.staticLocs frame_1_statics s) 32 704 → Post tb e args s (.returned v) u) :
    ArmFor flags0 classFile x code maxLocals ret World_1 tables_1 room_1 Calls_1 rest_1 Pre_1 Post := by
  intro l hfl _ _ p e ha hc hk s m args below hf hA hF happ hP
  obtain ⟨hcalls, hrest, hpre⟩ := hP
  obtain ⟨-, -, -, hnamed, -, -, -, hat⟩ := (Spec.applies_iff hf).mp happ
  obtain ⟨hg, hn⟩ := and_e (Cond.before_iff.mp (show (Jvm.Cond.and given_1 narrow_1).before args s = true from hpre))
  obtain ⟨hg0, hgr0⟩ := and_e hg
  obtain ⟨ha0, hgr1⟩ := and_e hgr0
  obtain ⟨ha1, hgr2⟩ := and_e hgr1
  obtain ⟨ha2, hgr3⟩ := and_e hgr2
  obtain ⟨ha3, hgr4⟩ := and_e hgr3
  obtain ⟨w0, w1, w2, w3, w4, rfl⟩ : ∃ w0 w1 w2 w3 w4 : Value, args = #[w0, w1, w2, w3, w4] := by
    have hs : args.size = 5 := by simpa [Cond.value, given_1] using hg0
    obtain ⟨L⟩ := args
    match L, hs with
    | [w0, w1, w2, w3, w4], _ => exact ⟨w0, w1, w2, w3, w4, rfl⟩
  have hw := fun d (hd : d ∈ tables_1) => atoms_spec (ws := Jvm.Cond.code x code maxLocals ret :: tables_1) hat d (List.mem_cons_of_mem _ hd)
  have hfit : Fit s := fun {y c} hc i hi => by
    obtain ⟨ha, rfl⟩ := Array.getElem?_eq_some_iff.mp hc
    have q := List.all_eq_true.mp ((Array.all_eq_true_iff_forall_mem.mp hF) _ (Array.getElem_mem ha)) i (List.mem_range.mpr hi)
    simpa [Array.getElem?_eq_getElem hi] using q
  obtain ⟨i0, ei0⟩ := isL_v ha0
  obtain rfl : w0 = (.long i0) := Option.some.inj ei0
  obtain ⟨i1, ei1⟩ := is_v ha1
  obtain rfl : w1 = (.int i1) := Option.some.inj ei1
  obtain ⟨i2, ei2⟩ := is_v ha2
  obtain rfl : w2 = (.int i2) := Option.some.inj ei2
  obtain ⟨i3, ei3⟩ := is_v ha3
  obtain rfl : w3 = (.int i3) := Option.some.inj ei3
  obtain ⟨i4, ei4⟩ := is_v hgr4
  obtain rfl : w4 = (.int i4) := Option.some.inj ei4
  obtain ⟨n, o, h1, h2, h3, _, L, rfl, ⟨rfl, N⟩, hq⟩ := rm0 l s _ hw tables_1 i0 i1 i2 i3 i4 s.heap s.heap.size (Old.start s) p e ha hc hk s m _ below hf ((Spec.applies_iff_loose hf).mp happ).1 ⟨rfl, State.Warmed39.refl s, rfl⟩ trivial
  refine ⟨n, _, h1, h2, h3, hpost _ _ _ _ _ _ ⟨Cond.after_iff.mpr rfl, Cond.after_iff.mpr (eq_i res_at (Term.int_eval (1)) rfl), trivial⟩ ⟨hq.1, hq.2.1, (hq.2.2.sift fun y hy => Or.inr (N y hy)).mono (by decide) (by decide)⟩⟩
theorem main_1_1 : Claimed_1_1 := comes_1 fun _ _ _ _ _ _ h hF => ⟨h.1, hF⟩
theorem main_1_2 : Claimed_1_2 := comes_1 fun _ _ _ _ _ _ h hF => ⟨h.2.1, hF⟩
end Jvm.Pilot.@@N@@
namespace Jvm.Pilot.@@N@@
open Jvm Jvm.ClassFile Sem Op Lib Jvm.Free Jvm.Stand Jvm.Pilot.@@N@@.Jvm.D
/-! MADE BY PROGRAM (witnessworld.py) out of the Statement's table words and the real class files: 11 classes; the members and pool entries that the words name. The judged class is class 1, her method 1. -/
namespace start1
open Jvm.ClassFile
def u (s : String) : CpInfo := .utf8 (stringToUtf16 s)
/-- a pool by its gaps: so many unusable entries, then the entry; so many at the end -/
def gap : Nat → List CpInfo → List CpInfo
  | 0, r => r
  | n + 1, r => .unusable :: gap n r
def poolList (es : List (Nat × CpInfo)) (last : Nat) : List CpInfo := es.foldr (fun e r => gap e.1 (e.2 :: r)) (gap last [])
def pool (es : List (Nat × CpInfo)) (last : Nat) : Array CpInfo := ⟨poolList es last⟩
def fileOf (pool : Array CpInfo) (this : Nat) (attrs : Array Attribute := #[]) (ms : Array MethodInfo := #[]) (fl : Nat := 33) (sup : Nat := 0) (ifs : Array Nat := #[]) (fds : Array FieldInfo := #[]) : ClassFile where
  minorVersion := 0
  majorVersion := 65
  constantPool := pool
  accessFlags := fl
  thisClass := this
  superClass := sup
  interfaces := ifs
  fields := fds
  methods := ms
  attributes := attrs
def plain (name : String) (sup : Option ClassId) : Class where
  name := name
  kind := .ordinary
  loader := none
  accessFlags := 33
  super := sup
  interfaces := #[]
  cf := none
  fields := #[]
  methods := #[]
  instanceTypes := #[]
  staticTypes := #[]
  resolved := #[]
  callSites := []
  init := .initialized
  statics := none
  mirror := none

def pool0 : Array CpInfo := pool [(5, u "<init>"), (0, u "()V"), (1, .class_ 10), (1, u "java/lang/Object")] 113

def k0c0 : Code := { maxStack := 0, maxLocals := 1, code := object_method_1_code, exceptionTable := #[], attributes := #[] }
def k0m0 : Method := { name := "<init>", desc := "()V", sig := { parameters := [], returnType := none }, accessFlags := 1, code := some k0c0 }
/-- java/lang/Object -/
def k0 : Class := { plain "java/lang/Object" none with
  accessFlags := 33
  interfaces := #[]
  cf := some (fileOf pool0 8 #[] #[{ accessFlags := 1, nameIndex := 5, descriptorIndex := 6, attributes := #[] }] 33 0 #[] #[])
  fields := #[]
  methods := #[k0m0]
  instanceTypes := #[]
  staticTypes := #[]
  resolved := Array.replicate 124 none
  statics := none }

def pool1 : Array CpInfo := pool [(2, .class_ 4), (1, u "java/lang/Object"), (0, u "<init>"), (0, u "()V"), (0, .class_ 8), (0, u "com/example/januswire/januswire/sim/DueEvents"), (0, .methodref 7 10), (0, .nameAndType 5 11), (0, u "(J)V"), (0, .methodref 7 13), (0, .nameAndType 14 15), (0, u "isEmpty"), (0, u "()Z"), (0, .methodref 7 17), (0, .nameAndType 18 19), (0, u "schedule"), (0, u "(JLjava/lang/Runnable;)V"), (0, .class_ 21), (0, u "com/example/januswire/januswire/sim/DueEventsIsEmptyPinLaw"), (2, u "law"), (0, u "(JIIII)Z")] 3

def k1m0 : Method := { name := "<init>", desc := "()V", sig := { parameters := [], returnType := none }, accessFlags := 2, code := none }
def k1c1 : Code := { maxStack := 4, maxLocals := 16, code := code, exceptionTable := #[], attributes := #[] }
def k1m1 : Method := { name := "law", desc := "(JIIII)Z", sig := { parameters := [.long, .int, .int, .int, .int], returnType := some .boolean }, accessFlags := 9, code := some k1c1 }
/-- com/example/januswire/januswire/sim/DueEventsIsEmptyPinLaw -/
def k1 : Class := { plain "com/example/januswire/januswire/sim/DueEventsIsEmptyPinLaw" (some 0) with
  accessFlags := 49
  interfaces := #[]
  cf := some (fileOf pool1 20 #[] #[{ accessFlags := 2, nameIndex := 5, descriptorIndex := 6, attributes := #[] }, { accessFlags := 9, nameIndex := 24, descriptorIndex := 25, attributes := #[] }] 49 2 #[] #[])
  fields := #[]
  methods := #[k1m0, k1m1]
  instanceTypes := #[]
  staticTypes := #[]
  resolved := Array.replicate 29 none
  statics := none }

def pool2 : Array CpInfo := pool [(1, .methodref 2 3), (0, .class_ 4), (0, .nameAndType 5 6), (0, u "java/lang/Object"), (0, u "<init>"), (0, u "()V"), (0, .class_ 8), (0, u "com/example/januswire/januswire/sim/DueEvents"), (0, .class_ 10), (0, u "[Ljava/lang/Runnable;"), (0, .fieldref 7 12), (0, .nameAndType 13 14), (0, u "events"), (0, u "[[Ljava/lang/Runnable;"), (0, .fieldref 7 16), (0, .nameAndType 17 18), (0, u "counts"), (0, u "[I"), (0, .fieldref 7 20), (0, .nameAndType 21 22), (0, u "mask"), (0, u "I"), (0, .long 18446744073709551615), (1, .fieldref 7 26), (0, .nameAndType 27 28), (0, u "current"), (0, u "J"), (0, .fieldref 7 30), (0, .nameAndType 31 28), (0, u "lastTick"), (9, .fieldref 7 42), (0, .nameAndType 43 44), (0, u "droppedLate"), (0, u "Z"), (0, .methodref 7 46), (0, .nameAndType 47 48), (0, u "widen"), (0, u "(J)V"), (0, .class_ 50), (0, u "java/lang/Runnable"), (6, .fieldref 7 58), (0, .nameAndType 59 28), (0, u "pending"), (14, u "INITIAL_TICKS"), (2, u "INITIAL_EVENTS"), (3, u "schedule"), (0, u "(JLjava/lang/Runnable;)V"), (1, u "isEmpty"), (0, u "()Z")] 23

def k2c0 : Code := { maxStack := 3, maxLocals := 3, code := prog_187_method_1_code, exceptionTable := #[], attributes := #[] }
def k2m0 : Method := { name := "<init>", desc := "(J)V", sig := { parameters := [.long], returnType := none }, accessFlags := 0, code := some k2c0 }
def k2c1 : Code := { maxStack := 6, maxLocals := 7, code := prog_187_method_2_code, exceptionTable := #[], attributes := #[] }
def k2m1 : Method := { name := "schedule", desc := "(JLjava/lang/Runnable;)V", sig := { parameters := [.long, (.object "java/lang/Runnable")], returnType := none }, accessFlags := 0, code := some k2c1 }
def k2c2 : Code := { maxStack := 4, maxLocals := 1, code := prog_187_method_3_code, exceptionTable := #[], attributes := #[] }
def k2m2 : Method := { name := "isEmpty", desc := "()Z", sig := { parameters := [], returnType := some .boolean }, accessFlags := 0, code := some k2c2 }
def k2c3 : Code := { maxStack := 6, maxLocals := 10, code := prog_187_method_7_code, exceptionTable := #[], attributes := #[] }
def k2m3 : Method := { name := "widen", desc := "(J)V", sig := { parameters := [.long], returnType := none }, accessFlags := 2, code := some k2c3 }
/-- com/example/januswire/januswire/sim/DueEvents -/
def k2 : Class := { plain "com/example/januswire/januswire/sim/DueEvents" (some 0) with
  accessFlags := 48
  interfaces := #[]
  cf := some (fileOf pool2 7 #[] #[{ accessFlags := 0, nameIndex := 5, descriptorIndex := 48, attributes := #[] }, { accessFlags := 0, nameIndex := 81, descriptorIndex := 82, attributes := #[] }, { accessFlags := 0, nameIndex := 84, descriptorIndex := 85, attributes := #[] }, { accessFlags := 2, nameIndex := 47, descriptorIndex := 48, attributes := #[] }] 48 2 #[] #[{ accessFlags := 26, nameIndex := 74, descriptorIndex := 22, attributes := #[] }, { accessFlags := 26, nameIndex := 77, descriptorIndex := 22, attributes := #[] }, { accessFlags := 18, nameIndex := 31, descriptorIndex := 28, attributes := #[] }, { accessFlags := 2, nameIndex := 13, descriptorIndex := 14, attributes := #[] }, { accessFlags := 2, nameIndex := 17, descriptorIndex := 18, attributes := #[] }, { accessFlags := 2, nameIndex := 21, descriptorIndex := 22, attributes := #[] }, { accessFlags := 2, nameIndex := 27, descriptorIndex := 28, attributes := #[] }, { accessFlags := 2, nameIndex := 59, descriptorIndex := 28, attributes := #[] }, { accessFlags := 2, nameIndex := 43, descriptorIndex := 44, attributes := #[] }])
  fields := #[{ name := "INITIAL_TICKS", type := .int, accessFlags := 26, slot := 0, constantValue := 0 }, { name := "INITIAL_EVENTS", type := .int, accessFlags := 26, slot := 1, constantValue := 0 }, { name := "lastTick", type := .long, accessFlags := 18, slot := 0, constantValue := 0 }, { name := "events", type := (.array (.array (.object "java/lang/Runnable"))), accessFlags := 2, slot := 1, constantValue := 0 }, { name := "counts", type := (.array .int), accessFlags := 2, slot := 2, constantValue := 0 }, { name := "mask", type := .int, accessFlags := 2, slot := 3, constantValue := 0 }, { name := "current", type := .long, accessFlags := 2, slot := 4, constantValue := 0 }, { name := "pending", type := .long, accessFlags := 2, slot := 5, constantValue := 0 }, { name := "droppedLate", type := .boolean, accessFlags := 2, slot := 6, constantValue := 0 }]
  methods := #[k2m0, k2m1, k2m2, k2m3]
  instanceTypes := #[.long, (.array (.array (.object "java/lang/Runnable"))), (.array .int), .int, .long, .long, .boolean]
  staticTypes := #[.int, .int]
  resolved := Array.replicate 109 none
  statics := none }

def pool3 : Array CpInfo := pool [(1, .class_ 2), (0, u "java/lang/Runnable"), (0, .class_ 4), (0, u "java/lang/Object")] 6

/-- java/lang/Runnable -/
def k3 : Class := { plain "java/lang/Runnable" (some 0) with
  accessFlags := 1537
  interfaces := #[]
  cf := some (fileOf pool3 1 #[] #[] 1537 3 #[] #[])
  fields := #[]
  methods := #[]
  instanceTypes := #[]
  staticTypes := #[]
  resolved := Array.replicate 11 none
  statics := none }

def pool4 : Array CpInfo := pool [(1, u "java/lang/Cloneable"), (0, .class_ 1), (0, u "java/lang/Object"), (0, .class_ 3)] 3

/-- java/lang/Cloneable -/
def k4 : Class := { plain "java/lang/Cloneable" (some 0) with
  accessFlags := 1537
  interfaces := #[]
  cf := some (fileOf pool4 2 #[] #[] 1537 4 #[] #[])
  fields := #[]
  methods := #[]
  instanceTypes := #[]
  staticTypes := #[]
  resolved := Array.replicate 8 none
  statics := none }

def pool5 : Array CpInfo := pool [(1, u "java/io/Serializable"), (0, .class_ 1), (0, u "java/lang/Object"), (0, .class_ 3)] 3

/-- java/io/Serializable -/
def k5 : Class := { plain "java/io/Serializable" (some 0) with
  accessFlags := 1537
  interfaces := #[]
  cf := some (fileOf pool5 2 #[] #[] 1537 4 #[] #[])
  fields := #[]
  methods := #[]
  instanceTypes := #[]
  staticTypes := #[]
  resolved := Array.replicate 8 none
  statics := none }

/-- the primitive byte -/
def k6 : Class := { plain "byte" none with kind := .primitive 'B', accessFlags := 0x411 }
/-- [B -/
def k7 : Class := { plain "[B" (some 0) with kind := .array 6 .byte, interfaces := #[4, 5], accessFlags := 1041 }

/-- the primitive int -/
def k8 : Class := { plain "int" none with kind := .primitive 'I', accessFlags := 0x411 }
/-- [I -/
def k9 : Class := { plain "[I" (some 0) with kind := .array 8 .int, interfaces := #[4, 5], accessFlags := 1041 }

/-- [Ljava/lang/Runnable; -/
def k10 : Class := { plain "[Ljava/lang/Runnable;" (some 0) with kind := .array 3 (.object "java/lang/Runnable"), interfaces := #[4, 5], accessFlags := 1041 }
/-- [[Ljava/lang/Runnable; -/
def k11 : Class := { plain "[[Ljava/lang/Runnable;" (some 0) with kind := .array 10 (.array (.object "java/lang/Runnable")), interfaces := #[4, 5], accessFlags := 1041 }

def heap : Heap := #[]
def classes : Array Class := #[k0, k1, k2, k3, k4, k5, k6, k7, k8, k9, k10, k11]
def interned : List (Array UInt16 × Addr) := []
def slotsUsed : Nat := 0
def theMethod : MethodId := ⟨1, 1⟩
def args0 : Array Value := #[.long 20, .int 3, .int 1, .int 40, .int 5]
def aboutOver (below : List Frame) : State where
  vm := { classes := classes, interned := interned.toArray }
  heap := heap
  slotsUsed := slotsUsed
  threads := #[{ frames := .invoking theMethod args0 :: below }]
def below0 : List Frame := [.native { method := ⟨0, 0⟩, args := #[] }]
def about1 : State := aboutOver below0
def p0 : Program := .bare "" "" ""
def e0 : Env := launch0.env 0 0 0
theorem w_frames : about1.frames = Frame.invoking theMethod args0 :: below0 := rfl
set_option maxRecDepth 65536 in
theorem w_args : argsFit about1.vm theMethod args0 = true := by decide +kernel
set_option maxRecDepth 65536 in
theorem w_heap : heapFits about1 = true := by decide +kernel
set_option maxRecDepth 65536 in
theorem w_runnable : about1.curStatus? = some .runnable := by decide +kernel
set_option maxRecDepth 65536 in
theorem w_alone : about1.alone = true := by decide +kernel
set_option maxRecDepth 65536 in
theorem w_named : about1.methodNamed? x = some theMethod := by decide +kernel
set_option maxRecDepth 65536 in
theorem w_hears : about1.hears theMethod below0 = true := by decide +kernel
set_option maxRecDepth 65536 in
theorem w_ripe : about1.ripe theMethod args0 below0 = true := by decide +kernel
theorem w_running : about1.status = .running := rfl
set_option maxRecDepth 65536 in
theorem w_room : about1.hasRoom e0.platform room_1 = true :=
  launch0.hasRoom_least _ room_1 (by decide +kernel) (by decide +kernel) (by decide +kernel) (by decide +kernel) (by decide +kernel) (by decide +kernel)
theorem allAtoms_all (ts : List Jvm.Cond) (a : Array Jvm.Value) (st : Jvm.State) : (allAtoms ts).before a st = ts.all (fun c => c.before a st) := by
  induction ts with
  | nil => rfl
  | cons c t ih =>
    show (Jvm.Cond.and c (allAtoms t)).before a st = _
    rw [Jvm.Cond.before_and, ih, List.all_cons]
def words1 : List Jvm.Cond := Jvm.Cond.code x code maxLocals ret :: tables_1
/-- a 'code' word, met by the world's own term for the bytes: nothing is compared byte by byte -/
theorem code_word {y : MethodName} {bytes : ByteArray} {mx : Nat} {rt : Option FieldType} {a : Array Value} {s : State} {m : MethodId} {meth : Method} {c : Code} (h1 : s.methodNamed? y = some m) (h2 : s.vm.method? m = some meth) (h3 : meth.code = some c) (h4 : c.code = bytes)
    (h5 : (c.maxLocals == mx && c.exceptionTable.isEmpty && decide (c.maxStack ≤ mostOperands) && decide (meth.sig.returnType = rt) && !meth.locks && decide (parseMethodDescriptor y.desc = some meth.sig)) = true) : (Jvm.Cond.code y bytes mx rt).before a s = true := by
  simp only [Bool.and_eq_true, beq_iff_eq, Bool.not_eq_true', decide_eq_true_eq] at h5
  obtain ⟨⟨⟨⟨⟨g1, g2⟩, g3⟩, g4⟩, g5⟩, g6⟩ := h5
  simp [Cond.before, Cond.holds, Cond.value, h1, h2, h3, h4, g1, g2, g3, g4, g5, g6]
def isCode : Jvm.Cond → Bool
  | .code _ _ _ _ => true
  | _ => false
theorem all_split {L : List Jvm.Cond} {P : Jvm.Cond → Bool} (h1 : L.all (fun c => isCode c || P c) = true) (h2 : ∀ c ∈ L.filter isCode, P c = true) : L.all P = true := by
  refine List.all_eq_true.mpr fun c hc => ?_
  have h := List.all_eq_true.mp h1 c hc
  rcases Bool.eq_false_or_eq_true (isCode c) with hi | hi
  · exact h2 c (List.mem_filter.mpr ⟨hc, hi⟩)
  · simpa [hi] using h
set_option maxRecDepth 65536 in
theorem w_c0 : (Jvm.Cond.code x code maxLocals ret).before args0 about1 = true := code_word (m := ⟨1, 1⟩) (meth := k1m1) (c := k1c1) (by decide +kernel) rfl rfl rfl (by decide +kernel)
set_option maxRecDepth 65536 in
theorem w_c1 : (Jvm.Cond.code ({ cls := "com/example/januswire/januswire/sim/DueEvents", name := "<init>", desc := "(J)V" } : Jvm.MethodName) prog_187_method_1_code (3 : Nat) (Option.none : Option Jvm.ClassFile.FieldType)).before args0 about1 = true := code_word (m := ⟨2, 0⟩) (meth := k2m0) (c := k2c0) (by decide +kernel) rfl rfl rfl (by decide +kernel)
set_option maxRecDepth 65536 in
theorem w_c2 : (Jvm.Cond.code ({ cls := "java/lang/Object", name := "<init>", desc := "()V" } : Jvm.MethodName) object_method_1_code (1 : Nat) (Option.none : Option Jvm.ClassFile.FieldType)).before args0 about1 = true := code_word (m := ⟨0, 0⟩) (meth := k0m0) (c := k0c0) (by decide +kernel) rfl rfl rfl (by decide +kernel)
set_option maxRecDepth 65536 in
theorem w_c3 : (Jvm.Cond.code ({ cls := "com/example/januswire/januswire/sim/DueEvents", name := "isEmpty", desc := "()Z" } : Jvm.MethodName) prog_187_method_3_code (1 : Nat) (Option.some Jvm.ClassFile.FieldType.boolean)).before args0 about1 = true := code_word (m := ⟨2, 2⟩) (meth := k2m2) (c := k2c2) (by decide +kernel) rfl rfl rfl (by decide +kernel)
set_option maxRecDepth 65536 in
theorem w_c4 : (Jvm.Cond.code ({ cls := "com/example/januswire/januswire/sim/DueEvents", name := "schedule", desc := "(JLjava/lang/Runnable;)V" } : Jvm.MethodName) prog_187_method_2_code (7 : Nat) (Option.none : Option Jvm.ClassFile.FieldType)).before args0 about1 = true := code_word (m := ⟨2, 1⟩) (meth := k2m1) (c := k2c1) (by decide +kernel) rfl rfl rfl (by decide +kernel)
set_option maxRecDepth 65536 in
theorem w_c5 : (Jvm.Cond.code ({ cls := "com/example/januswire/januswire/sim/DueEvents", name := "widen", desc := "(J)V" } : Jvm.MethodName) prog_187_method_7_code (10 : Nat) (Option.none : Option Jvm.ClassFile.FieldType)).before args0 about1 = true := code_word (m := ⟨2, 3⟩) (meth := k2m3) (c := k2c3) (by decide +kernel) rfl rfl rfl (by decide +kernel)
def codes1 : List Jvm.Cond := [Jvm.Cond.code x code maxLocals ret, Jvm.Cond.code ({ cls := "com/example/januswire/januswire/sim/DueEvents", name := "<init>", desc := "(J)V" } : Jvm.MethodName) prog_187_method_1_code (3 : Nat) (Option.none : Option Jvm.ClassFile.FieldType), Jvm.Cond.code ({ cls := "java/lang/Object", name := "<init>", desc := "()V" } : Jvm.MethodName) object_method_1_code (1 : Nat) (Option.none : Option Jvm.ClassFile.FieldType), Jvm.Cond.code ({ cls := "com/example/januswire/januswire/sim/DueEvents", name := "isEmpty", desc := "()Z" } : Jvm.MethodName) prog_187_method_3_code (1 : Nat) (Option.some Jvm.ClassFile.FieldType.boolean), Jvm.Cond.code ({ cls := "com/example/januswire/januswire/sim/DueEvents", name := "schedule", desc := "(JLjava/lang/Runnable;)V" } : Jvm.MethodName) prog_187_method_2_code (7 : Nat) (Option.none : Option Jvm.ClassFile.FieldType), Jvm.Cond.code ({ cls := "com/example/januswire/januswire/sim/DueEvents", name := "widen", desc := "(J)V" } : Jvm.MethodName) prog_187_method_7_code (10 : Nat) (Option.none : Option Jvm.ClassFile.FieldType)]
set_option maxRecDepth 65536 in
theorem codes_eq : words1.filter isCode = codes1 := rfl
theorem w_codes : ∀ c ∈ words1.filter isCode, c.before args0 about1 = true := by
  rw [codes_eq]
  intro c hc
  simp only [codes1, List.mem_cons, List.not_mem_nil, or_false] at hc
  rcases hc with rfl | rfl | rfl | rfl | rfl | rfl
  · exact w_c0
  · exact w_c1
  · exact w_c2
  · exact w_c3
  · exact w_c4
  · exact w_c5
set_option maxRecDepth 65536 in
theorem w_t1 : (words1.take 24).all (fun c => isCode c || c.before args0 about1) = true := by decide +kernel
set_option maxRecDepth 65536 in
theorem w_t2 : (words1.drop 24).all (fun c => isCode c || c.before args0 about1) = true := by decide +kernel
theorem w_tables : (allAtoms (Jvm.Cond.code x code maxLocals ret :: tables_1)).before args0 about1 = true := by
  rw [allAtoms_all]
  show words1.all (fun c => c.before args0 about1) = true
  refine all_split ?_ w_codes
  rw [← List.take_append_drop 24 words1, List.all_append, w_t1, w_t2]
  rfl
set_option maxRecDepth 65536 in
theorem w_case : (Jvm.Cond.and given_1 narrow_1).before args0 about1 = true := by decide +kernel
theorem w_applies : (headSpec (Jvm.Cond.code x code maxLocals ret :: tables_1) room_1).applies x e0.platform about1 = true :=
  (Spec.applies_iff w_frames).mpr ⟨w_running, w_runnable, w_alone, w_named, w_hears, w_ripe, w_room, w_tables⟩
theorem atStart : AtStart classFile x code maxLocals ret World_1 tables_1 room_1 Calls_1 rest_1 Pre_1 launch0 p0 e0 about1 theMethod args0 below0 :=
  ⟨lists_1, trivial, launch0.admits_env _ _ _, launch0.least_env, fairChoices_fair.cas, fairChoices_fair.clock, w_frames, w_args, w_heap, w_applies, trivial, trivial, w_case⟩
end start1
theorem witness_1 : WitnessClaimed_1 := ⟨start1.p0, start1.e0, start1.about1, start1.theMethod, start1.args0, start1.below0, start1.atStart⟩
end Jvm.Pilot.@@N@@
