import JvmDerived
import JvmDerived.Pilot.@@N@@Statement
import JvmDerived.Pilot.@@N@@Code
set_option linter.unusedVariables false
set_option linter.unusedSimpArgs false
namespace Jvm.RoadKit
open Sem ClassFile Op Lib Jvm.Stand Jvm.Free Jvm.LawKit
section New
variable {p : Program} {l : Launch} {e : Env} {R : Room} {s : State} {m : MethodId} {args : Array Value} {below : List Frame} {meth : Method} {c : Code} {T : State} {locs : List Loc} {cells slots : Nat}
theorem retI (X : Stand p l e R s m args below meth c T locs cells slots) (hx : p.tables.exec = Jvm.exec) {pc : Nat} {Ls : Array Slot} {z : Int32} {rest : List Value} (hret : meth.sig.returnType = some .int) (hd : decode c.code pc = .ok (.ireturn, 1)) {fs : List Frame}
    (hl : ∀ (f : JFrame) (acts : List Action), f.method = m → f.locked = none → f.entered = [] → (doReturn e (T.setTop f) acts (some (.int z))).1 = T.setFrames fs) : Steps p.tables e below (T.setTop (mkF m pc Ls (.int z :: rest))) (T.setFrames fs) := by
  have hm' : T.vm.method? m = some meth := X.method'
  have hn : narrow .int (.int z) = .int z := rfl
  show Steps p.tables e below (T.setTop { method := m, pc := pc, locals := Ls, stack := _ :: rest, locked := none }) _
  jvm_step X.here [X.here.top, hx, hd, hm', hret, hn]
  first | (intro acts; rw [hl _ acts rfl rfl rfl]) | rw [hl _ _ rfl rfl rfl]
  exact Steps.refl _
end New
end Jvm.RoadKit
namespace Jvm.Pilot.@@N@@
open Jvm Jvm.ClassFile Sem Op Lib Jvm.Free Jvm.Stand Jvm.LawKit Jvm.RoadKit Bundle Jvm.Pilot.@@N@@.Jvm.D
theorem pn_13 : plainName "java/lang/Enum" = true := by first | (simp [plainName, overriddenIn]; done) | decide +kernel
theorem ef_13 (m : MethodId) (x0 : Addr) : entryFrame m #[(.ref x0)] 1 = mkF m 0 #[.val (.ref x0)] [] := by first | (simp [entryFrame, mkF, argsToLocals, Value.category]; done) | rfl
theorem d13_0 : decode jdk_37_method_2_code 0 = .ok (.aload_n 0, 1) := by decide +kernel
theorem d13_1 : decode jdk_37_method_2_code 1 = .ok (.getfield 7, 3) := by decide +kernel
theorem d13_4 : decode jdk_37_method_2_code 4 = .ok (.ireturn, 1) := by decide +kernel
theorem pn_12 : plainName "com/example/thangdiem/thangdiem/method/Formula$Comparison" = true := by first | (simp [plainName, overriddenIn]; done) | decide +kernel
theorem ef_12 (m : MethodId) (x0 : Addr) (x1 : Int32) : entryFrame m #[(.ref x0), (.int x1)] 2 = mkF m 0 #[.val (.ref x0), .val (.int x1)] [] := by first | (simp [entryFrame, mkF, argsToLocals, Value.category]; done) | rfl
theorem d12_0 : decode prog_40_method_6_code 0 = .ok (.aload_n 0, 1) := by decide +kernel
theorem d12_1 : decode prog_40_method_6_code 1 = .ok (.invokevirtual 55, 3) := by decide +kernel
theorem pd_1 : parseMethodDescriptor "()I" = some ⟨[], some .int⟩ := by decide +kernel
theorem d12_4 : decode prog_40_method_6_code 4 = .ok (.tableswitch 28 0 2 #[38, 50, 62], 28) := by decide +kernel
theorem d12_42 : decode prog_40_method_6_code 42 = .ok (.iload_n 1, 1) := by decide +kernel
theorem d12_43 : decode prog_40_method_6_code 43 = .ok (.ifCond .ge 7, 3) := by decide +kernel
theorem d12_46 : decode prog_40_method_6_code 46 = .ok (.iconst 1, 1) := by decide +kernel
theorem d12_47 : decode prog_40_method_6_code 47 = .ok (.goto 28, 3) := by decide +kernel
theorem d12_75 : decode prog_40_method_6_code 75 = .ok (.ireturn, 1) := by decide +kernel
theorem d12_50 : decode prog_40_method_6_code 50 = .ok (.iconst 0, 1) := by decide +kernel
theorem d12_51 : decode prog_40_method_6_code 51 = .ok (.goto 24, 3) := by decide +kernel
theorem d12_54 : decode prog_40_method_6_code 54 = .ok (.iload_n 1, 1) := by decide +kernel
theorem d12_55 : decode prog_40_method_6_code 55 = .ok (.ifCond .gt 7, 3) := by decide +kernel
theorem d12_62 : decode prog_40_method_6_code 62 = .ok (.iconst 0, 1) := by decide +kernel
theorem d12_63 : decode prog_40_method_6_code 63 = .ok (.goto 12, 3) := by decide +kernel
theorem d12_58 : decode prog_40_method_6_code 58 = .ok (.iconst 1, 1) := by decide +kernel
theorem d12_59 : decode prog_40_method_6_code 59 = .ok (.goto 16, 3) := by decide +kernel
theorem d12_66 : decode prog_40_method_6_code 66 = .ok (.iload_n 1, 1) := by decide +kernel
theorem d12_67 : decode prog_40_method_6_code 67 = .ok (.ifCond .ne 7, 3) := by decide +kernel
theorem d12_70 : decode prog_40_method_6_code 70 = .ok (.iconst 1, 1) := by decide +kernel
theorem d12_71 : decode prog_40_method_6_code 71 = .ok (.goto 4, 3) := by decide +kernel
theorem d12_74 : decode prog_40_method_6_code 74 = .ok (.iconst 0, 1) := by decide +kernel
theorem pn_11 : plainName "java/lang/String" = true := by first | (simp [plainName, overriddenIn]; done) | decide +kernel
theorem ef_11 (m : MethodId) (x0 : Addr) : entryFrame m #[(.ref x0)] 1 = mkF m 0 #[.val (.ref x0)] [] := by first | (simp [entryFrame, mkF, argsToLocals, Value.category]; done) | rfl
theorem d11_0 : decode jdk_42_method_152_code 0 = .ok (.getstatic 38, 3) := by decide +kernel
theorem d11_3 : decode jdk_42_method_152_code 3 = .ok (.ifCond .eq 10, 3) := by decide +kernel
theorem d11_6 : decode jdk_42_method_152_code 6 = .ok (.aload_n 0, 1) := by decide +kernel
theorem d11_7 : decode jdk_42_method_152_code 7 = .ok (.getfield 15, 3) := by decide +kernel
theorem d11_10 : decode jdk_42_method_152_code 10 = .ok (.goto 4, 3) := by decide +kernel
theorem d11_14 : decode jdk_42_method_152_code 14 = .ok (.ireturn, 1) := by decide +kernel
theorem pn_6 : plainName "java/lang/String" = true := by first | (simp [plainName, overriddenIn]; done) | decide +kernel
theorem ef_6 (m : MethodId) (x0 : Addr) : entryFrame m #[(.ref x0)] 1 = mkF m 0 #[.val (.ref x0)] [] := by first | (simp [entryFrame, mkF, argsToLocals, Value.category]; done) | rfl
theorem d6_0 : decode jdk_42_method_154_code 0 = .ok (.getstatic 38, 3) := by decide +kernel
theorem d6_3 : decode jdk_42_method_154_code 3 = .ok (.ifCond .eq 14, 3) := by decide +kernel
theorem d6_6 : decode jdk_42_method_154_code 6 = .ok (.aload_n 0, 1) := by decide +kernel
theorem d6_7 : decode jdk_42_method_154_code 7 = .ok (.getfield 15, 3) := by decide +kernel
theorem d6_10 : decode jdk_42_method_154_code 10 = .ok (.ifCond .ne 7, 3) := by decide +kernel
theorem d6_13 : decode jdk_42_method_154_code 13 = .ok (.iconst 1, 1) := by decide +kernel
theorem d6_14 : decode jdk_42_method_154_code 14 = .ok (.goto 4, 3) := by decide +kernel
theorem d6_18 : decode jdk_42_method_154_code 18 = .ok (.ireturn, 1) := by decide +kernel
theorem pn_10 : plainName "java/lang/String" = true := by first | (simp [plainName, overriddenIn]; done) | decide +kernel
theorem ef_10 (m : MethodId) (x0 : Addr) : entryFrame m #[(.ref x0)] 1 = mkF m 0 #[.val (.ref x0)] [] := by first | (simp [entryFrame, mkF, argsToLocals, Value.category]; done) | rfl
theorem d10_0 : decode jdk_42_method_54_code 0 = .ok (.aload_n 0, 1) := by decide +kernel
theorem d10_1 : decode jdk_42_method_54_code 1 = .ok (.getfield 9, 3) := by decide +kernel
theorem d10_4 : decode jdk_42_method_54_code 4 = .ok (.arraylength, 1) := by decide +kernel
theorem d10_5 : decode jdk_42_method_54_code 5 = .ok (.aload_n 0, 1) := by decide +kernel
theorem d10_6 : decode jdk_42_method_54_code 6 = .ok (.invokevirtual 335, 3) := by decide +kernel
theorem pd_0 : parseMethodDescriptor "()B" = some ⟨[], some .byte⟩ := by decide +kernel
theorem d10_9 : decode jdk_42_method_54_code 9 = .ok (.ishr, 1) := by decide +kernel
theorem d10_10 : decode jdk_42_method_54_code 10 = .ok (.ireturn, 1) := by decide +kernel
theorem pn_9 : plainName "jdk/internal/util/Preconditions" = true := by first | (simp [plainName, overriddenIn]; done) | decide +kernel
theorem ef_9 (m : MethodId) (x0 : Int32) (x1 : Int32) (x2 : Value) (hx2 : x2.isRef = true) : entryFrame m #[(.int x0), (.int x1), x2] 3 = mkF m 0 #[.val (.int x0), .val (.int x1), .val x2] [] := by rcases ref_cases hx2 with rfl | ⟨z, rfl⟩ <;> first | (simp [entryFrame, mkF, argsToLocals, Value.category]; done) | rfl
theorem d9_0 : decode jdk_41_method_11_code 0 = .ok (.iload_n 0, 1) := by decide +kernel
theorem d9_1 : decode jdk_41_method_11_code 1 = .ok (.ifCond .lt 8, 3) := by decide +kernel
theorem d9_4 : decode jdk_41_method_11_code 4 = .ok (.iload_n 0, 1) := by decide +kernel
theorem d9_5 : decode jdk_41_method_11_code 5 = .ok (.iload_n 1, 1) := by decide +kernel
theorem d9_6 : decode jdk_41_method_11_code 6 = .ok (.if_icmp .lt 10, 3) := by decide +kernel
theorem d9_16 : decode jdk_41_method_11_code 16 = .ok (.iload_n 0, 1) := by decide +kernel
theorem d9_17 : decode jdk_41_method_11_code 17 = .ok (.ireturn, 1) := by decide +kernel
theorem pn_8 : plainName "java/lang/String" = true := by first | (simp [plainName, overriddenIn]; done) | decide +kernel
theorem ef_8 (m : MethodId) (x0 : Int32) (x1 : Int32) : entryFrame m #[(.int x0), (.int x1)] 2 = mkF m 0 #[.val (.int x0), .val (.int x1)] [] := by first | (simp [entryFrame, mkF, argsToLocals, Value.category]; done) | rfl
theorem d8_0 : decode jdk_42_method_155_code 0 = .ok (.iload_n 0, 1) := by decide +kernel
theorem d8_1 : decode jdk_42_method_155_code 1 = .ok (.iload_n 1, 1) := by decide +kernel
theorem d8_2 : decode jdk_42_method_155_code 2 = .ok (.getstatic 1053, 3) := by decide +kernel
theorem d8_5 : decode jdk_42_method_155_code 5 = .ok (.invokestatic 1059, 3) := by decide +kernel
theorem pd_7 : parseMethodDescriptor "(IILjava/util/function/BiFunction;)I" = some ⟨[.int, .int, (.object "java/util/function/BiFunction")], some .int⟩ := by decide +kernel
theorem d8_8 : decode jdk_42_method_155_code 8 = .ok (.pop, 1) := by decide +kernel
theorem d8_9 : decode jdk_42_method_155_code 9 = .ok (.return_, 1) := by decide +kernel
theorem pn_7 : plainName "java/lang/StringLatin1" = true := by first | (simp [plainName, overriddenIn]; done) | decide +kernel
theorem ef_7 (m : MethodId) (x0 : Addr) (x1 : Int32) : entryFrame m #[(.ref x0), (.int x1)] 2 = mkF m 0 #[.val (.ref x0), .val (.int x1)] [] := by first | (simp [entryFrame, mkF, argsToLocals, Value.category]; done) | rfl
theorem d7_0 : decode jdk_43_method_2_code 0 = .ok (.iload_n 1, 1) := by decide +kernel
theorem d7_1 : decode jdk_43_method_2_code 1 = .ok (.aload_n 0, 1) := by decide +kernel
theorem d7_2 : decode jdk_43_method_2_code 2 = .ok (.arraylength, 1) := by decide +kernel
theorem d7_3 : decode jdk_43_method_2_code 3 = .ok (.invokestatic 9, 3) := by decide +kernel
theorem pd_6 : parseMethodDescriptor "(II)V" = some ⟨[.int, .int], none⟩ := by decide +kernel
theorem d7_6 : decode jdk_43_method_2_code 6 = .ok (.aload_n 0, 1) := by decide +kernel
theorem d7_7 : decode jdk_43_method_2_code 7 = .ok (.iload_n 1, 1) := by decide +kernel
theorem d7_8 : decode jdk_43_method_2_code 8 = .ok (.baload, 1) := by decide +kernel
theorem d7_9 : decode jdk_43_method_2_code 9 = .ok (.sipush 255, 3) := by decide +kernel
theorem d7_12 : decode jdk_43_method_2_code 12 = .ok (.iand, 1) := by decide +kernel
theorem d7_13 : decode jdk_43_method_2_code 13 = .ok (.i2c, 1) := by decide +kernel
theorem d7_14 : decode jdk_43_method_2_code 14 = .ok (.ireturn, 1) := by decide +kernel
theorem pn_5 : plainName "java/lang/String" = true := by first | (simp [plainName, overriddenIn]; done) | decide +kernel
theorem ef_5 (m : MethodId) (x0 : Addr) (x1 : Int32) : entryFrame m #[(.ref x0), (.int x1)] 2 = mkF m 0 #[.val (.ref x0), .val (.int x1)] [] := by first | (simp [entryFrame, mkF, argsToLocals, Value.category]; done) | rfl
theorem d5_0 : decode jdk_42_method_56_code 0 = .ok (.aload_n 0, 1) := by decide +kernel
theorem d5_1 : decode jdk_42_method_56_code 1 = .ok (.invokevirtual 492, 3) := by decide +kernel
theorem pd_3 : parseMethodDescriptor "()Z" = some ⟨[], some .boolean⟩ := by decide +kernel
theorem d5_4 : decode jdk_42_method_56_code 4 = .ok (.ifCond .eq 12, 3) := by decide +kernel
theorem d5_7 : decode jdk_42_method_56_code 7 = .ok (.aload_n 0, 1) := by decide +kernel
theorem d5_8 : decode jdk_42_method_56_code 8 = .ok (.getfield 9, 3) := by decide +kernel
theorem d5_11 : decode jdk_42_method_56_code 11 = .ok (.iload_n 1, 1) := by decide +kernel
theorem d5_12 : decode jdk_42_method_56_code 12 = .ok (.invokestatic 495, 3) := by decide +kernel
theorem pd_10 : parseMethodDescriptor "([BI)C" = some ⟨[(.array .byte), .int], some .char⟩ := by decide +kernel
theorem d5_15 : decode jdk_42_method_56_code 15 = .ok (.ireturn, 1) := by decide +kernel
theorem pn_4 : plainName "java/lang/StringLatin1" = true := by first | (simp [plainName, overriddenIn]; done) | decide +kernel
theorem ef_4 (m : MethodId) (x0 : Addr) (x1 : Addr) : entryFrame m #[(.ref x0), (.ref x1)] 3 = mkF m 0 #[.val (.ref x0), .val (.ref x1), .unset] [] := by first | (simp [entryFrame, mkF, argsToLocals, Value.category]; done) | rfl
theorem d4_0 : decode jdk_43_method_13_code 0 = .ok (.aload_n 0, 1) := by decide +kernel
theorem d4_1 : decode jdk_43_method_13_code 1 = .ok (.arraylength, 1) := by decide +kernel
theorem d4_2 : decode jdk_43_method_13_code 2 = .ok (.aload_n 1, 1) := by decide +kernel
theorem d4_3 : decode jdk_43_method_13_code 3 = .ok (.arraylength, 1) := by decide +kernel
theorem d4_4 : decode jdk_43_method_13_code 4 = .ok (.if_icmp .ne 30, 3) := by decide +kernel
theorem d4_7 : decode jdk_43_method_13_code 7 = .ok (.iconst 0, 1) := by decide +kernel
theorem d4_8 : decode jdk_43_method_13_code 8 = .ok (.istore_n 2, 1) := by decide +kernel
theorem d4_9 : decode jdk_43_method_13_code 9 = .ok (.iload_n 2, 1) := by decide +kernel
theorem d4_10 : decode jdk_43_method_13_code 10 = .ok (.aload_n 0, 1) := by decide +kernel
theorem d4_11 : decode jdk_43_method_13_code 11 = .ok (.arraylength, 1) := by decide +kernel
theorem d4_12 : decode jdk_43_method_13_code 12 = .ok (.if_icmp .ge 20, 3) := by decide +kernel
theorem d4_15 : decode jdk_43_method_13_code 15 = .ok (.aload_n 0, 1) := by decide +kernel
theorem d4_16 : decode jdk_43_method_13_code 16 = .ok (.iload_n 2, 1) := by decide +kernel
theorem d4_17 : decode jdk_43_method_13_code 17 = .ok (.baload, 1) := by decide +kernel
theorem d4_18 : decode jdk_43_method_13_code 18 = .ok (.aload_n 1, 1) := by decide +kernel
theorem d4_19 : decode jdk_43_method_13_code 19 = .ok (.iload_n 2, 1) := by decide +kernel
theorem d4_20 : decode jdk_43_method_13_code 20 = .ok (.baload, 1) := by decide +kernel
theorem d4_21 : decode jdk_43_method_13_code 21 = .ok (.if_icmp .eq 5, 3) := by decide +kernel
theorem d4_26 : decode jdk_43_method_13_code 26 = .ok (.iinc 2 1, 3) := by decide +kernel
theorem d4_29 : decode jdk_43_method_13_code 29 = .ok (.goto (-20), 3) := by decide +kernel
theorem d4_32 : decode jdk_43_method_13_code 32 = .ok (.iconst 1, 1) := by decide +kernel
theorem d4_33 : decode jdk_43_method_13_code 33 = .ok (.ireturn, 1) := by decide +kernel
theorem pn_3 : plainName "java/lang/String" = true := by first | (simp [plainName, overriddenIn]; done) | decide +kernel
theorem ef_3 (m : MethodId) (x0 : Addr) (x1 : Addr) : entryFrame m #[(.ref x0), (.ref x1)] 3 = mkF m 0 #[.val (.ref x0), .val (.ref x1), .unset] [] := by first | (simp [entryFrame, mkF, argsToLocals, Value.category]; done) | rfl
theorem d3_0 : decode jdk_42_method_66_code 0 = .ok (.aload_n 0, 1) := by decide +kernel
theorem d3_1 : decode jdk_42_method_66_code 1 = .ok (.aload_n 1, 1) := by decide +kernel
theorem d3_2 : decode jdk_42_method_66_code 2 = .ok (.if_acmp .ne 5, 3) := by decide +kernel
theorem d3_5 : decode jdk_42_method_66_code 5 = .ok (.iconst 1, 1) := by decide +kernel
theorem d3_6 : decode jdk_42_method_66_code 6 = .ok (.ireturn, 1) := by decide +kernel
theorem d3_7 : decode jdk_42_method_66_code 7 = .ok (.aload_n 1, 1) := by decide +kernel
theorem d3_8 : decode jdk_42_method_66_code 8 = .ok (.instanceof 10, 3) := by decide +kernel
theorem d3_11 : decode jdk_42_method_66_code 11 = .ok (.ifCond .eq 43, 3) := by decide +kernel
theorem d3_14 : decode jdk_42_method_66_code 14 = .ok (.aload_n 1, 1) := by decide +kernel
theorem d3_15 : decode jdk_42_method_66_code 15 = .ok (.checkcast 10, 3) := by decide +kernel
theorem d3_18 : decode jdk_42_method_66_code 18 = .ok (.astore_n 2, 1) := by decide +kernel
theorem d3_19 : decode jdk_42_method_66_code 19 = .ok (.getstatic 38, 3) := by decide +kernel
theorem d3_22 : decode jdk_42_method_66_code 22 = .ok (.ifCond .eq 14, 3) := by decide +kernel
theorem d3_25 : decode jdk_42_method_66_code 25 = .ok (.aload_n 0, 1) := by decide +kernel
theorem d3_26 : decode jdk_42_method_66_code 26 = .ok (.getfield 15, 3) := by decide +kernel
theorem d3_29 : decode jdk_42_method_66_code 29 = .ok (.aload_n 2, 1) := by decide +kernel
theorem d3_30 : decode jdk_42_method_66_code 30 = .ok (.getfield 15, 3) := by decide +kernel
theorem d3_33 : decode jdk_42_method_66_code 33 = .ok (.if_icmp .ne 21, 3) := by decide +kernel
theorem d3_36 : decode jdk_42_method_66_code 36 = .ok (.aload_n 0, 1) := by decide +kernel
theorem d3_37 : decode jdk_42_method_66_code 37 = .ok (.getfield 9, 3) := by decide +kernel
theorem d3_40 : decode jdk_42_method_66_code 40 = .ok (.aload_n 2, 1) := by decide +kernel
theorem d3_41 : decode jdk_42_method_66_code 41 = .ok (.getfield 9, 3) := by decide +kernel
theorem d3_44 : decode jdk_42_method_66_code 44 = .ok (.invokestatic 541, 3) := by decide +kernel
theorem pd_11 : parseMethodDescriptor "([B[B)Z" = some ⟨[(.array .byte), (.array .byte)], some .boolean⟩ := by decide +kernel
theorem d3_47 : decode jdk_42_method_66_code 47 = .ok (.ifCond .eq 7, 3) := by decide +kernel
theorem d3_50 : decode jdk_42_method_66_code 50 = .ok (.iconst 1, 1) := by decide +kernel
theorem d3_51 : decode jdk_42_method_66_code 51 = .ok (.goto 4, 3) := by decide +kernel
theorem d3_55 : decode jdk_42_method_66_code 55 = .ok (.ireturn, 1) := by decide +kernel
theorem pn_2 : plainName "com/example/thangdiem/thangdiem/method/Formula$Comparison" = true := by first | (simp [plainName, overriddenIn]; done) | decide +kernel
theorem ef_2 (m : MethodId) (x0 : Addr) : entryFrame m #[(.ref x0)] 1 = mkF m 0 #[.val (.ref x0)] [] := by first | (simp [entryFrame, mkF, argsToLocals, Value.category]; done) | rfl
theorem d2_0 : decode prog_40_method_4_code 0 = .ok (.aload_n 0, 1) := by decide +kernel
theorem d2_1 : decode prog_40_method_4_code 1 = .ok (.getfield 32, 3) := by decide +kernel
theorem d2_4 : decode prog_40_method_4_code 4 = .ok (.areturn, 1) := by decide +kernel
theorem pn_1 : plainName "com/example/thangdiem/thangdiem/method/ComparisonHoldsPinLaw" = true := by first | (simp [plainName, overriddenIn]; done) | decide +kernel
theorem ef_1 (m : MethodId) (x0 : Addr) (x1 : Addr) (x2 : Int32) : entryFrame m #[(.ref x0), (.ref x1), (.int x2)] 6 = mkF m 0 #[.val (.ref x0), .val (.ref x1), .val (.int x2), .unset, .unset, .unset] [] := by first | (simp [entryFrame, mkF, argsToLocals, Value.category]; done) | rfl
theorem d1_0 : decode method_2_code 0 = .ok (.aload_n 0, 1) := by decide +kernel
theorem d1_1 : decode method_2_code 1 = .ok (.invokevirtual 7, 3) := by decide +kernel
theorem pd_2 : parseMethodDescriptor "()Ljava/lang/String;" = some ⟨[], some (.object "java/lang/String")⟩ := by decide +kernel
theorem d1_4 : decode method_2_code 4 = .ok (.astore_n 3, 1) := by decide +kernel
theorem d1_5 : decode method_2_code 5 = .ok (.aload_n 3, 1) := by decide +kernel
theorem d1_6 : decode method_2_code 6 = .ok (.aload_n 1, 1) := by decide +kernel
theorem d1_7 : decode method_2_code 7 = .ok (.invokevirtual 13, 3) := by decide +kernel
theorem pd_9 : parseMethodDescriptor "(Ljava/lang/Object;)Z" = some ⟨[(.object "java/lang/Object")], some .boolean⟩ := by decide +kernel
theorem d1_10 : decode method_2_code 10 = .ok (.ifCond .ne 5, 3) := by decide +kernel
theorem d1_15 : decode method_2_code 15 = .ok (.aload_n 3, 1) := by decide +kernel
theorem d1_16 : decode method_2_code 16 = .ok (.iconst 0, 1) := by decide +kernel
theorem d1_17 : decode method_2_code 17 = .ok (.invokevirtual 19, 3) := by decide +kernel
theorem pd_4 : parseMethodDescriptor "(I)C" = some ⟨[.int], some .char⟩ := by decide +kernel
theorem d1_20 : decode method_2_code 20 = .ok (.bipush 60, 2) := by decide +kernel
theorem d1_22 : decode method_2_code 22 = .ok (.if_icmp .ne 11, 3) := by decide +kernel
theorem d1_25 : decode method_2_code 25 = .ok (.iload_n 2, 1) := by decide +kernel
theorem d1_26 : decode method_2_code 26 = .ok (.ifCond .ge 7, 3) := by decide +kernel
theorem d1_29 : decode method_2_code 29 = .ok (.iconst 1, 1) := by decide +kernel
theorem d1_30 : decode method_2_code 30 = .ok (.goto 4, 3) := by decide +kernel
theorem d1_33 : decode method_2_code 33 = .ok (.iconst 0, 1) := by decide +kernel
theorem d1_34 : decode method_2_code 34 = .ok (.istore 4, 2) := by decide +kernel
theorem d1_36 : decode method_2_code 36 = .ok (.aload_n 3, 1) := by decide +kernel
theorem d1_37 : decode method_2_code 37 = .ok (.aload_n 3, 1) := by decide +kernel
theorem d1_38 : decode method_2_code 38 = .ok (.invokevirtual 23, 3) := by decide +kernel
theorem d1_41 : decode method_2_code 41 = .ok (.iconst 1, 1) := by decide +kernel
theorem d1_42 : decode method_2_code 42 = .ok (.isub, 1) := by decide +kernel
theorem d1_43 : decode method_2_code 43 = .ok (.invokevirtual 19, 3) := by decide +kernel
theorem d1_46 : decode method_2_code 46 = .ok (.bipush 61, 2) := by decide +kernel
theorem d1_48 : decode method_2_code 48 = .ok (.if_icmp .ne 11, 3) := by decide +kernel
theorem d1_51 : decode method_2_code 51 = .ok (.iload_n 2, 1) := by decide +kernel
theorem d1_52 : decode method_2_code 52 = .ok (.ifCond .ne 7, 3) := by decide +kernel
theorem d1_55 : decode method_2_code 55 = .ok (.iconst 1, 1) := by decide +kernel
theorem d1_56 : decode method_2_code 56 = .ok (.goto 4, 3) := by decide +kernel
theorem d1_59 : decode method_2_code 59 = .ok (.iconst 0, 1) := by decide +kernel
theorem d1_60 : decode method_2_code 60 = .ok (.istore 5, 2) := by decide +kernel
theorem d1_62 : decode method_2_code 62 = .ok (.aload_n 0, 1) := by decide +kernel
theorem d1_63 : decode method_2_code 63 = .ok (.iload_n 2, 1) := by decide +kernel
theorem d1_64 : decode method_2_code 64 = .ok (.invokevirtual 27, 3) := by decide +kernel
theorem pd_5 : parseMethodDescriptor "(I)Z" = some ⟨[.int], some .boolean⟩ := by decide +kernel
theorem d1_67 : decode method_2_code 67 = .ok (.iload 4, 2) := by decide +kernel
theorem d1_69 : decode method_2_code 69 = .ok (.ifCond .ne 8, 3) := by decide +kernel
theorem d1_72 : decode method_2_code 72 = .ok (.iload 5, 2) := by decide +kernel
theorem d1_74 : decode method_2_code 74 = .ok (.ifCond .eq 7, 3) := by decide +kernel
theorem d1_81 : decode method_2_code 81 = .ok (.iconst 0, 1) := by decide +kernel
theorem d1_77 : decode method_2_code 77 = .ok (.iconst 1, 1) := by decide +kernel
theorem d1_78 : decode method_2_code 78 = .ok (.goto 4, 3) := by decide +kernel
theorem d1_82 : decode method_2_code 82 = .ok (.if_icmp .ne 7, 3) := by decide +kernel
theorem d1_85 : decode method_2_code 85 = .ok (.iconst 1, 1) := by decide +kernel
theorem d1_86 : decode method_2_code 86 = .ok (.goto 4, 3) := by decide +kernel
theorem d1_90 : decode method_2_code 90 = .ok (.ireturn, 1) := by decide +kernel
theorem pn_0 : plainName "com/example/thangdiem/thangdiem/method/ComparisonHoldsPinLaw" = true := by first | (simp [plainName, overriddenIn]; done) | decide +kernel
theorem ef_0 (m : MethodId) (x0 : Int32) : entryFrame m #[(.int x0)] maxLocals = mkF m 0 #[.val (.int x0)] [] := by first | (simp [entryFrame, mkF, argsToLocals, Value.category, maxLocals]; done) | rfl
theorem pd_8 : parseMethodDescriptor "(Lcom/example/thangdiem/thangdiem/method/Formula$Comparison;Ljava/lang/String;I)Z" = some ⟨[(.object "com/example/thangdiem/thangdiem/method/Formula$Comparison"), (.object "java/lang/String"), .int], some .boolean⟩ := by decide +kernel
theorem own_lt {i n : Nat} (h : i < n) (hn : n ≤ 4096) : Int32.ofNat i < Int32.ofNat n := by
  rw [Int32.lt_iff_toInt_lt, Int32.toInt_ofNat_of_lt (by omega), Int32.toInt_ofNat_of_lt (by omega)]
  omega
theorem own_nn {n : Nat} (hn : n ≤ 4096) : ¬ Int32.ofNat n < 0 := by
  rw [Int32.lt_iff_toInt_lt, Int32.toInt_ofNat_of_lt (by omega), show (0 : Int32).toInt = 0 from rfl]
  omega
theorem own_n32 {n : Nat} (hn : n ≤ 4096) : (Int32.ofNat n).toNatClampNeg = n := by
  rw [Int32.toNatClampNeg, Int32.toInt_ofNat_of_lt (by omega)]; rfl
theorem own_one (i : Nat) : Int32.ofNat (i + 1) = Int32.ofNat i + (1 : Int32) := Int32.ofNat_add i 1
def own_A (Z : State) (h : Heap) (t : Addr) (n : Nat) (ty : FieldType) (f : Nat → Value) : Prop := ∃ cl : Cell, Arr Z h t cl ty ∧ cl.slots.size = n ∧ ∀ j, j < n → cl.slots[j]? = some (f j)
theorem own_A_ext {Z : State} {h h' : Heap} {t : Addr} {n : Nat} {ty : FieldType} {f : Nat → Value} (A : own_A Z h t n ty f) (E : Ext h h') : own_A Z h' t n ty f := by obtain ⟨cl, B, r⟩ := A; exact ⟨cl, B.ext E, r⟩
theorem own_A_other {Z : State} {h h' : Heap} {t a : Addr} {n sl : Nat} {v : Value} {ty : FieldType} {f : Nat → Value} (A : own_A Z h t n ty f) (W : Wr h h' a sl v) (q : t ≠ a) : own_A Z h' t n ty f := by obtain ⟨cl, B, r⟩ := A; exact ⟨cl, B.other W q, r⟩
theorem own_A_keep {Z : State} {h h' : Heap} {t : Addr} {n : Nat} {ty : FieldType} {f : Nat → Value} {ws : List Addr} (A : own_A Z h t n ty f) (K : Keep h h' ws) (q : t ∉ ws) : own_A Z h' t n ty f := by obtain ⟨cl, B, r⟩ := A; exact ⟨cl, ⟨K.2.1 t cl B.1 q, B.2⟩, r⟩
theorem own_A_lt {Z : State} {h : Heap} {t : Addr} {n : Nat} {ty : FieldType} {f : Nat → Value} (A : own_A Z h t n ty f) : t < h.size := by obtain ⟨cl, B, -⟩ := A; exact B.lt
theorem own_A_set {Z : State} {h h' : Heap} {t : Addr} {n : Nat} {ty : FieldType} {f : Nat → Value} {v : Value} {sl : Nat} (A : own_A Z h t n ty f) (W : Wr h h' t sl v) (k : Nat) (hk : sl = k) (hn : k < n) : own_A Z h' t n ty (fun i => if i = k then v else f i) := by
  subst hk
  obtain ⟨cl, B, S, H⟩ := A
  refine ⟨_, B.same W, by rw [sz_set]; exact S, fun i hi => ?_⟩
  show (cl.slots.setIfInBounds sl v)[i]? = some (if i = sl then v else f i)
  rw [Array.getElem?_setIfInBounds]
  by_cases q : sl = i
  · rw [if_pos q, if_pos (by rw [S]; exact hn), if_pos q.symm]
  · rw [if_neg q, if_neg (fun z => q z.symm)]; exact H i hi
theorem own_nar (x : Int32) : nar .byte (x.toInt8.toInt32) = x.toInt8.toInt32 := by show x.toInt8.toInt32.toInt8.toInt32 = _; simp
theorem own_setB {Z : State} {h h' : Heap} {t : Addr} {n : Nat} {g : Nat → Int32} {x : Int32} {sl : Nat} (A : own_A Z h t n .byte (fun i => .int (g i))) (W : Wr h h' t sl (.int (nar .byte (x.toInt8.toInt32)))) (k : Nat) (hk : sl = k) (hn : k < n) : own_A Z h' t n .byte (fun i => .int (if i = k then x.toInt8.toInt32 else g i)) := by
  obtain ⟨c3, B3, S3, H3⟩ := own_A_set A W k hk hn
  refine ⟨c3, B3, S3, fun i hi => ?_⟩
  rw [H3 i hi]
  dsimp only
  by_cases qq : i = k
  · rw [if_pos qq, if_pos qq, own_nar]
  · rw [if_neg qq, if_neg qq]
theorem own_setL {Z : State} {h h' : Heap} {t : Addr} {n : Nat} {g : Nat → Int64} {x : Int64} {sl : Nat} (A : own_A Z h t n .long (fun i => .long (g i))) (W : Wr h h' t sl (.long x)) (k : Nat) (hk : sl = k) (hn : k < n) : own_A Z h' t n .long (fun i => .long (if i = k then x else g i)) := by
  obtain ⟨c3, B3, S3, H3⟩ := own_A_set A W k hk hn
  refine ⟨c3, B3, S3, fun i hi => ?_⟩
  rw [H3 i hi]
  dsimp only
  by_cases qq : i = k
  · rw [if_pos qq, if_pos qq]
  · rw [if_neg qq, if_neg qq]
theorem own_fitL {Z : State} {h : Heap} {t : Addr} {cl : Cell} {n : Nat} {g : Nat → Int64} (B : Arr Z h t cl .long) (S : cl.slots.size = n) (H : ∀ j, j < n → cl.slots[j]? = some (.long (g j))) : FitC Z cl :=
  fitC_of B fun i hi v hv => by rw [H i (by rw [← S]; exact hi)] at hv; cases hv; rfl
theorem own_A_new {Z : State} {h : Heap} {t : Addr} {k : ClassId} {ty : FieldType} {z : Int32} {n : Nat} (V : Arv Z h t k ty z [] (defaultValue ty)) (hz : z.toNatClampNeg = n) : own_A Z h t n ty (fun _ => defaultValue ty) := by
  obtain ⟨cl, B, -, S, -, H, -⟩ := V
  exact ⟨cl, B, by rw [S, hz], fun j hj => by rw [H j (by rw [S, hz]; exact hj)]; rfl⟩
theorem own_in {cl : Cell} {n i : Nat} (S : cl.slots.size = n) (hi : i < n) (hn : n ≤ 4096) : ¬ (Int32.ofNat i < 0 ∨ cl.slots.size ≤ (Int32.ofNat i).toNatClampNeg) := by
  rw [S, own_n32 (by omega)]
  exact fun q => q.elim (own_nn (by omega)) (by omega)
theorem own_at {cl : Cell} {n i : Nat} {f : Nat → Value} (H : ∀ j, j < n → cl.slots[j]? = some (f j)) (hi : i < n) (hn : n ≤ 4096) : cl.slots[(Int32.ofNat i).toNatClampNeg]? = some (f i) := by
  rw [own_n32 (by omega)]; exact H i hi
def own_S (Z : State) (h : Heap) (a b : Addr) (n : Nat) (f : Nat → Int32) : Prop := Exa Z h a "java/lang/String" ∧ Fld Z h a "java/lang/String" "coder" "B" (.int (0 : Int32)) ∧ Fld Z h a "java/lang/String" "value" "[B" (.ref b) ∧ own_A Z h b n .byte (fun i => .int (f i))
theorem own_S_ext {Z : State} {h h' : Heap} {a b : Addr} {n : Nat} {f : Nat → Int32} (S : own_S Z h a b n f) (E : Ext h h') : own_S Z h' a b n f := ⟨S.1.ext E, S.2.1.ext E, S.2.2.1.ext E, own_A_ext S.2.2.2 E⟩
def own_ho (od p : Int32) : Int32 := if od = 0 then (if p < 0 then 1 else 0) else if od = 1 then (if 0 < p then 0 else 1) else (if p = 0 then 1 else 0)
def own_bl (c p : Int32) : Int32 := if c = 60 ∧ p < 0 then 1 else 0
def own_eq (c p : Int32) : Int32 := if c = 61 ∧ p = 0 then 1 else 0
def own_or (a b : Int32) : Int32 := if a = 0 ∧ b = 0 then 0 else 1
theorem own_shr0 (x : Int32) : x >>> ((0 : Int32) &&& 31) = x := by
  apply Int32.toInt_inj.mp
  rw [c_ishr x 0 0 (by decide)]
  simp
theorem own_ch {b : Int32} (h : b = 60 ∨ b = 61) : nar .char ((b &&& (255 : Int32)).toUInt32.toUInt16.toUInt32.toInt32) = b := by rcases h with rfl | rfl <;> rfl
theorem own_ch2 {b : Int32} (h : b = 60 ∨ b = 61) : nar .char b = b := by rcases h with rfl | rfl <;> rfl
theorem own_pred {n : Nat} (h : 1 ≤ n ∧ n ≤ 2) : Int32.ofNat n - (1 : Int32) = Int32.ofNat (n - 1) := by
  obtain ⟨h1, h2⟩ := h
  have : n = 1 ∨ n = 2 := by omega
  rcases this with rfl | rfl <;> rfl
theorem own_ofArv {Z : State} {h : Heap} {t : Addr} {k : ClassId} {z : Int32} {vs : List Value} {d : Value} {n : Nat} {f : Nat → Int32} (V : Arv Z h t k .byte z vs d) (hz : z.toNatClampNeg = n) (hv : ∀ i, i < n → vs.getD i d = .int (f i)) : own_A Z h t n .byte (fun i => .int (f i)) := by
  obtain ⟨cl, B, -, S, -, H, -⟩ := V
  exact ⟨cl, B, by rw [S, hz], fun j hj => by rw [H j (by rw [S, hz]; exact hj), hv j hj]⟩
theorem own_fin0 (p : Int32) : own_ho 0 p = own_or (own_bl 60 p) (own_eq 60 p) := by
  simp only [own_ho, own_or, own_bl, own_eq]
  by_cases h : p < 0 <;> simp [h]
theorem own_fin1 (p : Int32) : own_ho 1 p = own_or (own_bl 60 p) (own_eq 61 p) := by
  have k : ¬ 0 < p ↔ (p < 0 ∨ p = 0) := by
    simp only [Int32.lt_iff_toInt_lt, ← Int32.toInt_inj, Int32.reduceToInt]
    omega
  simp only [own_ho, own_or, own_bl, own_eq]
  by_cases h : p < 0
  · have q := k.mpr (Or.inl h)
    simp [h, q]
  · by_cases h2 : p = 0
    · subst h2; decide
    · have q : 0 < p := Classical.byContradiction fun z => (k.mp z).elim h h2
      simp [h, h2, q]
theorem own_fin2 (p : Int32) : own_ho 2 p = own_or (own_bl 61 p) (own_eq 61 p) := by
  simp only [own_ho, own_or, own_bl, own_eq]
  by_cases h : p = 0 <;> simp [h]
theorem own_eqi {args : Array Value} {s : State} {t : Term} {k : Int32} (h : (Cond.eq t (Term.int k)).value args s none s [] = some true) : t.eval args s none [] s = some (.int k) := by
  obtain ⟨x, y, hx, hy, -, hk⟩ := cmp_v (Or.inl h)
  cases (show (Term.int k).eval args s none [] s = some (.int k) from Term.int_eval k).symm.trans hy
  obtain ⟨z, rfl⟩ := hk
  have q : z = k := by simpa [Cond.value, hx, hy] using h
  rw [hx, q]
theorem own_length {args : Array Value} {s : State} {t : Term} {b : Addr} {cl : Cell} {n : Nat} (ev : t.eval args s none [] s = some (.ref b)) (A : Arr s s.heap b cl .byte) (h : (Cond.eq (Term.length t) (Term.int (Int32.ofNat n))).value args s none s [] = some true) (hn : n ≤ 2) : cl.slots.size = n := by
  have ha : s.arrayAt? b = some cl := A.fin (Vm.Alike.refl _)
  have e := own_eqi h
  by_cases hl : cl.slots.size < 2 ^ 31
  · rw [len_f ev ha hl] at e
    have q : cl.slots.size.toInt32 = Int32.ofNat n := by injection e with e; injection e
    have q2 := congrArg Int32.toInt q
    rw [len_toInt hl, Int32.toInt_ofNat_of_lt (by omega)] at q2
    omega
  · exfalso
    simp [Term.eval, ev, ha, hl] at e
theorem own_const {s : State} {args : Array Value} {t : Term} {n : Nat} {od : Int32} {f : Nat → Int32} {c : Addr} (ev : t.eval args s none [] s = some (.ref c)) (hn : n ≤ 2)
    (h2 : (Cond.exactly (Term.field t "com/example/thangdiem/thangdiem/method/Formula$Comparison" "sign" "Ljava/lang/String;") "java/lang/String").value args s none s [] = some true)
    (h3 : (Cond.eq (Term.field (Term.field t "com/example/thangdiem/thangdiem/method/Formula$Comparison" "sign" "Ljava/lang/String;") "java/lang/String" "coder" "B") (Term.int (0 : Int32))).value args s none s [] = some true)
    (h4 : (Cond.arrayOf (Term.field (Term.field t "com/example/thangdiem/thangdiem/method/Formula$Comparison" "sign" "Ljava/lang/String;") "java/lang/String" "value" "[B") .byte).value args s none s [] = some true)
    (h5 : (Cond.eq (Term.length (Term.field (Term.field t "com/example/thangdiem/thangdiem/method/Formula$Comparison" "sign" "Ljava/lang/String;") "java/lang/String" "value" "[B")) (Term.int (Int32.ofNat n))).value args s none s [] = some true)
    (h6 : ∀ i, i < n → (Cond.eq (Term.elem (Term.field (Term.field t "com/example/thangdiem/thangdiem/method/Formula$Comparison" "sign" "Ljava/lang/String;") "java/lang/String" "value" "[B") (Term.int (Int32.ofNat i))) (Term.int (f i))).value args s none s [] = some true)
    (h7 : (Cond.eq (Term.field t "java/lang/Enum" "ordinal" "I") (Term.int od)).value args s none s [] = some true) :
    ∃ sA sB : Addr, Fld s s.heap c "com/example/thangdiem/thangdiem/method/Formula$Comparison" "sign" "Ljava/lang/String;" (.ref sA) ∧ own_S s s.heap sA sB n f ∧ Fld s s.heap c "java/lang/Enum" "ordinal" "I" (.int od) := by
  obtain ⟨sA, e2⟩ := exa_v h2
  have F1 : Fld s s.heap c "com/example/thangdiem/thangdiem/method/Formula$Comparison" "sign" "Ljava/lang/String;" (.ref sA) := Fld.start (by rw [← e2]; exact (fld_at ev).symm)
  have F3 : Fld s s.heap sA "java/lang/String" "coder" "B" (.int (0 : Int32)) := Fld.start (by rw [← own_eqi h3]; exact (fld_at e2).symm)
  obtain ⟨sB, e4⟩ := arr_v h4
  obtain ⟨cl, A⟩ := Arr.start e4 h4
  have F4 : Fld s s.heap sA "java/lang/String" "value" "[B" (.ref sB) := Fld.start (by rw [← e4]; exact (fld_at e2).symm)
  have S := own_length e4 A h5 hn
  refine ⟨sA, sB, F1, ⟨Exa.start e2 h2, F3, F4, cl, A, S, fun j hj => ?_⟩, Fld.start (by rw [← own_eqi h7]; exact (fld_at ev).symm)⟩
  have q := (elem_in (own_eqi (h6 j hj)) e4 (Term.int_eval _) A.1).2
  rw [own_n32 (by omega)] at q
  exact q
def Q13 (Z : State) (a1 : Addr) (od : Int32) (h0 : Heap) (n0 : Nat) (v : Option Value) (h : Heap) (L : List Loc) : Prop := v = some (.int od) ∧ Fr n0 L ∧ h = h0
set_option maxRecDepth 65536 in
set_option maxHeartbeats 40000000 in
theorem rm13 (l : Launch) (Z : State) (a0 : Array Value) (hw : ∀ d ∈ tables_1, d.before a0 Z = true) (ws : List Jvm.Cond) (a1 : Addr) (od : Int32) (h0 : Heap) (n0 : Nat) (Z0 : n0 ≤ h0.size) (F1 : Fld Z h0 a1 "java/lang/Enum" "ordinal" "I" (.int od)) :
    MetFree l (⟨"java/lang/Enum", "ordinal", "()I"⟩ : MethodName) (head1 (Jvm.Cond.code (⟨"java/lang/Enum", "ordinal", "()I"⟩ : MethodName) jdk_37_method_2_code 1 (some .int) :: ws) ({ frames := 0, cells := 0, slots := 0, locals := 0 } : Room)) (fun a U => a = #[(.ref a1)] ∧ Z.Warmed39 U.vm ∧ U.heap = h0) (fun _ _ _ _ _ => True) (fun _ U oo U' => ∃ v L, oo = .returned v ∧ Q13 Z a1 od h0 n0 v U'.heap L ∧ FrameEnd U oo U' L ({ frames := 0, cells := 0, slots := 0, locals := 0 } : Room).cells ({ frames := 0, cells := 0, slots := 0, locals := 0 } : Room).slots) := by
  refine MetFree.of_bodySF (plainFor_of_name pn_13) hisR ?_
  intro p e s m args below meth c s₁ Bd hml0 hP hK
  obtain ⟨rfl, hZ, hh⟩ := hP
  have hx := Bd.exec
  have hby := Bd.bytes
  have hml : c.maxLocals = 1 := hml0
  have hown : s.vm.findClass "java/lang/Enum" = some m.cls := findClass_of_methodNamed Bd.named
  have hnm := (name_of_methodNamed Bd.named Bd.method).1
  have X0 : Stand p l e ({ frames := 0, cells := 0, slots := 0, locals := 0 } : Room) s m #[(.ref a1)] below meth c s₁ [] 0 0 := Stand.of_body Bd
  have e0 : s₁.heap = h0 := by rw [← hh, Bd.state]; rfl
  have N0 := Fr.nil n0
  have pre0 : ∀ t₀, Steps p.tables e below (s₁.setTop (mkF m 0 #[.val (.ref a1)] [])) t₀ → Steps p.tables e below (s₁.setTop (entryFrame m #[(.ref a1)] 1)) t₀ := fun t₀ k => castTop (ef_13 m a1) k
  have sg1 : ∀ t₀, Steps p.tables e below (s₁.setTop (mkF m 1 #[.val (.ref a1)] [(.ref a1)])) t₀ → Steps p.tables e below (s₁.setTop (mkF m 0 #[.val (.ref a1)] [])) t₀ := by
    intro t₀ kt
    show Steps p.tables e below (s₁.setTop (mkF m 0 #[.val (.ref a1)] [])) _
    refine XS.aloadN X0.here hx rfl (hb hby d13_0) rfl rfl ?_
    exact kt
  obtain ⟨T2, X2, e2, st2⟩ := getF X0 hx hZ hown (host := "") (Or.inl (hw _ (List.mem_of_getElem? (i := 79) rfl))) Via.refl e0 F1 (g := (mkF m 1 #[.val (.ref a1)] [(.ref a1)])) rfl rfl (hb hby d13_1)
  obtain ⟨fs, hr, hrun, hended, hW, hsame⟩ := X2.leave (v := some (.int od)) (fun h => by rw [Bd.returns] at h; cases h)
  refine ⟨_, _, pre0 _ ?_, hrun, hended, _, _, rfl, ?_, ⟨_, rfl⟩, hW, hsame.mono (by decide) (by decide)⟩
  · exact sg1 _ (st2 _ ((retI X2 hx Bd.returns (hb hby d13_4) hr)))
  · show Q13 Z a1 od h0 n0 _ T2.heap _
    rw [e2]
    exact ⟨rfl, N0, rfl⟩
def Q12 (Z : State) (a1 : Addr) (p2 : Int32) (od : Int32) (h0 : Heap) (n0 : Nat) (v : Option Value) (h : Heap) (L : List Loc) : Prop := v = some (.int (own_ho od p2)) ∧ Fr n0 L ∧ h = h0
set_option maxRecDepth 65536 in
set_option maxHeartbeats 40000000 in
theorem rm12 (l : Launch) (Z : State) (a0 : Array Value) (hw : ∀ d ∈ tables_1, d.before a0 Z = true) (ws : List Jvm.Cond) (a1 : Addr) (p2 : Int32) (od : Int32) (h0 : Heap) (n0 : Nat) (Z0 : n0 ≤ h0.size) (E1 : Exa Z h0 a1 "com/example/thangdiem/thangdiem/method/Formula$Comparison") (F1 : Fld Z h0 a1 "java/lang/Enum" "ordinal" "I" (.int od)) (ho : od = 0 ∨ od = 1 ∨ od = 2) :
    MetFree l (⟨"com/example/thangdiem/thangdiem/method/Formula$Comparison", "holds", "(I)Z"⟩ : MethodName) (head1 (Jvm.Cond.code (⟨"com/example/thangdiem/thangdiem/method/Formula$Comparison", "holds", "(I)Z"⟩ : MethodName) prog_40_method_6_code 2 (some .boolean) :: ws) ({ frames := 1, cells := 0, slots := 0, locals := 12 } : Room)) (fun a U => a = #[(.ref a1), (.int p2)] ∧ Z.Warmed39 U.vm ∧ U.heap = h0) (fun _ _ _ _ _ => True) (fun _ U oo U' => ∃ v L, oo = .returned v ∧ Q12 Z a1 p2 od h0 n0 v U'.heap L ∧ FrameEnd U oo U' L ({ frames := 1, cells := 0, slots := 0, locals := 12 } : Room).cells ({ frames := 1, cells := 0, slots := 0, locals := 12 } : Room).slots) := by
  refine MetFree.of_bodySF (plainFor_of_name pn_12) hisR ?_
  intro p e s m args below meth c s₁ Bd hml0 hP hK
  obtain ⟨rfl, hZ, hh⟩ := hP
  have hx := Bd.exec
  have hby := Bd.bytes
  have hml : c.maxLocals = 2 := hml0
  have hown : s.vm.findClass "com/example/thangdiem/thangdiem/method/Formula$Comparison" = some m.cls := findClass_of_methodNamed Bd.named
  have hnm := (name_of_methodNamed Bd.named Bd.method).1
  have X0 : Stand p l e ({ frames := 1, cells := 0, slots := 0, locals := 12 } : Room) s m #[(.ref a1), (.int p2)] below meth c s₁ [] 0 0 := Stand.of_body Bd
  have e0 : s₁.heap = h0 := by rw [← hh, Bd.state]; rfl
  have N0 := Fr.nil n0
  have pre0 : ∀ t₀, Steps p.tables e below (s₁.setTop (mkF m 0 #[.val (.ref a1), .val (.int p2)] [])) t₀ → Steps p.tables e below (s₁.setTop (entryFrame m #[(.ref a1), (.int p2)] 2)) t₀ := fun t₀ k => castTop (ef_12 m a1 p2) k
  have sg1 : ∀ t₀, Steps p.tables e below (s₁.setTop (mkF m 1 #[.val (.ref a1), .val (.int p2)] [(.ref a1)])) t₀ → Steps p.tables e below (s₁.setTop (mkF m 0 #[.val (.ref a1), .val (.int p2)] [])) t₀ := by
    intro t₀ kt
    show Steps p.tables e below (s₁.setTop (mkF m 0 #[.val (.ref a1), .val (.int p2)] [])) _
    refine XS.aloadN X0.here hx rfl (hb hby d12_0) rfl rfl ?_
    exact kt
  obtain ⟨cq2, kq2, q2a, q2b, q2c⟩ := isOf hZ e0 E1
  obtain ⟨_, _, ⟨T2, L2, k2, n2⟩, -, X2, ⟨Lc2, hQ2, l2, y2, z2⟩, st2⟩ := X0.virtualBackUp hx (x := (⟨"com/example/thangdiem/thangdiem/method/Formula$Comparison", "ordinal", "()I"⟩ : MethodName)) (y := (⟨"java/lang/Enum", "ordinal", "()I"⟩ : MethodName)) hown (mvT hZ (hw _ (List.mem_of_getElem? (i := 72) rfl))) (mvT hZ (hw _ (List.mem_of_getElem? (i := 73) rfl))) (mvT hZ (hw _ (List.mem_of_getElem? (i := 74) rfl))) (by decide) (mvT hZ (hw _ (List.mem_of_getElem? (i := 76) rfl))) (mvT hZ (hw _ (List.mem_of_getElem? (i := 75) rfl))) (backOf (W := 0) (rm13 l Z a0 hw [] a1 od h0 n0 Z0 F1) hZ (hw _ (List.mem_of_getElem? (i := 78) rfl)) (hw _ (List.mem_of_getElem? (i := 77) rfl)) (by decide) (by decide)) q2a q2c (g := (mkF m 1 #[.val (.ref a1), .val (.int p2)] [(.ref a1)])) rfl (by rw [hml]; rfl) (Steps.refl _) (argsL := []) (rest := []) (lenOf pd_1 rfl) rfl (by show 2 * 0 + _ ≤ _; exact Nat.le_of_eq rfl) (hb hby d12_1) (fun _ _ => ⟨rfl, e0, (by decide : 0 + 0 ≤ _), (by decide : 0 + 0 ≤ _)⟩)
  dsimp only [Pt.U, Pt.locs, Pt.cells, Pt.slots] at X2 l2 y2 z2 st2 hQ2
  subst l2 y2 z2
  obtain ⟨rfl, N2q, hh2⟩ := hQ2
  have N2 := Fr.app N0 N2q
  rcases ho with rfl | rfl | rfl
  · have sg3 : ∀ t₀, Steps p.tables e below (T2.setTop (mkF m 43 #[.val (.ref a1), .val (.int p2)] [(.int p2)])) t₀ → Steps p.tables e below (T2.setTop (mkF m 4 #[.val (.ref a1), .val (.int p2)] [(.int (0 : Int32))])) t₀ := by
      intro t₀ kt
      show Steps p.tables e below (T2.setTop (mkF m 4 #[.val (.ref a1), .val (.int p2)] [(.int (0 : Int32))])) _
      refine XS.tswIn X2.here hx rfl (pc0 := 4) (pc' := 42) rfl (hb hby d12_4) rfl (by decide) rfl (by decide) (by decide) ?_
      show Steps p.tables e below (T2.setTop (mkF m 42 #[.val (.ref a1), .val (.int p2)] [])) _
      refine XS.iloadN X2.here hx rfl (hb hby d12_42) rfl ?_
      exact kt
    by_cases hq9 : p2 < (0 : Int32)
    · have sg4 : ∀ t₀, Steps p.tables e below (T2.setTop (mkF m 75 #[.val (.ref a1), .val (.int p2)] [(.int (1 : Int32))])) t₀ → Steps p.tables e below (T2.setTop (mkF m 43 #[.val (.ref a1), .val (.int p2)] [(.int p2)])) t₀ := by
        intro t₀ kt
        show Steps p.tables e below (T2.setTop (mkF m 43 #[.val (.ref a1), .val (.int p2)] [(.int p2)])) _
        refine XS.ifNo X2.here hx rfl (hb hby d12_43) rfl ((if0 _ _).trans (tlt hq9).2.1) ?_
        show Steps p.tables e below (T2.setTop (mkF m 46 #[.val (.ref a1), .val (.int p2)] [])) _
        refine XS.iconst X2.here hx rfl (hb hby d12_46) ?_
        show Steps p.tables e below (T2.setTop (mkF m 47 #[.val (.ref a1), .val (.int p2)] [(.int (1 : Int32))])) _
        refine XS.goto X2.here hx rfl (pc0 := 47) (pc' := 75) rfl (hb hby d12_47) (by decide) (by decide) ?_
        exact kt
      obtain ⟨fs, hr, hrun, hended, hW, hsame⟩ := X2.leave (v := some (.int (1 : Int32))) (fun h => by rw [Bd.returns] at h; cases h)
      refine ⟨_, _, pre0 _ ?_, hrun, hended, _, _, rfl, ?_, ⟨_, rfl⟩, hW, hsame.mono (by decide) (by decide)⟩
      · exact sg1 _ (st2.trans (sg3 _ (sg4 _ ((retN X2 hx (t := .boolean) Bd.returns (by simp) (hb hby d12_75) hr)))))
      · show Q12 Z a1 p2 (0 : Int32) h0 n0 _ T2.heap _
        rw [hh2]
        exact ⟨by simp [own_ho, hq9], N2, rfl⟩
    · have sg5 : ∀ t₀, Steps p.tables e below (T2.setTop (mkF m 75 #[.val (.ref a1), .val (.int p2)] [(.int (0 : Int32))])) t₀ → Steps p.tables e below (T2.setTop (mkF m 43 #[.val (.ref a1), .val (.int p2)] [(.int p2)])) t₀ := by
        intro t₀ kt
        show Steps p.tables e below (T2.setTop (mkF m 43 #[.val (.ref a1), .val (.int p2)] [(.int p2)])) _
        refine XS.ifYes X2.here hx rfl (pc0 := 43) (pc' := 50) rfl (hb hby d12_43) rfl ((if0 _ _).trans (flt hq9).2.1) (by decide) (by decide) ?_
        show Steps p.tables e below (T2.setTop (mkF m 50 #[.val (.ref a1), .val (.int p2)] [])) _
        refine XS.iconst X2.here hx rfl (hb hby d12_50) ?_
        show Steps p.tables e below (T2.setTop (mkF m 51 #[.val (.ref a1), .val (.int p2)] [(.int (0 : Int32))])) _
        refine XS.goto X2.here hx rfl (pc0 := 51) (pc' := 75) rfl (hb hby d12_51) (by decide) (by decide) ?_
        exact kt
      obtain ⟨fs, hr, hrun, hended, hW, hsame⟩ := X2.leave (v := some (.int (0 : Int32))) (fun h => by rw [Bd.returns] at h; cases h)
      refine ⟨_, _, pre0 _ ?_, hrun, hended, _, _, rfl, ?_, ⟨_, rfl⟩, hW, hsame.mono (by decide) (by decide)⟩
      · exact sg1 _ (st2.trans (sg3 _ (sg5 _ ((retN X2 hx (t := .boolean) Bd.returns (by simp) (hb hby d12_75) hr)))))
      · show Q12 Z a1 p2 (0 : Int32) h0 n0 _ T2.heap _
        rw [hh2]
        exact ⟨by simp [own_ho, hq9], N2, rfl⟩
  · have sg6 : ∀ t₀, Steps p.tables e below (T2.setTop (mkF m 55 #[.val (.ref a1), .val (.int p2)] [(.int p2)])) t₀ → Steps p.tables e below (T2.setTop (mkF m 4 #[.val (.ref a1), .val (.int p2)] [(.int (1 : Int32))])) t₀ := by
      intro t₀ kt
      show Steps p.tables e below (T2.setTop (mkF m 4 #[.val (.ref a1), .val (.int p2)] [(.int (1 : Int32))])) _
      refine XS.tswIn X2.here hx rfl (pc0 := 4) (pc' := 54) rfl (hb hby d12_4) rfl (by decide) rfl (by decide) (by decide) ?_
      show Steps p.tables e below (T2.setTop (mkF m 54 #[.val (.ref a1), .val (.int p2)] [])) _
      refine XS.iloadN X2.here hx rfl (hb hby d12_54) rfl ?_
      exact kt
    by_cases hq9 : (0 : Int32) < p2
    · have sg7 : ∀ t₀, Steps p.tables e below (T2.setTop (mkF m 75 #[.val (.ref a1), .val (.int p2)] [(.int (0 : Int32))])) t₀ → Steps p.tables e below (T2.setTop (mkF m 55 #[.val (.ref a1), .val (.int p2)] [(.int p2)])) t₀ := by
        intro t₀ kt
        show Steps p.tables e below (T2.setTop (mkF m 55 #[.val (.ref a1), .val (.int p2)] [(.int p2)])) _
        refine XS.ifYes X2.here hx rfl (pc0 := 55) (pc' := 62) rfl (hb hby d12_55) rfl ((if0 _ _).trans (tlt hq9).2.2.1) (by decide) (by decide) ?_
        show Steps p.tables e below (T2.setTop (mkF m 62 #[.val (.ref a1), .val (.int p2)] [])) _
        refine XS.iconst X2.here hx rfl (hb hby d12_62) ?_
        show Steps p.tables e below (T2.setTop (mkF m 63 #[.val (.ref a1), .val (.int p2)] [(.int (0 : Int32))])) _
        refine XS.goto X2.here hx rfl (pc0 := 63) (pc' := 75) rfl (hb hby d12_63) (by decide) (by decide) ?_
        exact kt
      obtain ⟨fs, hr, hrun, hended, hW, hsame⟩ := X2.leave (v := some (.int (0 : Int32))) (fun h => by rw [Bd.returns] at h; cases h)
      refine ⟨_, _, pre0 _ ?_, hrun, hended, _, _, rfl, ?_, ⟨_, rfl⟩, hW, hsame.mono (by decide) (by decide)⟩
      · exact sg1 _ (st2.trans (sg6 _ (sg7 _ ((retN X2 hx (t := .boolean) Bd.returns (by simp) (hb hby d12_75) hr)))))
      · show Q12 Z a1 p2 (1 : Int32) h0 n0 _ T2.heap _
        rw [hh2]
        exact ⟨by simp [own_ho, hq9], N2, rfl⟩
    · have sg8 : ∀ t₀, Steps p.tables e below (T2.setTop (mkF m 75 #[.val (.ref a1), .val (.int p2)] [(.int (1 : Int32))])) t₀ → Steps p.tables e below (T2.setTop (mkF m 55 #[.val (.ref a1), .val (.int p2)] [(.int p2)])) t₀ := by
        intro t₀ kt
        show Steps p.tables e below (T2.setTop (mkF m 55 #[.val (.ref a1), .val (.int p2)] [(.int p2)])) _
        refine XS.ifNo X2.here hx rfl (hb hby d12_55) rfl ((if0 _ _).trans (flt hq9).2.2.1) ?_
        show Steps p.tables e below (T2.setTop (mkF m 58 #[.val (.ref a1), .val (.int p2)] [])) _
        refine XS.iconst X2.here hx rfl (hb hby d12_58) ?_
        show Steps p.tables e below (T2.setTop (mkF m 59 #[.val (.ref a1), .val (.int p2)] [(.int (1 : Int32))])) _
        refine XS.goto X2.here hx rfl (pc0 := 59) (pc' := 75) rfl (hb hby d12_59) (by decide) (by decide) ?_
        exact kt
      obtain ⟨fs, hr, hrun, hended, hW, hsame⟩ := X2.leave (v := some (.int (1 : Int32))) (fun h => by rw [Bd.returns] at h; cases h)
      refine ⟨_, _, pre0 _ ?_, hrun, hended, _, _, rfl, ?_, ⟨_, rfl⟩, hW, hsame.mono (by decide) (by decide)⟩
      · exact sg1 _ (st2.trans (sg6 _ (sg8 _ ((retN X2 hx (t := .boolean) Bd.returns (by simp) (hb hby d12_75) hr)))))
      · show Q12 Z a1 p2 (1 : Int32) h0 n0 _ T2.heap _
        rw [hh2]
        exact ⟨by simp [own_ho, hq9], N2, rfl⟩
  · have sg9 : ∀ t₀, Steps p.tables e below (T2.setTop (mkF m 67 #[.val (.ref a1), .val (.int p2)] [(.int p2)])) t₀ → Steps p.tables e below (T2.setTop (mkF m 4 #[.val (.ref a1), .val (.int p2)] [(.int (2 : Int32))])) t₀ := by
      intro t₀ kt
      show Steps p.tables e below (T2.setTop (mkF m 4 #[.val (.ref a1), .val (.int p2)] [(.int (2 : Int32))])) _
      refine XS.tswIn X2.here hx rfl (pc0 := 4) (pc' := 66) rfl (hb hby d12_4) rfl (by decide) rfl (by decide) (by decide) ?_
      show Steps p.tables e below (T2.setTop (mkF m 66 #[.val (.ref a1), .val (.int p2)] [])) _
      refine XS.iloadN X2.here hx rfl (hb hby d12_66) rfl ?_
      exact kt
    by_cases hq9 : p2 = (0 : Int32)
    · have sg10 : ∀ t₀, Steps p.tables e below (T2.setTop (mkF m 75 #[.val (.ref a1), .val (.int p2)] [(.int (1 : Int32))])) t₀ → Steps p.tables e below (T2.setTop (mkF m 67 #[.val (.ref a1), .val (.int p2)] [(.int p2)])) t₀ := by
        intro t₀ kt
        show Steps p.tables e below (T2.setTop (mkF m 67 #[.val (.ref a1), .val (.int p2)] [(.int p2)])) _
        refine XS.ifNo X2.here hx rfl (hb hby d12_67) rfl ((if0 _ _).trans (teq hq9).2) ?_
        show Steps p.tables e below (T2.setTop (mkF m 70 #[.val (.ref a1), .val (.int p2)] [])) _
        refine XS.iconst X2.here hx rfl (hb hby d12_70) ?_
        show Steps p.tables e below (T2.setTop (mkF m 71 #[.val (.ref a1), .val (.int p2)] [(.int (1 : Int32))])) _
        refine XS.goto X2.here hx rfl (pc0 := 71) (pc' := 75) rfl (hb hby d12_71) (by decide) (by decide) ?_
        exact kt
      obtain ⟨fs, hr, hrun, hended, hW, hsame⟩ := X2.leave (v := some (.int (1 : Int32))) (fun h => by rw [Bd.returns] at h; cases h)
      refine ⟨_, _, pre0 _ ?_, hrun, hended, _, _, rfl, ?_, ⟨_, rfl⟩, hW, hsame.mono (by decide) (by decide)⟩
      · exact sg1 _ (st2.trans (sg9 _ (sg10 _ ((retN X2 hx (t := .boolean) Bd.returns (by simp) (hb hby d12_75) hr)))))
      · show Q12 Z a1 p2 (2 : Int32) h0 n0 _ T2.heap _
        rw [hh2]
        exact ⟨by simp [own_ho, hq9], N2, rfl⟩
    · have sg11 : ∀ t₀, Steps p.tables e below (T2.setTop (mkF m 75 #[.val (.ref a1), .val (.int p2)] [(.int (0 : Int32))])) t₀ → Steps p.tables e below (T2.setTop (mkF m 67 #[.val (.ref a1), .val (.int p2)] [(.int p2)])) t₀ := by
        intro t₀ kt
        show Steps p.tables e below (T2.setTop (mkF m 67 #[.val (.ref a1), .val (.int p2)] [(.int p2)])) _
        refine XS.ifYes X2.here hx rfl (pc0 := 67) (pc' := 74) rfl (hb hby d12_67) rfl ((if0 _ _).trans (feq hq9).2) (by decide) (by decide) ?_
        show Steps p.tables e below (T2.setTop (mkF m 74 #[.val (.ref a1), .val (.int p2)] [])) _
        refine XS.iconst X2.here hx rfl (hb hby d12_74) ?_
        exact kt
      obtain ⟨fs, hr, hrun, hended, hW, hsame⟩ := X2.leave (v := some (.int (0 : Int32))) (fun h => by rw [Bd.returns] at h; cases h)
      refine ⟨_, _, pre0 _ ?_, hrun, hended, _, _, rfl, ?_, ⟨_, rfl⟩, hW, hsame.mono (by decide) (by decide)⟩
      · exact sg1 _ (st2.trans (sg9 _ (sg11 _ ((retN X2 hx (t := .boolean) Bd.returns (by simp) (hb hby d12_75) hr)))))
      · show Q12 Z a1 p2 (2 : Int32) h0 n0 _ T2.heap _
        rw [hh2]
        exact ⟨by simp [own_ho, hq9], N2, rfl⟩
def Q11 (Z : State) (a1 : Addr) (zc : Int32) (h0 : Heap) (n0 : Nat) (v : Option Value) (h : Heap) (L : List Loc) : Prop := v = some (.int (0 : Int32)) ∧ Fr n0 L ∧ h = h0
set_option maxRecDepth 65536 in
set_option maxHeartbeats 40000000 in
theorem rm11 (l : Launch) (Z : State) (a0 : Array Value) (hw : ∀ d ∈ tables_1, d.before a0 Z = true) (ws : List Jvm.Cond) (a1 : Addr) (zc : Int32) (h0 : Heap) (n0 : Nat) (Z0 : n0 ≤ h0.size) (F1 : Fld Z h0 a1 "java/lang/String" "coder" "B" (.int (0 : Int32))) (S1 : Sta Z h0 "java/lang/String" "COMPACT_STRINGS" "Z" (.int zc)) (hz : ¬ zc = (0 : Int32)) :
    MetFree l (⟨"java/lang/String", "coder", "()B"⟩ : MethodName) (head1 (Jvm.Cond.code (⟨"java/lang/String", "coder", "()B"⟩ : MethodName) jdk_42_method_152_code 1 (some .byte) :: ws) ({ frames := 0, cells := 0, slots := 0, locals := 0 } : Room)) (fun a U => a = #[(.ref a1)] ∧ Z.Warmed39 U.vm ∧ U.heap = h0) (fun _ _ _ _ _ => True) (fun _ U oo U' => ∃ v L, oo = .returned v ∧ Q11 Z a1 zc h0 n0 v U'.heap L ∧ FrameEnd U oo U' L ({ frames := 0, cells := 0, slots := 0, locals := 0 } : Room).cells ({ frames := 0, cells := 0, slots := 0, locals := 0 } : Room).slots) := by
  refine MetFree.of_bodySF (plainFor_of_name pn_11) hisR ?_
  intro p e s m args below meth c s₁ Bd hml0 hP hK
  obtain ⟨rfl, hZ, hh⟩ := hP
  have hx := Bd.exec
  have hby := Bd.bytes
  have hml : c.maxLocals = 1 := hml0
  have hown : s.vm.findClass "java/lang/String" = some m.cls := findClass_of_methodNamed Bd.named
  have hnm := (name_of_methodNamed Bd.named Bd.method).1
  have X0 : Stand p l e ({ frames := 0, cells := 0, slots := 0, locals := 0 } : Room) s m #[(.ref a1)] below meth c s₁ [] 0 0 := Stand.of_body Bd
  have e0 : s₁.heap = h0 := by rw [← hh, Bd.state]; rfl
  have N0 := Fr.nil n0
  have pre0 : ∀ t₀, Steps p.tables e below (s₁.setTop (mkF m 0 #[.val (.ref a1)] [])) t₀ → Steps p.tables e below (s₁.setTop (entryFrame m #[(.ref a1)] 1)) t₀ := fun t₀ k => castTop (ef_11 m a1) k
  obtain ⟨T2, X2, e2, st2⟩ := getS2 X0 hx hZ hown (host := "") (Or.inl (hw _ (List.mem_of_getElem? (i := 29) rfl))) Via.refl e0 S1 (g := (mkF m 0 #[.val (.ref a1)] [])) rfl (hb hby d11_0)
  have sg3 : ∀ t₀, Steps p.tables e below (T2.setTop (mkF m 7 #[.val (.ref a1)] [(.ref a1)])) t₀ → Steps p.tables e below (T2.setTop (mkF m 3 #[.val (.ref a1)] [(.int zc)])) t₀ := by
    intro t₀ kt
    show Steps p.tables e below (T2.setTop (mkF m 3 #[.val (.ref a1)] [(.int zc)])) _
    refine XS.ifNo X2.here hx rfl (hb hby d11_3) rfl ((if0 _ _).trans (feq hz).1) ?_
    show Steps p.tables e below (T2.setTop (mkF m 6 #[.val (.ref a1)] [])) _
    refine XS.aloadN X2.here hx rfl (hb hby d11_6) rfl rfl ?_
    exact kt
  obtain ⟨T4, X4, e4, st4⟩ := getF X2 hx hZ hown (host := "") (Or.inl (hw _ (List.mem_of_getElem? (i := 30) rfl))) Via.refl e2 F1 (g := (mkF m 7 #[.val (.ref a1)] [(.ref a1)])) rfl rfl (hb hby d11_7)
  have sg5 : ∀ t₀, Steps p.tables e below (T4.setTop (mkF m 14 #[.val (.ref a1)] [(.int (0 : Int32))])) t₀ → Steps p.tables e below (T4.setTop (mkF m 10 #[.val (.ref a1)] [(.int (0 : Int32))])) t₀ := by
    intro t₀ kt
    show Steps p.tables e below (T4.setTop (mkF m 10 #[.val (.ref a1)] [(.int (0 : Int32))])) _
    refine XS.goto X4.here hx rfl (pc0 := 10) (pc' := 14) rfl (hb hby d11_10) (by decide) (by decide) ?_
    exact kt
  obtain ⟨fs, hr, hrun, hended, hW, hsame⟩ := X4.leave (v := some (.int (0 : Int32))) (fun h => by rw [Bd.returns] at h; cases h)
  refine ⟨_, _, pre0 _ ?_, hrun, hended, _, _, rfl, ?_, ⟨_, rfl⟩, hW, hsame.mono (by decide) (by decide)⟩
  · exact st2 _ (sg3 _ (st4 _ (sg5 _ ((retN X4 hx (t := .byte) Bd.returns (by simp) (hb hby d11_14) hr)))))
  · show Q11 Z a1 zc h0 n0 _ T4.heap _
    rw [e4]
    exact ⟨rfl, N0, rfl⟩
def Q6 (Z : State) (a1 : Addr) (zc : Int32) (h0 : Heap) (n0 : Nat) (v : Option Value) (h : Heap) (L : List Loc) : Prop := v = some (.int (1 : Int32)) ∧ Fr n0 L ∧ h = h0
set_option maxRecDepth 65536 in
set_option maxHeartbeats 40000000 in
theorem rm6 (l : Launch) (Z : State) (a0 : Array Value) (hw : ∀ d ∈ tables_1, d.before a0 Z = true) (ws : List Jvm.Cond) (a1 : Addr) (zc : Int32) (h0 : Heap) (n0 : Nat) (Z0 : n0 ≤ h0.size) (F1 : Fld Z h0 a1 "java/lang/String" "coder" "B" (.int (0 : Int32))) (S1 : Sta Z h0 "java/lang/String" "COMPACT_STRINGS" "Z" (.int zc)) (hz : ¬ zc = (0 : Int32)) :
    MetFree l (⟨"java/lang/String", "isLatin1", "()Z"⟩ : MethodName) (head1 (Jvm.Cond.code (⟨"java/lang/String", "isLatin1", "()Z"⟩ : MethodName) jdk_42_method_154_code 1 (some .boolean) :: ws) ({ frames := 0, cells := 0, slots := 0, locals := 0 } : Room)) (fun a U => a = #[(.ref a1)] ∧ Z.Warmed39 U.vm ∧ U.heap = h0) (fun _ _ _ _ _ => True) (fun _ U oo U' => ∃ v L, oo = .returned v ∧ Q6 Z a1 zc h0 n0 v U'.heap L ∧ FrameEnd U oo U' L ({ frames := 0, cells := 0, slots := 0, locals := 0 } : Room).cells ({ frames := 0, cells := 0, slots := 0, locals := 0 } : Room).slots) := by
  refine MetFree.of_bodySF (plainFor_of_name pn_6) hisR ?_
  intro p e s m args below meth c s₁ Bd hml0 hP hK
  obtain ⟨rfl, hZ, hh⟩ := hP
  have hx := Bd.exec
  have hby := Bd.bytes
  have hml : c.maxLocals = 1 := hml0
  have hown : s.vm.findClass "java/lang/String" = some m.cls := findClass_of_methodNamed Bd.named
  have hnm := (name_of_methodNamed Bd.named Bd.method).1
  have X0 : Stand p l e ({ frames := 0, cells := 0, slots := 0, locals := 0 } : Room) s m #[(.ref a1)] below meth c s₁ [] 0 0 := Stand.of_body Bd
  have e0 : s₁.heap = h0 := by rw [← hh, Bd.state]; rfl
  have N0 := Fr.nil n0
  have pre0 : ∀ t₀, Steps p.tables e below (s₁.setTop (mkF m 0 #[.val (.ref a1)] [])) t₀ → Steps p.tables e below (s₁.setTop (entryFrame m #[(.ref a1)] 1)) t₀ := fun t₀ k => castTop (ef_6 m a1) k
  obtain ⟨T2, X2, e2, st2⟩ := getS2 X0 hx hZ hown (host := "") (Or.inl (hw _ (List.mem_of_getElem? (i := 29) rfl))) Via.refl e0 S1 (g := (mkF m 0 #[.val (.ref a1)] [])) rfl (hb hby d6_0)
  have sg3 : ∀ t₀, Steps p.tables e below (T2.setTop (mkF m 7 #[.val (.ref a1)] [(.ref a1)])) t₀ → Steps p.tables e below (T2.setTop (mkF m 3 #[.val (.ref a1)] [(.int zc)])) t₀ := by
    intro t₀ kt
    show Steps p.tables e below (T2.setTop (mkF m 3 #[.val (.ref a1)] [(.int zc)])) _
    refine XS.ifNo X2.here hx rfl (hb hby d6_3) rfl ((if0 _ _).trans (feq hz).1) ?_
    show Steps p.tables e below (T2.setTop (mkF m 6 #[.val (.ref a1)] [])) _
    refine XS.aloadN X2.here hx rfl (hb hby d6_6) rfl rfl ?_
    exact kt
  obtain ⟨T4, X4, e4, st4⟩ := getF X2 hx hZ hown (host := "") (Or.inl (hw _ (List.mem_of_getElem? (i := 30) rfl))) Via.refl e2 F1 (g := (mkF m 7 #[.val (.ref a1)] [(.ref a1)])) rfl rfl (hb hby d6_7)
  have sg5 : ∀ t₀, Steps p.tables e below (T4.setTop (mkF m 18 #[.val (.ref a1)] [(.int (1 : Int32))])) t₀ → Steps p.tables e below (T4.setTop (mkF m 10 #[.val (.ref a1)] [(.int (0 : Int32))])) t₀ := by
    intro t₀ kt
    show Steps p.tables e below (T4.setTop (mkF m 10 #[.val (.ref a1)] [(.int (0 : Int32))])) _
    refine XS.ifNo X4.here hx rfl (hb hby d6_10) rfl ((if0 _ _).trans (teq (by decide : (0 : Int32) = (0 : Int32))).2) ?_
    show Steps p.tables e below (T4.setTop (mkF m 13 #[.val (.ref a1)] [])) _
    refine XS.iconst X4.here hx rfl (hb hby d6_13) ?_
    show Steps p.tables e below (T4.setTop (mkF m 14 #[.val (.ref a1)] [(.int (1 : Int32))])) _
    refine XS.goto X4.here hx rfl (pc0 := 14) (pc' := 18) rfl (hb hby d6_14) (by decide) (by decide) ?_
    exact kt
  obtain ⟨fs, hr, hrun, hended, hW, hsame⟩ := X4.leave (v := some (.int (1 : Int32))) (fun h => by rw [Bd.returns] at h; cases h)
  refine ⟨_, _, pre0 _ ?_, hrun, hended, _, _, rfl, ?_, ⟨_, rfl⟩, hW, hsame.mono (by decide) (by decide)⟩
  · exact st2 _ (sg3 _ (st4 _ (sg5 _ ((retN X4 hx (t := .boolean) Bd.returns (by simp) (hb hby d6_18) hr)))))
  · show Q6 Z a1 zc h0 n0 _ T4.heap _
    rw [e4]
    exact ⟨rfl, N0, rfl⟩
def Q10 (Z : State) (a1 : Addr) (b1 : Addr) (n : Nat) (f : Nat → Int32) (zc : Int32) (h0 : Heap) (n0 : Nat) (v : Option Value) (h : Heap) (L : List Loc) : Prop := v = some (.int (Int32.ofNat n)) ∧ Fr n0 L ∧ h = h0
set_option maxRecDepth 65536 in
set_option maxHeartbeats 40000000 in
theorem rm10 (l : Launch) (Z : State) (a0 : Array Value) (hw : ∀ d ∈ tables_1, d.before a0 Z = true) (ws : List Jvm.Cond) (a1 : Addr) (b1 : Addr) (n : Nat) (f : Nat → Int32) (zc : Int32) (h0 : Heap) (n0 : Nat) (Z0 : n0 ≤ h0.size) (S1 : own_S Z h0 a1 b1 n f) (C1 : Sta Z h0 "java/lang/String" "COMPACT_STRINGS" "Z" (.int zc)) (hz : ¬ zc = (0 : Int32)) :
    MetFree l (⟨"java/lang/String", "length", "()I"⟩ : MethodName) (head1 (Jvm.Cond.code (⟨"java/lang/String", "length", "()I"⟩ : MethodName) jdk_42_method_54_code 1 (some .int) :: ws) ({ frames := 1, cells := 0, slots := 0, locals := 13 } : Room)) (fun a U => a = #[(.ref a1)] ∧ Z.Warmed39 U.vm ∧ U.heap = h0) (fun _ _ _ _ _ => True) (fun _ U oo U' => ∃ v L, oo = .returned v ∧ Q10 Z a1 b1 n f zc h0 n0 v U'.heap L ∧ FrameEnd U oo U' L ({ frames := 1, cells := 0, slots := 0, locals := 13 } : Room).cells ({ frames := 1, cells := 0, slots := 0, locals := 13 } : Room).slots) := by
  refine MetFree.of_bodySF (plainFor_of_name pn_10) hisR ?_
  intro p e s m args below meth c s₁ Bd hml0 hP hK
  obtain ⟨rfl, hZ, hh⟩ := hP
  have hx := Bd.exec
  have hby := Bd.bytes
  have hml : c.maxLocals = 1 := hml0
  have hown : s.vm.findClass "java/lang/String" = some m.cls := findClass_of_methodNamed Bd.named
  have hnm := (name_of_methodNamed Bd.named Bd.method).1
  have X0 : Stand p l e ({ frames := 1, cells := 0, slots := 0, locals := 13 } : Room) s m #[(.ref a1)] below meth c s₁ [] 0 0 := Stand.of_body Bd
  have e0 : s₁.heap = h0 := by rw [← hh, Bd.state]; rfl
  have N0 := Fr.nil n0
  have pre0 : ∀ t₀, Steps p.tables e below (s₁.setTop (mkF m 0 #[.val (.ref a1)] [])) t₀ → Steps p.tables e below (s₁.setTop (entryFrame m #[(.ref a1)] 1)) t₀ := fun t₀ k => castTop (ef_10 m a1) k
  obtain ⟨E1, F1, V1, A1⟩ := S1
  obtain ⟨cl, Ar, Sz, Hs⟩ := A1
  have hlen : cl.slots.size.toInt32 = Int32.ofNat n := by rw [Sz] <;> rfl
  have sg1 : ∀ t₀, Steps p.tables e below (s₁.setTop (mkF m 1 #[.val (.ref a1)] [(.ref a1)])) t₀ → Steps p.tables e below (s₁.setTop (mkF m 0 #[.val (.ref a1)] [])) t₀ := by
    intro t₀ kt
    show Steps p.tables e below (s₁.setTop (mkF m 0 #[.val (.ref a1)] [])) _
    refine XS.aloadN X0.here hx rfl (hb hby d10_0) rfl rfl ?_
    exact kt
  obtain ⟨T2, X2, e2, st2⟩ := getF X0 hx hZ hown (host := "") (Or.inl (hw _ (List.mem_of_getElem? (i := 31) rfl))) Via.refl e0 V1 (g := (mkF m 1 #[.val (.ref a1)] [(.ref a1)])) rfl rfl (hb hby d10_1)
  have sg3 : ∀ t₀, Steps p.tables e below (T2.setTop (mkF m 6 #[.val (.ref a1)] [(.ref a1), (.int (Int32.ofNat n))])) t₀ → Steps p.tables e below (T2.setTop (mkF m 4 #[.val (.ref a1)] [(.ref b1)])) t₀ := by
    intro t₀ kt
    show Steps p.tables e below (T2.setTop (mkF m 4 #[.val (.ref a1)] [(.ref b1)])) _
    refine X2.arraylength hx (by rw [e2]; exact Ar.1) (State.isArrayOf_alike hZ.alike Ar.2.1) (g := (mkF m 4 #[.val (.ref a1)] [(.ref b1)])) rfl rfl (hb hby d10_4) _ ?_
    rw [hlen]
    show Steps p.tables e below (T2.setTop (mkF m 5 #[.val (.ref a1)] [(.int (Int32.ofNat n))])) _
    refine XS.aloadN X2.here hx rfl (hb hby d10_5) rfl rfl ?_
    exact kt
  obtain ⟨cq4, kq4, q4a, q4b, q4c⟩ := isOf hZ e2 E1
  obtain ⟨_, _, ⟨T4, L4, k4, n4⟩, -, X4, ⟨Lc4, hQ4, l4, y4, z4⟩, st4⟩ := X2.virtualBack hx (y := (⟨"java/lang/String", "coder", "()B"⟩ : MethodName)) (z := (⟨"java/lang/String", "coder", "()B"⟩ : MethodName)) hown (mvT hZ (hw _ (List.mem_of_getElem? (i := 62) rfl))) (mvT hZ (hw _ (List.mem_of_getElem? (i := 63) rfl))) (notFace_of_selects (args := #[]) (mvT hZ (hw _ (List.mem_of_getElem? (i := 65) rfl)))) (mvT hZ (hw _ (List.mem_of_getElem? (i := 65) rfl))) (mvT hZ (hw _ (List.mem_of_getElem? (i := 64) rfl))) (by decide) (backOf (W := 1) (rm11 l Z a0 hw [] a1 zc h0 n0 Z0 F1 C1 hz) hZ (hw _ (List.mem_of_getElem? (i := 66) rfl)) (hw _ (List.mem_of_getElem? (i := 4) rfl)) (by decide) (by decide)) q4a q4c (g := (mkF m 6 #[.val (.ref a1)] [(.ref a1), (.int (Int32.ofNat n))])) rfl (by rw [hml]; rfl) (Steps.refl _) (argsL := []) (rest := [(.int (Int32.ofNat n))]) (lenOf pd_0 rfl) rfl (by show 2 * 0 + _ ≤ _; exact Nat.le_of_eq rfl) (hb hby d10_6) (fun _ _ => ⟨rfl, e2, (by decide : 0 + 0 ≤ _), (by decide : 0 + 0 ≤ _)⟩)
  dsimp only [Pt.U, Pt.locs, Pt.cells, Pt.slots] at X4 l4 y4 z4 st4 hQ4
  subst l4 y4 z4
  obtain ⟨rfl, N4q, hh4⟩ := hQ4
  have N4 := Fr.app N0 N4q
  have sg5 : ∀ t₀, Steps p.tables e below (T4.setTop (mkF m 10 #[.val (.ref a1)] [(.int ((Int32.ofNat n) >>> ((0 : Int32) &&& 31)))])) t₀ → Steps p.tables e below (T4.setTop (mkF m 9 #[.val (.ref a1)] [(.int (0 : Int32)), (.int (Int32.ofNat n))])) t₀ := by
    intro t₀ kt
    show Steps p.tables e below (T4.setTop (mkF m 9 #[.val (.ref a1)] [(.int (0 : Int32)), (.int (Int32.ofNat n))])) _
    refine XS.ishr X4.here hx rfl (hb hby d10_9) rfl ?_
    exact kt
  obtain ⟨fs, hr, hrun, hended, hW, hsame⟩ := X4.leave (v := some (.int ((Int32.ofNat n) >>> ((0 : Int32) &&& 31)))) (fun h => by rw [Bd.returns] at h; cases h)
  refine ⟨_, _, pre0 _ ?_, hrun, hended, _, _, rfl, ?_, ⟨_, rfl⟩, hW, hsame.mono (by decide) (by decide)⟩
  · exact sg1 _ (st2 _ (sg3 _ (st4.trans (sg5 _ ((retI X4 hx Bd.returns (hb hby d10_10) hr))))))
  · show Q10 Z a1 b1 n f zc h0 n0 _ T4.heap _
    rw [hh4]
    exact ⟨by rw [own_shr0], N4, rfl⟩
def Q9 (Z : State) (p1 : Int32) (p2 : Int32) (G3 : Value) (h0 : Heap) (n0 : Nat) (v : Option Value) (h : Heap) (L : List Loc) : Prop := v = some (.int p1) ∧ Fr n0 L ∧ h = h0
set_option maxRecDepth 65536 in
set_option maxHeartbeats 40000000 in
theorem rm9 (l : Launch) (Z : State) (a0 : Array Value) (hw : ∀ d ∈ tables_1, d.before a0 Z = true) (ws : List Jvm.Cond) (p1 : Int32) (p2 : Int32) (G3 : Value) (h0 : Heap) (n0 : Nat) (Z0 : n0 ≤ h0.size) (rG3 : G3.isRef = true) (h1 : ¬ p1 < (0 : Int32)) (h2 : p1 < p2) :
    MetFree l (⟨"jdk/internal/util/Preconditions", "checkIndex", "(IILjava/util/function/BiFunction;)I"⟩ : MethodName) (head1 (Jvm.Cond.code (⟨"jdk/internal/util/Preconditions", "checkIndex", "(IILjava/util/function/BiFunction;)I"⟩ : MethodName) jdk_41_method_11_code 3 (some .int) :: ws) ({ frames := 0, cells := 0, slots := 0, locals := 0 } : Room)) (fun a U => a = #[(.int p1), (.int p2), G3] ∧ Z.Warmed39 U.vm ∧ U.heap = h0) (fun _ _ _ _ _ => True) (fun _ U oo U' => ∃ v L, oo = .returned v ∧ Q9 Z p1 p2 G3 h0 n0 v U'.heap L ∧ FrameEnd U oo U' L ({ frames := 0, cells := 0, slots := 0, locals := 0 } : Room).cells ({ frames := 0, cells := 0, slots := 0, locals := 0 } : Room).slots) := by
  refine MetFree.of_bodySF (plainFor_of_name pn_9) hisR ?_
  intro p e s m args below meth c s₁ Bd hml0 hP hK
  obtain ⟨rfl, hZ, hh⟩ := hP
  have hx := Bd.exec
  have hby := Bd.bytes
  have hml : c.maxLocals = 3 := hml0
  have hown : s.vm.findClass "jdk/internal/util/Preconditions" = some m.cls := findClass_of_methodNamed Bd.named
  have hnm := (name_of_methodNamed Bd.named Bd.method).1
  have X0 : Stand p l e ({ frames := 0, cells := 0, slots := 0, locals := 0 } : Room) s m #[(.int p1), (.int p2), G3] below meth c s₁ [] 0 0 := Stand.of_body Bd
  have e0 : s₁.heap = h0 := by rw [← hh, Bd.state]; rfl
  have N0 := Fr.nil n0
  have pre0 : ∀ t₀, Steps p.tables e below (s₁.setTop (mkF m 0 #[.val (.int p1), .val (.int p2), .val G3] [])) t₀ → Steps p.tables e below (s₁.setTop (entryFrame m #[(.int p1), (.int p2), G3] 3)) t₀ := fun t₀ k => castTop (ef_9 m p1 p2 G3 rG3) k
  have sg1 : ∀ t₀, Steps p.tables e below (s₁.setTop (mkF m 17 #[.val (.int p1), .val (.int p2), .val G3] [(.int p1)])) t₀ → Steps p.tables e below (s₁.setTop (mkF m 0 #[.val (.int p1), .val (.int p2), .val G3] [])) t₀ := by
    intro t₀ kt
    show Steps p.tables e below (s₁.setTop (mkF m 0 #[.val (.int p1), .val (.int p2), .val G3] [])) _
    refine XS.iloadN X0.here hx rfl (hb hby d9_0) rfl ?_
    show Steps p.tables e below (s₁.setTop (mkF m 1 #[.val (.int p1), .val (.int p2), .val G3] [(.int p1)])) _
    refine XS.ifNo X0.here hx rfl (hb hby d9_1) rfl ((if0 _ _).trans (flt h1).1) ?_
    show Steps p.tables e below (s₁.setTop (mkF m 4 #[.val (.int p1), .val (.int p2), .val G3] [])) _
    refine XS.iloadN X0.here hx rfl (hb hby d9_4) rfl ?_
    show Steps p.tables e below (s₁.setTop (mkF m 5 #[.val (.int p1), .val (.int p2), .val G3] [(.int p1)])) _
    refine XS.iloadN X0.here hx rfl (hb hby d9_5) rfl ?_
    show Steps p.tables e below (s₁.setTop (mkF m 6 #[.val (.int p1), .val (.int p2), .val G3] [(.int p2), (.int p1)])) _
    refine XS.icmpYes X0.here hx rfl (pc0 := 6) (pc' := 16) rfl (hb hby d9_6) rfl (tlt h2).1 (by decide) (by decide) ?_
    show Steps p.tables e below (s₁.setTop (mkF m 16 #[.val (.int p1), .val (.int p2), .val G3] [])) _
    refine XS.iloadN X0.here hx rfl (hb hby d9_16) rfl ?_
    exact kt
  obtain ⟨fs, hr, hrun, hended, hW, hsame⟩ := X0.leave (v := some (.int p1)) (fun h => by rw [Bd.returns] at h; cases h)
  refine ⟨_, _, pre0 _ ?_, hrun, hended, _, _, rfl, ?_, ⟨_, rfl⟩, hW, hsame.mono (by decide) (by decide)⟩
  · exact sg1 _ ((retI X0 hx Bd.returns (hb hby d9_17) hr))
  · show Q9 Z p1 p2 G3 h0 n0 _ s₁.heap _
    rw [e0]
    exact ⟨rfl, N0, rfl⟩
def Q8 (Z : State) (p1 : Int32) (p2 : Int32) (G3 : Value) (h0 : Heap) (n0 : Nat) (v : Option Value) (h : Heap) (L : List Loc) : Prop := v = none ∧ Fr n0 L ∧ h = h0
set_option maxRecDepth 65536 in
set_option maxHeartbeats 40000000 in
theorem rm8 (l : Launch) (Z : State) (a0 : Array Value) (hw : ∀ d ∈ tables_1, d.before a0 Z = true) (ws : List Jvm.Cond) (p1 : Int32) (p2 : Int32) (G3 : Value) (h0 : Heap) (n0 : Nat) (Z0 : n0 ≤ h0.size) (rG3 : G3.isRef = true) (S1 : Sta Z h0 "jdk/internal/util/Preconditions" "SIOOBE_FORMATTER" "Ljava/util/function/BiFunction;" G3) (h1 : ¬ p1 < (0 : Int32)) (h2 : p1 < p2) :
    MetFree l (⟨"java/lang/String", "checkIndex", "(II)V"⟩ : MethodName) (head1 (Jvm.Cond.code (⟨"java/lang/String", "checkIndex", "(II)V"⟩ : MethodName) jdk_42_method_155_code 2 none :: ws) ({ frames := 1, cells := 0, slots := 0, locals := 14 } : Room)) (fun a U => a = #[(.int p1), (.int p2)] ∧ Z.Warmed39 U.vm ∧ U.heap = h0) (fun _ _ _ _ _ => True) (fun _ U oo U' => ∃ v L, oo = .returned v ∧ Q8 Z p1 p2 G3 h0 n0 v U'.heap L ∧ FrameEnd U oo U' L ({ frames := 1, cells := 0, slots := 0, locals := 14 } : Room).cells ({ frames := 1, cells := 0, slots := 0, locals := 14 } : Room).slots) := by
  refine MetFree.of_bodySF (plainFor_of_name pn_8) hisR ?_
  intro p e s m args below meth c s₁ Bd hml0 hP hK
  obtain ⟨rfl, hZ, hh⟩ := hP
  have hx := Bd.exec
  have hby := Bd.bytes
  have hml : c.maxLocals = 2 := hml0
  have hown : s.vm.findClass "java/lang/String" = some m.cls := findClass_of_methodNamed Bd.named
  have hnm := (name_of_methodNamed Bd.named Bd.method).1
  have X0 : Stand p l e ({ frames := 1, cells := 0, slots := 0, locals := 14 } : Room) s m #[(.int p1), (.int p2)] below meth c s₁ [] 0 0 := Stand.of_body Bd
  have e0 : s₁.heap = h0 := by rw [← hh, Bd.state]; rfl
  have N0 := Fr.nil n0
  have pre0 : ∀ t₀, Steps p.tables e below (s₁.setTop (mkF m 0 #[.val (.int p1), .val (.int p2)] [])) t₀ → Steps p.tables e below (s₁.setTop (entryFrame m #[(.int p1), (.int p2)] 2)) t₀ := fun t₀ k => castTop (ef_8 m p1 p2) k
  have sg1 : ∀ t₀, Steps p.tables e below (s₁.setTop (mkF m 2 #[.val (.int p1), .val (.int p2)] [(.int p2), (.int p1)])) t₀ → Steps p.tables e below (s₁.setTop (mkF m 0 #[.val (.int p1), .val (.int p2)] [])) t₀ := by
    intro t₀ kt
    show Steps p.tables e below (s₁.setTop (mkF m 0 #[.val (.int p1), .val (.int p2)] [])) _
    refine XS.iloadN X0.here hx rfl (hb hby d8_0) rfl ?_
    show Steps p.tables e below (s₁.setTop (mkF m 1 #[.val (.int p1), .val (.int p2)] [(.int p1)])) _
    refine XS.iloadN X0.here hx rfl (hb hby d8_1) rfl ?_
    exact kt
  obtain ⟨T2, X2, e2, st2⟩ := getS2 X0 hx hZ hown (host := "") (Or.inl (hw _ (List.mem_of_getElem? (i := 52) rfl))) Via.refl e0 S1 (g := (mkF m 2 #[.val (.int p1), .val (.int p2)] [(.int p2), (.int p1)])) rfl (hb hby d8_2)
  obtain ⟨_, _, ⟨T4, L4, k4, n4⟩, -, X4, ⟨Lc4, hQ4, l4, y4, z4⟩, st4⟩ := Jvm.LawKit.callS X2 hx (y := (⟨"jdk/internal/util/Preconditions", "checkIndex", "(IILjava/util/function/BiFunction;)I"⟩ : MethodName)) hown (mvT hZ (hw _ (List.mem_of_getElem? (i := 54) rfl))) (mvT hZ (hw _ (List.mem_of_getElem? (i := 55) rfl))) (mvT hZ (hw _ (List.mem_of_getElem? (i := 53) rfl))) (mvT hZ (hw _ (List.mem_of_getElem? (i := 56) rfl))) (by decide) (backOf (W := 0) (rm9 l Z a0 hw [] p1 p2 G3 h0 n0 Z0 rG3 h1 h2) hZ (hw _ (List.mem_of_getElem? (i := 56) rfl)) (hw _ (List.mem_of_getElem? (i := 53) rfl)) (by decide) (by decide)) (g := (mkF m 5 #[.val (.int p1), .val (.int p2)] [G3, (.int p2), (.int p1)])) rfl (by rw [hml]; rfl) (argsL := [(.int p1), (.int p2), G3]) (rest := []) (lenOf pd_7 rfl) rfl (by show 2 * 0 + _ ≤ _; exact Nat.le_of_eq rfl) (hb hby d8_5) (fun _ _ => ⟨rfl, e2, (by decide : 0 + 0 ≤ _), (by decide : 0 + 0 ≤ _)⟩)
  dsimp only [Pt.U, Pt.locs, Pt.cells, Pt.slots] at X4 l4 y4 z4 st4 hQ4
  subst l4 y4 z4
  obtain ⟨rfl, N4q, hh4⟩ := hQ4
  have N4 := Fr.app N0 N4q
  have sg5 : ∀ t₀, Steps p.tables e below (T4.setTop (mkF m 9 #[.val (.int p1), .val (.int p2)] [])) t₀ → Steps p.tables e below (T4.setTop (mkF m 8 #[.val (.int p1), .val (.int p2)] [(.int p1)])) t₀ := by
    intro t₀ kt
    show Steps p.tables e below (T4.setTop (mkF m 8 #[.val (.int p1), .val (.int p2)] [(.int p1)])) _
    refine XS.pop X4.here hx rfl (hb hby d8_8) rfl rfl ?_
    exact kt
  obtain ⟨fs, hr, hrun, hended, hW, hsame⟩ := X4.leave (v := none) (fun _ => rfl)
  refine ⟨_, _, pre0 _ ?_, hrun, hended, _, _, rfl, ?_, ⟨_, rfl⟩, hW, hsame.mono (by decide) (by decide)⟩
  · exact sg1 _ (st2 _ (st4 _ (sg5 _ ((X4.returnOut hx Bd.returns (hb hby d8_9) hr)))))
  · show Q8 Z p1 p2 G3 h0 n0 _ T4.heap _
    rw [hh4]
    exact ⟨rfl, N4, rfl⟩
def Q7 (Z : State) (b1 : Addr) (i : Nat) (n : Nat) (f : Nat → Int32) (G3 : Value) (h0 : Heap) (n0 : Nat) (v : Option Value) (h : Heap) (L : List Loc) : Prop := v = some (.int (f i)) ∧ Fr n0 L ∧ h = h0
set_option maxRecDepth 65536 in
set_option maxHeartbeats 40000000 in
theorem rm7 (l : Launch) (Z : State) (a0 : Array Value) (hw : ∀ d ∈ tables_1, d.before a0 Z = true) (ws : List Jvm.Cond) (b1 : Addr) (i : Nat) (n : Nat) (f : Nat → Int32) (G3 : Value) (h0 : Heap) (n0 : Nat) (Z0 : n0 ≤ h0.size) (A1 : own_A Z h0 b1 n .byte (fun i => .int (f i))) (rG3 : G3.isRef = true) (S1 : Sta Z h0 "jdk/internal/util/Preconditions" "SIOOBE_FORMATTER" "Ljava/util/function/BiFunction;" G3) (hi : i < n) (hn : n ≤ 2) (hf : f i = 60 ∨ f i = 61) :
    MetFree l (⟨"java/lang/StringLatin1", "charAt", "([BI)C"⟩ : MethodName) (head1 (Jvm.Cond.code (⟨"java/lang/StringLatin1", "charAt", "([BI)C"⟩ : MethodName) jdk_43_method_2_code 2 (some .char) :: ws) ({ frames := 2, cells := 0, slots := 0, locals := 27 } : Room)) (fun a U => a = #[(.ref b1), (.int (Int32.ofNat i))] ∧ Z.Warmed39 U.vm ∧ U.heap = h0) (fun _ _ _ _ _ => True) (fun _ U oo U' => ∃ v L, oo = .returned v ∧ Q7 Z b1 i n f G3 h0 n0 v U'.heap L ∧ FrameEnd U oo U' L ({ frames := 2, cells := 0, slots := 0, locals := 27 } : Room).cells ({ frames := 2, cells := 0, slots := 0, locals := 27 } : Room).slots) := by
  refine MetFree.of_bodySF (plainFor_of_name pn_7) hisR ?_
  intro p e s m args below meth c s₁ Bd hml0 hP hK
  obtain ⟨rfl, hZ, hh⟩ := hP
  have hx := Bd.exec
  have hby := Bd.bytes
  have hml : c.maxLocals = 2 := hml0
  have hown : s.vm.findClass "java/lang/StringLatin1" = some m.cls := findClass_of_methodNamed Bd.named
  have hnm := (name_of_methodNamed Bd.named Bd.method).1
  have X0 : Stand p l e ({ frames := 2, cells := 0, slots := 0, locals := 27 } : Room) s m #[(.ref b1), (.int (Int32.ofNat i))] below meth c s₁ [] 0 0 := Stand.of_body Bd
  have e0 : s₁.heap = h0 := by rw [← hh, Bd.state]; rfl
  have N0 := Fr.nil n0
  have pre0 : ∀ t₀, Steps p.tables e below (s₁.setTop (mkF m 0 #[.val (.ref b1), .val (.int (Int32.ofNat i))] [])) t₀ → Steps p.tables e below (s₁.setTop (entryFrame m #[(.ref b1), (.int (Int32.ofNat i))] 2)) t₀ := fun t₀ k => castTop (ef_7 m b1 (Int32.ofNat i)) k
  obtain ⟨cl, Ar, Sz, Hs⟩ := A1
  have hlen : cl.slots.size.toInt32 = Int32.ofNat n := by rw [Sz] <;> rfl
  have hin := own_in (i := i) Sz hi (by omega)
  have hat := own_at (i := i) Hs hi (by omega)
  have sg1 : ∀ t₀, Steps p.tables e below (s₁.setTop (mkF m 3 #[.val (.ref b1), .val (.int (Int32.ofNat i))] [(.int (Int32.ofNat n)), (.int (Int32.ofNat i))])) t₀ → Steps p.tables e below (s₁.setTop (mkF m 0 #[.val (.ref b1), .val (.int (Int32.ofNat i))] [])) t₀ := by
    intro t₀ kt
    show Steps p.tables e below (s₁.setTop (mkF m 0 #[.val (.ref b1), .val (.int (Int32.ofNat i))] [])) _
    refine XS.iloadN X0.here hx rfl (hb hby d7_0) rfl ?_
    show Steps p.tables e below (s₁.setTop (mkF m 1 #[.val (.ref b1), .val (.int (Int32.ofNat i))] [(.int (Int32.ofNat i))])) _
    refine XS.aloadN X0.here hx rfl (hb hby d7_1) rfl rfl ?_
    show Steps p.tables e below (s₁.setTop (mkF m 2 #[.val (.ref b1), .val (.int (Int32.ofNat i))] [(.ref b1), (.int (Int32.ofNat i))])) _
    refine X0.arraylength hx (by rw [e0]; exact Ar.1) (State.isArrayOf_alike hZ.alike Ar.2.1) (g := (mkF m 2 #[.val (.ref b1), .val (.int (Int32.ofNat i))] [(.ref b1), (.int (Int32.ofNat i))])) rfl rfl (hb hby d7_2) _ ?_
    rw [hlen]
    exact kt
  obtain ⟨_, _, ⟨T2, L2, k2, n2⟩, -, X2, ⟨Lc2, hQ2, l2, y2, z2⟩, st2⟩ := Jvm.LawKit.callS X0 hx (y := (⟨"java/lang/String", "checkIndex", "(II)V"⟩ : MethodName)) hown (mvT hZ (hw _ (List.mem_of_getElem? (i := 49) rfl))) (mvT hZ (hw _ (List.mem_of_getElem? (i := 50) rfl))) (mvT hZ (hw _ (List.mem_of_getElem? (i := 4) rfl))) (mvT hZ (hw _ (List.mem_of_getElem? (i := 51) rfl))) (by decide) (backOf (W := 0) (rm8 l Z a0 hw [] (Int32.ofNat i) (Int32.ofNat n) G3 h0 n0 Z0 rG3 S1 (own_nn (by omega)) (own_lt hi (by omega))) hZ (hw _ (List.mem_of_getElem? (i := 51) rfl)) (hw _ (List.mem_of_getElem? (i := 4) rfl)) (by decide) (by decide)) (g := (mkF m 3 #[.val (.ref b1), .val (.int (Int32.ofNat i))] [(.int (Int32.ofNat n)), (.int (Int32.ofNat i))])) rfl (by rw [hml]; rfl) (argsL := [(.int (Int32.ofNat i)), (.int (Int32.ofNat n))]) (rest := []) (lenOf pd_6 rfl) rfl (by show 2 * 0 + _ ≤ _; exact Nat.le_of_eq rfl) (hb hby d7_3) (fun _ _ => ⟨rfl, e0, (by decide : 0 + 0 ≤ _), (by decide : 0 + 0 ≤ _)⟩)
  dsimp only [Pt.U, Pt.locs, Pt.cells, Pt.slots] at X2 l2 y2 z2 st2 hQ2
  subst l2 y2 z2
  obtain ⟨rfl, N2q, hh2⟩ := hQ2
  have N2 := Fr.app N0 N2q
  have sg3 : ∀ t₀, Steps p.tables e below (T2.setTop (mkF m 14 #[.val (.ref b1), .val (.int (Int32.ofNat i))] [(.int (((f i) &&& (255 : Int32)).toUInt32.toUInt16.toUInt32.toInt32))])) t₀ → Steps p.tables e below (T2.setTop (mkF m 6 #[.val (.ref b1), .val (.int (Int32.ofNat i))] [])) t₀ := by
    intro t₀ kt
    show Steps p.tables e below (T2.setTop (mkF m 6 #[.val (.ref b1), .val (.int (Int32.ofNat i))] [])) _
    refine XS.aloadN X2.here hx rfl (hb hby d7_6) rfl rfl ?_
    show Steps p.tables e below (T2.setTop (mkF m 7 #[.val (.ref b1), .val (.int (Int32.ofNat i))] [(.ref b1)])) _
    refine XS.iloadN X2.here hx rfl (hb hby d7_7) rfl ?_
    show Steps p.tables e below (T2.setTop (mkF m 8 #[.val (.ref b1), .val (.int (Int32.ofNat i))] [(.int (Int32.ofNat i)), (.ref b1)])) _
    refine X2.baloadBytes hx (j := (Int32.ofNat i)) (v := (.int (f i))) (by rw [hh2]; exact Ar.1) (State.isArrayOf_alike hZ.alike Ar.2.1) Ar.2.2 hin hat (g := (mkF m 8 #[.val (.ref b1), .val (.int (Int32.ofNat i))] [(.int (Int32.ofNat i)), (.ref b1)])) rfl rfl (hb hby d7_8) _ ?_
    show Steps p.tables e below (T2.setTop (mkF m 9 #[.val (.ref b1), .val (.int (Int32.ofNat i))] [(.int (f i))])) _
    refine XS.sipush X2.here hx rfl (hb hby d7_9) ?_
    show Steps p.tables e below (T2.setTop (mkF m 12 #[.val (.ref b1), .val (.int (Int32.ofNat i))] [(.int (255 : Int32)), (.int (f i))])) _
    refine XS.iand X2.here hx rfl (hb hby d7_12) rfl ?_
    show Steps p.tables e below (T2.setTop (mkF m 13 #[.val (.ref b1), .val (.int (Int32.ofNat i))] [(.int ((f i) &&& (255 : Int32)))])) _
    refine XS.i2c X2.here hx rfl (hb hby d7_13) rfl ?_
    exact kt
  obtain ⟨fs, hr, hrun, hended, hW, hsame⟩ := X2.leave (v := some (.int (nar .char (((f i) &&& (255 : Int32)).toUInt32.toUInt16.toUInt32.toInt32)))) (fun h => by rw [Bd.returns] at h; cases h)
  refine ⟨_, _, pre0 _ ?_, hrun, hended, _, _, rfl, ?_, ⟨_, rfl⟩, hW, hsame.mono (by decide) (by decide)⟩
  · exact sg1 _ (st2 _ (sg3 _ ((retN X2 hx (t := .char) Bd.returns (by simp) (hb hby d7_14) hr))))
  · show Q7 Z b1 i n f G3 h0 n0 _ T2.heap _
    rw [hh2]
    exact ⟨by rw [own_ch hf], N2, rfl⟩
def Q5 (Z : State) (a1 : Addr) (b1 : Addr) (i : Nat) (n : Nat) (f : Nat → Int32) (zc : Int32) (G3 : Value) (h0 : Heap) (n0 : Nat) (v : Option Value) (h : Heap) (L : List Loc) : Prop := v = some (.int (f i)) ∧ Fr n0 L ∧ h = h0
set_option maxRecDepth 65536 in
set_option maxHeartbeats 40000000 in
theorem rm5 (l : Launch) (Z : State) (a0 : Array Value) (hw : ∀ d ∈ tables_1, d.before a0 Z = true) (ws : List Jvm.Cond) (a1 : Addr) (b1 : Addr) (i : Nat) (n : Nat) (f : Nat → Int32) (zc : Int32) (G3 : Value) (h0 : Heap) (n0 : Nat) (Z0 : n0 ≤ h0.size) (S0 : own_S Z h0 a1 b1 n f) (C1 : Sta Z h0 "java/lang/String" "COMPACT_STRINGS" "Z" (.int zc)) (hz : ¬ zc = (0 : Int32)) (rG3 : G3.isRef = true) (S1 : Sta Z h0 "jdk/internal/util/Preconditions" "SIOOBE_FORMATTER" "Ljava/util/function/BiFunction;" G3) (hi : i < n) (hn : n ≤ 2) (hf : f i = 60 ∨ f i = 61) :
    MetFree l (⟨"java/lang/String", "charAt", "(I)C"⟩ : MethodName) (head1 (Jvm.Cond.code (⟨"java/lang/String", "charAt", "(I)C"⟩ : MethodName) jdk_42_method_56_code 2 (some .char) :: ws) ({ frames := 3, cells := 0, slots := 0, locals := 40 } : Room)) (fun a U => a = #[(.ref a1), (.int (Int32.ofNat i))] ∧ Z.Warmed39 U.vm ∧ U.heap = h0) (fun _ _ _ _ _ => True) (fun _ U oo U' => ∃ v L, oo = .returned v ∧ Q5 Z a1 b1 i n f zc G3 h0 n0 v U'.heap L ∧ FrameEnd U oo U' L ({ frames := 3, cells := 0, slots := 0, locals := 40 } : Room).cells ({ frames := 3, cells := 0, slots := 0, locals := 40 } : Room).slots) := by
  refine MetFree.of_bodySF (plainFor_of_name pn_5) hisR ?_
  intro p e s m args below meth c s₁ Bd hml0 hP hK
  obtain ⟨rfl, hZ, hh⟩ := hP
  have hx := Bd.exec
  have hby := Bd.bytes
  have hml : c.maxLocals = 2 := hml0
  have hown : s.vm.findClass "java/lang/String" = some m.cls := findClass_of_methodNamed Bd.named
  have hnm := (name_of_methodNamed Bd.named Bd.method).1
  have X0 : Stand p l e ({ frames := 3, cells := 0, slots := 0, locals := 40 } : Room) s m #[(.ref a1), (.int (Int32.ofNat i))] below meth c s₁ [] 0 0 := Stand.of_body Bd
  have e0 : s₁.heap = h0 := by rw [← hh, Bd.state]; rfl
  have N0 := Fr.nil n0
  have pre0 : ∀ t₀, Steps p.tables e below (s₁.setTop (mkF m 0 #[.val (.ref a1), .val (.int (Int32.ofNat i))] [])) t₀ → Steps p.tables e below (s₁.setTop (entryFrame m #[(.ref a1), (.int (Int32.ofNat i))] 2)) t₀ := fun t₀ k => castTop (ef_5 m a1 (Int32.ofNat i)) k
  obtain ⟨E1, F1, V1, A1⟩ := S0
  have sg1 : ∀ t₀, Steps p.tables e below (s₁.setTop (mkF m 1 #[.val (.ref a1), .val (.int (Int32.ofNat i))] [(.ref a1)])) t₀ → Steps p.tables e below (s₁.setTop (mkF m 0 #[.val (.ref a1), .val (.int (Int32.ofNat i))] [])) t₀ := by
    intro t₀ kt
    show Steps p.tables e below (s₁.setTop (mkF m 0 #[.val (.ref a1), .val (.int (Int32.ofNat i))] [])) _
    refine XS.aloadN X0.here hx rfl (hb hby d5_0) rfl rfl ?_
    exact kt
  obtain ⟨cq2, kq2, q2a, q2b, q2c⟩ := isOf hZ e0 E1
  obtain ⟨_, _, ⟨T2, L2, k2, n2⟩, -, X2, ⟨Lc2, hQ2, l2, y2, z2⟩, st2⟩ := X0.virtualBack hx (y := (⟨"java/lang/String", "isLatin1", "()Z"⟩ : MethodName)) (z := (⟨"java/lang/String", "isLatin1", "()Z"⟩ : MethodName)) hown (mvT hZ (hw _ (List.mem_of_getElem? (i := 41) rfl))) (mvT hZ (hw _ (List.mem_of_getElem? (i := 42) rfl))) (notFace_of_selects (args := #[]) (mvT hZ (hw _ (List.mem_of_getElem? (i := 44) rfl)))) (mvT hZ (hw _ (List.mem_of_getElem? (i := 44) rfl))) (mvT hZ (hw _ (List.mem_of_getElem? (i := 43) rfl))) (by decide) (backOf (W := 0) (rm6 l Z a0 hw [] a1 zc h0 n0 Z0 F1 C1 hz) hZ (hw _ (List.mem_of_getElem? (i := 45) rfl)) (hw _ (List.mem_of_getElem? (i := 4) rfl)) (by decide) (by decide)) q2a q2c (g := (mkF m 1 #[.val (.ref a1), .val (.int (Int32.ofNat i))] [(.ref a1)])) rfl (by rw [hml]; rfl) (Steps.refl _) (argsL := []) (rest := []) (lenOf pd_3 rfl) rfl (by show 2 * 0 + _ ≤ _; exact Nat.le_of_eq rfl) (hb hby d5_1) (fun _ _ => ⟨rfl, e0, (by decide : 0 + 0 ≤ _), (by decide : 0 + 0 ≤ _)⟩)
  dsimp only [Pt.U, Pt.locs, Pt.cells, Pt.slots] at X2 l2 y2 z2 st2 hQ2
  subst l2 y2 z2
  obtain ⟨rfl, N2q, hh2⟩ := hQ2
  have N2 := Fr.app N0 N2q
  have sg3 : ∀ t₀, Steps p.tables e below (T2.setTop (mkF m 8 #[.val (.ref a1), .val (.int (Int32.ofNat i))] [(.ref a1)])) t₀ → Steps p.tables e below (T2.setTop (mkF m 4 #[.val (.ref a1), .val (.int (Int32.ofNat i))] [(.int (1 : Int32))])) t₀ := by
    intro t₀ kt
    show Steps p.tables e below (T2.setTop (mkF m 4 #[.val (.ref a1), .val (.int (Int32.ofNat i))] [(.int (1 : Int32))])) _
    refine XS.ifNo X2.here hx rfl (hb hby d5_4) rfl ((if0 _ _).trans (feq (by decide : ¬ ((1 : Int32) = (0 : Int32)))).1) ?_
    show Steps p.tables e below (T2.setTop (mkF m 7 #[.val (.ref a1), .val (.int (Int32.ofNat i))] [])) _
    refine XS.aloadN X2.here hx rfl (hb hby d5_7) rfl rfl ?_
    exact kt
  obtain ⟨T4, X4, e4, st4⟩ := getF X2 hx hZ hown (host := "") (Or.inl (hw _ (List.mem_of_getElem? (i := 31) rfl))) Via.refl hh2 V1 (g := (mkF m 8 #[.val (.ref a1), .val (.int (Int32.ofNat i))] [(.ref a1)])) rfl rfl (hb hby d5_8)
  have sg5 : ∀ t₀, Steps p.tables e below (T4.setTop (mkF m 12 #[.val (.ref a1), .val (.int (Int32.ofNat i))] [(.int (Int32.ofNat i)), (.ref b1)])) t₀ → Steps p.tables e below (T4.setTop (mkF m 11 #[.val (.ref a1), .val (.int (Int32.ofNat i))] [(.ref b1)])) t₀ := by
    intro t₀ kt
    show Steps p.tables e below (T4.setTop (mkF m 11 #[.val (.ref a1), .val (.int (Int32.ofNat i))] [(.ref b1)])) _
    refine XS.iloadN X4.here hx rfl (hb hby d5_11) rfl ?_
    exact kt
  obtain ⟨_, _, ⟨T6, L6, k6, n6⟩, -, X6, ⟨Lc6, hQ6, l6, y6, z6⟩, st6⟩ := Jvm.LawKit.callS X4 hx (y := (⟨"java/lang/StringLatin1", "charAt", "([BI)C"⟩ : MethodName)) hown (mvT hZ (hw _ (List.mem_of_getElem? (i := 46) rfl))) (mvT hZ (hw _ (List.mem_of_getElem? (i := 47) rfl))) (mvT hZ (hw _ (List.mem_of_getElem? (i := 34) rfl))) (mvT hZ (hw _ (List.mem_of_getElem? (i := 48) rfl))) (by decide) (backOf (W := 0) (rm7 l Z a0 hw [] b1 i n f G3 h0 n0 Z0 A1 rG3 S1 hi hn hf) hZ (hw _ (List.mem_of_getElem? (i := 48) rfl)) (hw _ (List.mem_of_getElem? (i := 34) rfl)) (by decide) (by decide)) (g := (mkF m 12 #[.val (.ref a1), .val (.int (Int32.ofNat i))] [(.int (Int32.ofNat i)), (.ref b1)])) rfl (by rw [hml]; rfl) (argsL := [(.ref b1), (.int (Int32.ofNat i))]) (rest := []) (lenOf pd_10 rfl) rfl (by show 2 * 0 + _ ≤ _; exact Nat.le_of_eq rfl) (hb hby d5_12) (fun _ _ => ⟨rfl, e4, (by decide : 0 + 0 ≤ _), (by decide : 0 + 0 ≤ _)⟩)
  dsimp only [Pt.U, Pt.locs, Pt.cells, Pt.slots] at X6 l6 y6 z6 st6 hQ6
  subst l6 y6 z6
  obtain ⟨rfl, N6q, hh6⟩ := hQ6
  have N6 := Fr.app N2 N6q
  obtain ⟨fs, hr, hrun, hended, hW, hsame⟩ := X6.leave (v := some (.int (nar .char (f i)))) (fun h => by rw [Bd.returns] at h; cases h)
  refine ⟨_, _, pre0 _ ?_, hrun, hended, _, _, rfl, ?_, ⟨_, rfl⟩, hW, hsame.mono (by decide) (by decide)⟩
  · exact sg1 _ (st2.trans (sg3 _ (st4 _ (sg5 _ (st6 _ ((retN X6 hx (t := .char) Bd.returns (by simp) (hb hby d5_15) hr)))))))
  · show Q5 Z a1 b1 i n f zc G3 h0 n0 _ T6.heap _
    rw [hh6]
    exact ⟨by rw [own_ch2 hf], N6, rfl⟩
def Q4 (Z : State) (b1 : Addr) (b2 : Addr) (n : Nat) (f : Nat → Int32) (h0 : Heap) (n0 : Nat) (v : Option Value) (h : Heap) (L : List Loc) : Prop := v = some (.int (1 : Int32)) ∧ Fr n0 L ∧ h = h0
set_option maxRecDepth 65536 in
set_option maxHeartbeats 40000000 in
theorem rm4 (l : Launch) (Z : State) (a0 : Array Value) (hw : ∀ d ∈ tables_1, d.before a0 Z = true) (ws : List Jvm.Cond) (b1 : Addr) (b2 : Addr) (n : Nat) (f : Nat → Int32) (h0 : Heap) (n0 : Nat) (Z0 : n0 ≤ h0.size) (A1 : own_A Z h0 b1 n .byte (fun i => .int (f i))) (A2 : own_A Z h0 b2 n .byte (fun i => .int (f i))) (hn : n ≤ 2) :
    MetFree l (⟨"java/lang/StringLatin1", "equals", "([B[B)Z"⟩ : MethodName) (head1 (Jvm.Cond.code (⟨"java/lang/StringLatin1", "equals", "([B[B)Z"⟩ : MethodName) jdk_43_method_13_code 3 (some .boolean) :: ws) ({ frames := 0, cells := 0, slots := 0, locals := 0 } : Room)) (fun a U => a = #[(.ref b1), (.ref b2)] ∧ Z.Warmed39 U.vm ∧ U.heap = h0) (fun _ _ _ _ _ => True) (fun _ U oo U' => ∃ v L, oo = .returned v ∧ Q4 Z b1 b2 n f h0 n0 v U'.heap L ∧ FrameEnd U oo U' L ({ frames := 0, cells := 0, slots := 0, locals := 0 } : Room).cells ({ frames := 0, cells := 0, slots := 0, locals := 0 } : Room).slots) := by
  refine MetFree.of_bodySF (plainFor_of_name pn_4) hisR ?_
  intro p e s m args below meth c s₁ Bd hml0 hP hK
  obtain ⟨rfl, hZ, hh⟩ := hP
  have hx := Bd.exec
  have hby := Bd.bytes
  have hml : c.maxLocals = 3 := hml0
  have hown : s.vm.findClass "java/lang/StringLatin1" = some m.cls := findClass_of_methodNamed Bd.named
  have hnm := (name_of_methodNamed Bd.named Bd.method).1
  have X0 : Stand p l e ({ frames := 0, cells := 0, slots := 0, locals := 0 } : Room) s m #[(.ref b1), (.ref b2)] below meth c s₁ [] 0 0 := Stand.of_body Bd
  have e0 : s₁.heap = h0 := by rw [← hh, Bd.state]; rfl
  have N0 := Fr.nil n0
  have pre0 : ∀ t₀, Steps p.tables e below (s₁.setTop (mkF m 0 #[.val (.ref b1), .val (.ref b2), .unset] [])) t₀ → Steps p.tables e below (s₁.setTop (entryFrame m #[(.ref b1), (.ref b2)] 3)) t₀ := fun t₀ k => castTop (ef_4 m b1 b2) k
  obtain ⟨cl1, Ar1, Sz1, Hs1⟩ := A1
  have hl1 : cl1.slots.size.toInt32 = Int32.ofNat n := by rw [Sz1] <;> rfl
  obtain ⟨cl2, Ar2, Sz2, Hs2⟩ := A2
  have hl2 : cl2.slots.size.toInt32 = Int32.ofNat n := by rw [Sz2] <;> rfl
  have sg1 : ∀ t₀, Steps p.tables e below (s₁.setTop (mkF m 9 #[.val (.ref b1), .val (.ref b2), .val (.int (0 : Int32))] [])) t₀ → Steps p.tables e below (s₁.setTop (mkF m 0 #[.val (.ref b1), .val (.ref b2), .unset] [])) t₀ := by
    intro t₀ kt
    show Steps p.tables e below (s₁.setTop (mkF m 0 #[.val (.ref b1), .val (.ref b2), .unset] [])) _
    refine XS.aloadN X0.here hx rfl (hb hby d4_0) rfl rfl ?_
    show Steps p.tables e below (s₁.setTop (mkF m 1 #[.val (.ref b1), .val (.ref b2), .unset] [(.ref b1)])) _
    refine X0.arraylength hx (by rw [e0]; exact Ar1.1) (State.isArrayOf_alike hZ.alike Ar1.2.1) (g := (mkF m 1 #[.val (.ref b1), .val (.ref b2), .unset] [(.ref b1)])) rfl rfl (hb hby d4_1) _ ?_
    rw [hl1]
    show Steps p.tables e below (s₁.setTop (mkF m 2 #[.val (.ref b1), .val (.ref b2), .unset] [(.int (Int32.ofNat n))])) _
    refine XS.aloadN X0.here hx rfl (hb hby d4_2) rfl rfl ?_
    show Steps p.tables e below (s₁.setTop (mkF m 3 #[.val (.ref b1), .val (.ref b2), .unset] [(.ref b2), (.int (Int32.ofNat n))])) _
    refine X0.arraylength hx (by rw [e0]; exact Ar2.1) (State.isArrayOf_alike hZ.alike Ar2.2.1) (g := (mkF m 3 #[.val (.ref b1), .val (.ref b2), .unset] [(.ref b2), (.int (Int32.ofNat n))])) rfl rfl (hb hby d4_3) _ ?_
    rw [hl2]
    show Steps p.tables e below (s₁.setTop (mkF m 4 #[.val (.ref b1), .val (.ref b2), .unset] [(.int (Int32.ofNat n)), (.int (Int32.ofNat n))])) _
    refine XS.icmpNo X0.here hx rfl (hb hby d4_4) rfl (teq rfl).2 ?_
    show Steps p.tables e below (s₁.setTop (mkF m 7 #[.val (.ref b1), .val (.ref b2), .unset] [])) _
    refine XS.iconst X0.here hx rfl (hb hby d4_7) ?_
    show Steps p.tables e below (s₁.setTop (mkF m 8 #[.val (.ref b1), .val (.ref b2), .unset] [(.int (0 : Int32))])) _
    refine XS.istoreN X0.here hx rfl (hb hby d4_8) rfl (l' := #[.val (.ref b1), .val (.ref b2), .val (.int (0 : Int32))]) rfl ?_
    exact kt
  have loop : ∀ (k i : Nat) (T0 : State), i + k = n → Stand p l e ({ frames := 0, cells := 0, slots := 0, locals := 0 } : Room) s m #[(.ref b1), (.ref b2)] below meth c T0 [] 0 0 → T0.heap = h0 → ∃ T' : State, Stand p l e ({ frames := 0, cells := 0, slots := 0, locals := 0 } : Room) s m #[(.ref b1), (.ref b2)] below meth c T' [] 0 0 ∧ T'.heap = h0 ∧ ∀ t', Steps p.tables e below (T'.setTop (mkF m 32 #[.val (.ref b1), .val (.ref b2), .val (.int (Int32.ofNat n))] [])) t' → Steps p.tables e below (T0.setTop (mkF m 9 #[.val (.ref b1), .val (.ref b2), .val (.int (Int32.ofNat i))] [])) t' := by
    intro k
    induction k with
    | zero =>
      intro i T0 hi XX e0'
      obtain rfl : i = n := by omega
      have sg2 : ∀ t₀, Steps p.tables e below (T0.setTop (mkF m 32 #[.val (.ref b1), .val (.ref b2), .val (.int (Int32.ofNat i))] [])) t₀ → Steps p.tables e below (T0.setTop (mkF m 9 #[.val (.ref b1), .val (.ref b2), .val (.int (Int32.ofNat i))] [])) t₀ := by
        intro t₀ kt
        show Steps p.tables e below (T0.setTop (mkF m 9 #[.val (.ref b1), .val (.ref b2), .val (.int (Int32.ofNat i))] [])) _
        refine XS.iloadN XX.here hx rfl (hb hby d4_9) rfl ?_
        show Steps p.tables e below (T0.setTop (mkF m 10 #[.val (.ref b1), .val (.ref b2), .val (.int (Int32.ofNat i))] [(.int (Int32.ofNat i))])) _
        refine XS.aloadN XX.here hx rfl (hb hby d4_10) rfl rfl ?_
        show Steps p.tables e below (T0.setTop (mkF m 11 #[.val (.ref b1), .val (.ref b2), .val (.int (Int32.ofNat i))] [(.ref b1), (.int (Int32.ofNat i))])) _
        refine XX.arraylength hx (by rw [e0']; exact Ar1.1) (State.isArrayOf_alike hZ.alike Ar1.2.1) (g := (mkF m 11 #[.val (.ref b1), .val (.ref b2), .val (.int (Int32.ofNat i))] [(.ref b1), (.int (Int32.ofNat i))])) rfl rfl (hb hby d4_11) _ ?_
        rw [hl1]
        show Steps p.tables e below (T0.setTop (mkF m 12 #[.val (.ref b1), .val (.ref b2), .val (.int (Int32.ofNat i))] [(.int (Int32.ofNat i)), (.int (Int32.ofNat i))])) _
        refine XS.icmpYes XX.here hx rfl (pc0 := 12) (pc' := 32) rfl (hb hby d4_12) rfl (flt (Int32.lt_irrefl : ¬ (Int32.ofNat i < Int32.ofNat i))).2.1 (by decide) (by decide) ?_
        exact kt
      exact ⟨_, XX, e0', fun t' kt => sg2 _ (kt)⟩
    | succ k ih =>
      intro i T0 hi XX e0'
      have hin1 := own_in (i := i) Sz1 (by omega) (by omega)
      have hat1 := own_at (i := i) Hs1 (by omega) (by omega)
      have hin2 := own_in (i := i) Sz2 (by omega) (by omega)
      have hat2 := own_at (i := i) Hs2 (by omega) (by omega)
      have sg3 : ∀ t₀, Steps p.tables e below (T0.setTop (mkF m 9 #[.val (.ref b1), .val (.ref b2), .val (.int ((Int32.ofNat i) + (1 : Int32)))] [])) t₀ → Steps p.tables e below (T0.setTop (mkF m 9 #[.val (.ref b1), .val (.ref b2), .val (.int (Int32.ofNat i))] [])) t₀ := by
        intro t₀ kt
        show Steps p.tables e below (T0.setTop (mkF m 9 #[.val (.ref b1), .val (.ref b2), .val (.int (Int32.ofNat i))] [])) _
        refine XS.iloadN XX.here hx rfl (hb hby d4_9) rfl ?_
        show Steps p.tables e below (T0.setTop (mkF m 10 #[.val (.ref b1), .val (.ref b2), .val (.int (Int32.ofNat i))] [(.int (Int32.ofNat i))])) _
        refine XS.aloadN XX.here hx rfl (hb hby d4_10) rfl rfl ?_
        show Steps p.tables e below (T0.setTop (mkF m 11 #[.val (.ref b1), .val (.ref b2), .val (.int (Int32.ofNat i))] [(.ref b1), (.int (Int32.ofNat i))])) _
        refine XX.arraylength hx (by rw [e0']; exact Ar1.1) (State.isArrayOf_alike hZ.alike Ar1.2.1) (g := (mkF m 11 #[.val (.ref b1), .val (.ref b2), .val (.int (Int32.ofNat i))] [(.ref b1), (.int (Int32.ofNat i))])) rfl rfl (hb hby d4_11) _ ?_
        rw [hl1]
        show Steps p.tables e below (T0.setTop (mkF m 12 #[.val (.ref b1), .val (.ref b2), .val (.int (Int32.ofNat i))] [(.int (Int32.ofNat n)), (.int (Int32.ofNat i))])) _
        refine XS.icmpNo XX.here hx rfl (hb hby d4_12) rfl (tlt (own_lt (i := i) (n := n) (by omega) (by omega))).2.1 ?_
        show Steps p.tables e below (T0.setTop (mkF m 15 #[.val (.ref b1), .val (.ref b2), .val (.int (Int32.ofNat i))] [])) _
        refine XS.aloadN XX.here hx rfl (hb hby d4_15) rfl rfl ?_
        show Steps p.tables e below (T0.setTop (mkF m 16 #[.val (.ref b1), .val (.ref b2), .val (.int (Int32.ofNat i))] [(.ref b1)])) _
        refine XS.iloadN XX.here hx rfl (hb hby d4_16) rfl ?_
        show Steps p.tables e below (T0.setTop (mkF m 17 #[.val (.ref b1), .val (.ref b2), .val (.int (Int32.ofNat i))] [(.int (Int32.ofNat i)), (.ref b1)])) _
        refine XX.baloadBytes hx (j := (Int32.ofNat i)) (v := (.int (f i))) (by rw [e0']; exact Ar1.1) (State.isArrayOf_alike hZ.alike Ar1.2.1) Ar1.2.2 hin1 hat1 (g := (mkF m 17 #[.val (.ref b1), .val (.ref b2), .val (.int (Int32.ofNat i))] [(.int (Int32.ofNat i)), (.ref b1)])) rfl rfl (hb hby d4_17) _ ?_
        show Steps p.tables e below (T0.setTop (mkF m 18 #[.val (.ref b1), .val (.ref b2), .val (.int (Int32.ofNat i))] [(.int (f i))])) _
        refine XS.aloadN XX.here hx rfl (hb hby d4_18) rfl rfl ?_
        show Steps p.tables e below (T0.setTop (mkF m 19 #[.val (.ref b1), .val (.ref b2), .val (.int (Int32.ofNat i))] [(.ref b2), (.int (f i))])) _
        refine XS.iloadN XX.here hx rfl (hb hby d4_19) rfl ?_
        show Steps p.tables e below (T0.setTop (mkF m 20 #[.val (.ref b1), .val (.ref b2), .val (.int (Int32.ofNat i))] [(.int (Int32.ofNat i)), (.ref b2), (.int (f i))])) _
        refine XX.baloadBytes hx (j := (Int32.ofNat i)) (v := (.int (f i))) (by rw [e0']; exact Ar2.1) (State.isArrayOf_alike hZ.alike Ar2.2.1) Ar2.2.2 hin2 hat2 (g := (mkF m 20 #[.val (.ref b1), .val (.ref b2), .val (.int (Int32.ofNat i))] [(.int (Int32.ofNat i)), (.ref b2), (.int (f i))])) rfl rfl (hb hby d4_20) _ ?_
        show Steps p.tables e below (T0.setTop (mkF m 21 #[.val (.ref b1), .val (.ref b2), .val (.int (Int32.ofNat i))] [(.int (f i)), (.int (f i))])) _
        refine XS.icmpYes XX.here hx rfl (pc0 := 21) (pc' := 26) rfl (hb hby d4_21) rfl (teq rfl).1 (by decide) (by decide) ?_
        show Steps p.tables e below (T0.setTop (mkF m 26 #[.val (.ref b1), .val (.ref b2), .val (.int (Int32.ofNat i))] [])) _
        refine XS.iinc XX.here hx rfl (hb hby d4_26) rfl (l' := #[.val (.ref b1), .val (.ref b2), .val (.int ((Int32.ofNat i) + (1 : Int32)))]) rfl ?_
        show Steps p.tables e below (T0.setTop (mkF m 29 #[.val (.ref b1), .val (.ref b2), .val (.int ((Int32.ofNat i) + (1 : Int32)))] [])) _
        refine XS.goto XX.here hx rfl (pc0 := 29) (pc' := 9) rfl (hb hby d4_29) (by decide) (by decide) ?_
        exact kt
      obtain ⟨T9, X9, e9, st9⟩ := ih (i + 1) _ (by omega) XX e0'
      rw [own_one] at st9
      exact ⟨T9, X9, e9, fun t' kt => sg3 _ ((st9 t' kt))⟩
  obtain ⟨TL, XL, eL, stL⟩ := loop n 0 s₁ (by omega) X0 e0
  have sg4 : ∀ t₀, Steps p.tables e below (TL.setTop (mkF m 33 #[.val (.ref b1), .val (.ref b2), .val (.int (Int32.ofNat n))] [(.int (1 : Int32))])) t₀ → Steps p.tables e below (TL.setTop (mkF m 32 #[.val (.ref b1), .val (.ref b2), .val (.int (Int32.ofNat n))] [])) t₀ := by
    intro t₀ kt
    show Steps p.tables e below (TL.setTop (mkF m 32 #[.val (.ref b1), .val (.ref b2), .val (.int (Int32.ofNat n))] [])) _
    refine XS.iconst XL.here hx rfl (hb hby d4_32) ?_
    exact kt
  obtain ⟨fs, hr, hrun, hended, hW, hsame⟩ := XL.leave (v := some (.int (1 : Int32))) (fun h => by rw [Bd.returns] at h; cases h)
  refine ⟨_, _, pre0 _ ?_, hrun, hended, _, _, rfl, ?_, ⟨_, rfl⟩, hW, hsame.mono (by decide) (by decide)⟩
  · exact sg1 _ (stL _ (sg4 _ ((retN XL hx (t := .boolean) Bd.returns (by simp) (hb hby d4_33) hr))))
  · show Q4 Z b1 b2 n f h0 n0 _ TL.heap _
    rw [eL]
    exact ⟨rfl, N0, rfl⟩
def Q3 (Z : State) (a1 : Addr) (a2 : Addr) (b1 : Addr) (b2 : Addr) (n : Nat) (f : Nat → Int32) (zc : Int32) (h0 : Heap) (n0 : Nat) (v : Option Value) (h : Heap) (L : List Loc) : Prop := v = some (.int (1 : Int32)) ∧ Fr n0 L ∧ h = h0
set_option maxRecDepth 65536 in
set_option maxHeartbeats 40000000 in
theorem rm3 (l : Launch) (Z : State) (a0 : Array Value) (hw : ∀ d ∈ tables_1, d.before a0 Z = true) (ws : List Jvm.Cond) (a1 : Addr) (a2 : Addr) (b1 : Addr) (b2 : Addr) (n : Nat) (f : Nat → Int32) (zc : Int32) (h0 : Heap) (n0 : Nat) (Z0 : n0 ≤ h0.size) (S1 : own_S Z h0 a1 b1 n f) (S2 : own_S Z h0 a2 b2 n f) (C1 : Sta Z h0 "java/lang/String" "COMPACT_STRINGS" "Z" (.int zc)) (hz : ¬ zc = (0 : Int32)) (hn : n ≤ 2) :
    MetFree l (⟨"java/lang/String", "equals", "(Ljava/lang/Object;)Z"⟩ : MethodName) (head1 (Jvm.Cond.code (⟨"java/lang/String", "equals", "(Ljava/lang/Object;)Z"⟩ : MethodName) jdk_42_method_66_code 3 (some .boolean) :: ws) ({ frames := 1, cells := 0, slots := 0, locals := 14 } : Room)) (fun a U => a = #[(.ref a1), (.ref a2)] ∧ Z.Warmed39 U.vm ∧ U.heap = h0) (fun _ _ _ _ _ => True) (fun _ U oo U' => ∃ v L, oo = .returned v ∧ Q3 Z a1 a2 b1 b2 n f zc h0 n0 v U'.heap L ∧ FrameEnd U oo U' L ({ frames := 1, cells := 0, slots := 0, locals := 14 } : Room).cells ({ frames := 1, cells := 0, slots := 0, locals := 14 } : Room).slots) := by
  refine MetFree.of_bodySF (plainFor_of_name pn_3) hisR ?_
  intro p e s m args below meth c s₁ Bd hml0 hP hK
  obtain ⟨rfl, hZ, hh⟩ := hP
  have hx := Bd.exec
  have hby := Bd.bytes
  have hml : c.maxLocals = 3 := hml0
  have hown : s.vm.findClass "java/lang/String" = some m.cls := findClass_of_methodNamed Bd.named
  have hnm := (name_of_methodNamed Bd.named Bd.method).1
  have X0 : Stand p l e ({ frames := 1, cells := 0, slots := 0, locals := 14 } : Room) s m #[(.ref a1), (.ref a2)] below meth c s₁ [] 0 0 := Stand.of_body Bd
  have e0 : s₁.heap = h0 := by rw [← hh, Bd.state]; rfl
  have N0 := Fr.nil n0
  have pre0 : ∀ t₀, Steps p.tables e below (s₁.setTop (mkF m 0 #[.val (.ref a1), .val (.ref a2), .unset] [])) t₀ → Steps p.tables e below (s₁.setTop (entryFrame m #[(.ref a1), (.ref a2)] 3)) t₀ := fun t₀ k => castTop (ef_3 m a1 a2) k
  obtain ⟨E1, F1, V1, A1⟩ := S1
  obtain ⟨E2, F2, V2, A2⟩ := S2
  by_cases hq9 : a1 = a2
  · have sg1 : ∀ t₀, Steps p.tables e below (s₁.setTop (mkF m 6 #[.val (.ref a1), .val (.ref a2), .unset] [(.int (1 : Int32))])) t₀ → Steps p.tables e below (s₁.setTop (mkF m 0 #[.val (.ref a1), .val (.ref a2), .unset] [])) t₀ := by
      intro t₀ kt
      show Steps p.tables e below (s₁.setTop (mkF m 0 #[.val (.ref a1), .val (.ref a2), .unset] [])) _
      refine XS.aloadN X0.here hx rfl (hb hby d3_0) rfl rfl ?_
      show Steps p.tables e below (s₁.setTop (mkF m 1 #[.val (.ref a1), .val (.ref a2), .unset] [(.ref a1)])) _
      refine XS.aloadN X0.here hx rfl (hb hby d3_1) rfl rfl ?_
      show Steps p.tables e below (s₁.setTop (mkF m 2 #[.val (.ref a1), .val (.ref a2), .unset] [(.ref a2), (.ref a1)])) _
      refine Jvm.RoadKit.acmp (g := (mkF m 2 #[.val (.ref a1), .val (.ref a2), .unset] [(.ref a2), (.ref a1)])) X0 hx rfl rfl rfl (pc0 := 2) (pc' := 5) (same := true) rfl (hb hby d3_2) rfl (decide_eq_true (congrArg Value.ref hq9)) (by decide) (by decide) ?_
      show Steps p.tables e below (s₁.setTop (mkF m 5 #[.val (.ref a1), .val (.ref a2), .unset] [])) _
      refine XS.iconst X0.here hx rfl (hb hby d3_5) ?_
      exact kt
    obtain ⟨fs, hr, hrun, hended, hW, hsame⟩ := X0.leave (v := some (.int (1 : Int32))) (fun h => by rw [Bd.returns] at h; cases h)
    refine ⟨_, _, pre0 _ ?_, hrun, hended, _, _, rfl, ?_, ⟨_, rfl⟩, hW, hsame.mono (by decide) (by decide)⟩
    · exact sg1 _ ((retN X0 hx (t := .boolean) Bd.returns (by simp) (hb hby d3_6) hr))
    · show Q3 Z a1 a2 b1 b2 n f zc h0 n0 _ s₁.heap _
      rw [e0]
      exact ⟨rfl, N0, rfl⟩
  · have sg2 : ∀ t₀, Steps p.tables e below (s₁.setTop (mkF m 8 #[.val (.ref a1), .val (.ref a2), .unset] [(.ref a2)])) t₀ → Steps p.tables e below (s₁.setTop (mkF m 0 #[.val (.ref a1), .val (.ref a2), .unset] [])) t₀ := by
      intro t₀ kt
      show Steps p.tables e below (s₁.setTop (mkF m 0 #[.val (.ref a1), .val (.ref a2), .unset] [])) _
      refine XS.aloadN X0.here hx rfl (hb hby d3_0) rfl rfl ?_
      show Steps p.tables e below (s₁.setTop (mkF m 1 #[.val (.ref a1), .val (.ref a2), .unset] [(.ref a1)])) _
      refine XS.aloadN X0.here hx rfl (hb hby d3_1) rfl rfl ?_
      show Steps p.tables e below (s₁.setTop (mkF m 2 #[.val (.ref a1), .val (.ref a2), .unset] [(.ref a2), (.ref a1)])) _
      refine Jvm.RoadKit.acmp (g := (mkF m 2 #[.val (.ref a1), .val (.ref a2), .unset] [(.ref a2), (.ref a1)])) X0 hx rfl rfl rfl (pc0 := 2) (pc' := 7) (same := false) rfl (hb hby d3_2) rfl (decide_eq_false fun q => hq9 (Value.ref.inj q)) (by decide) (by decide) ?_
      show Steps p.tables e below (s₁.setTop (mkF m 7 #[.val (.ref a1), .val (.ref a2), .unset] [])) _
      refine XS.aloadN X0.here hx rfl (hb hby d3_7) rfl rfl ?_
      exact kt
    obtain ⟨T3, X3, e3, st3⟩ := instY X0 hx hZ hown (hw _ (List.mem_of_getElem? (i := 27) rfl)) e0 (Ins.self E2) (g := (mkF m 8 #[.val (.ref a1), .val (.ref a2), .unset] [(.ref a2)])) rfl rfl (hb hby d3_8)
    have sg4 : ∀ t₀, Steps p.tables e below (T3.setTop (mkF m 15 #[.val (.ref a1), .val (.ref a2), .unset] [(.ref a2)])) t₀ → Steps p.tables e below (T3.setTop (mkF m 11 #[.val (.ref a1), .val (.ref a2), .unset] [(.int (1 : Int32))])) t₀ := by
      intro t₀ kt
      show Steps p.tables e below (T3.setTop (mkF m 11 #[.val (.ref a1), .val (.ref a2), .unset] [(.int (1 : Int32))])) _
      refine XS.ifNo X3.here hx rfl (hb hby d3_11) rfl ((if0 _ _).trans (feq (by decide : ¬ ((1 : Int32) = (0 : Int32)))).1) ?_
      show Steps p.tables e below (T3.setTop (mkF m 14 #[.val (.ref a1), .val (.ref a2), .unset] [])) _
      refine XS.aloadN X3.here hx rfl (hb hby d3_14) rfl rfl ?_
      exact kt
    obtain ⟨T5, X5, e5, st5⟩ := castY X3 hx hZ hown (hw _ (List.mem_of_getElem? (i := 27) rfl)) e3 (Ins.self E2) (g := (mkF m 15 #[.val (.ref a1), .val (.ref a2), .unset] [(.ref a2)])) rfl rfl (hb hby d3_15)
    have sg6 : ∀ t₀, Steps p.tables e below (T5.setTop (mkF m 19 #[.val (.ref a1), .val (.ref a2), .val (.ref a2)] [])) t₀ → Steps p.tables e below (T5.setTop (mkF m 18 #[.val (.ref a1), .val (.ref a2), .unset] [(.ref a2)])) t₀ := by
      intro t₀ kt
      show Steps p.tables e below (T5.setTop (mkF m 18 #[.val (.ref a1), .val (.ref a2), .unset] [(.ref a2)])) _
      refine XS.astoreN X5.here hx rfl (hb hby d3_18) rfl rfl (l' := #[.val (.ref a1), .val (.ref a2), .val (.ref a2)]) rfl ?_
      exact kt
    obtain ⟨T7, X7, e7, st7⟩ := getS2 X5 hx hZ hown (host := "") (Or.inl (hw _ (List.mem_of_getElem? (i := 29) rfl))) Via.refl e5 C1 (g := (mkF m 19 #[.val (.ref a1), .val (.ref a2), .val (.ref a2)] [])) rfl (hb hby d3_19)
    have sg8 : ∀ t₀, Steps p.tables e below (T7.setTop (mkF m 26 #[.val (.ref a1), .val (.ref a2), .val (.ref a2)] [(.ref a1)])) t₀ → Steps p.tables e below (T7.setTop (mkF m 22 #[.val (.ref a1), .val (.ref a2), .val (.ref a2)] [(.int zc)])) t₀ := by
      intro t₀ kt
      show Steps p.tables e below (T7.setTop (mkF m 22 #[.val (.ref a1), .val (.ref a2), .val (.ref a2)] [(.int zc)])) _
      refine XS.ifNo X7.here hx rfl (hb hby d3_22) rfl ((if0 _ _).trans (feq hz).1) ?_
      show Steps p.tables e below (T7.setTop (mkF m 25 #[.val (.ref a1), .val (.ref a2), .val (.ref a2)] [])) _
      refine XS.aloadN X7.here hx rfl (hb hby d3_25) rfl rfl ?_
      exact kt
    obtain ⟨T9, X9, e9, st9⟩ := getF X7 hx hZ hown (host := "") (Or.inl (hw _ (List.mem_of_getElem? (i := 30) rfl))) Via.refl e7 F1 (g := (mkF m 26 #[.val (.ref a1), .val (.ref a2), .val (.ref a2)] [(.ref a1)])) rfl rfl (hb hby d3_26)
    have sg10 : ∀ t₀, Steps p.tables e below (T9.setTop (mkF m 30 #[.val (.ref a1), .val (.ref a2), .val (.ref a2)] [(.ref a2), (.int (0 : Int32))])) t₀ → Steps p.tables e below (T9.setTop (mkF m 29 #[.val (.ref a1), .val (.ref a2), .val (.ref a2)] [(.int (0 : Int32))])) t₀ := by
      intro t₀ kt
      show Steps p.tables e below (T9.setTop (mkF m 29 #[.val (.ref a1), .val (.ref a2), .val (.ref a2)] [(.int (0 : Int32))])) _
      refine XS.aloadN X9.here hx rfl (hb hby d3_29) rfl rfl ?_
      exact kt
    obtain ⟨T11, X11, e11, st11⟩ := getF X9 hx hZ hown (host := "") (Or.inl (hw _ (List.mem_of_getElem? (i := 30) rfl))) Via.refl e9 F2 (g := (mkF m 30 #[.val (.ref a1), .val (.ref a2), .val (.ref a2)] [(.ref a2), (.int (0 : Int32))])) rfl rfl (hb hby d3_30)
    have sg12 : ∀ t₀, Steps p.tables e below (T11.setTop (mkF m 37 #[.val (.ref a1), .val (.ref a2), .val (.ref a2)] [(.ref a1)])) t₀ → Steps p.tables e below (T11.setTop (mkF m 33 #[.val (.ref a1), .val (.ref a2), .val (.ref a2)] [(.int (0 : Int32)), (.int (0 : Int32))])) t₀ := by
      intro t₀ kt
      show Steps p.tables e below (T11.setTop (mkF m 33 #[.val (.ref a1), .val (.ref a2), .val (.ref a2)] [(.int (0 : Int32)), (.int (0 : Int32))])) _
      refine XS.icmpNo X11.here hx rfl (hb hby d3_33) rfl (teq (by decide : (0 : Int32) = (0 : Int32))).2 ?_
      show Steps p.tables e below (T11.setTop (mkF m 36 #[.val (.ref a1), .val (.ref a2), .val (.ref a2)] [])) _
      refine XS.aloadN X11.here hx rfl (hb hby d3_36) rfl rfl ?_
      exact kt
    obtain ⟨T13, X13, e13, st13⟩ := getF X11 hx hZ hown (host := "") (Or.inl (hw _ (List.mem_of_getElem? (i := 31) rfl))) Via.refl e11 V1 (g := (mkF m 37 #[.val (.ref a1), .val (.ref a2), .val (.ref a2)] [(.ref a1)])) rfl rfl (hb hby d3_37)
    have sg14 : ∀ t₀, Steps p.tables e below (T13.setTop (mkF m 41 #[.val (.ref a1), .val (.ref a2), .val (.ref a2)] [(.ref a2), (.ref b1)])) t₀ → Steps p.tables e below (T13.setTop (mkF m 40 #[.val (.ref a1), .val (.ref a2), .val (.ref a2)] [(.ref b1)])) t₀ := by
      intro t₀ kt
      show Steps p.tables e below (T13.setTop (mkF m 40 #[.val (.ref a1), .val (.ref a2), .val (.ref a2)] [(.ref b1)])) _
      refine XS.aloadN X13.here hx rfl (hb hby d3_40) rfl rfl ?_
      exact kt
    obtain ⟨T15, X15, e15, st15⟩ := getF X13 hx hZ hown (host := "") (Or.inl (hw _ (List.mem_of_getElem? (i := 31) rfl))) Via.refl e13 V2 (g := (mkF m 41 #[.val (.ref a1), .val (.ref a2), .val (.ref a2)] [(.ref a2), (.ref b1)])) rfl rfl (hb hby d3_41)
    obtain ⟨_, _, ⟨T17, L17, k17, n17⟩, -, X17, ⟨Lc17, hQ17, l17, y17, z17⟩, st17⟩ := Jvm.LawKit.callS X15 hx (y := (⟨"java/lang/StringLatin1", "equals", "([B[B)Z"⟩ : MethodName)) hown (mvT hZ (hw _ (List.mem_of_getElem? (i := 32) rfl))) (mvT hZ (hw _ (List.mem_of_getElem? (i := 33) rfl))) (mvT hZ (hw _ (List.mem_of_getElem? (i := 34) rfl))) (mvT hZ (hw _ (List.mem_of_getElem? (i := 35) rfl))) (by decide) (backOf (W := 0) (rm4 l Z a0 hw [] b1 b2 n f h0 n0 Z0 A1 A2 hn) hZ (hw _ (List.mem_of_getElem? (i := 35) rfl)) (hw _ (List.mem_of_getElem? (i := 34) rfl)) (by decide) (by decide)) (g := (mkF m 44 #[.val (.ref a1), .val (.ref a2), .val (.ref a2)] [(.ref b2), (.ref b1)])) rfl (by rw [hml]; rfl) (argsL := [(.ref b1), (.ref b2)]) (rest := []) (lenOf pd_11 rfl) rfl (by show 2 * 0 + _ ≤ _; exact Nat.le_of_eq rfl) (hb hby d3_44) (fun _ _ => ⟨rfl, e15, (by decide : 0 + 0 ≤ _), (by decide : 0 + 0 ≤ _)⟩)
    dsimp only [Pt.U, Pt.locs, Pt.cells, Pt.slots] at X17 l17 y17 z17 st17 hQ17
    subst l17 y17 z17
    obtain ⟨rfl, N17q, hh17⟩ := hQ17
    have N17 := Fr.app N0 N17q
    have sg18 : ∀ t₀, Steps p.tables e below (T17.setTop (mkF m 55 #[.val (.ref a1), .val (.ref a2), .val (.ref a2)] [(.int (1 : Int32))])) t₀ → Steps p.tables e below (T17.setTop (mkF m 47 #[.val (.ref a1), .val (.ref a2), .val (.ref a2)] [(.int (1 : Int32))])) t₀ := by
      intro t₀ kt
      show Steps p.tables e below (T17.setTop (mkF m 47 #[.val (.ref a1), .val (.ref a2), .val (.ref a2)] [(.int (1 : Int32))])) _
      refine XS.ifNo X17.here hx rfl (hb hby d3_47) rfl ((if0 _ _).trans (feq (by decide : ¬ ((1 : Int32) = (0 : Int32)))).1) ?_
      show Steps p.tables e below (T17.setTop (mkF m 50 #[.val (.ref a1), .val (.ref a2), .val (.ref a2)] [])) _
      refine XS.iconst X17.here hx rfl (hb hby d3_50) ?_
      show Steps p.tables e below (T17.setTop (mkF m 51 #[.val (.ref a1), .val (.ref a2), .val (.ref a2)] [(.int (1 : Int32))])) _
      refine XS.goto X17.here hx rfl (pc0 := 51) (pc' := 55) rfl (hb hby d3_51) (by decide) (by decide) ?_
      exact kt
    obtain ⟨fs, hr, hrun, hended, hW, hsame⟩ := X17.leave (v := some (.int (1 : Int32))) (fun h => by rw [Bd.returns] at h; cases h)
    refine ⟨_, _, pre0 _ ?_, hrun, hended, _, _, rfl, ?_, ⟨_, rfl⟩, hW, hsame.mono (by decide) (by decide)⟩
    · exact sg2 _ (st3 _ (sg4 _ (st5 _ (sg6 _ (st7 _ (sg8 _ (st9 _ (sg10 _ (st11 _ (sg12 _ (st13 _ (sg14 _ (st15 _ (st17 _ (sg18 _ ((retN X17 hx (t := .boolean) Bd.returns (by simp) (hb hby d3_55) hr)))))))))))))))))
    · show Q3 Z a1 a2 b1 b2 n f zc h0 n0 _ T17.heap _
      rw [hh17]
      exact ⟨rfl, N17, rfl⟩
def Q2 (Z : State) (a1 : Addr) (sA : Addr) (h0 : Heap) (n0 : Nat) (v : Option Value) (h : Heap) (L : List Loc) : Prop := v = some (.ref sA) ∧ Fr n0 L ∧ h = h0
set_option maxRecDepth 65536 in
set_option maxHeartbeats 40000000 in
theorem rm2 (l : Launch) (Z : State) (a0 : Array Value) (hw : ∀ d ∈ tables_1, d.before a0 Z = true) (ws : List Jvm.Cond) (a1 : Addr) (sA : Addr) (h0 : Heap) (n0 : Nat) (Z0 : n0 ≤ h0.size) (F1 : Fld Z h0 a1 "com/example/thangdiem/thangdiem/method/Formula$Comparison" "sign" "Ljava/lang/String;" (.ref sA)) :
    MetFree l (⟨"com/example/thangdiem/thangdiem/method/Formula$Comparison", "sign", "()Ljava/lang/String;"⟩ : MethodName) (head1 (Jvm.Cond.code (⟨"com/example/thangdiem/thangdiem/method/Formula$Comparison", "sign", "()Ljava/lang/String;"⟩ : MethodName) prog_40_method_4_code 1 (some (.object "java/lang/String")) :: ws) ({ frames := 0, cells := 0, slots := 0, locals := 0 } : Room)) (fun a U => a = #[(.ref a1)] ∧ Z.Warmed39 U.vm ∧ U.heap = h0) (fun _ _ _ _ _ => True) (fun _ U oo U' => ∃ v L, oo = .returned v ∧ Q2 Z a1 sA h0 n0 v U'.heap L ∧ FrameEnd U oo U' L ({ frames := 0, cells := 0, slots := 0, locals := 0 } : Room).cells ({ frames := 0, cells := 0, slots := 0, locals := 0 } : Room).slots) := by
  refine MetFree.of_bodySF (plainFor_of_name pn_2) hisR ?_
  intro p e s m args below meth c s₁ Bd hml0 hP hK
  obtain ⟨rfl, hZ, hh⟩ := hP
  have hx := Bd.exec
  have hby := Bd.bytes
  have hml : c.maxLocals = 1 := hml0
  have hown : s.vm.findClass "com/example/thangdiem/thangdiem/method/Formula$Comparison" = some m.cls := findClass_of_methodNamed Bd.named
  have hnm := (name_of_methodNamed Bd.named Bd.method).1
  have X0 : Stand p l e ({ frames := 0, cells := 0, slots := 0, locals := 0 } : Room) s m #[(.ref a1)] below meth c s₁ [] 0 0 := Stand.of_body Bd
  have e0 : s₁.heap = h0 := by rw [← hh, Bd.state]; rfl
  have N0 := Fr.nil n0
  have pre0 : ∀ t₀, Steps p.tables e below (s₁.setTop (mkF m 0 #[.val (.ref a1)] [])) t₀ → Steps p.tables e below (s₁.setTop (entryFrame m #[(.ref a1)] 1)) t₀ := fun t₀ k => castTop (ef_2 m a1) k
  have sg1 : ∀ t₀, Steps p.tables e below (s₁.setTop (mkF m 1 #[.val (.ref a1)] [(.ref a1)])) t₀ → Steps p.tables e below (s₁.setTop (mkF m 0 #[.val (.ref a1)] [])) t₀ := by
    intro t₀ kt
    show Steps p.tables e below (s₁.setTop (mkF m 0 #[.val (.ref a1)] [])) _
    refine XS.aloadN X0.here hx rfl (hb hby d2_0) rfl rfl ?_
    exact kt
  obtain ⟨T2, X2, e2, st2⟩ := getF X0 hx hZ hown (host := "") (Or.inl (hw _ (List.mem_of_getElem? (i := 20) rfl))) Via.refl e0 F1 (g := (mkF m 1 #[.val (.ref a1)] [(.ref a1)])) rfl rfl (hb hby d2_1)
  obtain ⟨fs, hr, hrun, hended, hW, hsame⟩ := X2.leave (v := some (.ref sA)) (fun h => by rw [Bd.returns] at h; cases h)
  refine ⟨_, _, pre0 _ ?_, hrun, hended, _, _, rfl, ?_, ⟨_, rfl⟩, hW, hsame.mono (by decide) (by decide)⟩
  · refine sg1 _ (st2 _ (?_))
    jvm_step X2.here [X2.here.top, hx, (hb hby d2_4), X2.method', Bd.returns, Value.isRef, FieldType.isReference]
    first | (intro acts; rw [hr _ acts rfl rfl rfl]) | rw [hr _ _ rfl rfl rfl]
    exact Steps.refl _
  · show Q2 Z a1 sA h0 n0 _ T2.heap _
    rw [e2]
    exact ⟨rfl, N0, rfl⟩
def Q1 (Z : State) (cA : Addr) (eA : Addr) (p3 : Int32) (sA : Addr) (sB : Addr) (eB : Addr) (n : Nat) (f : Nat → Int32) (od : Int32) (zc : Int32) (G3 : Value) (h0 : Heap) (n0 : Nat) (v : Option Value) (h : Heap) (L : List Loc) : Prop := v = some (.int (1 : Int32)) ∧ Fr n0 L ∧ h = h0
set_option maxRecDepth 65536 in
set_option maxHeartbeats 40000000 in
theorem rm1 (l : Launch) (Z : State) (a0 : Array Value) (hw : ∀ d ∈ tables_1, d.before a0 Z = true) (ws : List Jvm.Cond) (cA : Addr) (eA : Addr) (p3 : Int32) (sA : Addr) (sB : Addr) (eB : Addr) (n : Nat) (f : Nat → Int32) (od : Int32) (zc : Int32) (G3 : Value) (h0 : Heap) (n0 : Nat) (Z0 : n0 ≤ h0.size) (EC : Exa Z h0 cA "com/example/thangdiem/thangdiem/method/Formula$Comparison") (FS : Fld Z h0 cA "com/example/thangdiem/thangdiem/method/Formula$Comparison" "sign" "Ljava/lang/String;" (.ref sA)) (FO : Fld Z h0 cA "java/lang/Enum" "ordinal" "I" (.int od)) (S1 : own_S Z h0 sA sB n f) (S2 : own_S Z h0 eA eB n f) (C1 : Sta Z h0 "java/lang/String" "COMPACT_STRINGS" "Z" (.int zc)) (hz : ¬ zc = (0 : Int32)) (rG3 : G3.isRef = true) (P1 : Sta Z h0 "jdk/internal/util/Preconditions" "SIOOBE_FORMATTER" "Ljava/util/function/BiFunction;" G3) (hn : 1 ≤ n ∧ n ≤ 2) (hf : ∀ i, i < n → (f i = 60 ∨ f i = 61)) (ho : od = 0 ∨ od = 1 ∨ od = 2) (hfin : own_ho od p3 = own_or (own_bl (f 0) p3) (own_eq (f (n - 1)) p3)) :
    MetFree l (⟨"com/example/thangdiem/thangdiem/method/ComparisonHoldsPinLaw", "agrees", "(Lcom/example/thangdiem/thangdiem/method/Formula$Comparison;Ljava/lang/String;I)Z"⟩ : MethodName) (head1 (Jvm.Cond.code (⟨"com/example/thangdiem/thangdiem/method/ComparisonHoldsPinLaw", "agrees", "(Lcom/example/thangdiem/thangdiem/method/Formula$Comparison;Ljava/lang/String;I)Z"⟩ : MethodName) method_2_code 6 (some .boolean) :: ws) ({ frames := 4, cells := 0, slots := 0, locals := 53 } : Room)) (fun a U => a = #[(.ref cA), (.ref eA), (.int p3)] ∧ Z.Warmed39 U.vm ∧ U.heap = h0) (fun _ _ _ _ _ => True) (fun _ U oo U' => ∃ v L, oo = .returned v ∧ Q1 Z cA eA p3 sA sB eB n f od zc G3 h0 n0 v U'.heap L ∧ FrameEnd U oo U' L ({ frames := 4, cells := 0, slots := 0, locals := 53 } : Room).cells ({ frames := 4, cells := 0, slots := 0, locals := 53 } : Room).slots) := by
  refine MetFree.of_bodySF (plainFor_of_name pn_1) hisR ?_
  intro p e s m args below meth c s₁ Bd hml0 hP hK
  obtain ⟨rfl, hZ, hh⟩ := hP
  have hx := Bd.exec
  have hby := Bd.bytes
  have hml : c.maxLocals = 6 := hml0
  have hown : s.vm.findClass "com/example/thangdiem/thangdiem/method/ComparisonHoldsPinLaw" = some m.cls := findClass_of_methodNamed Bd.named
  have hnm := (name_of_methodNamed Bd.named Bd.method).1
  have X0 : Stand p l e ({ frames := 4, cells := 0, slots := 0, locals := 53 } : Room) s m #[(.ref cA), (.ref eA), (.int p3)] below meth c s₁ [] 0 0 := Stand.of_body Bd
  have e0 : s₁.heap = h0 := by rw [← hh, Bd.state]; rfl
  have N0 := Fr.nil n0
  have pre0 : ∀ t₀, Steps p.tables e below (s₁.setTop (mkF m 0 #[.val (.ref cA), .val (.ref eA), .val (.int p3), .unset, .unset, .unset] [])) t₀ → Steps p.tables e below (s₁.setTop (entryFrame m #[(.ref cA), (.ref eA), (.int p3)] 6)) t₀ := fun t₀ k => castTop (ef_1 m cA eA p3) k
  have ES := S1.1
  have sg1 : ∀ t₀, Steps p.tables e below (s₁.setTop (mkF m 1 #[.val (.ref cA), .val (.ref eA), .val (.int p3), .unset, .unset, .unset] [(.ref cA)])) t₀ → Steps p.tables e below (s₁.setTop (mkF m 0 #[.val (.ref cA), .val (.ref eA), .val (.int p3), .unset, .unset, .unset] [])) t₀ := by
    intro t₀ kt
    show Steps p.tables e below (s₁.setTop (mkF m 0 #[.val (.ref cA), .val (.ref eA), .val (.int p3), .unset, .unset, .unset] [])) _
    refine XS.aloadN X0.here hx rfl (hb hby d1_0) rfl rfl ?_
    exact kt
  obtain ⟨cq2, kq2, q2a, q2b, q2c⟩ := isOf hZ e0 EC
  obtain ⟨_, _, ⟨T2, L2, k2, n2⟩, -, X2, ⟨Lc2, hQ2, l2, y2, z2⟩, st2⟩ := X0.virtualBack hx (y := (⟨"com/example/thangdiem/thangdiem/method/Formula$Comparison", "sign", "()Ljava/lang/String;"⟩ : MethodName)) (z := (⟨"com/example/thangdiem/thangdiem/method/Formula$Comparison", "sign", "()Ljava/lang/String;"⟩ : MethodName)) hown (mvT hZ (hw _ (List.mem_of_getElem? (i := 15) rfl))) (mvT hZ (hw _ (List.mem_of_getElem? (i := 16) rfl))) (notFace_of_selects (args := #[]) (mvT hZ (hw _ (List.mem_of_getElem? (i := 18) rfl)))) (mvT hZ (hw _ (List.mem_of_getElem? (i := 18) rfl))) (mvT hZ (hw _ (List.mem_of_getElem? (i := 17) rfl))) (by decide) (backOf (W := 0) (rm2 l Z a0 hw [] cA sA h0 n0 Z0 FS) hZ (hw _ (List.mem_of_getElem? (i := 19) rfl)) (hw _ (List.mem_of_getElem? (i := 1) rfl)) (by decide) (by decide)) q2a q2c (g := (mkF m 1 #[.val (.ref cA), .val (.ref eA), .val (.int p3), .unset, .unset, .unset] [(.ref cA)])) rfl (by rw [hml]; rfl) (Steps.refl _) (argsL := []) (rest := []) (lenOf pd_2 rfl) rfl (by show 2 * 0 + _ ≤ _; exact Nat.le_of_eq rfl) (hb hby d1_1) (fun _ _ => ⟨rfl, e0, (by decide : 0 + 0 ≤ _), (by decide : 0 + 0 ≤ _)⟩)
  dsimp only [Pt.U, Pt.locs, Pt.cells, Pt.slots] at X2 l2 y2 z2 st2 hQ2
  subst l2 y2 z2
  obtain ⟨rfl, N2q, hh2⟩ := hQ2
  have N2 := Fr.app N0 N2q
  have sg3 : ∀ t₀, Steps p.tables e below (T2.setTop (mkF m 7 #[.val (.ref cA), .val (.ref eA), .val (.int p3), .val (.ref sA), .unset, .unset] [(.ref eA), (.ref sA)])) t₀ → Steps p.tables e below (T2.setTop (mkF m 4 #[.val (.ref cA), .val (.ref eA), .val (.int p3), .unset, .unset, .unset] [(.ref sA)])) t₀ := by
    intro t₀ kt
    show Steps p.tables e below (T2.setTop (mkF m 4 #[.val (.ref cA), .val (.ref eA), .val (.int p3), .unset, .unset, .unset] [(.ref sA)])) _
    refine XS.astoreN X2.here hx rfl (hb hby d1_4) rfl rfl (l' := #[.val (.ref cA), .val (.ref eA), .val (.int p3), .val (.ref sA), .unset, .unset]) rfl ?_
    show Steps p.tables e below (T2.setTop (mkF m 5 #[.val (.ref cA), .val (.ref eA), .val (.int p3), .val (.ref sA), .unset, .unset] [])) _
    refine XS.aloadN X2.here hx rfl (hb hby d1_5) rfl rfl ?_
    show Steps p.tables e below (T2.setTop (mkF m 6 #[.val (.ref cA), .val (.ref eA), .val (.int p3), .val (.ref sA), .unset, .unset] [(.ref sA)])) _
    refine XS.aloadN X2.here hx rfl (hb hby d1_6) rfl rfl ?_
    exact kt
  obtain ⟨cq4, kq4, q4a, q4b, q4c⟩ := isOf hZ hh2 ES
  obtain ⟨_, _, ⟨T4, L4, k4, n4⟩, -, X4, ⟨Lc4, hQ4, l4, y4, z4⟩, st4⟩ := X2.virtualBack hx (y := (⟨"java/lang/String", "equals", "(Ljava/lang/Object;)Z"⟩ : MethodName)) (z := (⟨"java/lang/String", "equals", "(Ljava/lang/Object;)Z"⟩ : MethodName)) hown (mvT hZ (hw _ (List.mem_of_getElem? (i := 22) rfl))) (mvT hZ (hw _ (List.mem_of_getElem? (i := 23) rfl))) (notFace_of_selects (args := #[]) (mvT hZ (hw _ (List.mem_of_getElem? (i := 25) rfl)))) (mvT hZ (hw _ (List.mem_of_getElem? (i := 25) rfl))) (mvT hZ (hw _ (List.mem_of_getElem? (i := 24) rfl))) (by decide) (backOf (W := 0) (rm3 l Z a0 hw [] sA eA sB eB n f zc h0 n0 Z0 S1 S2 C1 hz hn.2) hZ (hw _ (List.mem_of_getElem? (i := 26) rfl)) (hw _ (List.mem_of_getElem? (i := 4) rfl)) (by decide) (by decide)) q4a q4c (g := (mkF m 7 #[.val (.ref cA), .val (.ref eA), .val (.int p3), .val (.ref sA), .unset, .unset] [(.ref eA), (.ref sA)])) rfl (by rw [hml]; rfl) (Steps.refl _) (argsL := [(.ref eA)]) (rest := []) (lenOf pd_9 rfl) rfl (by show 2 * 0 + _ ≤ _; exact Nat.le_of_eq rfl) (hb hby d1_7) (fun _ _ => ⟨rfl, hh2, (by decide : 0 + 0 ≤ _), (by decide : 0 + 0 ≤ _)⟩)
  dsimp only [Pt.U, Pt.locs, Pt.cells, Pt.slots] at X4 l4 y4 z4 st4 hQ4
  subst l4 y4 z4
  obtain ⟨rfl, N4q, hh4⟩ := hQ4
  have N4 := Fr.app N2 N4q
  have sg5 : ∀ t₀, Steps p.tables e below (T4.setTop (mkF m 17 #[.val (.ref cA), .val (.ref eA), .val (.int p3), .val (.ref sA), .unset, .unset] [(.int (0 : Int32)), (.ref sA)])) t₀ → Steps p.tables e below (T4.setTop (mkF m 10 #[.val (.ref cA), .val (.ref eA), .val (.int p3), .val (.ref sA), .unset, .unset] [(.int (1 : Int32))])) t₀ := by
    intro t₀ kt
    show Steps p.tables e below (T4.setTop (mkF m 10 #[.val (.ref cA), .val (.ref eA), .val (.int p3), .val (.ref sA), .unset, .unset] [(.int (1 : Int32))])) _
    refine XS.ifYes X4.here hx rfl (pc0 := 10) (pc' := 15) rfl (hb hby d1_10) rfl ((if0 _ _).trans (feq (by decide : ¬ ((1 : Int32) = (0 : Int32)))).2) (by decide) (by decide) ?_
    show Steps p.tables e below (T4.setTop (mkF m 15 #[.val (.ref cA), .val (.ref eA), .val (.int p3), .val (.ref sA), .unset, .unset] [])) _
    refine XS.aloadN X4.here hx rfl (hb hby d1_15) rfl rfl ?_
    show Steps p.tables e below (T4.setTop (mkF m 16 #[.val (.ref cA), .val (.ref eA), .val (.int p3), .val (.ref sA), .unset, .unset] [(.ref sA)])) _
    refine XS.iconst X4.here hx rfl (hb hby d1_16) ?_
    exact kt
  obtain ⟨cq6, kq6, q6a, q6b, q6c⟩ := isOf hZ hh4 ES
  obtain ⟨_, _, ⟨T6, L6, k6, n6⟩, -, X6, ⟨Lc6, hQ6, l6, y6, z6⟩, st6⟩ := X4.virtualBack hx (y := (⟨"java/lang/String", "charAt", "(I)C"⟩ : MethodName)) (z := (⟨"java/lang/String", "charAt", "(I)C"⟩ : MethodName)) hown (mvT hZ (hw _ (List.mem_of_getElem? (i := 36) rfl))) (mvT hZ (hw _ (List.mem_of_getElem? (i := 37) rfl))) (notFace_of_selects (args := #[]) (mvT hZ (hw _ (List.mem_of_getElem? (i := 39) rfl)))) (mvT hZ (hw _ (List.mem_of_getElem? (i := 39) rfl))) (mvT hZ (hw _ (List.mem_of_getElem? (i := 38) rfl))) (by decide) (backOf (W := 0) (rm5 l Z a0 hw [] sA sB 0 n f zc G3 h0 n0 Z0 S1 C1 hz rG3 P1 (by omega) hn.2 (hf 0 (by omega))) hZ (hw _ (List.mem_of_getElem? (i := 40) rfl)) (hw _ (List.mem_of_getElem? (i := 4) rfl)) (by decide) (by decide)) q6a q6c (g := (mkF m 17 #[.val (.ref cA), .val (.ref eA), .val (.int p3), .val (.ref sA), .unset, .unset] [(.int (0 : Int32)), (.ref sA)])) rfl (by rw [hml]; rfl) (Steps.refl _) (argsL := [(.int (0 : Int32))]) (rest := []) (lenOf pd_4 rfl) rfl (by show 2 * 0 + _ ≤ _; exact Nat.le_of_eq rfl) (hb hby d1_17) (fun _ _ => ⟨rfl, hh4, (by decide : 0 + 0 ≤ _), (by decide : 0 + 0 ≤ _)⟩)
  dsimp only [Pt.U, Pt.locs, Pt.cells, Pt.slots] at X6 l6 y6 z6 st6 hQ6
  subst l6 y6 z6
  obtain ⟨rfl, N6q, hh6⟩ := hQ6
  have N6 := Fr.app N4 N6q
  have sg7 : ∀ t₀, Steps p.tables e below (T6.setTop (mkF m 22 #[.val (.ref cA), .val (.ref eA), .val (.int p3), .val (.ref sA), .unset, .unset] [(.int (60 : Int32)), (.int (f 0))])) t₀ → Steps p.tables e below (T6.setTop (mkF m 20 #[.val (.ref cA), .val (.ref eA), .val (.int p3), .val (.ref sA), .unset, .unset] [(.int (f 0))])) t₀ := by
    intro t₀ kt
    show Steps p.tables e below (T6.setTop (mkF m 20 #[.val (.ref cA), .val (.ref eA), .val (.int p3), .val (.ref sA), .unset, .unset] [(.int (f 0))])) _
    refine XS.bipush X6.here hx rfl (hb hby d1_20) ?_
    exact kt
  obtain ⟨bv, hsj8, sj8⟩ : ∃ bv : Int32, (bv = own_bl (f 0) p3) ∧ ∀ t₀, Steps p.tables e below (T6.setTop (mkF m 34 #[.val (.ref cA), .val (.ref eA), .val (.int p3), .val (.ref sA), .unset, .unset] [(.int bv)])) t₀ → Steps p.tables e below (T6.setTop (mkF m 22 #[.val (.ref cA), .val (.ref eA), .val (.int p3), .val (.ref sA), .unset, .unset] [(.int (60 : Int32)), (.int (f 0))])) t₀ := by
    by_cases hc22 : (f 0) = (60 : Int32)
    · by_cases hc26 : p3 < (0 : Int32)
      · refine ⟨(1 : Int32), by rw [own_bl, if_pos ⟨hc22, hc26⟩], fun t₀ kt => ?_⟩
        show Steps p.tables e below (T6.setTop (mkF m 22 #[.val (.ref cA), .val (.ref eA), .val (.int p3), .val (.ref sA), .unset, .unset] [(.int (60 : Int32)), (.int (f 0))])) _
        refine XS.icmpNo X6.here hx rfl (hb hby d1_22) rfl (teq hc22).2 ?_
        show Steps p.tables e below (T6.setTop (mkF m 25 #[.val (.ref cA), .val (.ref eA), .val (.int p3), .val (.ref sA), .unset, .unset] [])) _
        refine XS.iloadN X6.here hx rfl (hb hby d1_25) rfl ?_
        show Steps p.tables e below (T6.setTop (mkF m 26 #[.val (.ref cA), .val (.ref eA), .val (.int p3), .val (.ref sA), .unset, .unset] [(.int p3)])) _
        refine XS.ifNo X6.here hx rfl (hb hby d1_26) rfl ((if0 _ _).trans (tlt hc26).2.1) ?_
        show Steps p.tables e below (T6.setTop (mkF m 29 #[.val (.ref cA), .val (.ref eA), .val (.int p3), .val (.ref sA), .unset, .unset] [])) _
        refine XS.iconst X6.here hx rfl (hb hby d1_29) ?_
        show Steps p.tables e below (T6.setTop (mkF m 30 #[.val (.ref cA), .val (.ref eA), .val (.int p3), .val (.ref sA), .unset, .unset] [(.int (1 : Int32))])) _
        refine XS.goto X6.here hx rfl (pc0 := 30) (pc' := 34) rfl (hb hby d1_30) (by decide) (by decide) ?_
        exact kt
      · refine ⟨(0 : Int32), by rw [own_bl, if_neg (fun q => hc26 q.2)], fun t₀ kt => ?_⟩
        show Steps p.tables e below (T6.setTop (mkF m 22 #[.val (.ref cA), .val (.ref eA), .val (.int p3), .val (.ref sA), .unset, .unset] [(.int (60 : Int32)), (.int (f 0))])) _
        refine XS.icmpNo X6.here hx rfl (hb hby d1_22) rfl (teq hc22).2 ?_
        show Steps p.tables e below (T6.setTop (mkF m 25 #[.val (.ref cA), .val (.ref eA), .val (.int p3), .val (.ref sA), .unset, .unset] [])) _
        refine XS.iloadN X6.here hx rfl (hb hby d1_25) rfl ?_
        show Steps p.tables e below (T6.setTop (mkF m 26 #[.val (.ref cA), .val (.ref eA), .val (.int p3), .val (.ref sA), .unset, .unset] [(.int p3)])) _
        refine XS.ifYes X6.here hx rfl (pc0 := 26) (pc' := 33) rfl (hb hby d1_26) rfl ((if0 _ _).trans (flt hc26).2.1) (by decide) (by decide) ?_
        show Steps p.tables e below (T6.setTop (mkF m 33 #[.val (.ref cA), .val (.ref eA), .val (.int p3), .val (.ref sA), .unset, .unset] [])) _
        refine XS.iconst X6.here hx rfl (hb hby d1_33) ?_
        exact kt
    · refine ⟨(0 : Int32), by rw [own_bl, if_neg (fun q => hc22 q.1)], fun t₀ kt => ?_⟩
      show Steps p.tables e below (T6.setTop (mkF m 22 #[.val (.ref cA), .val (.ref eA), .val (.int p3), .val (.ref sA), .unset, .unset] [(.int (60 : Int32)), (.int (f 0))])) _
      refine XS.icmpYes X6.here hx rfl (pc0 := 22) (pc' := 33) rfl (hb hby d1_22) rfl (feq hc22).2 (by decide) (by decide) ?_
      show Steps p.tables e below (T6.setTop (mkF m 33 #[.val (.ref cA), .val (.ref eA), .val (.int p3), .val (.ref sA), .unset, .unset] [])) _
      refine XS.iconst X6.here hx rfl (hb hby d1_33) ?_
      exact kt
  have sg9 : ∀ t₀, Steps p.tables e below (T6.setTop (mkF m 38 #[.val (.ref cA), .val (.ref eA), .val (.int p3), .val (.ref sA), .val (.int bv), .unset] [(.ref sA), (.ref sA)])) t₀ → Steps p.tables e below (T6.setTop (mkF m 34 #[.val (.ref cA), .val (.ref eA), .val (.int p3), .val (.ref sA), .unset, .unset] [(.int bv)])) t₀ := by
    intro t₀ kt
    show Steps p.tables e below (T6.setTop (mkF m 34 #[.val (.ref cA), .val (.ref eA), .val (.int p3), .val (.ref sA), .unset, .unset] [(.int bv)])) _
    refine XS.istore X6.here hx rfl (hb hby d1_34) rfl (l' := #[.val (.ref cA), .val (.ref eA), .val (.int p3), .val (.ref sA), .val (.int bv), .unset]) rfl ?_
    show Steps p.tables e below (T6.setTop (mkF m 36 #[.val (.ref cA), .val (.ref eA), .val (.int p3), .val (.ref sA), .val (.int bv), .unset] [])) _
    refine XS.aloadN X6.here hx rfl (hb hby d1_36) rfl rfl ?_
    show Steps p.tables e below (T6.setTop (mkF m 37 #[.val (.ref cA), .val (.ref eA), .val (.int p3), .val (.ref sA), .val (.int bv), .unset] [(.ref sA)])) _
    refine XS.aloadN X6.here hx rfl (hb hby d1_37) rfl rfl ?_
    exact kt
  obtain ⟨cq10, kq10, q10a, q10b, q10c⟩ := isOf hZ hh6 ES
  obtain ⟨_, _, ⟨T10, L10, k10, n10⟩, -, X10, ⟨Lc10, hQ10, l10, y10, z10⟩, st10⟩ := X6.virtualBack hx (y := (⟨"java/lang/String", "length", "()I"⟩ : MethodName)) (z := (⟨"java/lang/String", "length", "()I"⟩ : MethodName)) hown (mvT hZ (hw _ (List.mem_of_getElem? (i := 57) rfl))) (mvT hZ (hw _ (List.mem_of_getElem? (i := 58) rfl))) (notFace_of_selects (args := #[]) (mvT hZ (hw _ (List.mem_of_getElem? (i := 60) rfl)))) (mvT hZ (hw _ (List.mem_of_getElem? (i := 60) rfl))) (mvT hZ (hw _ (List.mem_of_getElem? (i := 59) rfl))) (by decide) (backOf (W := 1) (rm10 l Z a0 hw [] sA sB n f zc h0 n0 Z0 S1 C1 hz) hZ (hw _ (List.mem_of_getElem? (i := 61) rfl)) (hw _ (List.mem_of_getElem? (i := 4) rfl)) (by decide) (by decide)) q10a q10c (g := (mkF m 38 #[.val (.ref cA), .val (.ref eA), .val (.int p3), .val (.ref sA), .val (.int bv), .unset] [(.ref sA), (.ref sA)])) rfl (by rw [hml]; rfl) (Steps.refl _) (argsL := []) (rest := [(.ref sA)]) (lenOf pd_1 rfl) rfl (by show 2 * 0 + _ ≤ _; exact Nat.le_of_eq rfl) (hb hby d1_38) (fun _ _ => ⟨rfl, hh6, (by decide : 0 + 0 ≤ _), (by decide : 0 + 0 ≤ _)⟩)
  dsimp only [Pt.U, Pt.locs, Pt.cells, Pt.slots] at X10 l10 y10 z10 st10 hQ10
  subst l10 y10 z10
  obtain ⟨rfl, N10q, hh10⟩ := hQ10
  have N10 := Fr.app N6 N10q
  have sg11 : ∀ t₀, Steps p.tables e below (T10.setTop (mkF m 43 #[.val (.ref cA), .val (.ref eA), .val (.int p3), .val (.ref sA), .val (.int bv), .unset] [(.int ((Int32.ofNat n) - (1 : Int32))), (.ref sA)])) t₀ → Steps p.tables e below (T10.setTop (mkF m 41 #[.val (.ref cA), .val (.ref eA), .val (.int p3), .val (.ref sA), .val (.int bv), .unset] [(.int (Int32.ofNat n)), (.ref sA)])) t₀ := by
    intro t₀ kt
    show Steps p.tables e below (T10.setTop (mkF m 41 #[.val (.ref cA), .val (.ref eA), .val (.int p3), .val (.ref sA), .val (.int bv), .unset] [(.int (Int32.ofNat n)), (.ref sA)])) _
    refine XS.iconst X10.here hx rfl (hb hby d1_41) ?_
    show Steps p.tables e below (T10.setTop (mkF m 42 #[.val (.ref cA), .val (.ref eA), .val (.int p3), .val (.ref sA), .val (.int bv), .unset] [(.int (1 : Int32)), (.int (Int32.ofNat n)), (.ref sA)])) _
    refine XS.isub X10.here hx rfl (hb hby d1_42) rfl ?_
    exact kt
  have hpr := own_pred hn
  obtain ⟨cq12, kq12, q12a, q12b, q12c⟩ := isOf hZ hh10 ES
  obtain ⟨_, _, ⟨T12, L12, k12, n12⟩, -, X12, ⟨Lc12, hQ12, l12, y12, z12⟩, st12⟩ := X10.virtualBack hx (y := (⟨"java/lang/String", "charAt", "(I)C"⟩ : MethodName)) (z := (⟨"java/lang/String", "charAt", "(I)C"⟩ : MethodName)) hown (mvT hZ (hw _ (List.mem_of_getElem? (i := 36) rfl))) (mvT hZ (hw _ (List.mem_of_getElem? (i := 37) rfl))) (notFace_of_selects (args := #[]) (mvT hZ (hw _ (List.mem_of_getElem? (i := 39) rfl)))) (mvT hZ (hw _ (List.mem_of_getElem? (i := 39) rfl))) (mvT hZ (hw _ (List.mem_of_getElem? (i := 38) rfl))) (by decide) (backOf (W := 0) (rm5 l Z a0 hw [] sA sB (n - 1) n f zc G3 h0 n0 Z0 S1 C1 hz rG3 P1 (by omega) hn.2 (hf (n - 1) (by omega))) hZ (hw _ (List.mem_of_getElem? (i := 40) rfl)) (hw _ (List.mem_of_getElem? (i := 4) rfl)) (by decide) (by decide)) q12a q12c (g := (mkF m 43 #[.val (.ref cA), .val (.ref eA), .val (.int p3), .val (.ref sA), .val (.int bv), .unset] [(.int ((Int32.ofNat n) - (1 : Int32))), (.ref sA)])) rfl (by rw [hml]; rfl) (Steps.refl _) (argsL := [(.int ((Int32.ofNat n) - (1 : Int32)))]) (rest := []) (lenOf pd_4 rfl) rfl (by show 2 * 0 + _ ≤ _; exact Nat.le_of_eq rfl) (hb hby d1_43) (fun _ _ => ⟨(by rw [hpr] <;> rfl), hh10, (by decide : 0 + 0 ≤ _), (by decide : 0 + 0 ≤ _)⟩)
  dsimp only [Pt.U, Pt.locs, Pt.cells, Pt.slots] at X12 l12 y12 z12 st12 hQ12
  subst l12 y12 z12
  obtain ⟨rfl, N12q, hh12⟩ := hQ12
  have N12 := Fr.app N10 N12q
  have sg13 : ∀ t₀, Steps p.tables e below (T12.setTop (mkF m 48 #[.val (.ref cA), .val (.ref eA), .val (.int p3), .val (.ref sA), .val (.int bv), .unset] [(.int (61 : Int32)), (.int (f (n - 1)))])) t₀ → Steps p.tables e below (T12.setTop (mkF m 46 #[.val (.ref cA), .val (.ref eA), .val (.int p3), .val (.ref sA), .val (.int bv), .unset] [(.int (f (n - 1)))])) t₀ := by
    intro t₀ kt
    show Steps p.tables e below (T12.setTop (mkF m 46 #[.val (.ref cA), .val (.ref eA), .val (.int p3), .val (.ref sA), .val (.int bv), .unset] [(.int (f (n - 1)))])) _
    refine XS.bipush X12.here hx rfl (hb hby d1_46) ?_
    exact kt
  obtain ⟨av, hsj14, sj14⟩ : ∃ av : Int32, (av = own_eq (f (n - 1)) p3) ∧ ∀ t₀, Steps p.tables e below (T12.setTop (mkF m 60 #[.val (.ref cA), .val (.ref eA), .val (.int p3), .val (.ref sA), .val (.int bv), .unset] [(.int av)])) t₀ → Steps p.tables e below (T12.setTop (mkF m 48 #[.val (.ref cA), .val (.ref eA), .val (.int p3), .val (.ref sA), .val (.int bv), .unset] [(.int (61 : Int32)), (.int (f (n - 1)))])) t₀ := by
    by_cases hc48 : (f (n - 1)) = (61 : Int32)
    · by_cases hc52 : p3 = (0 : Int32)
      · refine ⟨(1 : Int32), by rw [own_eq, if_pos ⟨hc48, hc52⟩], fun t₀ kt => ?_⟩
        show Steps p.tables e below (T12.setTop (mkF m 48 #[.val (.ref cA), .val (.ref eA), .val (.int p3), .val (.ref sA), .val (.int bv), .unset] [(.int (61 : Int32)), (.int (f (n - 1)))])) _
        refine XS.icmpNo X12.here hx rfl (hb hby d1_48) rfl (teq hc48).2 ?_
        show Steps p.tables e below (T12.setTop (mkF m 51 #[.val (.ref cA), .val (.ref eA), .val (.int p3), .val (.ref sA), .val (.int bv), .unset] [])) _
        refine XS.iloadN X12.here hx rfl (hb hby d1_51) rfl ?_
        show Steps p.tables e below (T12.setTop (mkF m 52 #[.val (.ref cA), .val (.ref eA), .val (.int p3), .val (.ref sA), .val (.int bv), .unset] [(.int p3)])) _
        refine XS.ifNo X12.here hx rfl (hb hby d1_52) rfl ((if0 _ _).trans (teq hc52).2) ?_
        show Steps p.tables e below (T12.setTop (mkF m 55 #[.val (.ref cA), .val (.ref eA), .val (.int p3), .val (.ref sA), .val (.int bv), .unset] [])) _
        refine XS.iconst X12.here hx rfl (hb hby d1_55) ?_
        show Steps p.tables e below (T12.setTop (mkF m 56 #[.val (.ref cA), .val (.ref eA), .val (.int p3), .val (.ref sA), .val (.int bv), .unset] [(.int (1 : Int32))])) _
        refine XS.goto X12.here hx rfl (pc0 := 56) (pc' := 60) rfl (hb hby d1_56) (by decide) (by decide) ?_
        exact kt
      · refine ⟨(0 : Int32), by rw [own_eq, if_neg (fun q => hc52 q.2)], fun t₀ kt => ?_⟩
        show Steps p.tables e below (T12.setTop (mkF m 48 #[.val (.ref cA), .val (.ref eA), .val (.int p3), .val (.ref sA), .val (.int bv), .unset] [(.int (61 : Int32)), (.int (f (n - 1)))])) _
        refine XS.icmpNo X12.here hx rfl (hb hby d1_48) rfl (teq hc48).2 ?_
        show Steps p.tables e below (T12.setTop (mkF m 51 #[.val (.ref cA), .val (.ref eA), .val (.int p3), .val (.ref sA), .val (.int bv), .unset] [])) _
        refine XS.iloadN X12.here hx rfl (hb hby d1_51) rfl ?_
        show Steps p.tables e below (T12.setTop (mkF m 52 #[.val (.ref cA), .val (.ref eA), .val (.int p3), .val (.ref sA), .val (.int bv), .unset] [(.int p3)])) _
        refine XS.ifYes X12.here hx rfl (pc0 := 52) (pc' := 59) rfl (hb hby d1_52) rfl ((if0 _ _).trans (feq hc52).2) (by decide) (by decide) ?_
        show Steps p.tables e below (T12.setTop (mkF m 59 #[.val (.ref cA), .val (.ref eA), .val (.int p3), .val (.ref sA), .val (.int bv), .unset] [])) _
        refine XS.iconst X12.here hx rfl (hb hby d1_59) ?_
        exact kt
    · refine ⟨(0 : Int32), by rw [own_eq, if_neg (fun q => hc48 q.1)], fun t₀ kt => ?_⟩
      show Steps p.tables e below (T12.setTop (mkF m 48 #[.val (.ref cA), .val (.ref eA), .val (.int p3), .val (.ref sA), .val (.int bv), .unset] [(.int (61 : Int32)), (.int (f (n - 1)))])) _
      refine XS.icmpYes X12.here hx rfl (pc0 := 48) (pc' := 59) rfl (hb hby d1_48) rfl (feq hc48).2 (by decide) (by decide) ?_
      show Steps p.tables e below (T12.setTop (mkF m 59 #[.val (.ref cA), .val (.ref eA), .val (.int p3), .val (.ref sA), .val (.int bv), .unset] [])) _
      refine XS.iconst X12.here hx rfl (hb hby d1_59) ?_
      exact kt
  have sg15 : ∀ t₀, Steps p.tables e below (T12.setTop (mkF m 64 #[.val (.ref cA), .val (.ref eA), .val (.int p3), .val (.ref sA), .val (.int bv), .val (.int av)] [(.int p3), (.ref cA)])) t₀ → Steps p.tables e below (T12.setTop (mkF m 60 #[.val (.ref cA), .val (.ref eA), .val (.int p3), .val (.ref sA), .val (.int bv), .unset] [(.int av)])) t₀ := by
    intro t₀ kt
    show Steps p.tables e below (T12.setTop (mkF m 60 #[.val (.ref cA), .val (.ref eA), .val (.int p3), .val (.ref sA), .val (.int bv), .unset] [(.int av)])) _
    refine XS.istore X12.here hx rfl (hb hby d1_60) rfl (l' := #[.val (.ref cA), .val (.ref eA), .val (.int p3), .val (.ref sA), .val (.int bv), .val (.int av)]) rfl ?_
    show Steps p.tables e below (T12.setTop (mkF m 62 #[.val (.ref cA), .val (.ref eA), .val (.int p3), .val (.ref sA), .val (.int bv), .val (.int av)] [])) _
    refine XS.aloadN X12.here hx rfl (hb hby d1_62) rfl rfl ?_
    show Steps p.tables e below (T12.setTop (mkF m 63 #[.val (.ref cA), .val (.ref eA), .val (.int p3), .val (.ref sA), .val (.int bv), .val (.int av)] [(.ref cA)])) _
    refine XS.iloadN X12.here hx rfl (hb hby d1_63) rfl ?_
    exact kt
  obtain ⟨cq16, kq16, q16a, q16b, q16c⟩ := isOf hZ hh12 EC
  obtain ⟨_, _, ⟨T16, L16, k16, n16⟩, -, X16, ⟨Lc16, hQ16, l16, y16, z16⟩, st16⟩ := X12.virtualBack hx (y := (⟨"com/example/thangdiem/thangdiem/method/Formula$Comparison", "holds", "(I)Z"⟩ : MethodName)) (z := (⟨"com/example/thangdiem/thangdiem/method/Formula$Comparison", "holds", "(I)Z"⟩ : MethodName)) hown (mvT hZ (hw _ (List.mem_of_getElem? (i := 67) rfl))) (mvT hZ (hw _ (List.mem_of_getElem? (i := 68) rfl))) (notFace_of_selects (args := #[]) (mvT hZ (hw _ (List.mem_of_getElem? (i := 70) rfl)))) (mvT hZ (hw _ (List.mem_of_getElem? (i := 70) rfl))) (mvT hZ (hw _ (List.mem_of_getElem? (i := 69) rfl))) (by decide) (backOf (W := 0) (rm12 l Z a0 hw [] cA p3 od h0 n0 Z0 EC FO ho) hZ (hw _ (List.mem_of_getElem? (i := 71) rfl)) (hw _ (List.mem_of_getElem? (i := 1) rfl)) (by decide) (by decide)) q16a q16c (g := (mkF m 64 #[.val (.ref cA), .val (.ref eA), .val (.int p3), .val (.ref sA), .val (.int bv), .val (.int av)] [(.int p3), (.ref cA)])) rfl (by rw [hml]; rfl) (Steps.refl _) (argsL := [(.int p3)]) (rest := []) (lenOf pd_5 rfl) rfl (by show 2 * 0 + _ ≤ _; exact Nat.le_of_eq rfl) (hb hby d1_64) (fun _ _ => ⟨rfl, hh12, (by decide : 0 + 0 ≤ _), (by decide : 0 + 0 ≤ _)⟩)
  dsimp only [Pt.U, Pt.locs, Pt.cells, Pt.slots] at X16 l16 y16 z16 st16 hQ16
  subst l16 y16 z16
  obtain ⟨rfl, N16q, hh16⟩ := hQ16
  have N16 := Fr.app N12 N16q
  obtain ⟨ov, hsj17, sj17⟩ : ∃ ov : Int32, (ov = own_or bv av) ∧ ∀ t₀, Steps p.tables e below (T16.setTop (mkF m 82 #[.val (.ref cA), .val (.ref eA), .val (.int p3), .val (.ref sA), .val (.int bv), .val (.int av)] [(.int ov), (.int (own_ho od p3))])) t₀ → Steps p.tables e below (T16.setTop (mkF m 67 #[.val (.ref cA), .val (.ref eA), .val (.int p3), .val (.ref sA), .val (.int bv), .val (.int av)] [(.int (own_ho od p3))])) t₀ := by
    by_cases hc69 : bv = (0 : Int32)
    · by_cases hc74 : av = (0 : Int32)
      · refine ⟨(0 : Int32), by rw [own_or, if_pos ⟨hc69, hc74⟩], fun t₀ kt => ?_⟩
        show Steps p.tables e below (T16.setTop (mkF m 67 #[.val (.ref cA), .val (.ref eA), .val (.int p3), .val (.ref sA), .val (.int bv), .val (.int av)] [(.int (own_ho od p3))])) _
        refine XS.iload X16.here hx rfl (hb hby d1_67) rfl ?_
        show Steps p.tables e below (T16.setTop (mkF m 69 #[.val (.ref cA), .val (.ref eA), .val (.int p3), .val (.ref sA), .val (.int bv), .val (.int av)] [(.int bv), (.int (own_ho od p3))])) _
        refine XS.ifNo X16.here hx rfl (hb hby d1_69) rfl ((if0 _ _).trans (teq hc69).2) ?_
        show Steps p.tables e below (T16.setTop (mkF m 72 #[.val (.ref cA), .val (.ref eA), .val (.int p3), .val (.ref sA), .val (.int bv), .val (.int av)] [(.int (own_ho od p3))])) _
        refine XS.iload X16.here hx rfl (hb hby d1_72) rfl ?_
        show Steps p.tables e below (T16.setTop (mkF m 74 #[.val (.ref cA), .val (.ref eA), .val (.int p3), .val (.ref sA), .val (.int bv), .val (.int av)] [(.int av), (.int (own_ho od p3))])) _
        refine XS.ifYes X16.here hx rfl (pc0 := 74) (pc' := 81) rfl (hb hby d1_74) rfl ((if0 _ _).trans (teq hc74).1) (by decide) (by decide) ?_
        show Steps p.tables e below (T16.setTop (mkF m 81 #[.val (.ref cA), .val (.ref eA), .val (.int p3), .val (.ref sA), .val (.int bv), .val (.int av)] [(.int (own_ho od p3))])) _
        refine XS.iconst X16.here hx rfl (hb hby d1_81) ?_
        exact kt
      · refine ⟨(1 : Int32), by rw [own_or, if_neg (fun q => hc74 q.2)], fun t₀ kt => ?_⟩
        show Steps p.tables e below (T16.setTop (mkF m 67 #[.val (.ref cA), .val (.ref eA), .val (.int p3), .val (.ref sA), .val (.int bv), .val (.int av)] [(.int (own_ho od p3))])) _
        refine XS.iload X16.here hx rfl (hb hby d1_67) rfl ?_
        show Steps p.tables e below (T16.setTop (mkF m 69 #[.val (.ref cA), .val (.ref eA), .val (.int p3), .val (.ref sA), .val (.int bv), .val (.int av)] [(.int bv), (.int (own_ho od p3))])) _
        refine XS.ifNo X16.here hx rfl (hb hby d1_69) rfl ((if0 _ _).trans (teq hc69).2) ?_
        show Steps p.tables e below (T16.setTop (mkF m 72 #[.val (.ref cA), .val (.ref eA), .val (.int p3), .val (.ref sA), .val (.int bv), .val (.int av)] [(.int (own_ho od p3))])) _
        refine XS.iload X16.here hx rfl (hb hby d1_72) rfl ?_
        show Steps p.tables e below (T16.setTop (mkF m 74 #[.val (.ref cA), .val (.ref eA), .val (.int p3), .val (.ref sA), .val (.int bv), .val (.int av)] [(.int av), (.int (own_ho od p3))])) _
        refine XS.ifNo X16.here hx rfl (hb hby d1_74) rfl ((if0 _ _).trans (feq hc74).1) ?_
        show Steps p.tables e below (T16.setTop (mkF m 77 #[.val (.ref cA), .val (.ref eA), .val (.int p3), .val (.ref sA), .val (.int bv), .val (.int av)] [(.int (own_ho od p3))])) _
        refine XS.iconst X16.here hx rfl (hb hby d1_77) ?_
        show Steps p.tables e below (T16.setTop (mkF m 78 #[.val (.ref cA), .val (.ref eA), .val (.int p3), .val (.ref sA), .val (.int bv), .val (.int av)] [(.int (1 : Int32)), (.int (own_ho od p3))])) _
        refine XS.goto X16.here hx rfl (pc0 := 78) (pc' := 82) rfl (hb hby d1_78) (by decide) (by decide) ?_
        exact kt
    · refine ⟨(1 : Int32), by rw [own_or, if_neg (fun q => hc69 q.1)], fun t₀ kt => ?_⟩
      show Steps p.tables e below (T16.setTop (mkF m 67 #[.val (.ref cA), .val (.ref eA), .val (.int p3), .val (.ref sA), .val (.int bv), .val (.int av)] [(.int (own_ho od p3))])) _
      refine XS.iload X16.here hx rfl (hb hby d1_67) rfl ?_
      show Steps p.tables e below (T16.setTop (mkF m 69 #[.val (.ref cA), .val (.ref eA), .val (.int p3), .val (.ref sA), .val (.int bv), .val (.int av)] [(.int bv), (.int (own_ho od p3))])) _
      refine XS.ifYes X16.here hx rfl (pc0 := 69) (pc' := 77) rfl (hb hby d1_69) rfl ((if0 _ _).trans (feq hc69).2) (by decide) (by decide) ?_
      show Steps p.tables e below (T16.setTop (mkF m 77 #[.val (.ref cA), .val (.ref eA), .val (.int p3), .val (.ref sA), .val (.int bv), .val (.int av)] [(.int (own_ho od p3))])) _
      refine XS.iconst X16.here hx rfl (hb hby d1_77) ?_
      show Steps p.tables e below (T16.setTop (mkF m 78 #[.val (.ref cA), .val (.ref eA), .val (.int p3), .val (.ref sA), .val (.int bv), .val (.int av)] [(.int (1 : Int32)), (.int (own_ho od p3))])) _
      refine XS.goto X16.here hx rfl (pc0 := 78) (pc' := 82) rfl (hb hby d1_78) (by decide) (by decide) ?_
      exact kt
  have hend : own_ho od p3 = ov := by rw [hsj17, hsj8, hsj14]; exact hfin
  have sg18 : ∀ t₀, Steps p.tables e below (T16.setTop (mkF m 90 #[.val (.ref cA), .val (.ref eA), .val (.int p3), .val (.ref sA), .val (.int bv), .val (.int av)] [(.int (1 : Int32))])) t₀ → Steps p.tables e below (T16.setTop (mkF m 82 #[.val (.ref cA), .val (.ref eA), .val (.int p3), .val (.ref sA), .val (.int bv), .val (.int av)] [(.int ov), (.int (own_ho od p3))])) t₀ := by
    intro t₀ kt
    show Steps p.tables e below (T16.setTop (mkF m 82 #[.val (.ref cA), .val (.ref eA), .val (.int p3), .val (.ref sA), .val (.int bv), .val (.int av)] [(.int ov), (.int (own_ho od p3))])) _
    refine XS.icmpNo X16.here hx rfl (hb hby d1_82) rfl (teq hend).2 ?_
    show Steps p.tables e below (T16.setTop (mkF m 85 #[.val (.ref cA), .val (.ref eA), .val (.int p3), .val (.ref sA), .val (.int bv), .val (.int av)] [])) _
    refine XS.iconst X16.here hx rfl (hb hby d1_85) ?_
    show Steps p.tables e below (T16.setTop (mkF m 86 #[.val (.ref cA), .val (.ref eA), .val (.int p3), .val (.ref sA), .val (.int bv), .val (.int av)] [(.int (1 : Int32))])) _
    refine XS.goto X16.here hx rfl (pc0 := 86) (pc' := 90) rfl (hb hby d1_86) (by decide) (by decide) ?_
    exact kt
  obtain ⟨fs, hr, hrun, hended, hW, hsame⟩ := X16.leave (v := some (.int (1 : Int32))) (fun h => by rw [Bd.returns] at h; cases h)
  refine ⟨_, _, pre0 _ ?_, hrun, hended, _, _, rfl, ?_, ⟨_, rfl⟩, hW, hsame.mono (by decide) (by decide)⟩
  · exact sg1 _ (st2.trans (sg3 _ (st4.trans (sg5 _ (st6.trans (sg7 _ (sj8 _ (sg9 _ (st10.trans (sg11 _ (st12.trans (sg13 _ (sj14 _ (sg15 _ (st16.trans (sj17 _ (sg18 _ ((retN X16 hx (t := .boolean) Bd.returns (by simp) (hb hby d1_90) hr)))))))))))))))))))
  · show Q1 Z cA eA p3 sA sB eB n f od zc G3 h0 n0 _ T16.heap _
    rw [hh16]
    exact ⟨rfl, N16, rfl⟩
def Q0 (Z : State) (p1 : Int32) (zc : Int32) (G3 : Value) (c0 : Addr) (s0 : Addr) (t0 : Addr) (c1 : Addr) (s1 : Addr) (t1 : Addr) (c2 : Addr) (s2 : Addr) (t2 : Addr) (h0 : Heap) (n0 : Nat) (v : Option Value) (h : Heap) (L : List Loc) : Prop := v = some (.int (1 : Int32)) ∧ Fr n0 L
set_option maxRecDepth 65536 in
set_option maxHeartbeats 40000000 in
theorem rm0 (l : Launch) (Z : State) (a0 : Array Value) (hw : ∀ d ∈ tables_1, d.before a0 Z = true) (ws : List Jvm.Cond) (p1 : Int32) (zc : Int32) (G3 : Value) (c0 : Addr) (s0 : Addr) (t0 : Addr) (c1 : Addr) (s1 : Addr) (t1 : Addr) (c2 : Addr) (s2 : Addr) (t2 : Addr) (h0 : Heap) (n0 : Nat) (Z0 : n0 ≤ h0.size) (hn0 : n0 = h0.size) (C1 : Sta Z h0 "java/lang/String" "COMPACT_STRINGS" "Z" (.int zc)) (hz : ¬ zc = (0 : Int32)) (rG3 : G3.isRef = true) (P1 : Sta Z h0 "jdk/internal/util/Preconditions" "SIOOBE_FORMATTER" "Ljava/util/function/BiFunction;" G3) (hcw : Jvm.Lit.compactW.before a0 Z = true) (K0 : Sta Z h0 "com/example/thangdiem/thangdiem/method/Formula$Comparison" "LESS" "Lcom/example/thangdiem/thangdiem/method/Formula$Comparison;" (.ref c0)) (EC0 : Exa Z h0 c0 "com/example/thangdiem/thangdiem/method/Formula$Comparison") (FS0 : Fld Z h0 c0 "com/example/thangdiem/thangdiem/method/Formula$Comparison" "sign" "Ljava/lang/String;" (.ref s0)) (FO0 : Fld Z h0 c0 "java/lang/Enum" "ordinal" "I" (.int (0 : Int32))) (SS0 : own_S Z h0 s0 t0 1 (fun i => (60 : Int32))) (HH0 : Jvm.Lit.constHeld Z "com/example/thangdiem/thangdiem/method/ComparisonHoldsPinLaw" 35) (K1 : Sta Z h0 "com/example/thangdiem/thangdiem/method/Formula$Comparison" "AT_MOST" "Lcom/example/thangdiem/thangdiem/method/Formula$Comparison;" (.ref c1)) (EC1 : Exa Z h0 c1 "com/example/thangdiem/thangdiem/method/Formula$Comparison") (FS1 : Fld Z h0 c1 "com/example/thangdiem/thangdiem/method/Formula$Comparison" "sign" "Ljava/lang/String;" (.ref s1)) (FO1 : Fld Z h0 c1 "java/lang/Enum" "ordinal" "I" (.int (1 : Int32))) (SS1 : own_S Z h0 s1 t1 2 (fun i => if i = 0 then (60 : Int32) else (61 : Int32))) (HH1 : Jvm.Lit.constHeld Z "com/example/thangdiem/thangdiem/method/ComparisonHoldsPinLaw" 46) (K2 : Sta Z h0 "com/example/thangdiem/thangdiem/method/Formula$Comparison" "EQUAL" "Lcom/example/thangdiem/thangdiem/method/Formula$Comparison;" (.ref c2)) (EC2 : Exa Z h0 c2 "com/example/thangdiem/thangdiem/method/Formula$Comparison") (FS2 : Fld Z h0 c2 "com/example/thangdiem/thangdiem/method/Formula$Comparison" "sign" "Ljava/lang/String;" (.ref s2)) (FO2 : Fld Z h0 c2 "java/lang/Enum" "ordinal" "I" (.int (2 : Int32))) (SS2 : own_S Z h0 s2 t2 1 (fun i => (61 : Int32))) (HH2 : Jvm.Lit.constHeld Z "com/example/thangdiem/thangdiem/method/ComparisonHoldsPinLaw" 51) :
    MetFree l x (head1 (Jvm.Cond.code x code maxLocals ret :: ws) room_1) (fun a U => a = #[(.int p1)] ∧ Z.Warmed39 U.vm ∧ U.heap = h0 ∧ U = Z) (fun _ _ _ _ _ => True) (fun _ U oo U' => ∃ v L, oo = .returned v ∧ Q0 Z p1 zc G3 c0 s0 t0 c1 s1 t1 c2 s2 t2 h0 n0 v U'.heap L ∧ ReturnedEndW U oo U' L room_1.cells room_1.slots) := by
  refine MetFree.of_bodySF (plainFor_of_name pn_0) hisR ?_
  intro p e s m args below meth c s₁ Bd hml0 hP hK
  obtain ⟨rfl, hZ, hh, hUZ⟩ := hP
  have hx := Bd.exec
  have hby := Bd.bytes
  have hml : c.maxLocals = 1 := hml0
  have hown : s.vm.findClass "com/example/thangdiem/thangdiem/method/ComparisonHoldsPinLaw" = some m.cls := findClass_of_methodNamed Bd.named
  have hnm := (name_of_methodNamed Bd.named Bd.method).1
  have X0 : Stand p l e room_1 s m #[(.int p1)] below meth c s₁ [] 0 0 := Stand.of_body Bd
  have e0 : s₁.heap = h0 := by rw [← hh, Bd.state]; rfl
  have N0 := Fr.nil n0
  have pre0 : ∀ t₀, Steps p.tables e below (s₁.setTop (mkF m 0 #[.val (.int p1)] [])) t₀ → Steps p.tables e below (s₁.setTop (entryFrame m #[(.int p1)] maxLocals)) t₀ := fun t₀ k => castTop (ef_0 m p1) k
  have wS : ∀ d ∈ Bundle.stringAtoms, d.before a0 Z = true := fun d hd => hw d ((by decide +kernel : ∀ d ∈ Bundle.stringAtoms, d ∈ tables_1) d hd)
  have hkeep : ∀ (b : Addr) (cl : Cell), Z.heap[b]? = some cl → s.heap[b]? = some cl := fun b cl q => by rw [hUZ]; exact q
  have hns : n0 = s.heap.size := by rw [hn0, hh]
  have since0 : s.Since s.vm s.heap.size := (State.WarmedH.refl s).since _
  have EX0 : Ext h0 h0 := ⟨Nat.le_refl _, fun _ _ q => q⟩
  have hI : IB Z s.vm [] := by rw [hUZ]; exact IB.start
  obtain ⟨T2, X2, e2, st2⟩ := getS2 X0 hx hZ hown (host := "") (Or.inl (hw _ (List.mem_of_getElem? (i := 0) rfl))) Via.refl e0 (K0.ext EX0) (g := (mkF m 0 #[.val (.int p1)] [])) rfl (hb hby at_0)
  have Ns0 := N0
  rw [hns] at Ns0
  obtain ⟨e0A, T3, h3, k3, e0B, kc3, X3, e3, E3, S3, z3, hZ3, hown3, Ex3, Cx3, Vx3, Ax3, -, -, I3, -, st3⟩ := ldcSVL (s := s) (vm0 := s.vm) (Z := Z) (a0 := a0) X2 hx hZ hown (hw _ (List.mem_of_getElem? (i := 3) rfl)) wS e2 since0 (Nat.le_of_eq (by rw [hh])) Ns0 hkeep hI (by decide) HH0 hcw (vs := [.int (60 : Int32)]) (z := (1 : Int32)) ⟨by decide, by rfl⟩ (by decide) (by rfl) (g := (mkF m 3 #[.val (.int p1)] [(.ref c0)])) rfl (hb hby at_3) (n := 8) (by decide) (by decide) (by decide) (by decide)
  have EX3 : Ext h0 h3 := ⟨Nat.le_trans EX0.1 E3.1, fun a cl q => E3.2 a cl (EX0.2 a cl q)⟩
  have Sx3 : own_S Z h3 e0A e0B 1 (fun i => (60 : Int32)) := ⟨Ex3, Cx3, Vx3, own_ofArv Ax3 (by rfl) (by decide)⟩
  have zz3 : n0 ≤ h3.size := Nat.le_trans Z0 EX3.1
  have sg4 : ∀ t₀, Steps p.tables e below (T3.setTop (mkF m 6 #[.val (.int p1)] [(.int p1), (.ref e0A), (.ref c0)])) t₀ → Steps p.tables e below (T3.setTop (mkF m 5 #[.val (.int p1)] [(.ref e0A), (.ref c0)])) t₀ := by
    intro t₀ kt
    show Steps p.tables e below (T3.setTop (mkF m 5 #[.val (.int p1)] [(.ref e0A), (.ref c0)])) _
    refine XS.iloadN X3.here hx rfl (hb hby at_5) rfl ?_
    exact kt
  obtain ⟨_, _, ⟨T5, L5, k5, n5⟩, -, X5, ⟨Lc5, hQ5, l5, y5, z5⟩, st5⟩ := Jvm.LawKit.callS X3 hx (y := (⟨"com/example/thangdiem/thangdiem/method/ComparisonHoldsPinLaw", "agrees", "(Lcom/example/thangdiem/thangdiem/method/Formula$Comparison;Ljava/lang/String;I)Z"⟩ : MethodName)) hown3 (mvT hZ3 (hw _ (List.mem_of_getElem? (i := 11) rfl))) (mvT hZ3 (hw _ (List.mem_of_getElem? (i := 12) rfl))) (mvT hZ3 (hw _ (List.mem_of_getElem? (i := 13) rfl))) (mvT hZ3 (hw _ (List.mem_of_getElem? (i := 14) rfl))) (by decide) (backOf (W := 0) (rm1 l Z a0 hw [] c0 e0A p1 s0 t0 e0B 1 (fun i => (60 : Int32)) (0 : Int32) zc G3 h3 n0 zz3 (EC0.ext EX3) (FS0.ext EX3) (FO0.ext EX3) (own_S_ext SS0 EX3) Sx3 (C1.ext EX3) hz rG3 (P1.ext EX3) (by decide) (by decide) (by decide) (own_fin0 p1)) hZ3 (hw _ (List.mem_of_getElem? (i := 14) rfl)) (hw _ (List.mem_of_getElem? (i := 13) rfl)) (by decide) (by decide)) (g := (mkF m 6 #[.val (.int p1)] [(.int p1), (.ref e0A), (.ref c0)])) rfl (by rw [hml]; rfl) (argsL := [(.ref c0), (.ref e0A), (.int p1)]) (rest := []) (lenOf pd_8 rfl) rfl (by show 2 * 0 + _ ≤ _; exact Nat.le_of_eq rfl) (hb hby at_6) (fun _ _ => ⟨rfl, e3, (by decide : 2 + 0 ≤ _), (by decide : 12 + 0 ≤ _)⟩)
  dsimp only [Pt.U, Pt.locs, Pt.cells, Pt.slots] at X5 l5 y5 z5 st5 hQ5
  subst l5 y5 z5
  obtain ⟨rfl, N5q, hh5⟩ := hQ5
  have N5 := Fr.app N0 N5q
  have sg6 : ∀ t₀, Steps p.tables e below (T5.setTop (mkF m 12 #[.val (.int p1)] [])) t₀ → Steps p.tables e below (T5.setTop (mkF m 9 #[.val (.int p1)] [(.int (1 : Int32))])) t₀ := by
    intro t₀ kt
    show Steps p.tables e below (T5.setTop (mkF m 9 #[.val (.int p1)] [(.int (1 : Int32))])) _
    refine XS.ifNo X5.here hx rfl (hb hby at_9) rfl ((if0 _ _).trans (feq (by decide : ¬ ((1 : Int32) = (0 : Int32)))).1) ?_
    exact kt
  obtain ⟨T7, X7, e7, st7⟩ := getS2 X5 hx hZ3 hown3 (host := "") (Or.inl (hw _ (List.mem_of_getElem? (i := 81) rfl))) Via.refl hh5 (K1.ext EX3) (g := (mkF m 12 #[.val (.int p1)] [])) rfl (hb hby at_12)
  have Ns1 := N5
  rw [hns] at Ns1
  obtain ⟨e1A, T8, h8, k8, e1B, kc8, X8, e8, E8, S8, z8, hZ8, hown8, Ex8, Cx8, Vx8, Ax8, -, -, I8, -, st8⟩ := ldcSVL (s := s) (vm0 := T3.vm) (Z := Z) (a0 := a0) X7 hx hZ3 hown3 (hw _ (List.mem_of_getElem? (i := 83) rfl)) wS e7 S3 z3 Ns1 hkeep I3 (by decide) HH1 hcw (vs := [.int (60 : Int32), .int (61 : Int32)]) (z := (2 : Int32)) ⟨by decide, by rfl⟩ (by decide) (by rfl) (g := (mkF m 15 #[.val (.int p1)] [(.ref c1)])) rfl (hb hby at_15) (n := 8) (by decide) (by decide) (by decide) (by decide)
  have EX8 : Ext h0 h8 := ⟨Nat.le_trans EX3.1 E8.1, fun a cl q => E8.2 a cl (EX3.2 a cl q)⟩
  have Sx8 : own_S Z h8 e1A e1B 2 (fun i => if i = 0 then (60 : Int32) else (61 : Int32)) := ⟨Ex8, Cx8, Vx8, own_ofArv Ax8 (by rfl) (by decide)⟩
  have zz8 : n0 ≤ h8.size := Nat.le_trans Z0 EX8.1
  have sg9 : ∀ t₀, Steps p.tables e below (T8.setTop (mkF m 18 #[.val (.int p1)] [(.int p1), (.ref e1A), (.ref c1)])) t₀ → Steps p.tables e below (T8.setTop (mkF m 17 #[.val (.int p1)] [(.ref e1A), (.ref c1)])) t₀ := by
    intro t₀ kt
    show Steps p.tables e below (T8.setTop (mkF m 17 #[.val (.int p1)] [(.ref e1A), (.ref c1)])) _
    refine XS.iloadN X8.here hx rfl (hb hby at_17) rfl ?_
    exact kt
  obtain ⟨_, _, ⟨T10, L10, k10, n10⟩, -, X10, ⟨Lc10, hQ10, l10, y10, z10⟩, st10⟩ := Jvm.LawKit.callS X8 hx (y := (⟨"com/example/thangdiem/thangdiem/method/ComparisonHoldsPinLaw", "agrees", "(Lcom/example/thangdiem/thangdiem/method/Formula$Comparison;Ljava/lang/String;I)Z"⟩ : MethodName)) hown8 (mvT hZ8 (hw _ (List.mem_of_getElem? (i := 11) rfl))) (mvT hZ8 (hw _ (List.mem_of_getElem? (i := 12) rfl))) (mvT hZ8 (hw _ (List.mem_of_getElem? (i := 13) rfl))) (mvT hZ8 (hw _ (List.mem_of_getElem? (i := 14) rfl))) (by decide) (backOf (W := 0) (rm1 l Z a0 hw [] c1 e1A p1 s1 t1 e1B 2 (fun i => if i = 0 then (60 : Int32) else (61 : Int32)) (1 : Int32) zc G3 h8 n0 zz8 (EC1.ext EX8) (FS1.ext EX8) (FO1.ext EX8) (own_S_ext SS1 EX8) Sx8 (C1.ext EX8) hz rG3 (P1.ext EX8) (by decide) (by decide) (by decide) (own_fin1 p1)) hZ8 (hw _ (List.mem_of_getElem? (i := 14) rfl)) (hw _ (List.mem_of_getElem? (i := 13) rfl)) (by decide) (by decide)) (g := (mkF m 18 #[.val (.int p1)] [(.int p1), (.ref e1A), (.ref c1)])) rfl (by rw [hml]; rfl) (argsL := [(.ref c1), (.ref e1A), (.int p1)]) (rest := []) (lenOf pd_8 rfl) rfl (by show 2 * 0 + _ ≤ _; exact Nat.le_of_eq rfl) (hb hby at_18) (fun _ _ => ⟨rfl, e8, (by decide : 4 + 0 ≤ _), (by decide : 24 + 0 ≤ _)⟩)
  dsimp only [Pt.U, Pt.locs, Pt.cells, Pt.slots] at X10 l10 y10 z10 st10 hQ10
  subst l10 y10 z10
  obtain ⟨rfl, N10q, hh10⟩ := hQ10
  have N10 := Fr.app N5 N10q
  have sg11 : ∀ t₀, Steps p.tables e below (T10.setTop (mkF m 24 #[.val (.int p1)] [])) t₀ → Steps p.tables e below (T10.setTop (mkF m 21 #[.val (.int p1)] [(.int (1 : Int32))])) t₀ := by
    intro t₀ kt
    show Steps p.tables e below (T10.setTop (mkF m 21 #[.val (.int p1)] [(.int (1 : Int32))])) _
    refine XS.ifNo X10.here hx rfl (hb hby at_21) rfl ((if0 _ _).trans (feq (by decide : ¬ ((1 : Int32) = (0 : Int32)))).1) ?_
    exact kt
  obtain ⟨T12, X12, e12, st12⟩ := getS2 X10 hx hZ8 hown8 (host := "") (Or.inl (hw _ (List.mem_of_getElem? (i := 84) rfl))) Via.refl hh10 (K2.ext EX8) (g := (mkF m 24 #[.val (.int p1)] [])) rfl (hb hby at_24)
  have Ns2 := N10
  rw [hns] at Ns2
  obtain ⟨e2A, T13, h13, k13, e2B, kc13, X13, e13, E13, S13, z13, hZ13, hown13, Ex13, Cx13, Vx13, Ax13, -, -, I13, -, st13⟩ := ldcSVL (s := s) (vm0 := T8.vm) (Z := Z) (a0 := a0) X12 hx hZ8 hown8 (hw _ (List.mem_of_getElem? (i := 86) rfl)) wS e12 S8 z8 Ns2 hkeep I8 (by decide) HH2 hcw (vs := [.int (61 : Int32)]) (z := (1 : Int32)) ⟨by decide, by rfl⟩ (by decide) (by rfl) (g := (mkF m 27 #[.val (.int p1)] [(.ref c2)])) rfl (hb hby at_27) (n := 8) (by decide) (by decide) (by decide) (by decide)
  have EX13 : Ext h0 h13 := ⟨Nat.le_trans EX8.1 E13.1, fun a cl q => E13.2 a cl (EX8.2 a cl q)⟩
  have Sx13 : own_S Z h13 e2A e2B 1 (fun i => (61 : Int32)) := ⟨Ex13, Cx13, Vx13, own_ofArv Ax13 (by rfl) (by decide)⟩
  have zz13 : n0 ≤ h13.size := Nat.le_trans Z0 EX13.1
  have sg14 : ∀ t₀, Steps p.tables e below (T13.setTop (mkF m 30 #[.val (.int p1)] [(.int p1), (.ref e2A), (.ref c2)])) t₀ → Steps p.tables e below (T13.setTop (mkF m 29 #[.val (.int p1)] [(.ref e2A), (.ref c2)])) t₀ := by
    intro t₀ kt
    show Steps p.tables e below (T13.setTop (mkF m 29 #[.val (.int p1)] [(.ref e2A), (.ref c2)])) _
    refine XS.iloadN X13.here hx rfl (hb hby at_29) rfl ?_
    exact kt
  obtain ⟨_, _, ⟨T15, L15, k15, n15⟩, -, X15, ⟨Lc15, hQ15, l15, y15, z15⟩, st15⟩ := Jvm.LawKit.callS X13 hx (y := (⟨"com/example/thangdiem/thangdiem/method/ComparisonHoldsPinLaw", "agrees", "(Lcom/example/thangdiem/thangdiem/method/Formula$Comparison;Ljava/lang/String;I)Z"⟩ : MethodName)) hown13 (mvT hZ13 (hw _ (List.mem_of_getElem? (i := 11) rfl))) (mvT hZ13 (hw _ (List.mem_of_getElem? (i := 12) rfl))) (mvT hZ13 (hw _ (List.mem_of_getElem? (i := 13) rfl))) (mvT hZ13 (hw _ (List.mem_of_getElem? (i := 14) rfl))) (by decide) (backOf (W := 0) (rm1 l Z a0 hw [] c2 e2A p1 s2 t2 e2B 1 (fun i => (61 : Int32)) (2 : Int32) zc G3 h13 n0 zz13 (EC2.ext EX13) (FS2.ext EX13) (FO2.ext EX13) (own_S_ext SS2 EX13) Sx13 (C1.ext EX13) hz rG3 (P1.ext EX13) (by decide) (by decide) (by decide) (own_fin2 p1)) hZ13 (hw _ (List.mem_of_getElem? (i := 14) rfl)) (hw _ (List.mem_of_getElem? (i := 13) rfl)) (by decide) (by decide)) (g := (mkF m 30 #[.val (.int p1)] [(.int p1), (.ref e2A), (.ref c2)])) rfl (by rw [hml]; rfl) (argsL := [(.ref c2), (.ref e2A), (.int p1)]) (rest := []) (lenOf pd_8 rfl) rfl (by show 2 * 0 + _ ≤ _; exact Nat.le_of_eq rfl) (hb hby at_30) (fun _ _ => ⟨rfl, e13, (by decide : 6 + 0 ≤ _), (by decide : 36 + 0 ≤ _)⟩)
  dsimp only [Pt.U, Pt.locs, Pt.cells, Pt.slots] at X15 l15 y15 z15 st15 hQ15
  subst l15 y15 z15
  obtain ⟨rfl, N15q, hh15⟩ := hQ15
  have N15 := Fr.app N10 N15q
  have sg16 : ∀ t₀, Steps p.tables e below (T15.setTop (mkF m 41 #[.val (.int p1)] [(.int (1 : Int32))])) t₀ → Steps p.tables e below (T15.setTop (mkF m 33 #[.val (.int p1)] [(.int (1 : Int32))])) t₀ := by
    intro t₀ kt
    show Steps p.tables e below (T15.setTop (mkF m 33 #[.val (.int p1)] [(.int (1 : Int32))])) _
    refine XS.ifNo X15.here hx rfl (hb hby at_33) rfl ((if0 _ _).trans (feq (by decide : ¬ ((1 : Int32) = (0 : Int32)))).1) ?_
    show Steps p.tables e below (T15.setTop (mkF m 36 #[.val (.int p1)] [])) _
    refine XS.iconst X15.here hx rfl (hb hby at_36) ?_
    show Steps p.tables e below (T15.setTop (mkF m 37 #[.val (.int p1)] [(.int (1 : Int32))])) _
    refine XS.goto X15.here hx rfl (pc0 := 37) (pc' := 41) rfl (hb hby at_37) (by decide) (by decide) ?_
    exact kt
  obtain ⟨fs, hr, hrun, hended, hEnd⟩ := X15.leaveW S13 (Nat.le_trans z13 (Nat.le_of_eq (by rw [hh15]))) (v := some (.int (1 : Int32))) (fun h => by rw [Bd.returns] at h; cases h)
  refine ⟨_, _, pre0 _ ?_, hrun, hended, _, _, rfl, ?_, ⟨hEnd.1, hEnd.2.1, hEnd.2.2.1, hEnd.2.2.2.mono (by decide) (by decide)⟩⟩
  · exact st2 _ (st3 _ (sg4 _ (st5 _ (sg6 _ (st7 _ (st8 _ (sg9 _ (st10 _ (sg11 _ (st12 _ (st13 _ (sg14 _ (st15 _ (sg16 _ ((retN X15 hx (t := .boolean) Bd.returns (by simp) (hb hby at_41) hr))))))))))))))))
  · show Q0 Z p1 zc G3 c0 s0 t0 c1 s1 t1 c2 s2 t2 h0 n0 _ T15.heap _
    rw [hh15]
    exact ⟨rfl, N15⟩
set_option maxRecDepth 65536 in
set_option maxHeartbeats 40000000 in
theorem comes_1 {Post : Tables → Env → Array Value → State → Outcome → State → Prop} (hpost : ∀ tb e args s v u, (limb_1_1.after args s (.returned v) u = true ∧ limb_1_2.after args s (.returned v) u = true ∧ True) → ReturnedEndW s (.returned v) u (Jvm.fieldLocs frame_1_writes args s ++ Jvm.arrayLocs frame_1_arrays args s ++ Jvm.staticLocs frame_1_statics s) 8 3136 → Post tb e args s (.returned v) u) :
    ArmFor flags0 classFile x code maxLocals ret World_1 tables_1 room_1 Calls_1 rest_1 Pre_1 Post := by
  intro l hfl _ _ p e ha hc hk s m args below hf hA hF happ hP
  obtain ⟨hcalls, hrest, hpre⟩ := hP
  obtain ⟨-, -, -, hnamed, -, -, -, hat⟩ := (Spec.applies_iff hf).mp happ
  obtain ⟨hg, hn⟩ := and_e (Cond.before_iff.mp (show (Jvm.Cond.and given_1 narrow_1).before args s = true from hpre))
  obtain ⟨hg0, hr0⟩ := and_e hg
  obtain ⟨w0, rfl⟩ : ∃ w0 : Value, args = #[w0] := by
    have hs : args.size = 1 := by simpa [Cond.value, given_1] using hg0
    obtain ⟨L⟩ := args
    match L, hs with
    | [w0], _ => exact ⟨w0, rfl⟩
  have hw := fun d (hd : d ∈ tables_1) => atoms_spec (ws := Jvm.Cond.code x code maxLocals ret :: tables_1) hat d (List.mem_cons_of_mem _ hd)
  obtain ⟨i0, ei0⟩ := is_v hr0
  obtain rfl : w0 = (.int i0) := Option.some.inj ei0
  obtain ⟨hsets, hown0⟩ := atoms_of _ (rest_1_c_eq ▸ (show rest_1_c.before _ s = true from hrest))
  obtain ⟨zc, ez⟩ := is_v (Cond.before_iff.mp (hsets _ (List.mem_of_getElem? (i := 1) rfl)))
  have C1 := Sta.start ez (Or.inl (hsets _ (List.mem_of_getElem? (i := 0) rfl)))
  have hcw := hsets _ (List.mem_of_getElem? (i := 2) rfl)
  have hz : ¬ zc = (0 : Int32) := fun q => by
    have k := not_v (Cond.before_iff.mp hcw)
    rw [q] at ez
    rw [eq_i ez (Term.int_eval 0) rfl] at k
    cases k
  obtain ⟨G3, eG, rG3⟩ := isR_v (Cond.before_iff.mp (hsets _ (List.mem_of_getElem? (i := 8) rfl)))
  have P1 := Sta.start eG (Or.inl (hsets _ (List.mem_of_getElem? (i := 7) rfl)))
  obtain ⟨k0, m0⟩ := and_e hn
  obtain ⟨k1, m1⟩ := and_e m0
  obtain ⟨k2, m2⟩ := and_e m1
  obtain ⟨k3, m3⟩ := and_e m2
  obtain ⟨k4, m4⟩ := and_e m3
  obtain ⟨k5, m5⟩ := and_e m4
  obtain ⟨k6, m6⟩ := and_e m5
  obtain ⟨k7, m7⟩ := and_e m6
  obtain ⟨k8, m8⟩ := and_e m7
  obtain ⟨k9, m9⟩ := and_e m8
  obtain ⟨k10, m10⟩ := and_e m9
  obtain ⟨k11, m11⟩ := and_e m10
  obtain ⟨k12, m12⟩ := and_e m11
  obtain ⟨k13, m13⟩ := and_e m12
  obtain ⟨k14, m14⟩ := and_e m13
  obtain ⟨k15, m15⟩ := and_e m14
  obtain ⟨k16, m16⟩ := and_e m15
  obtain ⟨k17, m17⟩ := and_e m16
  obtain ⟨k18, m18⟩ := and_e m17
  obtain ⟨k19, m19⟩ := and_e m18
  obtain ⟨k20, m20⟩ := and_e m19
  obtain ⟨c0, ev0⟩ := exa_v k0
  have EC0 := Exa.start ev0 k0
  have K0 := Sta.start ev0 (Or.inr ⟨(hw _ (List.mem_of_getElem? (i := 1) rfl)), (hw _ (List.mem_of_getElem? (i := 2) rfl))⟩)
  obtain ⟨s0, t0, FS0, SS0, FO0⟩ := own_const (n := 1) (f := (fun i => (60 : Int32))) (od := (0 : Int32)) ev0 (by decide) k1 k2 k3 k4 (fun j hj => by
    obtain rfl : j = 0 := by omega
    exact k5) k6
  have HH0 : Jvm.Lit.constHeld s "com/example/thangdiem/thangdiem/method/ComparisonHoldsPinLaw" 35 := hcalls.1 ("com/example/thangdiem/thangdiem/method/ComparisonHoldsPinLaw", 35) (List.mem_of_getElem? (i := 0) rfl)
  obtain ⟨c1, ev1⟩ := exa_v k7
  have EC1 := Exa.start ev1 k7
  have K1 := Sta.start ev1 (Or.inr ⟨(hw _ (List.mem_of_getElem? (i := 1) rfl)), (hw _ (List.mem_of_getElem? (i := 82) rfl))⟩)
  obtain ⟨s1, t1, FS1, SS1, FO1⟩ := own_const (n := 2) (f := (fun i => if i = 0 then (60 : Int32) else (61 : Int32))) (od := (1 : Int32)) ev1 (by decide) k8 k9 k10 k11 (fun j hj => by
    have q : j = 0 ∨ j = 1 := by omega
    rcases q with rfl | rfl
    · exact k12
    · exact k13) k14
  have HH1 : Jvm.Lit.constHeld s "com/example/thangdiem/thangdiem/method/ComparisonHoldsPinLaw" 46 := hcalls.1 ("com/example/thangdiem/thangdiem/method/ComparisonHoldsPinLaw", 46) (List.mem_of_getElem? (i := 1) rfl)
  obtain ⟨c2, ev2⟩ := exa_v k15
  have EC2 := Exa.start ev2 k15
  have K2 := Sta.start ev2 (Or.inr ⟨(hw _ (List.mem_of_getElem? (i := 1) rfl)), (hw _ (List.mem_of_getElem? (i := 85) rfl))⟩)
  obtain ⟨s2, t2, FS2, SS2, FO2⟩ := own_const (n := 1) (f := (fun i => (61 : Int32))) (od := (2 : Int32)) ev2 (by decide) k16 k17 k18 k19 (fun j hj => by
    obtain rfl : j = 0 := by omega
    exact k20) m20
  have HH2 : Jvm.Lit.constHeld s "com/example/thangdiem/thangdiem/method/ComparisonHoldsPinLaw" 51 := hcalls.1 ("com/example/thangdiem/thangdiem/method/ComparisonHoldsPinLaw", 51) (List.mem_of_getElem? (i := 2) rfl)
  obtain ⟨n, o, h1, h2, h3, _, L, rfl, ⟨rfl, N⟩, hq⟩ := rm0 l s _ hw tables_1 i0 zc G3 c0 s0 t0 c1 s1 t1 c2 s2 t2 s.heap s.heap.size (Nat.le_refl _) rfl C1 hz rG3 P1 hcw K0 EC0 FS0 FO0 SS0 HH0 K1 EC1 FS1 FO1 SS1 HH1 K2 EC2 FS2 FO2 SS2 HH2 p e ha hc hk s m _ below hf ((Spec.applies_iff_loose hf).mp happ).1 ⟨rfl, State.Warmed39.refl s, rfl, rfl⟩ trivial
  refine ⟨n, _, h1, h2, h3, hpost _ _ _ _ _ _ ⟨Cond.after_iff.mpr rfl, Cond.after_iff.mpr (eq_i res_at (Term.int_eval (1)) rfl), trivial⟩ ⟨hq.1, hq.2.1, hq.2.2.1, (hq.2.2.2.sift fun y hy => Or.inr (N y hy)).mono (by decide) (by decide)⟩⟩
theorem main_1_1 : Claimed_1_1 := comes_1 fun _ _ _ _ _ _ h hF => ⟨h.1, hF⟩
theorem main_1_2 : Claimed_1_2 := comes_1 fun _ _ _ _ _ _ h hF => ⟨h.2.1, hF⟩
end Jvm.Pilot.@@N@@
namespace Jvm.Pilot.@@N@@
open Jvm Jvm.ClassFile Sem Op Lib Jvm.Free Jvm.Stand Jvm.Pilot.@@N@@.Jvm.D
/-! MADE BY PROGRAM (witnessworld.py) out of the Statement's table words and the real class files: 18 classes; the members and pool entries that the words name. The judged class is class 1, her method 2. -/
namespace start1
open Jvm.ClassFile
def u (s : String) : CpInfo := .utf8 (stringToUtf16 s)
/-- a pool by its gaps: so many unusable entries, then the entry; so many at the end -/
def gap : Nat → List CpInfo → List CpInfo
  | 0, r => r
  | n + 1, r => .unusable :: gap n r
def poolList (es : List (Nat × CpInfo)) (last : Nat) : List CpInfo := es.foldr (fun e r => gap e.1 (e.2 :: r)) (gap last [])
def pool (es : List (Nat × CpInfo)) (last : Nat) : Array CpInfo := ⟨poolList es last⟩
def fileOf (pool : Array CpInfo) (this : Nat) (attrs : Array Attribute := #[]) (ms : Array MethodInfo := #[]) (fl : Nat := 33) (sup : Nat := 0) (ifs : Array Nat := #[]) (fds : Array FieldInfo := #[]) : ClassFile where
  minorVersion := 0
  majorVersion := 65
  constantPool := pool
  accessFlags := fl
  thisClass := this
  superClass := sup
  interfaces := ifs
  fields := fds
  methods := ms
  attributes := attrs
def plain (name : String) (sup : Option ClassId) : Class where
  name := name
  kind := .ordinary
  loader := none
  accessFlags := 33
  super := sup
  interfaces := #[]
  cf := none
  fields := #[]
  methods := #[]
  instanceTypes := #[]
  staticTypes := #[]
  resolved := #[]
  callSites := []
  init := .initialized
  statics := none
  mirror := none

def pool0 : Array CpInfo := pool [(5, u "<init>"), (0, u "()V"), (1, .class_ 10), (1, u "java/lang/Object")] 113

def k0m0 : Method := { name := "<init>", desc := "()V", sig := { parameters := [], returnType := none }, accessFlags := 1, code := none }
/-- java/lang/Object -/
def k0 : Class := { plain "java/lang/Object" none with
  accessFlags := 33
  interfaces := #[]
  cf := some (fileOf pool0 8 #[] #[{ accessFlags := 1, nameIndex := 5, descriptorIndex := 6, attributes := #[] }] 33 0 #[] #[])
  fields := #[]
  methods := #[k0m0]
  instanceTypes := #[]
  staticTypes := #[]
  resolved := Array.replicate 124 none
  statics := none }

def pool1 : Array CpInfo := pool [(2, .class_ 4), (1, u "java/lang/Object"), (0, u "<init>"), (0, u "()V"), (0, .methodref 8 9), (0, .class_ 10), (0, .nameAndType 11 12), (0, u "com/example/thangdiem/thangdiem/method/Formula$Comparison"), (0, u "sign"), (0, u "()Ljava/lang/String;"), (0, .methodref 14 15), (0, .class_ 16), (0, .nameAndType 17 18), (0, u "java/lang/String"), (0, u "equals"), (0, u "(Ljava/lang/Object;)Z"), (0, .methodref 14 20), (0, .nameAndType 21 22), (0, u "charAt"), (0, u "(I)C"), (0, .methodref 14 24), (0, .nameAndType 25 26), (0, u "length"), (0, u "()I"), (0, .methodref 8 28), (0, .nameAndType 29 30), (0, u "holds"), (0, u "(I)Z"), (0, .fieldref 8 32), (0, .nameAndType 33 34), (0, u "LESS"), (0, u "Lcom/example/thangdiem/thangdiem/method/Formula$Comparison;"), (0, .string 36), (0, u "<"), (0, .methodref 38 39), (0, .class_ 40), (0, .nameAndType 41 42), (0, u "com/example/thangdiem/thangdiem/method/ComparisonHoldsPinLaw"), (0, u "agrees"), (0, u "(Lcom/example/thangdiem/thangdiem/method/Formula$Comparison;Ljava/lang/String;I)Z"), (0, .fieldref 8 44), (0, .nameAndType 45 34), (0, u "AT_MOST"), (0, .string 47), (0, u "<="), (0, .fieldref 8 49), (0, .nameAndType 50 34), (0, u "EQUAL"), (0, .string 52), (0, u "="), (3, u "law")] 6

def k1m0 : Method := { name := "<init>", desc := "()V", sig := { parameters := [], returnType := none }, accessFlags := 2, code := none }
def k1c1 : Code := { maxStack := 3, maxLocals := 6, code := method_2_code, exceptionTable := #[], attributes := #[] }
def k1m1 : Method := { name := "agrees", desc := "(Lcom/example/thangdiem/thangdiem/method/Formula$Comparison;Ljava/lang/String;I)Z", sig := { parameters := [(.object "com/example/thangdiem/thangdiem/method/Formula$Comparison"), (.object "java/lang/String"), .int], returnType := some .boolean }, accessFlags := 10, code := some k1c1 }
def k1c2 : Code := { maxStack := 3, maxLocals := 1, code := code, exceptionTable := #[], attributes := #[] }
def k1m2 : Method := { name := "law", desc := "(I)Z", sig := { parameters := [.int], returnType := some .boolean }, accessFlags := 9, code := some k1c2 }
/-- com/example/thangdiem/thangdiem/method/ComparisonHoldsPinLaw -/
def k1 : Class := { plain "com/example/thangdiem/thangdiem/method/ComparisonHoldsPinLaw" (some 0) with
  accessFlags := 49
  interfaces := #[]
  cf := some (fileOf pool1 38 #[] #[{ accessFlags := 2, nameIndex := 5, descriptorIndex := 6, attributes := #[] }, { accessFlags := 10, nameIndex := 41, descriptorIndex := 42, attributes := #[] }, { accessFlags := 9, nameIndex := 56, descriptorIndex := 30, attributes := #[] }] 49 2 #[] #[])
  fields := #[]
  methods := #[k1m0, k1m1, k1m2]
  instanceTypes := #[]
  staticTypes := #[]
  resolved := Array.replicate 63 none
  statics := none }

def pool2 : Array CpInfo := pool [(1, .class_ 2), (0, u "java/lang/constant/Constable"), (0, .class_ 4), (0, u "java/lang/Object")] 6

/-- java/lang/constant/Constable -/
def k2 : Class := { plain "java/lang/constant/Constable" (some 0) with
  accessFlags := 1537
  interfaces := #[]
  cf := some (fileOf pool2 1 #[] #[] 1537 3 #[] #[])
  fields := #[]
  methods := #[]
  instanceTypes := #[]
  staticTypes := #[]
  resolved := Array.replicate 11 none
  statics := none }

def pool3 : Array CpInfo := pool [(1, .class_ 2), (0, u "java/lang/Comparable"), (0, .class_ 4), (0, u "java/lang/Object")] 7

/-- java/lang/Comparable -/
def k3 : Class := { plain "java/lang/Comparable" (some 0) with
  accessFlags := 1537
  interfaces := #[]
  cf := some (fileOf pool3 1 #[] #[] 1537 3 #[] #[])
  fields := #[]
  methods := #[]
  instanceTypes := #[]
  staticTypes := #[]
  resolved := Array.replicate 12 none
  statics := none }

def pool4 : Array CpInfo := pool [(1, .class_ 2), (0, u "java/io/Serializable"), (0, .class_ 4), (0, u "java/lang/Object")] 2

/-- java/io/Serializable -/
def k4 : Class := { plain "java/io/Serializable" (some 0) with
  accessFlags := 1537
  interfaces := #[]
  cf := some (fileOf pool4 1 #[] #[] 1537 3 #[] #[])
  fields := #[]
  methods := #[]
  instanceTypes := #[]
  staticTypes := #[]
  resolved := Array.replicate 7 none
  statics := none }

def pool5 : Array CpInfo := pool [(2, .class_ 4), (1, u "java/lang/Enum"), (0, u "name"), (0, u "Ljava/lang/String;"), (0, .fieldref 2 8), (0, .nameAndType 9 10), (0, u "ordinal"), (0, u "I"), (1, .class_ 14), (1, u "java/lang/Object"), (4, u "hash"), (86, .class_ 108), (1, u "java/lang/Enum$EnumDesc"), (2, .class_ 112), (0, u "java/lang/constant/Constable"), (0, .class_ 114), (0, u "java/lang/Comparable"), (0, .class_ 116), (0, u "java/io/Serializable"), (9, u "()I")] 77

def k5c0 : Code := { maxStack := 1, maxLocals := 1, code := jdk_37_method_2_code, exceptionTable := #[], attributes := #[] }
def k5m0 : Method := { name := "ordinal", desc := "()I", sig := { parameters := [], returnType := some .int }, accessFlags := 17, code := some k5c0 }
/-- java/lang/Enum -/
def k5 : Class := { plain "java/lang/Enum" (some 0) with
  accessFlags := 1057
  interfaces := #[2, 3, 4]
  cf := some (fileOf pool5 2 #[.nestMembers #[106]] #[{ accessFlags := 17, nameIndex := 9, descriptorIndex := 126, attributes := #[] }] 1057 12 #[111, 113, 115] #[{ accessFlags := 18, nameIndex := 5, descriptorIndex := 6, attributes := #[] }, { accessFlags := 18, nameIndex := 9, descriptorIndex := 10, attributes := #[] }, { accessFlags := 2, nameIndex := 19, descriptorIndex := 10, attributes := #[] }])
  fields := #[{ name := "name", type := (.object "java/lang/String"), accessFlags := 18, slot := 0, constantValue := 0 }, { name := "ordinal", type := .int, accessFlags := 18, slot := 1, constantValue := 0 }, { name := "hash", type := .int, accessFlags := 2, slot := 2, constantValue := 0 }]
  methods := #[k5m0]
  instanceTypes := #[(.object "java/lang/String"), .int, .int]
  staticTypes := #[]
  resolved := Array.replicate 204 none
  statics := none }

def pool6 : Array CpInfo := pool [(1, .class_ 2), (0, u "com/example/thangdiem/thangdiem/method/Formula$Comparison"), (2, u "LESS"), (0, u "Lcom/example/thangdiem/thangdiem/method/Formula$Comparison;"), (2, u "AT_MOST"), (2, u "EQUAL"), (2, u "$VALUES"), (0, u "[Lcom/example/thangdiem/thangdiem/method/Formula$Comparison;"), (6, .class_ 25), (1, u "java/lang/Enum"), (6, .fieldref 1 33), (0, .nameAndType 34 35), (0, u "sign"), (0, u "Ljava/lang/String;"), (19, .methodref 1 56), (0, .nameAndType 57 58), (0, u "ordinal"), (0, u "()I"), (25, u "()Ljava/lang/String;"), (2, u "holds"), (0, u "(I)Z"), (6, .class_ 96), (0, u "com/example/thangdiem/thangdiem/method/Formula")] 16

def k6c0 : Code := { maxStack := 1, maxLocals := 1, code := prog_40_method_4_code, exceptionTable := #[], attributes := #[] }
def k6m0 : Method := { name := "sign", desc := "()Ljava/lang/String;", sig := { parameters := [], returnType := some (.object "java/lang/String") }, accessFlags := 0, code := some k6c0 }
def k6c1 : Code := { maxStack := 4, maxLocals := 2, code := prog_40_method_6_code, exceptionTable := #[], attributes := #[] }
def k6m1 : Method := { name := "holds", desc := "(I)Z", sig := { parameters := [.int], returnType := some .boolean }, accessFlags := 0, code := some k6c1 }
/-- com/example/thangdiem/thangdiem/method/Formula$Comparison -/
def k6 : Class := { plain "com/example/thangdiem/thangdiem/method/Formula$Comparison" (some 5) with
  accessFlags := 16432
  interfaces := #[]
  cf := some (fileOf pool6 1 #[.nestHost 95] #[{ accessFlags := 0, nameIndex := 34, descriptorIndex := 84, attributes := #[] }, { accessFlags := 0, nameIndex := 87, descriptorIndex := 88, attributes := #[] }] 16432 23 #[] #[{ accessFlags := 16409, nameIndex := 5, descriptorIndex := 6, attributes := #[] }, { accessFlags := 16409, nameIndex := 9, descriptorIndex := 6, attributes := #[] }, { accessFlags := 16409, nameIndex := 12, descriptorIndex := 6, attributes := #[] }, { accessFlags := 18, nameIndex := 34, descriptorIndex := 35, attributes := #[] }, { accessFlags := 4122, nameIndex := 15, descriptorIndex := 16, attributes := #[] }])
  fields := #[{ name := "LESS", type := (.object "com/example/thangdiem/thangdiem/method/Formula$Comparison"), accessFlags := 16409, slot := 0, constantValue := 0 }, { name := "AT_MOST", type := (.object "com/example/thangdiem/thangdiem/method/Formula$Comparison"), accessFlags := 16409, slot := 1, constantValue := 0 }, { name := "EQUAL", type := (.object "com/example/thangdiem/thangdiem/method/Formula$Comparison"), accessFlags := 16409, slot := 2, constantValue := 0 }, { name := "sign", type := (.object "java/lang/String"), accessFlags := 18, slot := 3, constantValue := 0 }, { name := "$VALUES", type := (.array (.object "com/example/thangdiem/thangdiem/method/Formula$Comparison")), accessFlags := 4122, slot := 3, constantValue := 0 }]
  methods := #[k6m0, k6m1]
  instanceTypes := #[(.object "java/lang/String"), .int, .int, (.object "java/lang/String")]
  staticTypes := #[(.object "com/example/thangdiem/thangdiem/method/Formula$Comparison"), (.object "com/example/thangdiem/thangdiem/method/Formula$Comparison"), (.object "com/example/thangdiem/thangdiem/method/Formula$Comparison"), (.array (.object "com/example/thangdiem/thangdiem/method/Formula$Comparison"))]
  resolved := Array.replicate 113 none
  statics := some 0 }

def pool7 : Array CpInfo := pool [(2, .class_ 4), (1, u "java/lang/CharSequence"), (42, .class_ 48), (0, u "java/lang/CharSequence$1CodePointIterator"), (10, .class_ 60), (0, u "java/lang/CharSequence$1CharIterator"), (5, .class_ 67), (0, u "java/lang/Object")] 63

/-- java/lang/CharSequence -/
def k7 : Class := { plain "java/lang/CharSequence" (some 0) with
  accessFlags := 1537
  interfaces := #[]
  cf := some (fileOf pool7 2 #[.nestMembers #[47, 59]] #[] 1537 66 #[] #[])
  fields := #[]
  methods := #[]
  instanceTypes := #[]
  staticTypes := #[]
  resolved := Array.replicate 131 none
  statics := none }

def pool8 : Array CpInfo := pool [(1, .class_ 2), (0, u "java/lang/constant/ConstantDesc"), (0, .class_ 4), (0, u "java/lang/Object")] 32

/-- java/lang/constant/ConstantDesc -/
def k8 : Class := { plain "java/lang/constant/ConstantDesc" (some 0) with
  accessFlags := 1537
  interfaces := #[]
  cf := some (fileOf pool8 1 #[] #[] 1537 3 #[] #[])
  fields := #[]
  methods := #[]
  instanceTypes := #[]
  staticTypes := #[]
  resolved := Array.replicate 37 none
  statics := none }

def pool9 : Array CpInfo := pool [(2, .class_ 4), (1, u "java/lang/Object"), (0, u "<init>"), (0, u "()V"), (2, .fieldref 10 11), (0, .class_ 12), (0, .nameAndType 13 14), (0, u "java/lang/String"), (0, u "value"), (0, u "[B"), (0, .fieldref 10 16), (0, .nameAndType 17 18), (0, u "coder"), (0, u "B"), (2, u "hash"), (0, u "I"), (2, u "hashIsZero"), (0, u "Z"), (11, .fieldref 10 39), (0, .nameAndType 40 26), (0, u "COMPACT_STRINGS"), (66, .class_ 109), (1, u "java/lang/StringLatin1"), (32, u "()Z"), (191, u "()I"), (0, .methodref 10 336), (0, .nameAndType 17 337), (0, u "()B"), (25, u "([BI)C"), (27, u "(II)V"), (35, u "(I)C"), (64, .methodref 10 493), (0, .nameAndType 494 142), (0, u "isLatin1"), (0, .methodref 107 496), (0, .nameAndType 497 363), (0, u "charAt"), (3, u "checkIndex"), (5, u "length"), (33, .methodref 107 542), (0, .nameAndType 543 544), (0, u "equals"), (0, u "([B[B)Z"), (28, u "(Ljava/lang/Object;)Z"), (1, .class_ 576), (0, u "java/lang/CharSequence"), (22, u "CASE_INSENSITIVE_ORDER"), (0, u "Ljava/util/Comparator;"), (452, .fieldref 1054 1055), (0, .class_ 1056), (0, .nameAndType 1057 1058), (0, u "jdk/internal/util/Preconditions"), (0, u "SIOOBE_FORMATTER"), (0, u "Ljava/util/function/BiFunction;"), (0, .methodref 1054 1060), (0, .nameAndType 501 1061), (0, u "(IILjava/util/function/BiFunction;)I"), (39, u "serialPersistentFields"), (0, u "[Ljava/io/ObjectStreamField;"), (0, .class_ 1104), (0, u "java/lang/String$CaseInsensitiveComparator"), (1, .class_ 1107), (0, u "java/io/Serializable"), (0, .class_ 1109), (0, u "java/lang/Comparable"), (0, .class_ 1111), (0, u "java/lang/constant/Constable"), (0, .class_ 1113), (0, u "java/lang/constant/ConstantDesc"), (2, u "serialVersionUID"), (0, u "J"), (3, u "REPL"), (0, u "C"), (2, u "LATIN1"), (1, u "UTF16")] 323

def k9m0 : Method := { name := "<init>", desc := "()V", sig := { parameters := [], returnType := none }, accessFlags := 1, code := none }
def k9c1 : Code := { maxStack := 2, maxLocals := 1, code := jdk_42_method_54_code, exceptionTable := #[], attributes := #[] }
def k9m1 : Method := { name := "length", desc := "()I", sig := { parameters := [], returnType := some .int }, accessFlags := 1, code := some k9c1 }
def k9c2 : Code := { maxStack := 2, maxLocals := 2, code := jdk_42_method_56_code, exceptionTable := #[], attributes := #[] }
def k9m2 : Method := { name := "charAt", desc := "(I)C", sig := { parameters := [.int], returnType := some .char }, accessFlags := 1, code := some k9c2 }
def k9c3 : Code := { maxStack := 2, maxLocals := 3, code := jdk_42_method_66_code, exceptionTable := #[], attributes := #[] }
def k9m3 : Method := { name := "equals", desc := "(Ljava/lang/Object;)Z", sig := { parameters := [(.object "java/lang/Object")], returnType := some .boolean }, accessFlags := 1, code := some k9c3 }
def k9c4 : Code := { maxStack := 1, maxLocals := 1, code := jdk_42_method_152_code, exceptionTable := #[], attributes := #[] }
def k9m4 : Method := { name := "coder", desc := "()B", sig := { parameters := [], returnType := some .byte }, accessFlags := 0, code := some k9c4 }
def k9c5 : Code := { maxStack := 1, maxLocals := 1, code := jdk_42_method_154_code, exceptionTable := #[], attributes := #[] }
def k9m5 : Method := { name := "isLatin1", desc := "()Z", sig := { parameters := [], returnType := some .boolean }, accessFlags := 0, code := some k9c5 }
def k9c6 : Code := { maxStack := 3, maxLocals := 2, code := jdk_42_method_155_code, exceptionTable := #[], attributes := #[] }
def k9m6 : Method := { name := "checkIndex", desc := "(II)V", sig := { parameters := [.int, .int], returnType := none }, accessFlags := 8, code := some k9c6 }
/-- java/lang/String -/
def k9 : Class := { plain "java/lang/String" (some 0) with
  accessFlags := 49
  interfaces := #[4, 3, 7, 2, 8]
  cf := some (fileOf pool9 10 #[.nestMembers #[1103]] #[{ accessFlags := 1, nameIndex := 5, descriptorIndex := 6, attributes := #[] }, { accessFlags := 1, nameIndex := 507, descriptorIndex := 334, attributes := #[] }, { accessFlags := 1, nameIndex := 497, descriptorIndex := 427, attributes := #[] }, { accessFlags := 1, nameIndex := 543, descriptorIndex := 573, attributes := #[] }, { accessFlags := 0, nameIndex := 17, descriptorIndex := 337, attributes := #[] }, { accessFlags := 0, nameIndex := 494, descriptorIndex := 142, attributes := #[] }, { accessFlags := 8, nameIndex := 501, descriptorIndex := 391, attributes := #[] }] 49 2 #[1106, 1108, 575, 1110, 1112] #[{ accessFlags := 18, nameIndex := 13, descriptorIndex := 14, attributes := #[] }, { accessFlags := 18, nameIndex := 17, descriptorIndex := 18, attributes := #[] }, { accessFlags := 2, nameIndex := 21, descriptorIndex := 22, attributes := #[] }, { accessFlags := 2, nameIndex := 25, descriptorIndex := 26, attributes := #[] }, { accessFlags := 26, nameIndex := 1116, descriptorIndex := 1117, attributes := #[] }, { accessFlags := 24, nameIndex := 40, descriptorIndex := 26, attributes := #[] }, { accessFlags := 26, nameIndex := 1101, descriptorIndex := 1102, attributes := #[] }, { accessFlags := 26, nameIndex := 1121, descriptorIndex := 1122, attributes := #[] }, { accessFlags := 25, nameIndex := 599, descriptorIndex := 600, attributes := #[] }, { accessFlags := 24, nameIndex := 1125, descriptorIndex := 18, attributes := #[] }, { accessFlags := 24, nameIndex := 1127, descriptorIndex := 18, attributes := #[] }])
  fields := #[{ name := "value", type := (.array .byte), accessFlags := 18, slot := 0, constantValue := 0 }, { name := "coder", type := .byte, accessFlags := 18, slot := 1, constantValue := 0 }, { name := "hash", type := .int, accessFlags := 2, slot := 2, constantValue := 0 }, { name := "hashIsZero", type := .boolean, accessFlags := 2, slot := 3, constantValue := 0 }, { name := "serialVersionUID", type := .long, accessFlags := 26, slot := 0, constantValue := 0 }, { name := "COMPACT_STRINGS", type := .boolean, accessFlags := 24, slot := 1, constantValue := 0 }, { name := "serialPersistentFields", type := (.array (.object "java/io/ObjectStreamField")), accessFlags := 26, slot := 2, constantValue := 0 }, { name := "REPL", type := .char, accessFlags := 26, slot := 3, constantValue := 0 }, { name := "CASE_INSENSITIVE_ORDER", type := (.object "java/util/Comparator"), accessFlags := 25, slot := 4, constantValue := 0 }, { name := "LATIN1", type := .byte, accessFlags := 24, slot := 5, constantValue := 0 }, { name := "UTF16", type := .byte, accessFlags := 24, slot := 6, constantValue := 0 }]
  methods := #[k9m0, k9m1, k9m2, k9m3, k9m4, k9m5, k9m6]
  instanceTypes := #[(.array .byte), .byte, .int, .boolean]
  staticTypes := #[.long, .boolean, (.array (.object "java/io/ObjectStreamField")), .char, (.object "java/util/Comparator"), .byte, .byte]
  resolved := Array.replicate 1451 none
  statics := some 1 }

def pool10 : Array CpInfo := pool [(1, .class_ 2), (0, u "java/lang/String"), (1, .class_ 6), (1, u "java/lang/Object"), (0, u "<init>"), (0, u "()V"), (0, .methodref 1 10), (0, .nameAndType 11 12), (0, u "checkIndex"), (0, u "(II)V"), (1, .class_ 16), (1, u "java/lang/StringLatin1"), (36, u "([BI)C"), (67, u "$assertionsDisabled"), (0, u "Z"), (98, .class_ 223), (1, u "java/lang/StringLatin1$LinesSpliterator"), (28, u "charAt"), (28, u "equals"), (0, u "([B[B)Z"), (107, .class_ 391), (0, u "java/lang/StringLatin1$CharsSpliterator")] 3

def k10m0 : Method := { name := "<init>", desc := "()V", sig := { parameters := [], returnType := none }, accessFlags := 0, code := none }
def k10c1 : Code := { maxStack := 2, maxLocals := 2, code := jdk_43_method_2_code, exceptionTable := #[], attributes := #[] }
def k10m1 : Method := { name := "charAt", desc := "([BI)C", sig := { parameters := [(.array .byte), .int], returnType := some .char }, accessFlags := 9, code := some k10c1 }
def k10c2 : Code := { maxStack := 3, maxLocals := 3, code := jdk_43_method_13_code, exceptionTable := #[], attributes := #[] }
def k10m2 : Method := { name := "equals", desc := "([B[B)Z", sig := { parameters := [(.array .byte), (.array .byte)], returnType := some .boolean }, accessFlags := 9, code := some k10c2 }
/-- java/lang/StringLatin1 -/
def k10 : Class := { plain "java/lang/StringLatin1" (some 0) with
  accessFlags := 48
  interfaces := #[]
  cf := some (fileOf pool10 14 #[.nestMembers #[390, 221]] #[{ accessFlags := 0, nameIndex := 7, descriptorIndex := 8, attributes := #[] }, { accessFlags := 9, nameIndex := 252, descriptorIndex := 53, attributes := #[] }, { accessFlags := 9, nameIndex := 281, descriptorIndex := 282, attributes := #[] }] 48 4 #[] #[{ accessFlags := 4120, nameIndex := 121, descriptorIndex := 122, attributes := #[] }])
  fields := #[{ name := "$assertionsDisabled", type := .boolean, accessFlags := 4120, slot := 0, constantValue := 0 }]
  methods := #[k10m0, k10m1, k10m2]
  instanceTypes := #[]
  staticTypes := #[.boolean]
  resolved := Array.replicate 395 none
  statics := none }

def pool11 : Array CpInfo := pool [(2, .class_ 4), (1, u "java/lang/Object"), (0, u "<init>"), (0, u "()V"), (17, .class_ 26), (1, u "jdk/internal/util/Preconditions"), (6, u "checkIndex"), (21, .class_ 56), (0, u "jdk/internal/util/Preconditions$4"), (57, .class_ 115), (0, u "jdk/internal/util/Preconditions$1"), (7, u "SIOOBE_FORMATTER"), (0, u "Ljava/util/function/BiFunction;"), (0, .class_ 126), (0, u "jdk/internal/util/Preconditions$2"), (3, u "AIOOBE_FORMATTER"), (0, .class_ 132), (0, u "jdk/internal/util/Preconditions$3"), (3, u "IOOBE_FORMATTER"), (41, u "(IILjava/util/function/BiFunction;)I")] 15

def k11m0 : Method := { name := "<init>", desc := "()V", sig := { parameters := [], returnType := none }, accessFlags := 1, code := none }
def k11c1 : Code := { maxStack := 3, maxLocals := 3, code := jdk_41_method_11_code, exceptionTable := #[], attributes := #[] }
def k11m1 : Method := { name := "checkIndex", desc := "(IILjava/util/function/BiFunction;)I", sig := { parameters := [.int, .int, (.object "java/util/function/BiFunction")], returnType := some .int }, accessFlags := 9, code := some k11c1 }
/-- jdk/internal/util/Preconditions -/
def k11 : Class := { plain "jdk/internal/util/Preconditions" (some 0) with
  accessFlags := 33
  interfaces := #[]
  cf := some (fileOf pool11 24 #[.nestMembers #[55, 131, 125, 114]] #[{ accessFlags := 1, nameIndex := 5, descriptorIndex := 6, attributes := #[] }, { accessFlags := 9, nameIndex := 33, descriptorIndex := 178, attributes := #[] }] 33 2 #[] #[{ accessFlags := 25, nameIndex := 123, descriptorIndex := 124, attributes := #[] }, { accessFlags := 25, nameIndex := 130, descriptorIndex := 124, attributes := #[] }, { accessFlags := 25, nameIndex := 136, descriptorIndex := 124, attributes := #[] }])
  fields := #[{ name := "SIOOBE_FORMATTER", type := (.object "java/util/function/BiFunction"), accessFlags := 25, slot := 0, constantValue := 0 }, { name := "AIOOBE_FORMATTER", type := (.object "java/util/function/BiFunction"), accessFlags := 25, slot := 1, constantValue := 0 }, { name := "IOOBE_FORMATTER", type := (.object "java/util/function/BiFunction"), accessFlags := 25, slot := 2, constantValue := 0 }]
  methods := #[k11m0, k11m1]
  instanceTypes := #[]
  staticTypes := #[(.object "java/util/function/BiFunction"), (.object "java/util/function/BiFunction"), (.object "java/util/function/BiFunction")]
  resolved := Array.replicate 194 none
  statics := some 2 }

def pool12 : Array CpInfo := pool [(9, u "<init>"), (6, .class_ 18), (1, u "java/lang/Object"), (0, u "()V"), (1, .class_ 23), (1, u "jdk/internal/util/ArraysSupport"), (0, u "LOG2_ARRAY_LONG_INDEX_SCALE"), (0, u "I"), (2, u "U"), (0, u "Ljdk/internal/misc/Unsafe;"), (8, u "BIG_ENDIAN"), (0, u "Z"), (8, u "LOG2_BYTE_BIT_SIZE"), (4, u "LOG2_ARRAY_INT_INDEX_SCALE"), (54, u "JLA"), (0, u "Ljdk/internal/access/JavaLangAccess;"), (11, u "LOG2_ARRAY_BOOLEAN_INDEX_SCALE"), (9, u "LOG2_ARRAY_BYTE_INDEX_SCALE"), (5, u "LOG2_ARRAY_CHAR_INDEX_SCALE"), (5, u "LOG2_ARRAY_SHORT_INDEX_SCALE"), (18, u "LOG2_ARRAY_FLOAT_INDEX_SCALE"), (24, u "LOG2_ARRAY_DOUBLE_INDEX_SCALE"), (89, u "T_BOOLEAN"), (2, u "T_CHAR"), (1, u "T_FLOAT"), (1, u "T_DOUBLE"), (1, u "T_BYTE"), (1, u "T_SHORT"), (1, u "T_INT"), (1, u "T_LONG"), (1, u "SOFT_MAX_ARRAY_LENGTH")] 83

def k12m0 : Method := { name := "<init>", desc := "()V", sig := { parameters := [], returnType := none }, accessFlags := 2, code := none }
/-- jdk/internal/util/ArraysSupport -/
def k12 : Class := { plain "jdk/internal/util/ArraysSupport" (some 0) with
  accessFlags := 33
  interfaces := #[]
  cf := some (fileOf pool12 21 #[] #[{ accessFlags := 2, nameIndex := 9, descriptorIndex := 19, attributes := #[] }] 33 16 #[] #[{ accessFlags := 24, nameIndex := 28, descriptorIndex := 29, attributes := #[] }, { accessFlags := 26, nameIndex := 38, descriptorIndex := 39, attributes := #[] }, { accessFlags := 25, nameIndex := 121, descriptorIndex := 25, attributes := #[] }, { accessFlags := 25, nameIndex := 131, descriptorIndex := 25, attributes := #[] }, { accessFlags := 25, nameIndex := 137, descriptorIndex := 25, attributes := #[] }, { accessFlags := 25, nameIndex := 143, descriptorIndex := 25, attributes := #[] }, { accessFlags := 25, nameIndex := 53, descriptorIndex := 25, attributes := #[] }, { accessFlags := 25, nameIndex := 24, descriptorIndex := 25, attributes := #[] }, { accessFlags := 25, nameIndex := 162, descriptorIndex := 25, attributes := #[] }, { accessFlags := 25, nameIndex := 187, descriptorIndex := 25, attributes := #[] }, { accessFlags := 26, nameIndex := 48, descriptorIndex := 25, attributes := #[] }, { accessFlags := 25, nameIndex := 277, descriptorIndex := 25, attributes := #[] }, { accessFlags := 25, nameIndex := 280, descriptorIndex := 25, attributes := #[] }, { accessFlags := 25, nameIndex := 282, descriptorIndex := 25, attributes := #[] }, { accessFlags := 25, nameIndex := 284, descriptorIndex := 25, attributes := #[] }, { accessFlags := 25, nameIndex := 286, descriptorIndex := 25, attributes := #[] }, { accessFlags := 25, nameIndex := 288, descriptorIndex := 25, attributes := #[] }, { accessFlags := 25, nameIndex := 290, descriptorIndex := 25, attributes := #[] }, { accessFlags := 25, nameIndex := 292, descriptorIndex := 25, attributes := #[] }, { accessFlags := 26, nameIndex := 108, descriptorIndex := 109, attributes := #[] }, { accessFlags := 25, nameIndex := 294, descriptorIndex := 25, attributes := #[] }])
  fields := #[{ name := "U", type := (.object "jdk/internal/misc/Unsafe"), accessFlags := 24, slot := 0, constantValue := 0 }, { name := "BIG_ENDIAN", type := .boolean, accessFlags := 26, slot := 1, constantValue := 0 }, { name := "LOG2_ARRAY_BOOLEAN_INDEX_SCALE", type := .int, accessFlags := 25, slot := 2, constantValue := 0 }, { name := "LOG2_ARRAY_BYTE_INDEX_SCALE", type := .int, accessFlags := 25, slot := 3, constantValue := 0 }, { name := "LOG2_ARRAY_CHAR_INDEX_SCALE", type := .int, accessFlags := 25, slot := 4, constantValue := 0 }, { name := "LOG2_ARRAY_SHORT_INDEX_SCALE", type := .int, accessFlags := 25, slot := 5, constantValue := 0 }, { name := "LOG2_ARRAY_INT_INDEX_SCALE", type := .int, accessFlags := 25, slot := 6, constantValue := 0 }, { name := "LOG2_ARRAY_LONG_INDEX_SCALE", type := .int, accessFlags := 25, slot := 7, constantValue := 0 }, { name := "LOG2_ARRAY_FLOAT_INDEX_SCALE", type := .int, accessFlags := 25, slot := 8, constantValue := 0 }, { name := "LOG2_ARRAY_DOUBLE_INDEX_SCALE", type := .int, accessFlags := 25, slot := 9, constantValue := 0 }, { name := "LOG2_BYTE_BIT_SIZE", type := .int, accessFlags := 26, slot := 10, constantValue := 0 }, { name := "T_BOOLEAN", type := .int, accessFlags := 25, slot := 11, constantValue := 0 }, { name := "T_CHAR", type := .int, accessFlags := 25, slot := 12, constantValue := 0 }, { name := "T_FLOAT", type := .int, accessFlags := 25, slot := 13, constantValue := 0 }, { name := "T_DOUBLE", type := .int, accessFlags := 25, slot := 14, constantValue := 0 }, { name := "T_BYTE", type := .int, accessFlags := 25, slot := 15, constantValue := 0 }, { name := "T_SHORT", type := .int, accessFlags := 25, slot := 16, constantValue := 0 }, { name := "T_INT", type := .int, accessFlags := 25, slot := 17, constantValue := 0 }, { name := "T_LONG", type := .int, accessFlags := 25, slot := 18, constantValue := 0 }, { name := "JLA", type := (.object "jdk/internal/access/JavaLangAccess"), accessFlags := 26, slot := 19, constantValue := 0 }, { name := "SOFT_MAX_ARRAY_LENGTH", type := .int, accessFlags := 25, slot := 20, constantValue := 0 }]
  methods := #[k12m0]
  instanceTypes := #[]
  staticTypes := #[(.object "jdk/internal/misc/Unsafe"), .boolean, .int, .int, .int, .int, .int, .int, .int, .int, .int, .int, .int, .int, .int, .int, .int, .int, .int, (.object "jdk/internal/access/JavaLangAccess"), .int]
  resolved := Array.replicate 378 none
  statics := none }

def pool13 : Array CpInfo := pool [(1, u "java/lang/Cloneable"), (0, .class_ 1), (0, u "java/lang/Object"), (0, .class_ 3)] 3

/-- java/lang/Cloneable -/
def k13 : Class := { plain "java/lang/Cloneable" (some 0) with
  accessFlags := 1537
  interfaces := #[]
  cf := some (fileOf pool13 2 #[] #[] 1537 4 #[] #[])
  fields := #[]
  methods := #[]
  instanceTypes := #[]
  staticTypes := #[]
  resolved := Array.replicate 8 none
  statics := none }

/-- the primitive byte -/
def k14 : Class := { plain "byte" none with kind := .primitive 'B', accessFlags := 0x411 }
/-- [B -/
def k15 : Class := { plain "[B" (some 0) with kind := .array 14 .byte, interfaces := #[13, 4], accessFlags := 1041 }

/-- the primitive int -/
def k16 : Class := { plain "int" none with kind := .primitive 'I', accessFlags := 0x411 }
/-- [I -/
def k17 : Class := { plain "[I" (some 0) with kind := .array 16 .int, interfaces := #[13, 4], accessFlags := 1041 }

def heap : Heap := #[{ cls := 6, slots := #[.ref 5, .ref 8, .ref 11, .null], vm := .statics 6 },
  { cls := 9, slots := #[.long 0, .int 1, .null, .int 0, .null, .int 0, .int 0], vm := .statics 9 },
  { cls := 11, slots := #[.null, .null, .null], vm := .statics 11 },
  { cls := 15, slots := #[.int 60], vm := .none },
  { cls := 9, slots := #[.ref 3, .int 0, .int 0, .int 0], vm := .none },
  { cls := 6, slots := #[.null, .int 0, .int 0, .ref 4], vm := .none },
  { cls := 15, slots := #[.int 60, .int 61], vm := .none },
  { cls := 9, slots := #[.ref 6, .int 0, .int 0, .int 0], vm := .none },
  { cls := 6, slots := #[.null, .int 1, .int 0, .ref 7], vm := .none },
  { cls := 15, slots := #[.int 61], vm := .none },
  { cls := 9, slots := #[.ref 9, .int 0, .int 0, .int 0], vm := .none },
  { cls := 6, slots := #[.null, .int 2, .int 0, .ref 10], vm := .none }]
def classes : Array Class := #[k0, k1, k2, k3, k4, k5, k6, k7, k8, k9, k10, k11, k12, k13, k14, k15, k16, k17]
def interned : List (Array UInt16 × Addr) := []
def slotsUsed : Nat := 42
def theMethod : MethodId := ⟨1, 2⟩
def args0 : Array Value := #[.int 3]
def aboutOver (below : List Frame) : State where
  vm := { classes := classes, interned := interned.toArray }
  heap := heap
  slotsUsed := slotsUsed
  threads := #[{ frames := .invoking theMethod args0 :: below }]
def below0 : List Frame := [.native { method := ⟨0, 0⟩, args := #[] }]
def about1 : State := aboutOver below0
def p0 : Program := .bare "" "" ""
def e0 : Env := launch0.env 0 0 0
theorem w_frames : about1.frames = Frame.invoking theMethod args0 :: below0 := rfl
set_option maxRecDepth 65536 in
theorem w_args : argsFit about1.vm theMethod args0 = true := by decide +kernel
set_option maxRecDepth 65536 in
theorem w_heap : heapFits about1 = true := by decide +kernel
set_option maxRecDepth 65536 in
theorem w_runnable : about1.curStatus? = some .runnable := by decide +kernel
set_option maxRecDepth 65536 in
theorem w_alone : about1.alone = true := by decide +kernel
set_option maxRecDepth 65536 in
theorem w_named : about1.methodNamed? x = some theMethod := by decide +kernel
set_option maxRecDepth 65536 in
theorem w_hears : about1.hears theMethod below0 = true := by decide +kernel
set_option maxRecDepth 65536 in
theorem w_ripe : about1.ripe theMethod args0 below0 = true := by decide +kernel
theorem w_running : about1.status = .running := rfl
set_option maxRecDepth 65536 in
theorem w_room : about1.hasRoom e0.platform room_1 = true :=
  launch0.hasRoom_least _ room_1 (by decide +kernel) (by decide +kernel) (by decide +kernel) (by decide +kernel) (by decide +kernel) (by decide +kernel)
theorem allAtoms_all (ts : List Jvm.Cond) (a : Array Jvm.Value) (st : Jvm.State) : (allAtoms ts).before a st = ts.all (fun c => c.before a st) := by
  induction ts with
  | nil => rfl
  | cons c t ih =>
    show (Jvm.Cond.and c (allAtoms t)).before a st = _
    rw [Jvm.Cond.before_and, ih, List.all_cons]
def words1 : List Jvm.Cond := Jvm.Cond.code x code maxLocals ret :: tables_1
/-- a 'code' word, met by the world's own term for the bytes: nothing is compared byte by byte -/
theorem code_word {y : MethodName} {bytes : ByteArray} {mx : Nat} {rt : Option FieldType} {a : Array Value} {s : State} {m : MethodId} {meth : Method} {c : Code} (h1 : s.methodNamed? y = some m) (h2 : s.vm.method? m = some meth) (h3 : meth.code = some c) (h4 : c.code = bytes)
    (h5 : (c.maxLocals == mx && c.exceptionTable.isEmpty && decide (c.maxStack ≤ mostOperands) && decide (meth.sig.returnType = rt) && !meth.locks && decide (parseMethodDescriptor y.desc = some meth.sig)) = true) : (Jvm.Cond.code y bytes mx rt).before a s = true := by
  simp only [Bool.and_eq_true, beq_iff_eq, Bool.not_eq_true', decide_eq_true_eq] at h5
  obtain ⟨⟨⟨⟨⟨g1, g2⟩, g3⟩, g4⟩, g5⟩, g6⟩ := h5
  simp [Cond.before, Cond.holds, Cond.value, h1, h2, h3, h4, g1, g2, g3, g4, g5, g6]
def isCode : Jvm.Cond → Bool
  | .code _ _ _ _ => true
  | _ => false
theorem all_split {L : List Jvm.Cond} {P : Jvm.Cond → Bool} (h1 : L.all (fun c => isCode c || P c) = true) (h2 : ∀ c ∈ L.filter isCode, P c = true) : L.all P = true := by
  refine List.all_eq_true.mpr fun c hc => ?_
  have h := List.all_eq_true.mp h1 c hc
  rcases Bool.eq_false_or_eq_true (isCode c) with hi | hi
  · exact h2 c (List.mem_filter.mpr ⟨hc, hi⟩)
  · simpa [hi] using h
set_option maxRecDepth 65536 in
theorem w_c0 : (Jvm.Cond.code x code maxLocals ret).before args0 about1 = true := code_word (m := ⟨1, 2⟩) (meth := k1m2) (c := k1c2) (by decide +kernel) rfl rfl rfl (by decide +kernel)
set_option maxRecDepth 65536 in
theorem w_c1 : (Jvm.Cond.code ({ cls := "com/example/thangdiem/thangdiem/method/ComparisonHoldsPinLaw", name := "agrees", desc := "(Lcom/example/thangdiem/thangdiem/method/Formula$Comparison;Ljava/lang/String;I)Z" } : Jvm.MethodName) method_2_code (6 : Nat) (Option.some Jvm.ClassFile.FieldType.boolean)).before args0 about1 = true := code_word (m := ⟨1, 1⟩) (meth := k1m1) (c := k1c1) (by decide +kernel) rfl rfl rfl (by decide +kernel)
set_option maxRecDepth 65536 in
theorem w_c2 : (Jvm.Cond.code ({ cls := "com/example/thangdiem/thangdiem/method/Formula$Comparison", name := "sign", desc := "()Ljava/lang/String;" } : Jvm.MethodName) prog_40_method_4_code (1 : Nat) (Option.some (Jvm.ClassFile.FieldType.object "java/lang/String"))).before args0 about1 = true := code_word (m := ⟨6, 0⟩) (meth := k6m0) (c := k6c0) (by decide +kernel) rfl rfl rfl (by decide +kernel)
set_option maxRecDepth 65536 in
theorem w_c3 : (Jvm.Cond.code ({ cls := "java/lang/String", name := "equals", desc := "(Ljava/lang/Object;)Z" } : Jvm.MethodName) jdk_42_method_66_code (3 : Nat) (Option.some Jvm.ClassFile.FieldType.boolean)).before args0 about1 = true := code_word (m := ⟨9, 3⟩) (meth := k9m3) (c := k9c3) (by decide +kernel) rfl rfl rfl (by decide +kernel)
set_option maxRecDepth 65536 in
theorem w_c4 : (Jvm.Cond.code ({ cls := "java/lang/StringLatin1", name := "equals", desc := "([B[B)Z" } : Jvm.MethodName) jdk_43_method_13_code (3 : Nat) (Option.some Jvm.ClassFile.FieldType.boolean)).before args0 about1 = true := code_word (m := ⟨10, 2⟩) (meth := k10m2) (c := k10c2) (by decide +kernel) rfl rfl rfl (by decide +kernel)
set_option maxRecDepth 65536 in
theorem w_c5 : (Jvm.Cond.code ({ cls := "java/lang/String", name := "charAt", desc := "(I)C" } : Jvm.MethodName) jdk_42_method_56_code (2 : Nat) (Option.some Jvm.ClassFile.FieldType.char)).before args0 about1 = true := code_word (m := ⟨9, 2⟩) (meth := k9m2) (c := k9c2) (by decide +kernel) rfl rfl rfl (by decide +kernel)
set_option maxRecDepth 65536 in
theorem w_c6 : (Jvm.Cond.code ({ cls := "java/lang/String", name := "isLatin1", desc := "()Z" } : Jvm.MethodName) jdk_42_method_154_code (1 : Nat) (Option.some Jvm.ClassFile.FieldType.boolean)).before args0 about1 = true := code_word (m := ⟨9, 5⟩) (meth := k9m5) (c := k9c5) (by decide +kernel) rfl rfl rfl (by decide +kernel)
set_option maxRecDepth 65536 in
theorem w_c7 : (Jvm.Cond.code ({ cls := "java/lang/StringLatin1", name := "charAt", desc := "([BI)C" } : Jvm.MethodName) jdk_43_method_2_code (2 : Nat) (Option.some Jvm.ClassFile.FieldType.char)).before args0 about1 = true := code_word (m := ⟨10, 1⟩) (meth := k10m1) (c := k10c1) (by decide +kernel) rfl rfl rfl (by decide +kernel)
set_option maxRecDepth 65536 in
theorem w_c8 : (Jvm.Cond.code ({ cls := "java/lang/String", name := "checkIndex", desc := "(II)V" } : Jvm.MethodName) jdk_42_method_155_code (2 : Nat) (Option.none : Option Jvm.ClassFile.FieldType)).before args0 about1 = true := code_word (m := ⟨9, 6⟩) (meth := k9m6) (c := k9c6) (by decide +kernel) rfl rfl rfl (by decide +kernel)
set_option maxRecDepth 65536 in
theorem w_c9 : (Jvm.Cond.code ({ cls := "jdk/internal/util/Preconditions", name := "checkIndex", desc := "(IILjava/util/function/BiFunction;)I" } : Jvm.MethodName) jdk_41_method_11_code (3 : Nat) (Option.some Jvm.ClassFile.FieldType.int)).before args0 about1 = true := code_word (m := ⟨11, 1⟩) (meth := k11m1) (c := k11c1) (by decide +kernel) rfl rfl rfl (by decide +kernel)
set_option maxRecDepth 65536 in
theorem w_c10 : (Jvm.Cond.code ({ cls := "java/lang/String", name := "length", desc := "()I" } : Jvm.MethodName) jdk_42_method_54_code (1 : Nat) (Option.some Jvm.ClassFile.FieldType.int)).before args0 about1 = true := code_word (m := ⟨9, 1⟩) (meth := k9m1) (c := k9c1) (by decide +kernel) rfl rfl rfl (by decide +kernel)
set_option maxRecDepth 65536 in
theorem w_c11 : (Jvm.Cond.code ({ cls := "java/lang/String", name := "coder", desc := "()B" } : Jvm.MethodName) jdk_42_method_152_code (1 : Nat) (Option.some Jvm.ClassFile.FieldType.byte)).before args0 about1 = true := code_word (m := ⟨9, 4⟩) (meth := k9m4) (c := k9c4) (by decide +kernel) rfl rfl rfl (by decide +kernel)
set_option maxRecDepth 65536 in
theorem w_c12 : (Jvm.Cond.code ({ cls := "com/example/thangdiem/thangdiem/method/Formula$Comparison", name := "holds", desc := "(I)Z" } : Jvm.MethodName) prog_40_method_6_code (2 : Nat) (Option.some Jvm.ClassFile.FieldType.boolean)).before args0 about1 = true := code_word (m := ⟨6, 1⟩) (meth := k6m1) (c := k6c1) (by decide +kernel) rfl rfl rfl (by decide +kernel)
set_option maxRecDepth 65536 in
theorem w_c13 : (Jvm.Cond.code ({ cls := "java/lang/Enum", name := "ordinal", desc := "()I" } : Jvm.MethodName) jdk_37_method_2_code (1 : Nat) (Option.some Jvm.ClassFile.FieldType.int)).before args0 about1 = true := code_word (m := ⟨5, 0⟩) (meth := k5m0) (c := k5c0) (by decide +kernel) rfl rfl rfl (by decide +kernel)
def codes1 : List Jvm.Cond := [Jvm.Cond.code x code maxLocals ret, Jvm.Cond.code ({ cls := "com/example/thangdiem/thangdiem/method/ComparisonHoldsPinLaw", name := "agrees", desc := "(Lcom/example/thangdiem/thangdiem/method/Formula$Comparison;Ljava/lang/String;I)Z" } : Jvm.MethodName) method_2_code (6 : Nat) (Option.some Jvm.ClassFile.FieldType.boolean), Jvm.Cond.code ({ cls := "com/example/thangdiem/thangdiem/method/Formula$Comparison", name := "sign", desc := "()Ljava/lang/String;" } : Jvm.MethodName) prog_40_method_4_code (1 : Nat) (Option.some (Jvm.ClassFile.FieldType.object "java/lang/String")), Jvm.Cond.code ({ cls := "java/lang/String", name := "equals", desc := "(Ljava/lang/Object;)Z" } : Jvm.MethodName) jdk_42_method_66_code (3 : Nat) (Option.some Jvm.ClassFile.FieldType.boolean), Jvm.Cond.code ({ cls := "java/lang/StringLatin1", name := "equals", desc := "([B[B)Z" } : Jvm.MethodName) jdk_43_method_13_code (3 : Nat) (Option.some Jvm.ClassFile.FieldType.boolean), Jvm.Cond.code ({ cls := "java/lang/String", name := "charAt", desc := "(I)C" } : Jvm.MethodName) jdk_42_method_56_code (2 : Nat) (Option.some Jvm.ClassFile.FieldType.char), Jvm.Cond.code ({ cls := "java/lang/String", name := "isLatin1", desc := "()Z" } : Jvm.MethodName) jdk_42_method_154_code (1 : Nat) (Option.some Jvm.ClassFile.FieldType.boolean), Jvm.Cond.code ({ cls := "java/lang/StringLatin1", name := "charAt", desc := "([BI)C" } : Jvm.MethodName) jdk_43_method_2_code (2 : Nat) (Option.some Jvm.ClassFile.FieldType.char), Jvm.Cond.code ({ cls := "java/lang/String", name := "checkIndex", desc := "(II)V" } : Jvm.MethodName) jdk_42_method_155_code (2 : Nat) (Option.none : Option Jvm.ClassFile.FieldType), Jvm.Cond.code ({ cls := "jdk/internal/util/Preconditions", name := "checkIndex", desc := "(IILjava/util/function/BiFunction;)I" } : Jvm.MethodName) jdk_41_method_11_code (3 : Nat) (Option.some Jvm.ClassFile.FieldType.int), Jvm.Cond.code ({ cls := "java/lang/String", name := "length", desc := "()I" } : Jvm.MethodName) jdk_42_method_54_code (1 : Nat) (Option.some Jvm.ClassFile.FieldType.int), Jvm.Cond.code ({ cls := "java/lang/String", name := "coder", desc := "()B" } : Jvm.MethodName) jdk_42_method_152_code (1 : Nat) (Option.some Jvm.ClassFile.FieldType.byte), Jvm.Cond.code ({ cls := "com/example/thangdiem/thangdiem/method/Formula$Comparison", name := "holds", desc := "(I)Z" } : Jvm.MethodName) prog_40_method_6_code (2 : Nat) (Option.some Jvm.ClassFile.FieldType.boolean), Jvm.Cond.code ({ cls := "java/lang/Enum", name := "ordinal", desc := "()I" } : Jvm.MethodName) jdk_37_method_2_code (1 : Nat) (Option.some Jvm.ClassFile.FieldType.int)]
set_option maxRecDepth 65536 in
theorem codes_eq : words1.filter isCode = codes1 := rfl
theorem w_codes : ∀ c ∈ words1.filter isCode, c.before args0 about1 = true := by
  rw [codes_eq]
  intro c hc
  simp only [codes1, List.mem_cons, List.not_mem_nil, or_false] at hc
  rcases hc with rfl | rfl | rfl | rfl | rfl | rfl | rfl | rfl | rfl | rfl | rfl | rfl | rfl | rfl
  · exact w_c0
  · exact w_c1
  · exact w_c2
  · exact w_c3
  · exact w_c4
  · exact w_c5
  · exact w_c6
  · exact w_c7
  · exact w_c8
  · exact w_c9
  · exact w_c10
  · exact w_c11
  · exact w_c12
  · exact w_c13
set_option maxRecDepth 65536 in
theorem w_t1 : (words1.take 24).all (fun c => isCode c || c.before args0 about1) = true := by decide +kernel
set_option maxRecDepth 65536 in
theorem w_t2 : ((words1.drop 24).take 24).all (fun c => isCode c || c.before args0 about1) = true := by decide +kernel
set_option maxRecDepth 65536 in
theorem w_t3 : (((words1.drop 24).drop 24).take 24).all (fun c => isCode c || c.before args0 about1) = true := by decide +kernel
set_option maxRecDepth 65536 in
theorem w_t4 : (((words1.drop 24).drop 24).drop 24).all (fun c => isCode c || c.before args0 about1) = true := by decide +kernel
theorem w_tables : (allAtoms (Jvm.Cond.code x code maxLocals ret :: tables_1)).before args0 about1 = true := by
  rw [allAtoms_all]
  show words1.all (fun c => c.before args0 about1) = true
  refine all_split ?_ w_codes
  rw [← List.take_append_drop 24 words1, List.all_append, w_t1, ← List.take_append_drop 24 (words1.drop 24), List.all_append, w_t2, ← List.take_append_drop 24 ((words1.drop 24).drop 24), List.all_append, w_t3, w_t4]
  rfl
set_option maxRecDepth 65536 in
theorem w_rest : rest_1_c.before args0 about1 = true := by decide +kernel
set_option maxRecDepth 65536 in
theorem w_case : (Jvm.Cond.and given_1 narrow_1).before args0 about1 = true := by decide +kernel
set_option maxRecDepth 65536 in
theorem w_consts : constsHeld consts_1 about1 := Jvm.Lit.constsHeldB_iff.mp (by decide +kernel)
theorem w_applies : (headSpec (Jvm.Cond.code x code maxLocals ret :: tables_1) room_1).applies x e0.platform about1 = true :=
  (Spec.applies_iff w_frames).mpr ⟨w_running, w_runnable, w_alone, w_named, w_hears, w_ripe, w_room, w_tables⟩
theorem atStart : AtStart classFile x code maxLocals ret World_1 tables_1 room_1 Calls_1 rest_1 Pre_1 launch0 p0 e0 about1 theMethod args0 below0 :=
  ⟨lists_1, trivial, launch0.admits_env _ _ _, launch0.least_env, fairChoices_fair.cas, fairChoices_fair.clock, w_frames, w_args, w_heap, w_applies, ⟨w_consts, trivial⟩, w_rest, w_case⟩
end start1
theorem witness_1 : WitnessClaimed_1 := ⟨start1.p0, start1.e0, start1.about1, start1.theMethod, start1.args0, start1.below0, start1.atStart⟩
end Jvm.Pilot.@@N@@
