import JvmDerived
import JvmDerived.Pilot.@@N@@Statement
import JvmDerived.Pilot.@@N@@Code
set_option linter.unusedVariables false
set_option linter.unusedSimpArgs false
namespace Jvm.RoadKit
open Sem ClassFile Op Lib Jvm.Stand Jvm.Free Jvm.LawKit
section New
variable {p : Program} {l : Launch} {e : Env} {R : Room} {s : State} {m : MethodId} {args : Array Value} {below : List Frame} {meth : Method} {c : Code} {T : State} {locs : List Loc} {cells slots : Nat}
theorem retI (X : Stand p l e R s m args below meth c T locs cells slots) (hx : p.tables.exec = Jvm.exec) {pc : Nat} {Ls : Array Slot} {z : Int32} {rest : List Value} (hret : meth.sig.returnType = some .int) (hd : decode c.code pc = .ok (.ireturn, 1)) {fs : List Frame}
    (hl : ∀ (f : JFrame) (acts : List Action), f.method = m → f.locked = none → f.entered = [] → (doReturn e (T.setTop f) acts (some (.int z))).1 = T.setFrames fs) : Steps p.tables e below (T.setTop (mkF m pc Ls (.int z :: rest))) (T.setFrames fs) := by
  have hm' : T.vm.method? m = some meth := X.method'
  have hn : narrow .int (.int z) = .int z := rfl
  show Steps p.tables e below (T.setTop { method := m, pc := pc, locals := Ls, stack := _ :: rest, locked := none }) _
  jvm_step X.here [X.here.top, hx, hd, hm', hret, hn]
  first | (intro acts; rw [hl _ acts rfl rfl rfl]) | rw [hl _ _ rfl rfl rfl]
  exact Steps.refl _
end New
end Jvm.RoadKit
namespace Jvm.Pilot.@@N@@
open Jvm Jvm.ClassFile Sem Op Lib Jvm.Free Jvm.Stand Jvm.LawKit Jvm.RoadKit Bundle Jvm.Pilot.@@N@@.Jvm.D
theorem pn_1 : plainName "com/example/conforce/conforce/engine/ByteWriter" = true := by first | (simp [plainName, overriddenIn]; done) | decide +kernel
theorem ef_1 (m : MethodId) (x0 : Addr) : entryFrame m #[(.ref x0)] 1 = mkF m 0 #[.val (.ref x0)] [] := by first | (simp [entryFrame, mkF, argsToLocals, Value.category]; done) | rfl
theorem d1_0 : decode prog_10_method_1_code 0 = .ok (.aload_n 0, 1) := by decide +kernel
theorem d1_1 : decode prog_10_method_1_code 1 = .ok (.invokespecial 1, 3) := by decide +kernel
theorem d1_4 : decode prog_10_method_1_code 4 = .ok (.aload_n 0, 1) := by decide +kernel
theorem d1_5 : decode prog_10_method_1_code 5 = .ok (.bipush 64, 2) := by decide +kernel
theorem d1_7 : decode prog_10_method_1_code 7 = .ok (.newarray .byte, 2) := by decide +kernel
theorem d1_9 : decode prog_10_method_1_code 9 = .ok (.putfield 7, 3) := by decide +kernel
theorem d1_12 : decode prog_10_method_1_code 12 = .ok (.return_, 1) := by decide +kernel
theorem pn_3 : plainName "com/example/conforce/conforce/engine/ByteWriter" = true := by first | (simp [plainName, overriddenIn]; done) | decide +kernel
theorem ef_3 (m : MethodId) (x0 : Addr) : entryFrame m #[(.ref x0)] 3 = mkF m 0 #[.val (.ref x0), .unset, .unset] [] := by first | (simp [entryFrame, mkF, argsToLocals, Value.category]; done) | rfl
theorem d3_0 : decode prog_10_method_17_code 0 = .ok (.iconst 0, 1) := by decide +kernel
theorem d3_1 : decode prog_10_method_17_code 1 = .ok (.istore_n 1, 1) := by decide +kernel
theorem d3_2 : decode prog_10_method_17_code 2 = .ok (.iconst 0, 1) := by decide +kernel
theorem d3_3 : decode prog_10_method_17_code 3 = .ok (.istore_n 2, 1) := by decide +kernel
theorem d3_4 : decode prog_10_method_17_code 4 = .ok (.iload_n 2, 1) := by decide +kernel
theorem d3_5 : decode prog_10_method_17_code 5 = .ok (.aload_n 0, 1) := by decide +kernel
theorem d3_6 : decode prog_10_method_17_code 6 = .ok (.getfield 13, 3) := by decide +kernel
theorem d3_9 : decode prog_10_method_17_code 9 = .ok (.if_icmp .ge 21, 3) := by decide +kernel
theorem d3_12 : decode prog_10_method_17_code 12 = .ok (.iload_n 1, 1) := by decide +kernel
theorem d3_13 : decode prog_10_method_17_code 13 = .ok (.ldc 79, 2) := by decide +kernel
theorem d3_15 : decode prog_10_method_17_code 15 = .ok (.imul, 1) := by decide +kernel
theorem d3_16 : decode prog_10_method_17_code 16 = .ok (.aload_n 0, 1) := by decide +kernel
theorem d3_17 : decode prog_10_method_17_code 17 = .ok (.getfield 7, 3) := by decide +kernel
theorem d3_20 : decode prog_10_method_17_code 20 = .ok (.iload_n 2, 1) := by decide +kernel
theorem d3_21 : decode prog_10_method_17_code 21 = .ok (.baload, 1) := by decide +kernel
theorem d3_22 : decode prog_10_method_17_code 22 = .ok (.ixor, 1) := by decide +kernel
theorem d3_23 : decode prog_10_method_17_code 23 = .ok (.istore_n 1, 1) := by decide +kernel
theorem d3_24 : decode prog_10_method_17_code 24 = .ok (.iinc 2 1, 3) := by decide +kernel
theorem d3_27 : decode prog_10_method_17_code 27 = .ok (.goto (-23), 3) := by decide +kernel
theorem d3_30 : decode prog_10_method_17_code 30 = .ok (.iload_n 1, 1) := by decide +kernel
theorem d3_31 : decode prog_10_method_17_code 31 = .ok (.iload_n 1, 1) := by decide +kernel
theorem d3_32 : decode prog_10_method_17_code 32 = .ok (.bipush 16, 2) := by decide +kernel
theorem d3_34 : decode prog_10_method_17_code 34 = .ok (.iushr, 1) := by decide +kernel
theorem d3_35 : decode prog_10_method_17_code 35 = .ok (.ixor, 1) := by decide +kernel
theorem d3_36 : decode prog_10_method_17_code 36 = .ok (.istore_n 1, 1) := by decide +kernel
theorem d3_37 : decode prog_10_method_17_code 37 = .ok (.iload_n 1, 1) := by decide +kernel
theorem d3_38 : decode prog_10_method_17_code 38 = .ok (.ldc 80, 2) := by decide +kernel
theorem d3_40 : decode prog_10_method_17_code 40 = .ok (.imul, 1) := by decide +kernel
theorem d3_41 : decode prog_10_method_17_code 41 = .ok (.istore_n 1, 1) := by decide +kernel
theorem d3_42 : decode prog_10_method_17_code 42 = .ok (.iload_n 1, 1) := by decide +kernel
theorem d3_43 : decode prog_10_method_17_code 43 = .ok (.iload_n 1, 1) := by decide +kernel
theorem d3_44 : decode prog_10_method_17_code 44 = .ok (.bipush 13, 2) := by decide +kernel
theorem d3_46 : decode prog_10_method_17_code 46 = .ok (.iushr, 1) := by decide +kernel
theorem d3_47 : decode prog_10_method_17_code 47 = .ok (.ixor, 1) := by decide +kernel
theorem d3_48 : decode prog_10_method_17_code 48 = .ok (.istore_n 1, 1) := by decide +kernel
theorem d3_49 : decode prog_10_method_17_code 49 = .ok (.iload_n 1, 1) := by decide +kernel
theorem d3_50 : decode prog_10_method_17_code 50 = .ok (.ldc 81, 2) := by decide +kernel
theorem d3_52 : decode prog_10_method_17_code 52 = .ok (.imul, 1) := by decide +kernel
theorem d3_53 : decode prog_10_method_17_code 53 = .ok (.istore_n 1, 1) := by decide +kernel
theorem d3_54 : decode prog_10_method_17_code 54 = .ok (.iload_n 1, 1) := by decide +kernel
theorem d3_55 : decode prog_10_method_17_code 55 = .ok (.iload_n 1, 1) := by decide +kernel
theorem d3_56 : decode prog_10_method_17_code 56 = .ok (.bipush 16, 2) := by decide +kernel
theorem d3_58 : decode prog_10_method_17_code 58 = .ok (.iushr, 1) := by decide +kernel
theorem d3_59 : decode prog_10_method_17_code 59 = .ok (.ixor, 1) := by decide +kernel
theorem d3_60 : decode prog_10_method_17_code 60 = .ok (.ireturn, 1) := by decide +kernel
theorem pn_4 : plainName "com/example/conforce/conforce/engine/ByteWriterHashPinLaw" = true := by first | (simp [plainName, overriddenIn]; done) | decide +kernel
theorem ef_4 (m : MethodId) (x0 : Int32) : entryFrame m #[(.int x0)] 2 = mkF m 0 #[.val (.int x0), .unset] [] := by first | (simp [entryFrame, mkF, argsToLocals, Value.category]; done) | rfl
theorem d4_0 : decode method_3_code 0 = .ok (.iload_n 0, 1) := by decide +kernel
theorem d4_1 : decode method_3_code 1 = .ok (.istore_n 1, 1) := by decide +kernel
theorem d4_2 : decode method_3_code 2 = .ok (.iload_n 1, 1) := by decide +kernel
theorem d4_3 : decode method_3_code 3 = .ok (.iload_n 1, 1) := by decide +kernel
theorem d4_4 : decode method_3_code 4 = .ok (.bipush 16, 2) := by decide +kernel
theorem d4_6 : decode method_3_code 6 = .ok (.iushr, 1) := by decide +kernel
theorem d4_7 : decode method_3_code 7 = .ok (.ixor, 1) := by decide +kernel
theorem d4_8 : decode method_3_code 8 = .ok (.istore_n 1, 1) := by decide +kernel
theorem d4_9 : decode method_3_code 9 = .ok (.iload_n 1, 1) := by decide +kernel
theorem d4_10 : decode method_3_code 10 = .ok (.ldc 8, 2) := by decide +kernel
theorem d4_12 : decode method_3_code 12 = .ok (.imul, 1) := by decide +kernel
theorem d4_13 : decode method_3_code 13 = .ok (.istore_n 1, 1) := by decide +kernel
theorem d4_14 : decode method_3_code 14 = .ok (.iload_n 1, 1) := by decide +kernel
theorem d4_15 : decode method_3_code 15 = .ok (.iload_n 1, 1) := by decide +kernel
theorem d4_16 : decode method_3_code 16 = .ok (.bipush 13, 2) := by decide +kernel
theorem d4_18 : decode method_3_code 18 = .ok (.iushr, 1) := by decide +kernel
theorem d4_19 : decode method_3_code 19 = .ok (.ixor, 1) := by decide +kernel
theorem d4_20 : decode method_3_code 20 = .ok (.istore_n 1, 1) := by decide +kernel
theorem d4_21 : decode method_3_code 21 = .ok (.iload_n 1, 1) := by decide +kernel
theorem d4_22 : decode method_3_code 22 = .ok (.ldc 9, 2) := by decide +kernel
theorem d4_24 : decode method_3_code 24 = .ok (.imul, 1) := by decide +kernel
theorem d4_25 : decode method_3_code 25 = .ok (.istore_n 1, 1) := by decide +kernel
theorem d4_26 : decode method_3_code 26 = .ok (.iload_n 1, 1) := by decide +kernel
theorem d4_27 : decode method_3_code 27 = .ok (.iload_n 1, 1) := by decide +kernel
theorem d4_28 : decode method_3_code 28 = .ok (.bipush 16, 2) := by decide +kernel
theorem d4_30 : decode method_3_code 30 = .ok (.iushr, 1) := by decide +kernel
theorem d4_31 : decode method_3_code 31 = .ok (.ixor, 1) := by decide +kernel
theorem d4_32 : decode method_3_code 32 = .ok (.ireturn, 1) := by decide +kernel
theorem pn_5 : plainName "com/example/conforce/conforce/engine/ByteWriter" = true := by first | (simp [plainName, overriddenIn]; done) | decide +kernel
theorem ef_5 (m : MethodId) (x0 : Addr) (x1 : Int32) : entryFrame m #[(.ref x0), (.int x1)] 2 = mkF m 0 #[.val (.ref x0), .val (.int x1)] [] := by first | (simp [entryFrame, mkF, argsToLocals, Value.category]; done) | rfl
theorem d5_0 : decode prog_10_method_5_code 0 = .ok (.aload_n 0, 1) := by decide +kernel
theorem d5_1 : decode prog_10_method_5_code 1 = .ok (.getfield 13, 3) := by decide +kernel
theorem d5_4 : decode prog_10_method_5_code 4 = .ok (.aload_n 0, 1) := by decide +kernel
theorem d5_5 : decode prog_10_method_5_code 5 = .ok (.getfield 7, 3) := by decide +kernel
theorem d5_8 : decode prog_10_method_5_code 8 = .ok (.arraylength, 1) := by decide +kernel
theorem d5_9 : decode prog_10_method_5_code 9 = .ok (.if_icmp .ne 20, 3) := by decide +kernel
theorem d5_29 : decode prog_10_method_5_code 29 = .ok (.aload_n 0, 1) := by decide +kernel
theorem d5_30 : decode prog_10_method_5_code 30 = .ok (.getfield 7, 3) := by decide +kernel
theorem d5_33 : decode prog_10_method_5_code 33 = .ok (.aload_n 0, 1) := by decide +kernel
theorem d5_34 : decode prog_10_method_5_code 34 = .ok (.dup, 1) := by decide +kernel
theorem d5_35 : decode prog_10_method_5_code 35 = .ok (.getfield 13, 3) := by decide +kernel
theorem d5_38 : decode prog_10_method_5_code 38 = .ok (.dup_x1, 1) := by decide +kernel
theorem d5_39 : decode prog_10_method_5_code 39 = .ok (.iconst 1, 1) := by decide +kernel
theorem d5_40 : decode prog_10_method_5_code 40 = .ok (.iadd, 1) := by decide +kernel
theorem d5_41 : decode prog_10_method_5_code 41 = .ok (.putfield 13, 3) := by decide +kernel
theorem d5_44 : decode prog_10_method_5_code 44 = .ok (.iload_n 1, 1) := by decide +kernel
theorem d5_45 : decode prog_10_method_5_code 45 = .ok (.i2b, 1) := by decide +kernel
theorem d5_46 : decode prog_10_method_5_code 46 = .ok (.bastore, 1) := by decide +kernel
theorem d5_47 : decode prog_10_method_5_code 47 = .ok (.return_, 1) := by decide +kernel
theorem pn_6 : plainName "com/example/conforce/conforce/engine/ByteWriterHashPinLaw" = true := by first | (simp [plainName, overriddenIn]; done) | decide +kernel
theorem ef_6 (m : MethodId) (x0 : Int32) (x1 : Int32) : entryFrame m #[(.int x0), (.int x1)] 2 = mkF m 0 #[.val (.int x0), .val (.int x1)] [] := by first | (simp [entryFrame, mkF, argsToLocals, Value.category]; done) | rfl
theorem d6_0 : decode method_2_code 0 = .ok (.iload_n 0, 1) := by decide +kernel
theorem d6_1 : decode method_2_code 1 = .ok (.ldc 7, 2) := by decide +kernel
theorem d6_3 : decode method_2_code 3 = .ok (.imul, 1) := by decide +kernel
theorem d6_4 : decode method_2_code 4 = .ok (.iload_n 1, 1) := by decide +kernel
theorem d6_5 : decode method_2_code 5 = .ok (.i2b, 1) := by decide +kernel
theorem d6_6 : decode method_2_code 6 = .ok (.ixor, 1) := by decide +kernel
theorem d6_7 : decode method_2_code 7 = .ok (.ireturn, 1) := by decide +kernel
theorem pn_0 : plainName "com/example/conforce/conforce/engine/ByteWriterHashPinLaw" = true := by first | (simp [plainName, overriddenIn]; done) | decide +kernel
theorem ef_0 (m : MethodId) (x0 : Int32) (x1 : Int32) (x2 : Int32) (x3 : Int32) (x4 : Int32) : entryFrame m #[(.int x0), (.int x1), (.int x2), (.int x3), (.int x4)] maxLocals = mkF m 0 #[.val (.int x0), .val (.int x1), .val (.int x2), .val (.int x3), .val (.int x4), .unset, .unset, .unset] [] := by first | (simp [entryFrame, mkF, argsToLocals, Value.category, maxLocals]; done) | rfl
theorem pd_1 : parseMethodDescriptor "()V" = some ⟨[], none⟩ := by decide +kernel
theorem pd_0 : parseMethodDescriptor "()I" = some ⟨[], some .int⟩ := by decide +kernel
theorem pd_2 : parseMethodDescriptor "(I)I" = some ⟨[.int], some .int⟩ := by decide +kernel
theorem pd_3 : parseMethodDescriptor "(I)V" = some ⟨[.int], none⟩ := by decide +kernel
theorem pd_4 : parseMethodDescriptor "(II)I" = some ⟨[.int, .int], some .int⟩ := by decide +kernel
theorem own_lt {i n : Nat} (h : i < n) (hn : n ≤ 4096) : Int32.ofNat i < Int32.ofNat n := by
  rw [Int32.lt_iff_toInt_lt, Int32.toInt_ofNat_of_lt (by omega), Int32.toInt_ofNat_of_lt (by omega)]
  omega
theorem own_nn {n : Nat} (hn : n ≤ 4096) : ¬ Int32.ofNat n < 0 := by
  rw [Int32.lt_iff_toInt_lt, Int32.toInt_ofNat_of_lt (by omega), show (0 : Int32).toInt = 0 from rfl]
  omega
theorem own_n32 {n : Nat} (hn : n ≤ 4096) : (Int32.ofNat n).toNatClampNeg = n := by
  rw [Int32.toNatClampNeg, Int32.toInt_ofNat_of_lt (by omega)]; rfl
theorem own_one (i : Nat) : Int32.ofNat (i + 1) = Int32.ofNat i + (1 : Int32) := Int32.ofNat_add i 1
def own_A (Z : State) (h : Heap) (t : Addr) (n : Nat) (ty : FieldType) (f : Nat → Value) : Prop := ∃ cl : Cell, Arr Z h t cl ty ∧ cl.slots.size = n ∧ ∀ j, j < n → cl.slots[j]? = some (f j)
theorem own_A_ext {Z : State} {h h' : Heap} {t : Addr} {n : Nat} {ty : FieldType} {f : Nat → Value} (A : own_A Z h t n ty f) (E : Ext h h') : own_A Z h' t n ty f := by obtain ⟨cl, B, r⟩ := A; exact ⟨cl, B.ext E, r⟩
theorem own_A_other {Z : State} {h h' : Heap} {t a : Addr} {n sl : Nat} {v : Value} {ty : FieldType} {f : Nat → Value} (A : own_A Z h t n ty f) (W : Wr h h' a sl v) (q : t ≠ a) : own_A Z h' t n ty f := by obtain ⟨cl, B, r⟩ := A; exact ⟨cl, B.other W q, r⟩
theorem own_A_keep {Z : State} {h h' : Heap} {t : Addr} {n : Nat} {ty : FieldType} {f : Nat → Value} {ws : List Addr} (A : own_A Z h t n ty f) (K : Keep h h' ws) (q : t ∉ ws) : own_A Z h' t n ty f := by obtain ⟨cl, B, r⟩ := A; exact ⟨cl, ⟨K.2.1 t cl B.1 q, B.2⟩, r⟩
theorem own_A_lt {Z : State} {h : Heap} {t : Addr} {n : Nat} {ty : FieldType} {f : Nat → Value} (A : own_A Z h t n ty f) : t < h.size := by obtain ⟨cl, B, -⟩ := A; exact B.lt
theorem own_A_set {Z : State} {h h' : Heap} {t : Addr} {n : Nat} {ty : FieldType} {f : Nat → Value} {v : Value} {sl : Nat} (A : own_A Z h t n ty f) (W : Wr h h' t sl v) (k : Nat) (hk : sl = k) (hn : k < n) : own_A Z h' t n ty (fun i => if i = k then v else f i) := by
  subst hk
  obtain ⟨cl, B, S, H⟩ := A
  refine ⟨_, B.same W, by rw [sz_set]; exact S, fun i hi => ?_⟩
  show (cl.slots.setIfInBounds sl v)[i]? = some (if i = sl then v else f i)
  rw [Array.getElem?_setIfInBounds]
  by_cases q : sl = i
  · rw [if_pos q, if_pos (by rw [S]; exact hn), if_pos q.symm]
  · rw [if_neg q, if_neg (fun z => q z.symm)]; exact H i hi
theorem own_nar (x : Int32) : nar .byte (x.toInt8.toInt32) = x.toInt8.toInt32 := by show x.toInt8.toInt32.toInt8.toInt32 = _; simp
theorem own_setB {Z : State} {h h' : Heap} {t : Addr} {n : Nat} {g : Nat → Int32} {x : Int32} {sl : Nat} (A : own_A Z h t n .byte (fun i => .int (g i))) (W : Wr h h' t sl (.int (nar .byte (x.toInt8.toInt32)))) (k : Nat) (hk : sl = k) (hn : k < n) : own_A Z h' t n .byte (fun i => .int (if i = k then x.toInt8.toInt32 else g i)) := by
  obtain ⟨c3, B3, S3, H3⟩ := own_A_set A W k hk hn
  refine ⟨c3, B3, S3, fun i hi => ?_⟩
  rw [H3 i hi]
  dsimp only
  by_cases qq : i = k
  · rw [if_pos qq, if_pos qq, own_nar]
  · rw [if_neg qq, if_neg qq]
theorem own_setL {Z : State} {h h' : Heap} {t : Addr} {n : Nat} {g : Nat → Int64} {x : Int64} {sl : Nat} (A : own_A Z h t n .long (fun i => .long (g i))) (W : Wr h h' t sl (.long x)) (k : Nat) (hk : sl = k) (hn : k < n) : own_A Z h' t n .long (fun i => .long (if i = k then x else g i)) := by
  obtain ⟨c3, B3, S3, H3⟩ := own_A_set A W k hk hn
  refine ⟨c3, B3, S3, fun i hi => ?_⟩
  rw [H3 i hi]
  dsimp only
  by_cases qq : i = k
  · rw [if_pos qq, if_pos qq]
  · rw [if_neg qq, if_neg qq]
theorem own_fitL {Z : State} {h : Heap} {t : Addr} {cl : Cell} {n : Nat} {g : Nat → Int64} (B : Arr Z h t cl .long) (S : cl.slots.size = n) (H : ∀ j, j < n → cl.slots[j]? = some (.long (g j))) : FitC Z cl :=
  fitC_of B fun i hi v hv => by rw [H i (by rw [← S]; exact hi)] at hv; cases hv; rfl
theorem own_A_new {Z : State} {h : Heap} {t : Addr} {k : ClassId} {ty : FieldType} {z : Int32} {n : Nat} (V : Arv Z h t k ty z [] (defaultValue ty)) (hz : z.toNatClampNeg = n) : own_A Z h t n ty (fun _ => defaultValue ty) := by
  obtain ⟨cl, B, -, S, -, H, -⟩ := V
  exact ⟨cl, B, by rw [S, hz], fun j hj => by rw [H j (by rw [S, hz]; exact hj)]; rfl⟩
theorem own_in {cl : Cell} {n i : Nat} (S : cl.slots.size = n) (hi : i < n) (hn : n ≤ 4096) : ¬ (Int32.ofNat i < 0 ∨ cl.slots.size ≤ (Int32.ofNat i).toNatClampNeg) := by
  rw [S, own_n32 (by omega)]
  exact fun q => q.elim (own_nn (by omega)) (by omega)
theorem own_at {cl : Cell} {n i : Nat} {f : Nat → Value} (H : ∀ j, j < n → cl.slots[j]? = some (f j)) (hi : i < n) (hn : n ≤ 4096) : cl.slots[(Int32.ofNat i).toNatClampNeg]? = some (f i) := by
  rw [own_n32 (by omega)]; exact H i hi
def own_x (h : Int32) (k : Int32) : Int32 := h ^^^ ((h.toUInt32 >>> (k &&& 31).toUInt32).toInt32)
def own_mix (h : Int32) : Int32 := own_x (own_x (own_x h 16 * (-2048144789 : Int32)) 13 * (-1028477387 : Int32)) 16
def own_fold {α : Type} (st : α → Nat → α) : Nat → Nat → α → α
  | 0, _, S => S
  | k + 1, i, S => own_fold st k (i + 1) (st S i)
theorem own_fold_succ {α : Type} (st : α → Nat → α) (k i : Nat) (S : α) : own_fold st (k + 1) i S = own_fold st k (i + 1) (st S i) := rfl
def own_stp (g : Nat → Int32) (S : Int32) (i : Nat) : Int32 := (S * (16777619 : Int32)) ^^^ g i
def own_h (g : Nat → Int32) (k i : Nat) (S : Int32) : Int32 := own_fold (own_stp g) k i S
theorem own_hs (g : Nat → Int32) (k i : Nat) (S : Int32) : own_h g (k + 1) i S = own_h g k (i + 1) ((S * (16777619 : Int32)) ^^^ g i) := own_fold_succ _ k i S
theorem own_q (a : Int32) : ((a &&& (2147483647 : Int32)) % (5 : Int32)) = 0 ∨ ((a &&& (2147483647 : Int32)) % (5 : Int32)) = 1 ∨ ((a &&& (2147483647 : Int32)) % (5 : Int32)) = 2 ∨ ((a &&& (2147483647 : Int32)) % (5 : Int32)) = 3 ∨ ((a &&& (2147483647 : Int32)) % (5 : Int32)) = 4 := by
  have h1 := c_mask a 2147483647 31 (by decide) (by decide)
  have h2 := (c_irem (a &&& (2147483647 : Int32)) 5 5 (by decide)).1 (by omega)
  simp only [← Int32.toInt_inj, Int32.reduceToInt]
  omega
def Q1 (Z : State) (a1 : Addr) (h0 : Heap) (n0 : Nat) (v : Option Value) (h : Heap) (L : List Loc) : Prop := v = none ∧ Fr n0 L ∧ n0 ≤ h.size ∧ Exa Z h a1 "com/example/conforce/conforce/engine/ByteWriter" ∧ Fld Z h a1 "com/example/conforce/conforce/engine/ByteWriter" "length" "I" (.int (0 : Int32)) ∧ ∃ t : Addr, n0 ≤ t ∧ t ≠ a1 ∧ Fld Z h a1 "com/example/conforce/conforce/engine/ByteWriter" "bytes" "[B" (.ref t) ∧ own_A Z h t 64 .byte (fun i => .int ((fun _ => (0 : Int32)) i))
set_option maxRecDepth 65536 in
set_option maxHeartbeats 40000000 in
theorem rm1 (l : Launch) (Z : State) (a0 : Array Value) (hw : ∀ d ∈ tables_1, d.before a0 Z = true) (ws : List Jvm.Cond) (a1 : Addr) (h0 : Heap) (n0 : Nat) (Z0 : n0 ≤ h0.size) (E1 : Exa Z h0 a1 "com/example/conforce/conforce/engine/ByteWriter") (g1 : n0 ≤ a1) (F1 : Fld Z h0 a1 "com/example/conforce/conforce/engine/ByteWriter" "bytes" "[B" .null) (F2 : Fld Z h0 a1 "com/example/conforce/conforce/engine/ByteWriter" "length" "I" (.int (0 : Int32))) :
    MetFree l (⟨"com/example/conforce/conforce/engine/ByteWriter", "<init>", "()V"⟩ : MethodName) (head1 (Jvm.Cond.code (⟨"com/example/conforce/conforce/engine/ByteWriter", "<init>", "()V"⟩ : MethodName) prog_10_method_1_code 1 none :: ws) ({ frames := 1, cells := 1, slots := 64, locals := 12 } : Room)) (fun a U => a = #[(.ref a1)] ∧ Z.Warmed39 U.vm ∧ U.heap = h0) (fun _ _ _ _ _ => True) (fun _ U oo U' => ∃ v L, oo = .returned v ∧ Q1 Z a1 h0 n0 v U'.heap L ∧ FrameEnd U oo U' L ({ frames := 1, cells := 1, slots := 64, locals := 12 } : Room).cells ({ frames := 1, cells := 1, slots := 64, locals := 12 } : Room).slots) := by
  refine MetFree.of_bodySF (plainFor_of_name pn_1) hisR ?_
  intro p e s m args below meth c s₁ Bd hml0 hP hK
  obtain ⟨rfl, hZ, hh⟩ := hP
  have hx := Bd.exec
  have hby := Bd.bytes
  have hml : c.maxLocals = 1 := hml0
  have hown : s.vm.findClass "com/example/conforce/conforce/engine/ByteWriter" = some m.cls := findClass_of_methodNamed Bd.named
  have hnm := (name_of_methodNamed Bd.named Bd.method).1
  have X0 : Stand p l e ({ frames := 1, cells := 1, slots := 64, locals := 12 } : Room) s m #[(.ref a1)] below meth c s₁ [] 0 0 := Stand.of_body Bd
  have e0 : s₁.heap = h0 := by rw [← hh, Bd.state]; rfl
  have N0 := Fr.nil n0
  have pre0 : ∀ t₀, Steps p.tables e below (s₁.setTop (mkF m 0 #[.val (.ref a1)] [])) t₀ → Steps p.tables e below (s₁.setTop (entryFrame m #[(.ref a1)] 1)) t₀ := fun t₀ k => castTop (ef_1 m a1) k
  have sg1 : ∀ t₀, Steps p.tables e below (s₁.setTop (mkF m 1 #[.val (.ref a1)] [(.ref a1)])) t₀ → Steps p.tables e below (s₁.setTop (mkF m 0 #[.val (.ref a1)] [])) t₀ := by
    intro t₀ kt
    show Steps p.tables e below (s₁.setTop (mkF m 0 #[.val (.ref a1)] [])) _
    refine XS.aloadN X0.here hx rfl (hb hby d1_0) rfl rfl ?_
    exact kt
  obtain ⟨T2, X2, e2, st2⟩ := initO X0 hx hZ hown (hw _ (List.mem_of_getElem? (i := 7) rfl)) (hw _ (List.mem_of_getElem? (i := 8) rfl)) (hw _ (List.mem_of_getElem? (i := 9) rfl)) e0 (g := (mkF m 1 #[.val (.ref a1)] [(.ref a1)])) rfl (by rw [hml]; rfl) rfl (hb hby d1_1) (by decide) (W := 0) (by show 2 * 0 + _ ≤ _; exact Nat.le_of_eq rfl) (by decide)
  have sg3 : ∀ t₀, Steps p.tables e below (T2.setTop (mkF m 7 #[.val (.ref a1)] [(.int (64 : Int32)), (.ref a1)])) t₀ → Steps p.tables e below (T2.setTop (mkF m 4 #[.val (.ref a1)] [])) t₀ := by
    intro t₀ kt
    show Steps p.tables e below (T2.setTop (mkF m 4 #[.val (.ref a1)] [])) _
    refine XS.aloadN X2.here hx rfl (hb hby d1_4) rfl rfl ?_
    show Steps p.tables e below (T2.setTop (mkF m 5 #[.val (.ref a1)] [(.ref a1)])) _
    refine XS.bipush X2.here hx rfl (hb hby d1_5) ?_
    exact kt
  obtain ⟨T4, h4, k4, X4, e4, E4, A4, st4⟩ := newP X2 hx hZ (hw _ (List.mem_of_getElem? (i := 10) rfl)) e2 (g := (mkF m 7 #[.val (.ref a1)] [(.int (64 : Int32)), (.ref a1)])) rfl (hb hby d1_7) rfl (by decide) (cap := 64) (by decide) (by decide) (by decide) (by decide)
  obtain ⟨b4, g4⟩ : ∃ z, z = h0.size := ⟨_, rfl⟩
  rw [← g4] at A4 st4
  have V4 := Arv.new A4 (by decide)
  have g_b4 : n0 ≤ b4 := Nat.le_trans Z0 (Nat.le_of_eq g4.symm)
  have z4 : n0 ≤ h4.size := Nat.le_trans Z0 E4.1
  have hne : b4 ≠ a1 := Nat.ne_of_gt (by rw [g4]; exact E1.lt)
  have AA : own_A Z h4 b4 64 .byte (fun _ => .int (0 : Int32)) := own_A_new V4 (by decide)
  obtain ⟨T6, h6, X6, e6, W6, st6⟩ := putF X4 hx hZ hown (host := "") (Or.inl (hw _ (List.mem_of_getElem? (i := 11) rfl))) Via.refl e4 (F1.ext E4) (E1.ext E4) (Or.inl (hw _ (List.mem_of_getElem? (i := 12) rfl))) (hw _ (List.mem_of_getElem? (i := 2) rfl)) (ty := (.array .byte)) (by decide) rfl rfl (g := (mkF m 9 #[.val (.ref a1)] [(.ref b4), (.ref a1)])) rfl rfl (hb hby d1_9)
  have Fw6 := (F1.ext E4).same W6
  have N6 := Fr.snoc X6 N0 g1
  obtain ⟨fs, hr, hrun, hended, hW, hsame⟩ := X6.leave (v := none) (fun _ => rfl)
  refine ⟨_, _, pre0 _ ?_, hrun, hended, _, _, rfl, ?_, ⟨_, rfl⟩, hW, hsame.mono (by decide) (by decide)⟩
  · exact sg1 _ (st2 _ (sg3 _ (st4 _ (st6 _ ((X6.returnOut hx Bd.returns (hb hby d1_12) hr))))))
  · show Q1 Z a1 h0 n0 _ T6.heap _
    rw [e6]
    exact ⟨rfl, N6, Nat.le_trans z4 (Keep.of_wr W6).1, (E1.ext E4).wr W6, (F2.ext E4).other W6 (Or.inr (slot_ne (Or.inl (hw _ (List.mem_of_getElem? (i := 19) rfl))) (Or.inl (hw _ (List.mem_of_getElem? (i := 12) rfl))) (by decide) (t := .int) (t' := (.array .byte)) (by decide) (by decide))), b4, g_b4, hne, Fw6, own_A_other AA W6 hne⟩
def Q3 (Z : State) (a1 : Addr) (t : Addr) (n : Nat) (g : Nat → Int32) (h0 : Heap) (n0 : Nat) (v : Option Value) (h : Heap) (L : List Loc) : Prop := v = some (.int (own_mix (own_h g n 0 0))) ∧ Fr n0 L ∧ h = h0
set_option maxRecDepth 65536 in
set_option maxHeartbeats 40000000 in
theorem rm3 (l : Launch) (Z : State) (a0 : Array Value) (hw : ∀ d ∈ tables_1, d.before a0 Z = true) (ws : List Jvm.Cond) (a1 : Addr) (t : Addr) (n : Nat) (g : Nat → Int32) (h0 : Heap) (n0 : Nat) (Z0 : n0 ≤ h0.size) (hn : n ≤ 64) (F1 : Fld Z h0 a1 "com/example/conforce/conforce/engine/ByteWriter" "bytes" "[B" (.ref t)) (F2 : Fld Z h0 a1 "com/example/conforce/conforce/engine/ByteWriter" "length" "I" (.int (Int32.ofNat n))) (A1 : own_A Z h0 t 64 .byte (fun i => .int (g i))) :
    MetFree l (⟨"com/example/conforce/conforce/engine/ByteWriter", "hash", "()I"⟩ : MethodName) (head1 (Jvm.Cond.code (⟨"com/example/conforce/conforce/engine/ByteWriter", "hash", "()I"⟩ : MethodName) prog_10_method_17_code 3 (some .int) :: ws) ({ frames := 0, cells := 0, slots := 0, locals := 0 } : Room)) (fun a U => a = #[(.ref a1)] ∧ Z.Warmed39 U.vm ∧ U.heap = h0) (fun _ _ _ _ _ => True) (fun _ U oo U' => ∃ v L, oo = .returned v ∧ Q3 Z a1 t n g h0 n0 v U'.heap L ∧ FrameEnd U oo U' L ({ frames := 0, cells := 0, slots := 0, locals := 0 } : Room).cells ({ frames := 0, cells := 0, slots := 0, locals := 0 } : Room).slots) := by
  refine MetFree.of_bodySF (plainFor_of_name pn_3) hisR ?_
  intro p e s m args below meth c s₁ Bd hml0 hP hK
  obtain ⟨rfl, hZ, hh⟩ := hP
  have hx := Bd.exec
  have hby := Bd.bytes
  have hml : c.maxLocals = 3 := hml0
  have hown : s.vm.findClass "com/example/conforce/conforce/engine/ByteWriter" = some m.cls := findClass_of_methodNamed Bd.named
  have hnm := (name_of_methodNamed Bd.named Bd.method).1
  have X0 : Stand p l e ({ frames := 0, cells := 0, slots := 0, locals := 0 } : Room) s m #[(.ref a1)] below meth c s₁ [] 0 0 := Stand.of_body Bd
  have e0 : s₁.heap = h0 := by rw [← hh, Bd.state]; rfl
  have N0 := Fr.nil n0
  have pre0 : ∀ t₀, Steps p.tables e below (s₁.setTop (mkF m 0 #[.val (.ref a1), .unset, .unset] [])) t₀ → Steps p.tables e below (s₁.setTop (entryFrame m #[(.ref a1)] 3)) t₀ := fun t₀ k => castTop (ef_3 m a1) k
  obtain ⟨cl, Ar, Sz, Hs⟩ := A1
  have sg1 : ∀ t₀, Steps p.tables e below (s₁.setTop (mkF m 4 #[.val (.ref a1), .val (.int (0 : Int32)), .val (.int (0 : Int32))] [])) t₀ → Steps p.tables e below (s₁.setTop (mkF m 0 #[.val (.ref a1), .unset, .unset] [])) t₀ := by
    intro t₀ kt
    show Steps p.tables e below (s₁.setTop (mkF m 0 #[.val (.ref a1), .unset, .unset] [])) _
    refine XS.iconst X0.here hx rfl (hb hby d3_0) ?_
    show Steps p.tables e below (s₁.setTop (mkF m 1 #[.val (.ref a1), .unset, .unset] [(.int (0 : Int32))])) _
    refine XS.istoreN X0.here hx rfl (hb hby d3_1) rfl (l' := #[.val (.ref a1), .val (.int (0 : Int32)), .unset]) rfl ?_
    show Steps p.tables e below (s₁.setTop (mkF m 2 #[.val (.ref a1), .val (.int (0 : Int32)), .unset] [])) _
    refine XS.iconst X0.here hx rfl (hb hby d3_2) ?_
    show Steps p.tables e below (s₁.setTop (mkF m 3 #[.val (.ref a1), .val (.int (0 : Int32)), .unset] [(.int (0 : Int32))])) _
    refine XS.istoreN X0.here hx rfl (hb hby d3_3) rfl (l' := #[.val (.ref a1), .val (.int (0 : Int32)), .val (.int (0 : Int32))]) rfl ?_
    exact kt
  have loop : ∀ (k i : Nat) (S : Int32) (T0 : State), i + k = n → Stand p l e ({ frames := 0, cells := 0, slots := 0, locals := 0 } : Room) s m #[(.ref a1)] below meth c T0 [] 0 0 → T0.heap = h0 → ∃ T' : State, Stand p l e ({ frames := 0, cells := 0, slots := 0, locals := 0 } : Room) s m #[(.ref a1)] below meth c T' [] 0 0 ∧ T'.heap = h0 ∧ ∀ t', Steps p.tables e below (T'.setTop (mkF m 30 #[.val (.ref a1), .val (.int (own_h g k i S)), .val (.int (Int32.ofNat n))] [])) t' → Steps p.tables e below (T0.setTop (mkF m 4 #[.val (.ref a1), .val (.int S), .val (.int (Int32.ofNat i))] [])) t' := by
    intro k
    induction k with
    | zero =>
      intro i S T0 hi XX e0'
      obtain rfl : i = n := by omega
      have sg2 : ∀ t₀, Steps p.tables e below (T0.setTop (mkF m 6 #[.val (.ref a1), .val (.int S), .val (.int (Int32.ofNat i))] [(.ref a1), (.int (Int32.ofNat i))])) t₀ → Steps p.tables e below (T0.setTop (mkF m 4 #[.val (.ref a1), .val (.int S), .val (.int (Int32.ofNat i))] [])) t₀ := by
        intro t₀ kt
        show Steps p.tables e below (T0.setTop (mkF m 4 #[.val (.ref a1), .val (.int S), .val (.int (Int32.ofNat i))] [])) _
        refine XS.iloadN XX.here hx rfl (hb hby d3_4) rfl ?_
        show Steps p.tables e below (T0.setTop (mkF m 5 #[.val (.ref a1), .val (.int S), .val (.int (Int32.ofNat i))] [(.int (Int32.ofNat i))])) _
        refine XS.aloadN XX.here hx rfl (hb hby d3_5) rfl rfl ?_
        exact kt
      obtain ⟨T3, X3, e3, st3⟩ := getF XX hx hZ hown (host := "") (Or.inl (hw _ (List.mem_of_getElem? (i := 18) rfl))) Via.refl e0' F2 (g := (mkF m 6 #[.val (.ref a1), .val (.int S), .val (.int (Int32.ofNat i))] [(.ref a1), (.int (Int32.ofNat i))])) rfl rfl (hb hby d3_6)
      have sg4 : ∀ t₀, Steps p.tables e below (T3.setTop (mkF m 30 #[.val (.ref a1), .val (.int S), .val (.int (Int32.ofNat i))] [])) t₀ → Steps p.tables e below (T3.setTop (mkF m 9 #[.val (.ref a1), .val (.int S), .val (.int (Int32.ofNat i))] [(.int (Int32.ofNat i)), (.int (Int32.ofNat i))])) t₀ := by
        intro t₀ kt
        show Steps p.tables e below (T3.setTop (mkF m 9 #[.val (.ref a1), .val (.int S), .val (.int (Int32.ofNat i))] [(.int (Int32.ofNat i)), (.int (Int32.ofNat i))])) _
        refine XS.icmpYes X3.here hx rfl (pc0 := 9) (pc' := 30) rfl (hb hby d3_9) rfl (flt (Int32.lt_irrefl : ¬ (Int32.ofNat i < Int32.ofNat i))).2.1 (by decide) (by decide) ?_
        exact kt
      exact ⟨_, X3, e3, fun t' kt => sg2 _ (st3 _ (sg4 _ (kt)))⟩
    | succ k ih =>
      intro i S T0 hi XX e0'
      have hin := own_in (i := i) Sz (by omega) (by omega)
      have hat := own_at (i := i) Hs (by omega) (by omega)
      have sg5 : ∀ t₀, Steps p.tables e below (T0.setTop (mkF m 6 #[.val (.ref a1), .val (.int S), .val (.int (Int32.ofNat i))] [(.ref a1), (.int (Int32.ofNat i))])) t₀ → Steps p.tables e below (T0.setTop (mkF m 4 #[.val (.ref a1), .val (.int S), .val (.int (Int32.ofNat i))] [])) t₀ := by
        intro t₀ kt
        show Steps p.tables e below (T0.setTop (mkF m 4 #[.val (.ref a1), .val (.int S), .val (.int (Int32.ofNat i))] [])) _
        refine XS.iloadN XX.here hx rfl (hb hby d3_4) rfl ?_
        show Steps p.tables e below (T0.setTop (mkF m 5 #[.val (.ref a1), .val (.int S), .val (.int (Int32.ofNat i))] [(.int (Int32.ofNat i))])) _
        refine XS.aloadN XX.here hx rfl (hb hby d3_5) rfl rfl ?_
        exact kt
      obtain ⟨T6, X6, e6, st6⟩ := getF XX hx hZ hown (host := "") (Or.inl (hw _ (List.mem_of_getElem? (i := 18) rfl))) Via.refl e0' F2 (g := (mkF m 6 #[.val (.ref a1), .val (.int S), .val (.int (Int32.ofNat i))] [(.ref a1), (.int (Int32.ofNat i))])) rfl rfl (hb hby d3_6)
      have sg7 : ∀ t₀, Steps p.tables e below (T6.setTop (mkF m 17 #[.val (.ref a1), .val (.int S), .val (.int (Int32.ofNat i))] [(.ref a1), (.int (S * (16777619 : Int32)))])) t₀ → Steps p.tables e below (T6.setTop (mkF m 9 #[.val (.ref a1), .val (.int S), .val (.int (Int32.ofNat i))] [(.int (Int32.ofNat n)), (.int (Int32.ofNat i))])) t₀ := by
        intro t₀ kt
        show Steps p.tables e below (T6.setTop (mkF m 9 #[.val (.ref a1), .val (.int S), .val (.int (Int32.ofNat i))] [(.int (Int32.ofNat n)), (.int (Int32.ofNat i))])) _
        refine XS.icmpNo X6.here hx rfl (hb hby d3_9) rfl (tlt (own_lt (i := i) (n := n) (by omega) (by omega))).2.1 ?_
        show Steps p.tables e below (T6.setTop (mkF m 12 #[.val (.ref a1), .val (.int S), .val (.int (Int32.ofNat i))] [])) _
        refine XS.iloadN X6.here hx rfl (hb hby d3_12) rfl ?_
        show Steps p.tables e below (T6.setTop (mkF m 13 #[.val (.ref a1), .val (.int S), .val (.int (Int32.ofNat i))] [(.int S)])) _
        refine X6.ldcI hx hown (mvT hZ (hw _ (List.mem_of_getElem? (i := 37) rfl))) rfl (hb hby d3_13) ?_
        show Steps p.tables e below (T6.setTop (mkF m 15 #[.val (.ref a1), .val (.int S), .val (.int (Int32.ofNat i))] [(.int (16777619 : Int32)), (.int S)])) _
        refine XS.imul X6.here hx rfl (hb hby d3_15) rfl ?_
        show Steps p.tables e below (T6.setTop (mkF m 16 #[.val (.ref a1), .val (.int S), .val (.int (Int32.ofNat i))] [(.int (S * (16777619 : Int32)))])) _
        refine XS.aloadN X6.here hx rfl (hb hby d3_16) rfl rfl ?_
        exact kt
      obtain ⟨T8, X8, e8, st8⟩ := getF X6 hx hZ hown (host := "") (Or.inl (hw _ (List.mem_of_getElem? (i := 11) rfl))) Via.refl e6 F1 (g := (mkF m 17 #[.val (.ref a1), .val (.int S), .val (.int (Int32.ofNat i))] [(.ref a1), (.int (S * (16777619 : Int32)))])) rfl rfl (hb hby d3_17)
      have sg9 : ∀ t₀, Steps p.tables e below (T8.setTop (mkF m 4 #[.val (.ref a1), .val (.int ((S * (16777619 : Int32)) ^^^ (g i))), .val (.int ((Int32.ofNat i) + (1 : Int32)))] [])) t₀ → Steps p.tables e below (T8.setTop (mkF m 20 #[.val (.ref a1), .val (.int S), .val (.int (Int32.ofNat i))] [(.ref t), (.int (S * (16777619 : Int32)))])) t₀ := by
        intro t₀ kt
        show Steps p.tables e below (T8.setTop (mkF m 20 #[.val (.ref a1), .val (.int S), .val (.int (Int32.ofNat i))] [(.ref t), (.int (S * (16777619 : Int32)))])) _
        refine XS.iloadN X8.here hx rfl (hb hby d3_20) rfl ?_
        show Steps p.tables e below (T8.setTop (mkF m 21 #[.val (.ref a1), .val (.int S), .val (.int (Int32.ofNat i))] [(.int (Int32.ofNat i)), (.ref t), (.int (S * (16777619 : Int32)))])) _
        refine X8.baloadBytes hx (j := (Int32.ofNat i)) (v := (.int (g i))) (by rw [e8]; exact Ar.1) (State.isArrayOf_alike hZ.alike Ar.2.1) Ar.2.2 hin hat (g := (mkF m 21 #[.val (.ref a1), .val (.int S), .val (.int (Int32.ofNat i))] [(.int (Int32.ofNat i)), (.ref t), (.int (S * (16777619 : Int32)))])) rfl rfl (hb hby d3_21) _ ?_
        show Steps p.tables e below (T8.setTop (mkF m 22 #[.val (.ref a1), .val (.int S), .val (.int (Int32.ofNat i))] [(.int (g i)), (.int (S * (16777619 : Int32)))])) _
        refine XS.ixor X8.here hx rfl (hb hby d3_22) rfl ?_
        show Steps p.tables e below (T8.setTop (mkF m 23 #[.val (.ref a1), .val (.int S), .val (.int (Int32.ofNat i))] [(.int ((S * (16777619 : Int32)) ^^^ (g i)))])) _
        refine XS.istoreN X8.here hx rfl (hb hby d3_23) rfl (l' := #[.val (.ref a1), .val (.int ((S * (16777619 : Int32)) ^^^ (g i))), .val (.int (Int32.ofNat i))]) rfl ?_
        show Steps p.tables e below (T8.setTop (mkF m 24 #[.val (.ref a1), .val (.int ((S * (16777619 : Int32)) ^^^ (g i))), .val (.int (Int32.ofNat i))] [])) _
        refine XS.iinc X8.here hx rfl (hb hby d3_24) rfl (l' := #[.val (.ref a1), .val (.int ((S * (16777619 : Int32)) ^^^ (g i))), .val (.int ((Int32.ofNat i) + (1 : Int32)))]) rfl ?_
        show Steps p.tables e below (T8.setTop (mkF m 27 #[.val (.ref a1), .val (.int ((S * (16777619 : Int32)) ^^^ (g i))), .val (.int ((Int32.ofNat i) + (1 : Int32)))] [])) _
        refine XS.goto X8.here hx rfl (pc0 := 27) (pc' := 4) rfl (hb hby d3_27) (by decide) (by decide) ?_
        exact kt
      obtain ⟨T9, X9, e9, st9⟩ := ih (i + 1) _ _ (by omega) X8 e8
      rw [own_one] at st9
      rw [own_hs]
      exact ⟨T9, X9, e9, fun t' kt => sg5 _ (st6 _ (sg7 _ (st8 _ (sg9 _ ((st9 t' kt))))))⟩
  obtain ⟨TL, XL, eL, stL⟩ := loop n 0 0 s₁ (by omega) X0 e0
  obtain ⟨HH, eHH⟩ : ∃ z, z = own_h g n 0 0 := ⟨_, rfl⟩
  rw [← eHH] at stL
  have sg10 : ∀ t₀, Steps p.tables e below (TL.setTop (mkF m 60 #[.val (.ref a1), .val (.int ((((HH ^^^ ((HH.toUInt32 >>> ((16 : Int32) &&& 31).toUInt32).toInt32)) * (-2048144789 : Int32)) ^^^ ((((HH ^^^ ((HH.toUInt32 >>> ((16 : Int32) &&& 31).toUInt32).toInt32)) * (-2048144789 : Int32)).toUInt32 >>> ((13 : Int32) &&& 31).toUInt32).toInt32)) * (-1028477387 : Int32))), .val (.int (Int32.ofNat n))] [(.int (((((HH ^^^ ((HH.toUInt32 >>> ((16 : Int32) &&& 31).toUInt32).toInt32)) * (-2048144789 : Int32)) ^^^ ((((HH ^^^ ((HH.toUInt32 >>> ((16 : Int32) &&& 31).toUInt32).toInt32)) * (-2048144789 : Int32)).toUInt32 >>> ((13 : Int32) &&& 31).toUInt32).toInt32)) * (-1028477387 : Int32)) ^^^ ((((((HH ^^^ ((HH.toUInt32 >>> ((16 : Int32) &&& 31).toUInt32).toInt32)) * (-2048144789 : Int32)) ^^^ ((((HH ^^^ ((HH.toUInt32 >>> ((16 : Int32) &&& 31).toUInt32).toInt32)) * (-2048144789 : Int32)).toUInt32 >>> ((13 : Int32) &&& 31).toUInt32).toInt32)) * (-1028477387 : Int32)).toUInt32 >>> ((16 : Int32) &&& 31).toUInt32).toInt32)))])) t₀ → Steps p.tables e below (TL.setTop (mkF m 30 #[.val (.ref a1), .val (.int HH), .val (.int (Int32.ofNat n))] [])) t₀ := by
    intro t₀ kt
    show Steps p.tables e below (TL.setTop (mkF m 30 #[.val (.ref a1), .val (.int HH), .val (.int (Int32.ofNat n))] [])) _
    refine XS.iloadN XL.here hx rfl (hb hby d3_30) rfl ?_
    show Steps p.tables e below (TL.setTop (mkF m 31 #[.val (.ref a1), .val (.int HH), .val (.int (Int32.ofNat n))] [(.int HH)])) _
    refine XS.iloadN XL.here hx rfl (hb hby d3_31) rfl ?_
    show Steps p.tables e below (TL.setTop (mkF m 32 #[.val (.ref a1), .val (.int HH), .val (.int (Int32.ofNat n))] [(.int HH), (.int HH)])) _
    refine XS.bipush XL.here hx rfl (hb hby d3_32) ?_
    show Steps p.tables e below (TL.setTop (mkF m 34 #[.val (.ref a1), .val (.int HH), .val (.int (Int32.ofNat n))] [(.int (16 : Int32)), (.int HH), (.int HH)])) _
    refine XS.iushr XL.here hx rfl (hb hby d3_34) rfl ?_
    show Steps p.tables e below (TL.setTop (mkF m 35 #[.val (.ref a1), .val (.int HH), .val (.int (Int32.ofNat n))] [(.int ((HH.toUInt32 >>> ((16 : Int32) &&& 31).toUInt32).toInt32)), (.int HH)])) _
    refine XS.ixor XL.here hx rfl (hb hby d3_35) rfl ?_
    show Steps p.tables e below (TL.setTop (mkF m 36 #[.val (.ref a1), .val (.int HH), .val (.int (Int32.ofNat n))] [(.int (HH ^^^ ((HH.toUInt32 >>> ((16 : Int32) &&& 31).toUInt32).toInt32)))])) _
    refine XS.istoreN XL.here hx rfl (hb hby d3_36) rfl (l' := #[.val (.ref a1), .val (.int (HH ^^^ ((HH.toUInt32 >>> ((16 : Int32) &&& 31).toUInt32).toInt32))), .val (.int (Int32.ofNat n))]) rfl ?_
    show Steps p.tables e below (TL.setTop (mkF m 37 #[.val (.ref a1), .val (.int (HH ^^^ ((HH.toUInt32 >>> ((16 : Int32) &&& 31).toUInt32).toInt32))), .val (.int (Int32.ofNat n))] [])) _
    refine XS.iloadN XL.here hx rfl (hb hby d3_37) rfl ?_
    show Steps p.tables e below (TL.setTop (mkF m 38 #[.val (.ref a1), .val (.int (HH ^^^ ((HH.toUInt32 >>> ((16 : Int32) &&& 31).toUInt32).toInt32))), .val (.int (Int32.ofNat n))] [(.int (HH ^^^ ((HH.toUInt32 >>> ((16 : Int32) &&& 31).toUInt32).toInt32)))])) _
    refine XL.ldcI hx hown (mvT hZ (hw _ (List.mem_of_getElem? (i := 20) rfl))) rfl (hb hby d3_38) ?_
    show Steps p.tables e below (TL.setTop (mkF m 40 #[.val (.ref a1), .val (.int (HH ^^^ ((HH.toUInt32 >>> ((16 : Int32) &&& 31).toUInt32).toInt32))), .val (.int (Int32.ofNat n))] [(.int (-2048144789 : Int32)), (.int (HH ^^^ ((HH.toUInt32 >>> ((16 : Int32) &&& 31).toUInt32).toInt32)))])) _
    refine XS.imul XL.here hx rfl (hb hby d3_40) rfl ?_
    show Steps p.tables e below (TL.setTop (mkF m 41 #[.val (.ref a1), .val (.int (HH ^^^ ((HH.toUInt32 >>> ((16 : Int32) &&& 31).toUInt32).toInt32))), .val (.int (Int32.ofNat n))] [(.int ((HH ^^^ ((HH.toUInt32 >>> ((16 : Int32) &&& 31).toUInt32).toInt32)) * (-2048144789 : Int32)))])) _
    refine XS.istoreN XL.here hx rfl (hb hby d3_41) rfl (l' := #[.val (.ref a1), .val (.int ((HH ^^^ ((HH.toUInt32 >>> ((16 : Int32) &&& 31).toUInt32).toInt32)) * (-2048144789 : Int32))), .val (.int (Int32.ofNat n))]) rfl ?_
    show Steps p.tables e below (TL.setTop (mkF m 42 #[.val (.ref a1), .val (.int ((HH ^^^ ((HH.toUInt32 >>> ((16 : Int32) &&& 31).toUInt32).toInt32)) * (-2048144789 : Int32))), .val (.int (Int32.ofNat n))] [])) _
    refine XS.iloadN XL.here hx rfl (hb hby d3_42) rfl ?_
    show Steps p.tables e below (TL.setTop (mkF m 43 #[.val (.ref a1), .val (.int ((HH ^^^ ((HH.toUInt32 >>> ((16 : Int32) &&& 31).toUInt32).toInt32)) * (-2048144789 : Int32))), .val (.int (Int32.ofNat n))] [(.int ((HH ^^^ ((HH.toUInt32 >>> ((16 : Int32) &&& 31).toUInt32).toInt32)) * (-2048144789 : Int32)))])) _
    refine XS.iloadN XL.here hx rfl (hb hby d3_43) rfl ?_
    show Steps p.tables e below (TL.setTop (mkF m 44 #[.val (.ref a1), .val (.int ((HH ^^^ ((HH.toUInt32 >>> ((16 : Int32) &&& 31).toUInt32).toInt32)) * (-2048144789 : Int32))), .val (.int (Int32.ofNat n))] [(.int ((HH ^^^ ((HH.toUInt32 >>> ((16 : Int32) &&& 31).toUInt32).toInt32)) * (-2048144789 : Int32))), (.int ((HH ^^^ ((HH.toUInt32 >>> ((16 : Int32) &&& 31).toUInt32).toInt32)) * (-2048144789 : Int32)))])) _
    refine XS.bipush XL.here hx rfl (hb hby d3_44) ?_
    show Steps p.tables e below (TL.setTop (mkF m 46 #[.val (.ref a1), .val (.int ((HH ^^^ ((HH.toUInt32 >>> ((16 : Int32) &&& 31).toUInt32).toInt32)) * (-2048144789 : Int32))), .val (.int (Int32.ofNat n))] [(.int (13 : Int32)), (.int ((HH ^^^ ((HH.toUInt32 >>> ((16 : Int32) &&& 31).toUInt32).toInt32)) * (-2048144789 : Int32))), (.int ((HH ^^^ ((HH.toUInt32 >>> ((16 : Int32) &&& 31).toUInt32).toInt32)) * (-2048144789 : Int32)))])) _
    refine XS.iushr XL.here hx rfl (hb hby d3_46) rfl ?_
    show Steps p.tables e below (TL.setTop (mkF m 47 #[.val (.ref a1), .val (.int ((HH ^^^ ((HH.toUInt32 >>> ((16 : Int32) &&& 31).toUInt32).toInt32)) * (-2048144789 : Int32))), .val (.int (Int32.ofNat n))] [(.int ((((HH ^^^ ((HH.toUInt32 >>> ((16 : Int32) &&& 31).toUInt32).toInt32)) * (-2048144789 : Int32)).toUInt32 >>> ((13 : Int32) &&& 31).toUInt32).toInt32)), (.int ((HH ^^^ ((HH.toUInt32 >>> ((16 : Int32) &&& 31).toUInt32).toInt32)) * (-2048144789 : Int32)))])) _
    refine XS.ixor XL.here hx rfl (hb hby d3_47) rfl ?_
    show Steps p.tables e below (TL.setTop (mkF m 48 #[.val (.ref a1), .val (.int ((HH ^^^ ((HH.toUInt32 >>> ((16 : Int32) &&& 31).toUInt32).toInt32)) * (-2048144789 : Int32))), .val (.int (Int32.ofNat n))] [(.int (((HH ^^^ ((HH.toUInt32 >>> ((16 : Int32) &&& 31).toUInt32).toInt32)) * (-2048144789 : Int32)) ^^^ ((((HH ^^^ ((HH.toUInt32 >>> ((16 : Int32) &&& 31).toUInt32).toInt32)) * (-2048144789 : Int32)).toUInt32 >>> ((13 : Int32) &&& 31).toUInt32).toInt32)))])) _
    refine XS.istoreN XL.here hx rfl (hb hby d3_48) rfl (l' := #[.val (.ref a1), .val (.int (((HH ^^^ ((HH.toUInt32 >>> ((16 : Int32) &&& 31).toUInt32).toInt32)) * (-2048144789 : Int32)) ^^^ ((((HH ^^^ ((HH.toUInt32 >>> ((16 : Int32) &&& 31).toUInt32).toInt32)) * (-2048144789 : Int32)).toUInt32 >>> ((13 : Int32) &&& 31).toUInt32).toInt32))), .val (.int (Int32.ofNat n))]) rfl ?_
    show Steps p.tables e below (TL.setTop (mkF m 49 #[.val (.ref a1), .val (.int (((HH ^^^ ((HH.toUInt32 >>> ((16 : Int32) &&& 31).toUInt32).toInt32)) * (-2048144789 : Int32)) ^^^ ((((HH ^^^ ((HH.toUInt32 >>> ((16 : Int32) &&& 31).toUInt32).toInt32)) * (-2048144789 : Int32)).toUInt32 >>> ((13 : Int32) &&& 31).toUInt32).toInt32))), .val (.int (Int32.ofNat n))] [])) _
    refine XS.iloadN XL.here hx rfl (hb hby d3_49) rfl ?_
    show Steps p.tables e below (TL.setTop (mkF m 50 #[.val (.ref a1), .val (.int (((HH ^^^ ((HH.toUInt32 >>> ((16 : Int32) &&& 31).toUInt32).toInt32)) * (-2048144789 : Int32)) ^^^ ((((HH ^^^ ((HH.toUInt32 >>> ((16 : Int32) &&& 31).toUInt32).toInt32)) * (-2048144789 : Int32)).toUInt32 >>> ((13 : Int32) &&& 31).toUInt32).toInt32))), .val (.int (Int32.ofNat n))] [(.int (((HH ^^^ ((HH.toUInt32 >>> ((16 : Int32) &&& 31).toUInt32).toInt32)) * (-2048144789 : Int32)) ^^^ ((((HH ^^^ ((HH.toUInt32 >>> ((16 : Int32) &&& 31).toUInt32).toInt32)) * (-2048144789 : Int32)).toUInt32 >>> ((13 : Int32) &&& 31).toUInt32).toInt32)))])) _
    refine XL.ldcI hx hown (mvT hZ (hw _ (List.mem_of_getElem? (i := 21) rfl))) rfl (hb hby d3_50) ?_
    show Steps p.tables e below (TL.setTop (mkF m 52 #[.val (.ref a1), .val (.int (((HH ^^^ ((HH.toUInt32 >>> ((16 : Int32) &&& 31).toUInt32).toInt32)) * (-2048144789 : Int32)) ^^^ ((((HH ^^^ ((HH.toUInt32 >>> ((16 : Int32) &&& 31).toUInt32).toInt32)) * (-2048144789 : Int32)).toUInt32 >>> ((13 : Int32) &&& 31).toUInt32).toInt32))), .val (.int (Int32.ofNat n))] [(.int (-1028477387 : Int32)), (.int (((HH ^^^ ((HH.toUInt32 >>> ((16 : Int32) &&& 31).toUInt32).toInt32)) * (-2048144789 : Int32)) ^^^ ((((HH ^^^ ((HH.toUInt32 >>> ((16 : Int32) &&& 31).toUInt32).toInt32)) * (-2048144789 : Int32)).toUInt32 >>> ((13 : Int32) &&& 31).toUInt32).toInt32)))])) _
    refine XS.imul XL.here hx rfl (hb hby d3_52) rfl ?_
    show Steps p.tables e below (TL.setTop (mkF m 53 #[.val (.ref a1), .val (.int (((HH ^^^ ((HH.toUInt32 >>> ((16 : Int32) &&& 31).toUInt32).toInt32)) * (-2048144789 : Int32)) ^^^ ((((HH ^^^ ((HH.toUInt32 >>> ((16 : Int32) &&& 31).toUInt32).toInt32)) * (-2048144789 : Int32)).toUInt32 >>> ((13 : Int32) &&& 31).toUInt32).toInt32))), .val (.int (Int32.ofNat n))] [(.int ((((HH ^^^ ((HH.toUInt32 >>> ((16 : Int32) &&& 31).toUInt32).toInt32)) * (-2048144789 : Int32)) ^^^ ((((HH ^^^ ((HH.toUInt32 >>> ((16 : Int32) &&& 31).toUInt32).toInt32)) * (-2048144789 : Int32)).toUInt32 >>> ((13 : Int32) &&& 31).toUInt32).toInt32)) * (-1028477387 : Int32)))])) _
    refine XS.istoreN XL.here hx rfl (hb hby d3_53) rfl (l' := #[.val (.ref a1), .val (.int ((((HH ^^^ ((HH.toUInt32 >>> ((16 : Int32) &&& 31).toUInt32).toInt32)) * (-2048144789 : Int32)) ^^^ ((((HH ^^^ ((HH.toUInt32 >>> ((16 : Int32) &&& 31).toUInt32).toInt32)) * (-2048144789 : Int32)).toUInt32 >>> ((13 : Int32) &&& 31).toUInt32).toInt32)) * (-1028477387 : Int32))), .val (.int (Int32.ofNat n))]) rfl ?_
    show Steps p.tables e below (TL.setTop (mkF m 54 #[.val (.ref a1), .val (.int ((((HH ^^^ ((HH.toUInt32 >>> ((16 : Int32) &&& 31).toUInt32).toInt32)) * (-2048144789 : Int32)) ^^^ ((((HH ^^^ ((HH.toUInt32 >>> ((16 : Int32) &&& 31).toUInt32).toInt32)) * (-2048144789 : Int32)).toUInt32 >>> ((13 : Int32) &&& 31).toUInt32).toInt32)) * (-1028477387 : Int32))), .val (.int (Int32.ofNat n))] [])) _
    refine XS.iloadN XL.here hx rfl (hb hby d3_54) rfl ?_
    show Steps p.tables e below (TL.setTop (mkF m 55 #[.val (.ref a1), .val (.int ((((HH ^^^ ((HH.toUInt32 >>> ((16 : Int32) &&& 31).toUInt32).toInt32)) * (-2048144789 : Int32)) ^^^ ((((HH ^^^ ((HH.toUInt32 >>> ((16 : Int32) &&& 31).toUInt32).toInt32)) * (-2048144789 : Int32)).toUInt32 >>> ((13 : Int32) &&& 31).toUInt32).toInt32)) * (-1028477387 : Int32))), .val (.int (Int32.ofNat n))] [(.int ((((HH ^^^ ((HH.toUInt32 >>> ((16 : Int32) &&& 31).toUInt32).toInt32)) * (-2048144789 : Int32)) ^^^ ((((HH ^^^ ((HH.toUInt32 >>> ((16 : Int32) &&& 31).toUInt32).toInt32)) * (-2048144789 : Int32)).toUInt32 >>> ((13 : Int32) &&& 31).toUInt32).toInt32)) * (-1028477387 : Int32)))])) _
    refine XS.iloadN XL.here hx rfl (hb hby d3_55) rfl ?_
    show Steps p.tables e below (TL.setTop (mkF m 56 #[.val (.ref a1), .val (.int ((((HH ^^^ ((HH.toUInt32 >>> ((16 : Int32) &&& 31).toUInt32).toInt32)) * (-2048144789 : Int32)) ^^^ ((((HH ^^^ ((HH.toUInt32 >>> ((16 : Int32) &&& 31).toUInt32).toInt32)) * (-2048144789 : Int32)).toUInt32 >>> ((13 : Int32) &&& 31).toUInt32).toInt32)) * (-1028477387 : Int32))), .val (.int (Int32.ofNat n))] [(.int ((((HH ^^^ ((HH.toUInt32 >>> ((16 : Int32) &&& 31).toUInt32).toInt32)) * (-2048144789 : Int32)) ^^^ ((((HH ^^^ ((HH.toUInt32 >>> ((16 : Int32) &&& 31).toUInt32).toInt32)) * (-2048144789 : Int32)).toUInt32 >>> ((13 : Int32) &&& 31).toUInt32).toInt32)) * (-1028477387 : Int32))), (.int ((((HH ^^^ ((HH.toUInt32 >>> ((16 : Int32) &&& 31).toUInt32).toInt32)) * (-2048144789 : Int32)) ^^^ ((((HH ^^^ ((HH.toUInt32 >>> ((16 : Int32) &&& 31).toUInt32).toInt32)) * (-2048144789 : Int32)).toUInt32 >>> ((13 : Int32) &&& 31).toUInt32).toInt32)) * (-1028477387 : Int32)))])) _
    refine XS.bipush XL.here hx rfl (hb hby d3_56) ?_
    show Steps p.tables e below (TL.setTop (mkF m 58 #[.val (.ref a1), .val (.int ((((HH ^^^ ((HH.toUInt32 >>> ((16 : Int32) &&& 31).toUInt32).toInt32)) * (-2048144789 : Int32)) ^^^ ((((HH ^^^ ((HH.toUInt32 >>> ((16 : Int32) &&& 31).toUInt32).toInt32)) * (-2048144789 : Int32)).toUInt32 >>> ((13 : Int32) &&& 31).toUInt32).toInt32)) * (-1028477387 : Int32))), .val (.int (Int32.ofNat n))] [(.int (16 : Int32)), (.int ((((HH ^^^ ((HH.toUInt32 >>> ((16 : Int32) &&& 31).toUInt32).toInt32)) * (-2048144789 : Int32)) ^^^ ((((HH ^^^ ((HH.toUInt32 >>> ((16 : Int32) &&& 31).toUInt32).toInt32)) * (-2048144789 : Int32)).toUInt32 >>> ((13 : Int32) &&& 31).toUInt32).toInt32)) * (-1028477387 : Int32))), (.int ((((HH ^^^ ((HH.toUInt32 >>> ((16 : Int32) &&& 31).toUInt32).toInt32)) * (-2048144789 : Int32)) ^^^ ((((HH ^^^ ((HH.toUInt32 >>> ((16 : Int32) &&& 31).toUInt32).toInt32)) * (-2048144789 : Int32)).toUInt32 >>> ((13 : Int32) &&& 31).toUInt32).toInt32)) * (-1028477387 : Int32)))])) _
    refine XS.iushr XL.here hx rfl (hb hby d3_58) rfl ?_
    show Steps p.tables e below (TL.setTop (mkF m 59 #[.val (.ref a1), .val (.int ((((HH ^^^ ((HH.toUInt32 >>> ((16 : Int32) &&& 31).toUInt32).toInt32)) * (-2048144789 : Int32)) ^^^ ((((HH ^^^ ((HH.toUInt32 >>> ((16 : Int32) &&& 31).toUInt32).toInt32)) * (-2048144789 : Int32)).toUInt32 >>> ((13 : Int32) &&& 31).toUInt32).toInt32)) * (-1028477387 : Int32))), .val (.int (Int32.ofNat n))] [(.int ((((((HH ^^^ ((HH.toUInt32 >>> ((16 : Int32) &&& 31).toUInt32).toInt32)) * (-2048144789 : Int32)) ^^^ ((((HH ^^^ ((HH.toUInt32 >>> ((16 : Int32) &&& 31).toUInt32).toInt32)) * (-2048144789 : Int32)).toUInt32 >>> ((13 : Int32) &&& 31).toUInt32).toInt32)) * (-1028477387 : Int32)).toUInt32 >>> ((16 : Int32) &&& 31).toUInt32).toInt32)), (.int ((((HH ^^^ ((HH.toUInt32 >>> ((16 : Int32) &&& 31).toUInt32).toInt32)) * (-2048144789 : Int32)) ^^^ ((((HH ^^^ ((HH.toUInt32 >>> ((16 : Int32) &&& 31).toUInt32).toInt32)) * (-2048144789 : Int32)).toUInt32 >>> ((13 : Int32) &&& 31).toUInt32).toInt32)) * (-1028477387 : Int32)))])) _
    refine XS.ixor XL.here hx rfl (hb hby d3_59) rfl ?_
    exact kt
  obtain ⟨fs, hr, hrun, hended, hW, hsame⟩ := XL.leave (v := some (.int (((((HH ^^^ ((HH.toUInt32 >>> ((16 : Int32) &&& 31).toUInt32).toInt32)) * (-2048144789 : Int32)) ^^^ ((((HH ^^^ ((HH.toUInt32 >>> ((16 : Int32) &&& 31).toUInt32).toInt32)) * (-2048144789 : Int32)).toUInt32 >>> ((13 : Int32) &&& 31).toUInt32).toInt32)) * (-1028477387 : Int32)) ^^^ ((((((HH ^^^ ((HH.toUInt32 >>> ((16 : Int32) &&& 31).toUInt32).toInt32)) * (-2048144789 : Int32)) ^^^ ((((HH ^^^ ((HH.toUInt32 >>> ((16 : Int32) &&& 31).toUInt32).toInt32)) * (-2048144789 : Int32)).toUInt32 >>> ((13 : Int32) &&& 31).toUInt32).toInt32)) * (-1028477387 : Int32)).toUInt32 >>> ((16 : Int32) &&& 31).toUInt32).toInt32)))) (fun h => by rw [Bd.returns] at h; cases h)
  refine ⟨_, _, pre0 _ ?_, hrun, hended, _, _, rfl, ?_, ⟨_, rfl⟩, hW, hsame.mono (by decide) (by decide)⟩
  · exact sg1 _ (stL _ (sg10 _ ((retI XL hx Bd.returns (hb hby d3_60) hr))))
  · show Q3 Z a1 t n g h0 n0 _ TL.heap _
    rw [eL]
    exact ⟨by rw [← eHH]; rfl, N0, rfl⟩
def Q4 (Z : State) (p1 : Int32) (h0 : Heap) (n0 : Nat) (v : Option Value) (h : Heap) (L : List Loc) : Prop := v = some (.int (own_mix p1)) ∧ Fr n0 L ∧ h = h0
set_option maxRecDepth 65536 in
set_option maxHeartbeats 40000000 in
theorem rm4 (l : Launch) (Z : State) (a0 : Array Value) (hw : ∀ d ∈ tables_1, d.before a0 Z = true) (ws : List Jvm.Cond) (p1 : Int32) (h0 : Heap) (n0 : Nat) (Z0 : n0 ≤ h0.size) :
    MetFree l (⟨"com/example/conforce/conforce/engine/ByteWriterHashPinLaw", "fmix", "(I)I"⟩ : MethodName) (head1 (Jvm.Cond.code (⟨"com/example/conforce/conforce/engine/ByteWriterHashPinLaw", "fmix", "(I)I"⟩ : MethodName) method_3_code 2 (some .int) :: ws) ({ frames := 0, cells := 0, slots := 0, locals := 0 } : Room)) (fun a U => a = #[(.int p1)] ∧ Z.Warmed39 U.vm ∧ U.heap = h0) (fun _ _ _ _ _ => True) (fun _ U oo U' => ∃ v L, oo = .returned v ∧ Q4 Z p1 h0 n0 v U'.heap L ∧ FrameEnd U oo U' L ({ frames := 0, cells := 0, slots := 0, locals := 0 } : Room).cells ({ frames := 0, cells := 0, slots := 0, locals := 0 } : Room).slots) := by
  refine MetFree.of_bodySF (plainFor_of_name pn_4) hisR ?_
  intro p e s m args below meth c s₁ Bd hml0 hP hK
  obtain ⟨rfl, hZ, hh⟩ := hP
  have hx := Bd.exec
  have hby := Bd.bytes
  have hml : c.maxLocals = 2 := hml0
  have hown : s.vm.findClass "com/example/conforce/conforce/engine/ByteWriterHashPinLaw" = some m.cls := findClass_of_methodNamed Bd.named
  have hnm := (name_of_methodNamed Bd.named Bd.method).1
  have X0 : Stand p l e ({ frames := 0, cells := 0, slots := 0, locals := 0 } : Room) s m #[(.int p1)] below meth c s₁ [] 0 0 := Stand.of_body Bd
  have e0 : s₁.heap = h0 := by rw [← hh, Bd.state]; rfl
  have N0 := Fr.nil n0
  have pre0 : ∀ t₀, Steps p.tables e below (s₁.setTop (mkF m 0 #[.val (.int p1), .unset] [])) t₀ → Steps p.tables e below (s₁.setTop (entryFrame m #[(.int p1)] 2)) t₀ := fun t₀ k => castTop (ef_4 m p1) k
  have sg1 : ∀ t₀, Steps p.tables e below (s₁.setTop (mkF m 32 #[.val (.int p1), .val (.int ((((p1 ^^^ ((p1.toUInt32 >>> ((16 : Int32) &&& 31).toUInt32).toInt32)) * (-2048144789 : Int32)) ^^^ ((((p1 ^^^ ((p1.toUInt32 >>> ((16 : Int32) &&& 31).toUInt32).toInt32)) * (-2048144789 : Int32)).toUInt32 >>> ((13 : Int32) &&& 31).toUInt32).toInt32)) * (-1028477387 : Int32)))] [(.int (((((p1 ^^^ ((p1.toUInt32 >>> ((16 : Int32) &&& 31).toUInt32).toInt32)) * (-2048144789 : Int32)) ^^^ ((((p1 ^^^ ((p1.toUInt32 >>> ((16 : Int32) &&& 31).toUInt32).toInt32)) * (-2048144789 : Int32)).toUInt32 >>> ((13 : Int32) &&& 31).toUInt32).toInt32)) * (-1028477387 : Int32)) ^^^ ((((((p1 ^^^ ((p1.toUInt32 >>> ((16 : Int32) &&& 31).toUInt32).toInt32)) * (-2048144789 : Int32)) ^^^ ((((p1 ^^^ ((p1.toUInt32 >>> ((16 : Int32) &&& 31).toUInt32).toInt32)) * (-2048144789 : Int32)).toUInt32 >>> ((13 : Int32) &&& 31).toUInt32).toInt32)) * (-1028477387 : Int32)).toUInt32 >>> ((16 : Int32) &&& 31).toUInt32).toInt32)))])) t₀ → Steps p.tables e below (s₁.setTop (mkF m 0 #[.val (.int p1), .unset] [])) t₀ := by
    intro t₀ kt
    show Steps p.tables e below (s₁.setTop (mkF m 0 #[.val (.int p1), .unset] [])) _
    refine XS.iloadN X0.here hx rfl (hb hby d4_0) rfl ?_
    show Steps p.tables e below (s₁.setTop (mkF m 1 #[.val (.int p1), .unset] [(.int p1)])) _
    refine XS.istoreN X0.here hx rfl (hb hby d4_1) rfl (l' := #[.val (.int p1), .val (.int p1)]) rfl ?_
    show Steps p.tables e below (s₁.setTop (mkF m 2 #[.val (.int p1), .val (.int p1)] [])) _
    refine XS.iloadN X0.here hx rfl (hb hby d4_2) rfl ?_
    show Steps p.tables e below (s₁.setTop (mkF m 3 #[.val (.int p1), .val (.int p1)] [(.int p1)])) _
    refine XS.iloadN X0.here hx rfl (hb hby d4_3) rfl ?_
    show Steps p.tables e below (s₁.setTop (mkF m 4 #[.val (.int p1), .val (.int p1)] [(.int p1), (.int p1)])) _
    refine XS.bipush X0.here hx rfl (hb hby d4_4) ?_
    show Steps p.tables e below (s₁.setTop (mkF m 6 #[.val (.int p1), .val (.int p1)] [(.int (16 : Int32)), (.int p1), (.int p1)])) _
    refine XS.iushr X0.here hx rfl (hb hby d4_6) rfl ?_
    show Steps p.tables e below (s₁.setTop (mkF m 7 #[.val (.int p1), .val (.int p1)] [(.int ((p1.toUInt32 >>> ((16 : Int32) &&& 31).toUInt32).toInt32)), (.int p1)])) _
    refine XS.ixor X0.here hx rfl (hb hby d4_7) rfl ?_
    show Steps p.tables e below (s₁.setTop (mkF m 8 #[.val (.int p1), .val (.int p1)] [(.int (p1 ^^^ ((p1.toUInt32 >>> ((16 : Int32) &&& 31).toUInt32).toInt32)))])) _
    refine XS.istoreN X0.here hx rfl (hb hby d4_8) rfl (l' := #[.val (.int p1), .val (.int (p1 ^^^ ((p1.toUInt32 >>> ((16 : Int32) &&& 31).toUInt32).toInt32)))]) rfl ?_
    show Steps p.tables e below (s₁.setTop (mkF m 9 #[.val (.int p1), .val (.int (p1 ^^^ ((p1.toUInt32 >>> ((16 : Int32) &&& 31).toUInt32).toInt32)))] [])) _
    refine XS.iloadN X0.here hx rfl (hb hby d4_9) rfl ?_
    show Steps p.tables e below (s₁.setTop (mkF m 10 #[.val (.int p1), .val (.int (p1 ^^^ ((p1.toUInt32 >>> ((16 : Int32) &&& 31).toUInt32).toInt32)))] [(.int (p1 ^^^ ((p1.toUInt32 >>> ((16 : Int32) &&& 31).toUInt32).toInt32)))])) _
    refine X0.ldcI hx hown (mvT hZ (hw _ (List.mem_of_getElem? (i := 26) rfl))) rfl (hb hby d4_10) ?_
    show Steps p.tables e below (s₁.setTop (mkF m 12 #[.val (.int p1), .val (.int (p1 ^^^ ((p1.toUInt32 >>> ((16 : Int32) &&& 31).toUInt32).toInt32)))] [(.int (-2048144789 : Int32)), (.int (p1 ^^^ ((p1.toUInt32 >>> ((16 : Int32) &&& 31).toUInt32).toInt32)))])) _
    refine XS.imul X0.here hx rfl (hb hby d4_12) rfl ?_
    show Steps p.tables e below (s₁.setTop (mkF m 13 #[.val (.int p1), .val (.int (p1 ^^^ ((p1.toUInt32 >>> ((16 : Int32) &&& 31).toUInt32).toInt32)))] [(.int ((p1 ^^^ ((p1.toUInt32 >>> ((16 : Int32) &&& 31).toUInt32).toInt32)) * (-2048144789 : Int32)))])) _
    refine XS.istoreN X0.here hx rfl (hb hby d4_13) rfl (l' := #[.val (.int p1), .val (.int ((p1 ^^^ ((p1.toUInt32 >>> ((16 : Int32) &&& 31).toUInt32).toInt32)) * (-2048144789 : Int32)))]) rfl ?_
    show Steps p.tables e below (s₁.setTop (mkF m 14 #[.val (.int p1), .val (.int ((p1 ^^^ ((p1.toUInt32 >>> ((16 : Int32) &&& 31).toUInt32).toInt32)) * (-2048144789 : Int32)))] [])) _
    refine XS.iloadN X0.here hx rfl (hb hby d4_14) rfl ?_
    show Steps p.tables e below (s₁.setTop (mkF m 15 #[.val (.int p1), .val (.int ((p1 ^^^ ((p1.toUInt32 >>> ((16 : Int32) &&& 31).toUInt32).toInt32)) * (-2048144789 : Int32)))] [(.int ((p1 ^^^ ((p1.toUInt32 >>> ((16 : Int32) &&& 31).toUInt32).toInt32)) * (-2048144789 : Int32)))])) _
    refine XS.iloadN X0.here hx rfl (hb hby d4_15) rfl ?_
    show Steps p.tables e below (s₁.setTop (mkF m 16 #[.val (.int p1), .val (.int ((p1 ^^^ ((p1.toUInt32 >>> ((16 : Int32) &&& 31).toUInt32).toInt32)) * (-2048144789 : Int32)))] [(.int ((p1 ^^^ ((p1.toUInt32 >>> ((16 : Int32) &&& 31).toUInt32).toInt32)) * (-2048144789 : Int32))), (.int ((p1 ^^^ ((p1.toUInt32 >>> ((16 : Int32) &&& 31).toUInt32).toInt32)) * (-2048144789 : Int32)))])) _
    refine XS.bipush X0.here hx rfl (hb hby d4_16) ?_
    show Steps p.tables e below (s₁.setTop (mkF m 18 #[.val (.int p1), .val (.int ((p1 ^^^ ((p1.toUInt32 >>> ((16 : Int32) &&& 31).toUInt32).toInt32)) * (-2048144789 : Int32)))] [(.int (13 : Int32)), (.int ((p1 ^^^ ((p1.toUInt32 >>> ((16 : Int32) &&& 31).toUInt32).toInt32)) * (-2048144789 : Int32))), (.int ((p1 ^^^ ((p1.toUInt32 >>> ((16 : Int32) &&& 31).toUInt32).toInt32)) * (-2048144789 : Int32)))])) _
    refine XS.iushr X0.here hx rfl (hb hby d4_18) rfl ?_
    show Steps p.tables e below (s₁.setTop (mkF m 19 #[.val (.int p1), .val (.int ((p1 ^^^ ((p1.toUInt32 >>> ((16 : Int32) &&& 31).toUInt32).toInt32)) * (-2048144789 : Int32)))] [(.int ((((p1 ^^^ ((p1.toUInt32 >>> ((16 : Int32) &&& 31).toUInt32).toInt32)) * (-2048144789 : Int32)).toUInt32 >>> ((13 : Int32) &&& 31).toUInt32).toInt32)), (.int ((p1 ^^^ ((p1.toUInt32 >>> ((16 : Int32) &&& 31).toUInt32).toInt32)) * (-2048144789 : Int32)))])) _
    refine XS.ixor X0.here hx rfl (hb hby d4_19) rfl ?_
    show Steps p.tables e below (s₁.setTop (mkF m 20 #[.val (.int p1), .val (.int ((p1 ^^^ ((p1.toUInt32 >>> ((16 : Int32) &&& 31).toUInt32).toInt32)) * (-2048144789 : Int32)))] [(.int (((p1 ^^^ ((p1.toUInt32 >>> ((16 : Int32) &&& 31).toUInt32).toInt32)) * (-2048144789 : Int32)) ^^^ ((((p1 ^^^ ((p1.toUInt32 >>> ((16 : Int32) &&& 31).toUInt32).toInt32)) * (-2048144789 : Int32)).toUInt32 >>> ((13 : Int32) &&& 31).toUInt32).toInt32)))])) _
    refine XS.istoreN X0.here hx rfl (hb hby d4_20) rfl (l' := #[.val (.int p1), .val (.int (((p1 ^^^ ((p1.toUInt32 >>> ((16 : Int32) &&& 31).toUInt32).toInt32)) * (-2048144789 : Int32)) ^^^ ((((p1 ^^^ ((p1.toUInt32 >>> ((16 : Int32) &&& 31).toUInt32).toInt32)) * (-2048144789 : Int32)).toUInt32 >>> ((13 : Int32) &&& 31).toUInt32).toInt32)))]) rfl ?_
    show Steps p.tables e below (s₁.setTop (mkF m 21 #[.val (.int p1), .val (.int (((p1 ^^^ ((p1.toUInt32 >>> ((16 : Int32) &&& 31).toUInt32).toInt32)) * (-2048144789 : Int32)) ^^^ ((((p1 ^^^ ((p1.toUInt32 >>> ((16 : Int32) &&& 31).toUInt32).toInt32)) * (-2048144789 : Int32)).toUInt32 >>> ((13 : Int32) &&& 31).toUInt32).toInt32)))] [])) _
    refine XS.iloadN X0.here hx rfl (hb hby d4_21) rfl ?_
    show Steps p.tables e below (s₁.setTop (mkF m 22 #[.val (.int p1), .val (.int (((p1 ^^^ ((p1.toUInt32 >>> ((16 : Int32) &&& 31).toUInt32).toInt32)) * (-2048144789 : Int32)) ^^^ ((((p1 ^^^ ((p1.toUInt32 >>> ((16 : Int32) &&& 31).toUInt32).toInt32)) * (-2048144789 : Int32)).toUInt32 >>> ((13 : Int32) &&& 31).toUInt32).toInt32)))] [(.int (((p1 ^^^ ((p1.toUInt32 >>> ((16 : Int32) &&& 31).toUInt32).toInt32)) * (-2048144789 : Int32)) ^^^ ((((p1 ^^^ ((p1.toUInt32 >>> ((16 : Int32) &&& 31).toUInt32).toInt32)) * (-2048144789 : Int32)).toUInt32 >>> ((13 : Int32) &&& 31).toUInt32).toInt32)))])) _
    refine X0.ldcI hx hown (mvT hZ (hw _ (List.mem_of_getElem? (i := 27) rfl))) rfl (hb hby d4_22) ?_
    show Steps p.tables e below (s₁.setTop (mkF m 24 #[.val (.int p1), .val (.int (((p1 ^^^ ((p1.toUInt32 >>> ((16 : Int32) &&& 31).toUInt32).toInt32)) * (-2048144789 : Int32)) ^^^ ((((p1 ^^^ ((p1.toUInt32 >>> ((16 : Int32) &&& 31).toUInt32).toInt32)) * (-2048144789 : Int32)).toUInt32 >>> ((13 : Int32) &&& 31).toUInt32).toInt32)))] [(.int (-1028477387 : Int32)), (.int (((p1 ^^^ ((p1.toUInt32 >>> ((16 : Int32) &&& 31).toUInt32).toInt32)) * (-2048144789 : Int32)) ^^^ ((((p1 ^^^ ((p1.toUInt32 >>> ((16 : Int32) &&& 31).toUInt32).toInt32)) * (-2048144789 : Int32)).toUInt32 >>> ((13 : Int32) &&& 31).toUInt32).toInt32)))])) _
    refine XS.imul X0.here hx rfl (hb hby d4_24) rfl ?_
    show Steps p.tables e below (s₁.setTop (mkF m 25 #[.val (.int p1), .val (.int (((p1 ^^^ ((p1.toUInt32 >>> ((16 : Int32) &&& 31).toUInt32).toInt32)) * (-2048144789 : Int32)) ^^^ ((((p1 ^^^ ((p1.toUInt32 >>> ((16 : Int32) &&& 31).toUInt32).toInt32)) * (-2048144789 : Int32)).toUInt32 >>> ((13 : Int32) &&& 31).toUInt32).toInt32)))] [(.int ((((p1 ^^^ ((p1.toUInt32 >>> ((16 : Int32) &&& 31).toUInt32).toInt32)) * (-2048144789 : Int32)) ^^^ ((((p1 ^^^ ((p1.toUInt32 >>> ((16 : Int32) &&& 31).toUInt32).toInt32)) * (-2048144789 : Int32)).toUInt32 >>> ((13 : Int32) &&& 31).toUInt32).toInt32)) * (-1028477387 : Int32)))])) _
    refine XS.istoreN X0.here hx rfl (hb hby d4_25) rfl (l' := #[.val (.int p1), .val (.int ((((p1 ^^^ ((p1.toUInt32 >>> ((16 : Int32) &&& 31).toUInt32).toInt32)) * (-2048144789 : Int32)) ^^^ ((((p1 ^^^ ((p1.toUInt32 >>> ((16 : Int32) &&& 31).toUInt32).toInt32)) * (-2048144789 : Int32)).toUInt32 >>> ((13 : Int32) &&& 31).toUInt32).toInt32)) * (-1028477387 : Int32)))]) rfl ?_
    show Steps p.tables e below (s₁.setTop (mkF m 26 #[.val (.int p1), .val (.int ((((p1 ^^^ ((p1.toUInt32 >>> ((16 : Int32) &&& 31).toUInt32).toInt32)) * (-2048144789 : Int32)) ^^^ ((((p1 ^^^ ((p1.toUInt32 >>> ((16 : Int32) &&& 31).toUInt32).toInt32)) * (-2048144789 : Int32)).toUInt32 >>> ((13 : Int32) &&& 31).toUInt32).toInt32)) * (-1028477387 : Int32)))] [])) _
    refine XS.iloadN X0.here hx rfl (hb hby d4_26) rfl ?_
    show Steps p.tables e below (s₁.setTop (mkF m 27 #[.val (.int p1), .val (.int ((((p1 ^^^ ((p1.toUInt32 >>> ((16 : Int32) &&& 31).toUInt32).toInt32)) * (-2048144789 : Int32)) ^^^ ((((p1 ^^^ ((p1.toUInt32 >>> ((16 : Int32) &&& 31).toUInt32).toInt32)) * (-2048144789 : Int32)).toUInt32 >>> ((13 : Int32) &&& 31).toUInt32).toInt32)) * (-1028477387 : Int32)))] [(.int ((((p1 ^^^ ((p1.toUInt32 >>> ((16 : Int32) &&& 31).toUInt32).toInt32)) * (-2048144789 : Int32)) ^^^ ((((p1 ^^^ ((p1.toUInt32 >>> ((16 : Int32) &&& 31).toUInt32).toInt32)) * (-2048144789 : Int32)).toUInt32 >>> ((13 : Int32) &&& 31).toUInt32).toInt32)) * (-1028477387 : Int32)))])) _
    refine XS.iloadN X0.here hx rfl (hb hby d4_27) rfl ?_
    show Steps p.tables e below (s₁.setTop (mkF m 28 #[.val (.int p1), .val (.int ((((p1 ^^^ ((p1.toUInt32 >>> ((16 : Int32) &&& 31).toUInt32).toInt32)) * (-2048144789 : Int32)) ^^^ ((((p1 ^^^ ((p1.toUInt32 >>> ((16 : Int32) &&& 31).toUInt32).toInt32)) * (-2048144789 : Int32)).toUInt32 >>> ((13 : Int32) &&& 31).toUInt32).toInt32)) * (-1028477387 : Int32)))] [(.int ((((p1 ^^^ ((p1.toUInt32 >>> ((16 : Int32) &&& 31).toUInt32).toInt32)) * (-2048144789 : Int32)) ^^^ ((((p1 ^^^ ((p1.toUInt32 >>> ((16 : Int32) &&& 31).toUInt32).toInt32)) * (-2048144789 : Int32)).toUInt32 >>> ((13 : Int32) &&& 31).toUInt32).toInt32)) * (-1028477387 : Int32))), (.int ((((p1 ^^^ ((p1.toUInt32 >>> ((16 : Int32) &&& 31).toUInt32).toInt32)) * (-2048144789 : Int32)) ^^^ ((((p1 ^^^ ((p1.toUInt32 >>> ((16 : Int32) &&& 31).toUInt32).toInt32)) * (-2048144789 : Int32)).toUInt32 >>> ((13 : Int32) &&& 31).toUInt32).toInt32)) * (-1028477387 : Int32)))])) _
    refine XS.bipush X0.here hx rfl (hb hby d4_28) ?_
    show Steps p.tables e below (s₁.setTop (mkF m 30 #[.val (.int p1), .val (.int ((((p1 ^^^ ((p1.toUInt32 >>> ((16 : Int32) &&& 31).toUInt32).toInt32)) * (-2048144789 : Int32)) ^^^ ((((p1 ^^^ ((p1.toUInt32 >>> ((16 : Int32) &&& 31).toUInt32).toInt32)) * (-2048144789 : Int32)).toUInt32 >>> ((13 : Int32) &&& 31).toUInt32).toInt32)) * (-1028477387 : Int32)))] [(.int (16 : Int32)), (.int ((((p1 ^^^ ((p1.toUInt32 >>> ((16 : Int32) &&& 31).toUInt32).toInt32)) * (-2048144789 : Int32)) ^^^ ((((p1 ^^^ ((p1.toUInt32 >>> ((16 : Int32) &&& 31).toUInt32).toInt32)) * (-2048144789 : Int32)).toUInt32 >>> ((13 : Int32) &&& 31).toUInt32).toInt32)) * (-1028477387 : Int32))), (.int ((((p1 ^^^ ((p1.toUInt32 >>> ((16 : Int32) &&& 31).toUInt32).toInt32)) * (-2048144789 : Int32)) ^^^ ((((p1 ^^^ ((p1.toUInt32 >>> ((16 : Int32) &&& 31).toUInt32).toInt32)) * (-2048144789 : Int32)).toUInt32 >>> ((13 : Int32) &&& 31).toUInt32).toInt32)) * (-1028477387 : Int32)))])) _
    refine XS.iushr X0.here hx rfl (hb hby d4_30) rfl ?_
    show Steps p.tables e below (s₁.setTop (mkF m 31 #[.val (.int p1), .val (.int ((((p1 ^^^ ((p1.toUInt32 >>> ((16 : Int32) &&& 31).toUInt32).toInt32)) * (-2048144789 : Int32)) ^^^ ((((p1 ^^^ ((p1.toUInt32 >>> ((16 : Int32) &&& 31).toUInt32).toInt32)) * (-2048144789 : Int32)).toUInt32 >>> ((13 : Int32) &&& 31).toUInt32).toInt32)) * (-1028477387 : Int32)))] [(.int ((((((p1 ^^^ ((p1.toUInt32 >>> ((16 : Int32) &&& 31).toUInt32).toInt32)) * (-2048144789 : Int32)) ^^^ ((((p1 ^^^ ((p1.toUInt32 >>> ((16 : Int32) &&& 31).toUInt32).toInt32)) * (-2048144789 : Int32)).toUInt32 >>> ((13 : Int32) &&& 31).toUInt32).toInt32)) * (-1028477387 : Int32)).toUInt32 >>> ((16 : Int32) &&& 31).toUInt32).toInt32)), (.int ((((p1 ^^^ ((p1.toUInt32 >>> ((16 : Int32) &&& 31).toUInt32).toInt32)) * (-2048144789 : Int32)) ^^^ ((((p1 ^^^ ((p1.toUInt32 >>> ((16 : Int32) &&& 31).toUInt32).toInt32)) * (-2048144789 : Int32)).toUInt32 >>> ((13 : Int32) &&& 31).toUInt32).toInt32)) * (-1028477387 : Int32)))])) _
    refine XS.ixor X0.here hx rfl (hb hby d4_31) rfl ?_
    exact kt
  obtain ⟨fs, hr, hrun, hended, hW, hsame⟩ := X0.leave (v := some (.int (((((p1 ^^^ ((p1.toUInt32 >>> ((16 : Int32) &&& 31).toUInt32).toInt32)) * (-2048144789 : Int32)) ^^^ ((((p1 ^^^ ((p1.toUInt32 >>> ((16 : Int32) &&& 31).toUInt32).toInt32)) * (-2048144789 : Int32)).toUInt32 >>> ((13 : Int32) &&& 31).toUInt32).toInt32)) * (-1028477387 : Int32)) ^^^ ((((((p1 ^^^ ((p1.toUInt32 >>> ((16 : Int32) &&& 31).toUInt32).toInt32)) * (-2048144789 : Int32)) ^^^ ((((p1 ^^^ ((p1.toUInt32 >>> ((16 : Int32) &&& 31).toUInt32).toInt32)) * (-2048144789 : Int32)).toUInt32 >>> ((13 : Int32) &&& 31).toUInt32).toInt32)) * (-1028477387 : Int32)).toUInt32 >>> ((16 : Int32) &&& 31).toUInt32).toInt32)))) (fun h => by rw [Bd.returns] at h; cases h)
  refine ⟨_, _, pre0 _ ?_, hrun, hended, _, _, rfl, ?_, ⟨_, rfl⟩, hW, hsame.mono (by decide) (by decide)⟩
  · exact sg1 _ ((retI X0 hx Bd.returns (hb hby d4_32) hr))
  · show Q4 Z p1 h0 n0 _ s₁.heap _
    rw [e0]
    exact ⟨rfl, N0, rfl⟩
def Q5 (Z : State) (a1 : Addr) (p2 : Int32) (t : Addr) (j : Int32) (j' : Int32) (k : Nat) (g : Nat → Int32) (h0 : Heap) (n0 : Nat) (v : Option Value) (h : Heap) (L : List Loc) : Prop := v = none ∧ Fr n0 L ∧ n0 ≤ h.size ∧ Exa Z h a1 "com/example/conforce/conforce/engine/ByteWriter" ∧ Fld Z h a1 "com/example/conforce/conforce/engine/ByteWriter" "length" "I" (.int j') ∧ Fld Z h a1 "com/example/conforce/conforce/engine/ByteWriter" "bytes" "[B" (.ref t) ∧ own_A Z h t 64 .byte (fun i => .int ((fun i => if i = k then p2.toInt8.toInt32 else g i) i))
set_option maxRecDepth 65536 in
set_option maxHeartbeats 40000000 in
theorem rm5 (l : Launch) (Z : State) (a0 : Array Value) (hw : ∀ d ∈ tables_1, d.before a0 Z = true) (ws : List Jvm.Cond) (a1 : Addr) (p2 : Int32) (t : Addr) (j : Int32) (j' : Int32) (k : Nat) (g : Nat → Int32) (h0 : Heap) (n0 : Nat) (Z0 : n0 ≤ h0.size) (E1 : Exa Z h0 a1 "com/example/conforce/conforce/engine/ByteWriter") (g1 : n0 ≤ a1) (gt : n0 ≤ t) (hne : t ≠ a1) (F1 : Fld Z h0 a1 "com/example/conforce/conforce/engine/ByteWriter" "bytes" "[B" (.ref t)) (F2 : Fld Z h0 a1 "com/example/conforce/conforce/engine/ByteWriter" "length" "I" (.int j)) (A1 : own_A Z h0 t 64 .byte (fun i => .int (g i))) (hj : j + (1 : Int32) = j') (hk : j = Int32.ofNat k) (hk4 : k < 64) :
    MetFree l (⟨"com/example/conforce/conforce/engine/ByteWriter", "write", "(I)V"⟩ : MethodName) (head1 (Jvm.Cond.code (⟨"com/example/conforce/conforce/engine/ByteWriter", "write", "(I)V"⟩ : MethodName) prog_10_method_5_code 2 none :: ws) ({ frames := 0, cells := 0, slots := 0, locals := 0 } : Room)) (fun a U => a = #[(.ref a1), (.int p2)] ∧ Z.Warmed39 U.vm ∧ U.heap = h0) (fun _ _ _ _ _ => True) (fun _ U oo U' => ∃ v L, oo = .returned v ∧ Q5 Z a1 p2 t j j' k g h0 n0 v U'.heap L ∧ FrameEnd U oo U' L ({ frames := 0, cells := 0, slots := 0, locals := 0 } : Room).cells ({ frames := 0, cells := 0, slots := 0, locals := 0 } : Room).slots) := by
  refine MetFree.of_bodySF (plainFor_of_name pn_5) hisR ?_
  intro p e s m args below meth c s₁ Bd hml0 hP hK
  obtain ⟨rfl, hZ, hh⟩ := hP
  have hx := Bd.exec
  have hby := Bd.bytes
  have hml : c.maxLocals = 2 := hml0
  have hown : s.vm.findClass "com/example/conforce/conforce/engine/ByteWriter" = some m.cls := findClass_of_methodNamed Bd.named
  have hnm := (name_of_methodNamed Bd.named Bd.method).1
  have X0 : Stand p l e ({ frames := 0, cells := 0, slots := 0, locals := 0 } : Room) s m #[(.ref a1), (.int p2)] below meth c s₁ [] 0 0 := Stand.of_body Bd
  have e0 : s₁.heap = h0 := by rw [← hh, Bd.state]; rfl
  have N0 := Fr.nil n0
  have pre0 : ∀ t₀, Steps p.tables e below (s₁.setTop (mkF m 0 #[.val (.ref a1), .val (.int p2)] [])) t₀ → Steps p.tables e below (s₁.setTop (entryFrame m #[(.ref a1), (.int p2)] 2)) t₀ := fun t₀ k => castTop (ef_5 m a1 p2) k
  obtain ⟨cl, Ar, Sz, Hs⟩ := id A1
  have hlen : cl.slots.size.toInt32 = (64 : Int32) := by rw [Sz] <;> rfl
  have h64 : ¬ j = (64 : Int32) := fun q => Int32.lt_irrefl (a := (64 : Int32)) (by have z := own_lt hk4 (by decide); rw [← hk, q] at z; exact z)
  have sg1 : ∀ t₀, Steps p.tables e below (s₁.setTop (mkF m 1 #[.val (.ref a1), .val (.int p2)] [(.ref a1)])) t₀ → Steps p.tables e below (s₁.setTop (mkF m 0 #[.val (.ref a1), .val (.int p2)] [])) t₀ := by
    intro t₀ kt
    show Steps p.tables e below (s₁.setTop (mkF m 0 #[.val (.ref a1), .val (.int p2)] [])) _
    refine XS.aloadN X0.here hx rfl (hb hby d5_0) rfl rfl ?_
    exact kt
  obtain ⟨T2, X2, e2, st2⟩ := getF X0 hx hZ hown (host := "") (Or.inl (hw _ (List.mem_of_getElem? (i := 18) rfl))) Via.refl e0 F2 (g := (mkF m 1 #[.val (.ref a1), .val (.int p2)] [(.ref a1)])) rfl rfl (hb hby d5_1)
  have sg3 : ∀ t₀, Steps p.tables e below (T2.setTop (mkF m 5 #[.val (.ref a1), .val (.int p2)] [(.ref a1), (.int j)])) t₀ → Steps p.tables e below (T2.setTop (mkF m 4 #[.val (.ref a1), .val (.int p2)] [(.int j)])) t₀ := by
    intro t₀ kt
    show Steps p.tables e below (T2.setTop (mkF m 4 #[.val (.ref a1), .val (.int p2)] [(.int j)])) _
    refine XS.aloadN X2.here hx rfl (hb hby d5_4) rfl rfl ?_
    exact kt
  obtain ⟨T4, X4, e4, st4⟩ := getF X2 hx hZ hown (host := "") (Or.inl (hw _ (List.mem_of_getElem? (i := 11) rfl))) Via.refl e2 F1 (g := (mkF m 5 #[.val (.ref a1), .val (.int p2)] [(.ref a1), (.int j)])) rfl rfl (hb hby d5_5)
  have sg5 : ∀ t₀, Steps p.tables e below (T4.setTop (mkF m 30 #[.val (.ref a1), .val (.int p2)] [(.ref a1)])) t₀ → Steps p.tables e below (T4.setTop (mkF m 8 #[.val (.ref a1), .val (.int p2)] [(.ref t), (.int j)])) t₀ := by
    intro t₀ kt
    show Steps p.tables e below (T4.setTop (mkF m 8 #[.val (.ref a1), .val (.int p2)] [(.ref t), (.int j)])) _
    refine X4.arraylength hx (by rw [e4]; exact Ar.1) (State.isArrayOf_alike hZ.alike Ar.2.1) (g := (mkF m 8 #[.val (.ref a1), .val (.int p2)] [(.ref t), (.int j)])) rfl rfl (hb hby d5_8) _ ?_
    rw [hlen]
    show Steps p.tables e below (T4.setTop (mkF m 9 #[.val (.ref a1), .val (.int p2)] [(.int (64 : Int32)), (.int j)])) _
    refine XS.icmpYes X4.here hx rfl (pc0 := 9) (pc' := 29) rfl (hb hby d5_9) rfl (feq h64).2 (by decide) (by decide) ?_
    show Steps p.tables e below (T4.setTop (mkF m 29 #[.val (.ref a1), .val (.int p2)] [])) _
    refine XS.aloadN X4.here hx rfl (hb hby d5_29) rfl rfl ?_
    exact kt
  obtain ⟨T6, X6, e6, st6⟩ := getF X4 hx hZ hown (host := "") (Or.inl (hw _ (List.mem_of_getElem? (i := 11) rfl))) Via.refl e4 F1 (g := (mkF m 30 #[.val (.ref a1), .val (.int p2)] [(.ref a1)])) rfl rfl (hb hby d5_30)
  have sg7 : ∀ t₀, Steps p.tables e below (T6.setTop (mkF m 35 #[.val (.ref a1), .val (.int p2)] [(.ref a1), (.ref a1), (.ref t)])) t₀ → Steps p.tables e below (T6.setTop (mkF m 33 #[.val (.ref a1), .val (.int p2)] [(.ref t)])) t₀ := by
    intro t₀ kt
    show Steps p.tables e below (T6.setTop (mkF m 33 #[.val (.ref a1), .val (.int p2)] [(.ref t)])) _
    refine XS.aloadN X6.here hx rfl (hb hby d5_33) rfl rfl ?_
    show Steps p.tables e below (T6.setTop (mkF m 34 #[.val (.ref a1), .val (.int p2)] [(.ref a1), (.ref t)])) _
    refine XS.dup X6.here hx rfl (hb hby d5_34) rfl rfl ?_
    exact kt
  obtain ⟨T8, X8, e8, st8⟩ := getF X6 hx hZ hown (host := "") (Or.inl (hw _ (List.mem_of_getElem? (i := 18) rfl))) Via.refl e6 F2 (g := (mkF m 35 #[.val (.ref a1), .val (.int p2)] [(.ref a1), (.ref a1), (.ref t)])) rfl rfl (hb hby d5_35)
  have sg9 : ∀ t₀, Steps p.tables e below (T8.setTop (mkF m 41 #[.val (.ref a1), .val (.int p2)] [(.int (j + (1 : Int32))), (.ref a1), (.int j), (.ref t)])) t₀ → Steps p.tables e below (T8.setTop (mkF m 38 #[.val (.ref a1), .val (.int p2)] [(.int j), (.ref a1), (.ref t)])) t₀ := by
    intro t₀ kt
    show Steps p.tables e below (T8.setTop (mkF m 38 #[.val (.ref a1), .val (.int p2)] [(.int j), (.ref a1), (.ref t)])) _
    refine XS.dupX1 X8.here hx rfl (hb hby d5_38) rfl rfl rfl ?_
    show Steps p.tables e below (T8.setTop (mkF m 39 #[.val (.ref a1), .val (.int p2)] [(.int j), (.ref a1), (.int j), (.ref t)])) _
    refine XS.iconst X8.here hx rfl (hb hby d5_39) ?_
    show Steps p.tables e below (T8.setTop (mkF m 40 #[.val (.ref a1), .val (.int p2)] [(.int (1 : Int32)), (.int j), (.ref a1), (.int j), (.ref t)])) _
    refine XS.iadd X8.here hx rfl (hb hby d5_40) rfl ?_
    exact kt
  obtain ⟨T10, h10, X10, e10, W10, st10⟩ := putF X8 hx hZ hown (host := "") (Or.inl (hw _ (List.mem_of_getElem? (i := 18) rfl))) Via.refl e8 F2 E1 (Or.inl (hw _ (List.mem_of_getElem? (i := 19) rfl))) (hw _ (List.mem_of_getElem? (i := 2) rfl)) (ty := .int) (by decide) rfl rfl (g := (mkF m 41 #[.val (.ref a1), .val (.int p2)] [(.int (j + (1 : Int32))), (.ref a1), (.int j), (.ref t)])) rfl rfl (hb hby d5_41)
  have Fw10 := F2.same W10
  have N10 := Fr.snoc X10 N0 g1
  have A2 := own_A_other A1 W10 hne
  have F1b := F1.other W10 (Or.inr (slot_ne (Or.inl (hw _ (List.mem_of_getElem? (i := 12) rfl))) (Or.inl (hw _ (List.mem_of_getElem? (i := 19) rfl))) (by decide) (t := (.array .byte)) (t' := .int) (by decide) (by decide)))
  obtain ⟨cl2, Ar2, Sz2, Hs2⟩ := id A2
  have hin2 : ¬ (j < 0 ∨ cl2.slots.size ≤ j.toNatClampNeg) := by rw [hk]; exact own_in Sz2 hk4 (by decide)
  have sg11 : ∀ t₀, Steps p.tables e below (T10.setTop (mkF m 46 #[.val (.ref a1), .val (.int p2)] [(.int (p2.toInt8.toInt32)), (.int j), (.ref t)])) t₀ → Steps p.tables e below (T10.setTop (mkF m 44 #[.val (.ref a1), .val (.int p2)] [(.int j), (.ref t)])) t₀ := by
    intro t₀ kt
    show Steps p.tables e below (T10.setTop (mkF m 44 #[.val (.ref a1), .val (.int p2)] [(.int j), (.ref t)])) _
    refine XS.iloadN X10.here hx rfl (hb hby d5_44) rfl ?_
    show Steps p.tables e below (T10.setTop (mkF m 45 #[.val (.ref a1), .val (.int p2)] [(.int p2), (.int j), (.ref t)])) _
    refine XS.i2b X10.here hx rfl (hb hby d5_45) rfl ?_
    exact kt
  obtain ⟨T12, h12, X12, e12, W12, st12⟩ := stB X10 hx hZ e10 Ar2 (j := j) hin2 (g := (mkF m 46 #[.val (.ref a1), .val (.int p2)] [(.int (p2.toInt8.toInt32)), (.int j), (.ref t)])) rfl rfl (hb hby d5_46)
  have N12 := Fr.snoc X12 N10 gt
  have A4 : own_A Z h12 t 64 .byte (fun i => .int ((fun i => if i = k then p2.toInt8.toInt32 else g i) i)) := own_setB A2 W12 k (by rw [hk]; exact own_n32 (by omega)) hk4
  have FLb := Fw10.other W12 (Or.inl hne.symm)
  rw [hj] at FLb
  obtain ⟨fs, hr, hrun, hended, hW, hsame⟩ := X12.leave (v := none) (fun _ => rfl)
  refine ⟨_, _, pre0 _ ?_, hrun, hended, _, _, rfl, ?_, ⟨_, rfl⟩, hW, hsame.mono (by decide) (by decide)⟩
  · exact sg1 _ (st2 _ (sg3 _ (st4 _ (sg5 _ (st6 _ (sg7 _ (st8 _ (sg9 _ (st10 _ (sg11 _ (st12 _ ((X12.returnOut hx Bd.returns (hb hby d5_47) hr)))))))))))))
  · show Q5 Z a1 p2 t j j' k g h0 n0 _ T12.heap _
    rw [e12]
    exact ⟨rfl, N12, Nat.le_trans (Nat.le_trans Z0 (Keep.of_wr W10).1) (Keep.of_wr W12).1, (E1.wr W10).wr W12, FLb, F1b.other W12 (Or.inl hne.symm), A4⟩
def Q6 (Z : State) (p1 : Int32) (p2 : Int32) (h0 : Heap) (n0 : Nat) (v : Option Value) (h : Heap) (L : List Loc) : Prop := v = some (.int ((p1 * (16777619 : Int32)) ^^^ p2.toInt8.toInt32)) ∧ Fr n0 L ∧ h = h0
set_option maxRecDepth 65536 in
set_option maxHeartbeats 40000000 in
theorem rm6 (l : Launch) (Z : State) (a0 : Array Value) (hw : ∀ d ∈ tables_1, d.before a0 Z = true) (ws : List Jvm.Cond) (p1 : Int32) (p2 : Int32) (h0 : Heap) (n0 : Nat) (Z0 : n0 ≤ h0.size) :
    MetFree l (⟨"com/example/conforce/conforce/engine/ByteWriterHashPinLaw", "fold", "(II)I"⟩ : MethodName) (head1 (Jvm.Cond.code (⟨"com/example/conforce/conforce/engine/ByteWriterHashPinLaw", "fold", "(II)I"⟩ : MethodName) method_2_code 2 (some .int) :: ws) ({ frames := 0, cells := 0, slots := 0, locals := 0 } : Room)) (fun a U => a = #[(.int p1), (.int p2)] ∧ Z.Warmed39 U.vm ∧ U.heap = h0) (fun _ _ _ _ _ => True) (fun _ U oo U' => ∃ v L, oo = .returned v ∧ Q6 Z p1 p2 h0 n0 v U'.heap L ∧ FrameEnd U oo U' L ({ frames := 0, cells := 0, slots := 0, locals := 0 } : Room).cells ({ frames := 0, cells := 0, slots := 0, locals := 0 } : Room).slots) := by
  refine MetFree.of_bodySF (plainFor_of_name pn_6) hisR ?_
  intro p e s m args below meth c s₁ Bd hml0 hP hK
  obtain ⟨rfl, hZ, hh⟩ := hP
  have hx := Bd.exec
  have hby := Bd.bytes
  have hml : c.maxLocals = 2 := hml0
  have hown : s.vm.findClass "com/example/conforce/conforce/engine/ByteWriterHashPinLaw" = some m.cls := findClass_of_methodNamed Bd.named
  have hnm := (name_of_methodNamed Bd.named Bd.method).1
  have X0 : Stand p l e ({ frames := 0, cells := 0, slots := 0, locals := 0 } : Room) s m #[(.int p1), (.int p2)] below meth c s₁ [] 0 0 := Stand.of_body Bd
  have e0 : s₁.heap = h0 := by rw [← hh, Bd.state]; rfl
  have N0 := Fr.nil n0
  have pre0 : ∀ t₀, Steps p.tables e below (s₁.setTop (mkF m 0 #[.val (.int p1), .val (.int p2)] [])) t₀ → Steps p.tables e below (s₁.setTop (entryFrame m #[(.int p1), (.int p2)] 2)) t₀ := fun t₀ k => castTop (ef_6 m p1 p2) k
  have sg1 : ∀ t₀, Steps p.tables e below (s₁.setTop (mkF m 7 #[.val (.int p1), .val (.int p2)] [(.int ((p1 * (16777619 : Int32)) ^^^ (p2.toInt8.toInt32)))])) t₀ → Steps p.tables e below (s₁.setTop (mkF m 0 #[.val (.int p1), .val (.int p2)] [])) t₀ := by
    intro t₀ kt
    show Steps p.tables e below (s₁.setTop (mkF m 0 #[.val (.int p1), .val (.int p2)] [])) _
    refine XS.iloadN X0.here hx rfl (hb hby d6_0) rfl ?_
    show Steps p.tables e below (s₁.setTop (mkF m 1 #[.val (.int p1), .val (.int p2)] [(.int p1)])) _
    refine X0.ldcI hx hown (mvT hZ (hw _ (List.mem_of_getElem? (i := 36) rfl))) rfl (hb hby d6_1) ?_
    show Steps p.tables e below (s₁.setTop (mkF m 3 #[.val (.int p1), .val (.int p2)] [(.int (16777619 : Int32)), (.int p1)])) _
    refine XS.imul X0.here hx rfl (hb hby d6_3) rfl ?_
    show Steps p.tables e below (s₁.setTop (mkF m 4 #[.val (.int p1), .val (.int p2)] [(.int (p1 * (16777619 : Int32)))])) _
    refine XS.iloadN X0.here hx rfl (hb hby d6_4) rfl ?_
    show Steps p.tables e below (s₁.setTop (mkF m 5 #[.val (.int p1), .val (.int p2)] [(.int p2), (.int (p1 * (16777619 : Int32)))])) _
    refine XS.i2b X0.here hx rfl (hb hby d6_5) rfl ?_
    show Steps p.tables e below (s₁.setTop (mkF m 6 #[.val (.int p1), .val (.int p2)] [(.int (p2.toInt8.toInt32)), (.int (p1 * (16777619 : Int32)))])) _
    refine XS.ixor X0.here hx rfl (hb hby d6_6) rfl ?_
    exact kt
  obtain ⟨fs, hr, hrun, hended, hW, hsame⟩ := X0.leave (v := some (.int ((p1 * (16777619 : Int32)) ^^^ (p2.toInt8.toInt32)))) (fun h => by rw [Bd.returns] at h; cases h)
  refine ⟨_, _, pre0 _ ?_, hrun, hended, _, _, rfl, ?_, ⟨_, rfl⟩, hW, hsame.mono (by decide) (by decide)⟩
  · exact sg1 _ ((retI X0 hx Bd.returns (hb hby d6_7) hr))
  · show Q6 Z p1 p2 h0 n0 _ s₁.heap _
    rw [e0]
    exact ⟨rfl, N0, rfl⟩
def Q0 (Z : State) (p1 : Int32) (p2 : Int32) (p3 : Int32) (p4 : Int32) (p5 : Int32) (h0 : Heap) (n0 : Nat) (v : Option Value) (h : Heap) (L : List Loc) : Prop := v = some (.int (1 : Int32)) ∧ Fr n0 L
set_option maxRecDepth 65536 in
set_option maxHeartbeats 40000000 in
theorem rm0 (l : Launch) (Z : State) (a0 : Array Value) (hw : ∀ d ∈ tables_1, d.before a0 Z = true) (ws : List Jvm.Cond) (p1 : Int32) (p2 : Int32) (p3 : Int32) (p4 : Int32) (p5 : Int32) (h0 : Heap) (n0 : Nat) (Z0 : n0 ≤ h0.size) :
    MetFree l x (head1 (Jvm.Cond.code x code maxLocals ret :: ws) room_1) (fun a U => a = #[(.int p1), (.int p2), (.int p3), (.int p4), (.int p5)] ∧ Z.Warmed39 U.vm ∧ U.heap = h0) (fun _ _ _ _ _ => True) (fun _ U oo U' => ∃ v L, oo = .returned v ∧ Q0 Z p1 p2 p3 p4 p5 h0 n0 v U'.heap L ∧ FrameEnd U oo U' L room_1.cells room_1.slots) := by
  refine MetFree.of_bodySF (plainFor_of_name pn_0) hisR ?_
  intro p e s m args below meth c s₁ Bd hml0 hP hK
  obtain ⟨rfl, hZ, hh⟩ := hP
  have hx := Bd.exec
  have hby := Bd.bytes
  have hml : c.maxLocals = 8 := hml0
  have hown : s.vm.findClass "com/example/conforce/conforce/engine/ByteWriterHashPinLaw" = some m.cls := findClass_of_methodNamed Bd.named
  have hnm := (name_of_methodNamed Bd.named Bd.method).1
  have X0 : Stand p l e room_1 s m #[(.int p1), (.int p2), (.int p3), (.int p4), (.int p5)] below meth c s₁ [] 0 0 := Stand.of_body Bd
  have e0 : s₁.heap = h0 := by rw [← hh, Bd.state]; rfl
  have N0 := Fr.nil n0
  have pre0 : ∀ t₀, Steps p.tables e below (s₁.setTop (mkF m 0 #[.val (.int p1), .val (.int p2), .val (.int p3), .val (.int p4), .val (.int p5), .unset, .unset, .unset] [])) t₀ → Steps p.tables e below (s₁.setTop (entryFrame m #[(.int p1), (.int p2), (.int p3), (.int p4), (.int p5)] maxLocals)) t₀ := fun t₀ k => castTop (ef_0 m p1 p2 p3 p4 p5) k
  have sq : ∀ t₀, Steps p.tables e below (s₁.setTop (mkF m 8 #[.val (.int p1), .val (.int p2), .val (.int p3), .val (.int p4), .val (.int p5), .val (.int ((p1 &&& (2147483647 : Int32)) % (5 : Int32))), .unset, .unset] [])) t₀ → Steps p.tables e below (s₁.setTop (mkF m 0 #[.val (.int p1), .val (.int p2), .val (.int p3), .val (.int p4), .val (.int p5), .unset, .unset, .unset] [])) t₀ := by
    intro t₀ kt
    show Steps p.tables e below (s₁.setTop (mkF m 0 #[.val (.int p1), .val (.int p2), .val (.int p3), .val (.int p4), .val (.int p5), .unset, .unset, .unset] [])) _
    refine XS.iloadN X0.here hx rfl (hb hby at_0) rfl ?_
    show Steps p.tables e below (s₁.setTop (mkF m 1 #[.val (.int p1), .val (.int p2), .val (.int p3), .val (.int p4), .val (.int p5), .unset, .unset, .unset] [(.int p1)])) _
    refine X0.ldcI hx hown (mvT hZ (hw _ (List.mem_of_getElem? (i := 0) rfl))) rfl (hb hby at_1) ?_
    show Steps p.tables e below (s₁.setTop (mkF m 3 #[.val (.int p1), .val (.int p2), .val (.int p3), .val (.int p4), .val (.int p5), .unset, .unset, .unset] [(.int (2147483647 : Int32)), (.int p1)])) _
    refine XS.iand X0.here hx rfl (hb hby at_3) rfl ?_
    show Steps p.tables e below (s₁.setTop (mkF m 4 #[.val (.int p1), .val (.int p2), .val (.int p3), .val (.int p4), .val (.int p5), .unset, .unset, .unset] [(.int (p1 &&& (2147483647 : Int32)))])) _
    refine XS.iconst X0.here hx rfl (hb hby at_4) ?_
    show Steps p.tables e below (s₁.setTop (mkF m 5 #[.val (.int p1), .val (.int p2), .val (.int p3), .val (.int p4), .val (.int p5), .unset, .unset, .unset] [(.int (5 : Int32)), (.int (p1 &&& (2147483647 : Int32)))])) _
    refine iremM X0 hx rfl (hb hby at_5) rfl (by decide) ?_
    show Steps p.tables e below (s₁.setTop (mkF m 6 #[.val (.int p1), .val (.int p2), .val (.int p3), .val (.int p4), .val (.int p5), .unset, .unset, .unset] [(.int ((p1 &&& (2147483647 : Int32)) % (5 : Int32)))])) _
    refine XS.istore X0.here hx rfl (hb hby at_6) rfl (l' := #[.val (.int p1), .val (.int p2), .val (.int p3), .val (.int p4), .val (.int p5), .val (.int ((p1 &&& (2147483647 : Int32)) % (5 : Int32))), .unset, .unset]) rfl ?_
    exact kt
  have hq := own_q p1
  obtain ⟨q, eq⟩ : ∃ q, q = ((p1 &&& (2147483647 : Int32)) % (5 : Int32)) := ⟨_, rfl⟩
  rw [← eq] at sq hq
  obtain ⟨T1, h1, X1, e1, E1, A1, D1, -, st1⟩ := newO X0 hx hZ hown (hw _ (List.mem_of_getElem? (i := 1) rfl)) (hw _ (List.mem_of_getElem? (i := 2) rfl)) (hw _ (List.mem_of_getElem? (i := 3) rfl)) e0 (g := (mkF m 8 #[.val (.int p1), .val (.int p2), .val (.int p3), .val (.int p4), .val (.int p5), .val (.int q), .unset, .unset] [])) rfl (hb hby at_8) (by decide) (by decide)
  obtain ⟨b1, g1⟩ : ∃ z, z = h0.size := ⟨_, rfl⟩
  rw [← g1] at A1 D1 st1
  have F_bytes_b1 : Fld Z h1 b1 "com/example/conforce/conforce/engine/ByteWriter" "bytes" "[B" .null := D1 (Or.inl (hw _ (List.mem_of_getElem? (i := 12) rfl))) (ty := (.array .byte)) (by decide)
  have F_length_b1 : Fld Z h1 b1 "com/example/conforce/conforce/engine/ByteWriter" "length" "I" (.int (0 : Int32)) := D1 (Or.inl (hw _ (List.mem_of_getElem? (i := 19) rfl))) (ty := .int) (by decide)
  have g_b1 : n0 ≤ b1 := Nat.le_trans Z0 (Nat.le_of_eq g1.symm)
  have z1 : n0 ≤ h1.size := Nat.le_trans Z0 E1.1
  have sg2 : ∀ t₀, Steps p.tables e below (T1.setTop (mkF m 12 #[.val (.int p1), .val (.int p2), .val (.int p3), .val (.int p4), .val (.int p5), .val (.int q), .unset, .unset] [(.ref b1), (.ref b1)])) t₀ → Steps p.tables e below (T1.setTop (mkF m 11 #[.val (.int p1), .val (.int p2), .val (.int p3), .val (.int p4), .val (.int p5), .val (.int q), .unset, .unset] [(.ref b1)])) t₀ := by
    intro t₀ kt
    show Steps p.tables e below (T1.setTop (mkF m 11 #[.val (.int p1), .val (.int p2), .val (.int p3), .val (.int p4), .val (.int p5), .val (.int q), .unset, .unset] [(.ref b1)])) _
    refine XS.dup X1.here hx rfl (hb hby at_11) rfl rfl ?_
    exact kt
  obtain ⟨_, _, ⟨T3, L3, k3, n3⟩, -, X3, ⟨Lc3, hQ3, l3, y3, z3⟩, st3⟩ := X1.specialBack hx (y := (⟨"com/example/conforce/conforce/engine/ByteWriter", "<init>", "()V"⟩ : MethodName)) rfl hown (mvT hZ (hw _ (List.mem_of_getElem? (i := 4) rfl))) (mvT hZ (hw _ (List.mem_of_getElem? (i := 5) rfl))) (mvT hZ (hw _ (List.mem_of_getElem? (i := 6) rfl))) (by decide) (backOf (W := 1) (rm1 l Z a0 hw [] b1 h1 n0 z1 A1 g_b1 F_bytes_b1 F_length_b1) hZ (hw _ (List.mem_of_getElem? (i := 6) rfl)) (hw _ (List.mem_of_getElem? (i := 3) rfl)) (by decide) (by decide)) (g := (mkF m 12 #[.val (.int p1), .val (.int p2), .val (.int p3), .val (.int p4), .val (.int p5), .val (.int q), .unset, .unset] [(.ref b1), (.ref b1)])) rfl (by rw [hml]; rfl) (Steps.refl _) (a := b1) (argsL := []) (rest := [(.ref b1)]) (lenOf pd_1 rfl) rfl (by show 2 * 0 + _ ≤ _; exact Nat.le_of_eq rfl) (hb hby at_12) (fun _ _ => ⟨rfl, e1, (by decide : 1 + 1 ≤ _), (by decide : 2 + 64 ≤ _)⟩)
  dsimp only [Pt.U, Pt.locs, Pt.cells, Pt.slots] at X3 l3 y3 z3 st3 hQ3
  subst l3 y3 z3
  obtain ⟨rfl, N3q, zz0, EE0, FL0, t, gt, hne, FB0, AA0⟩ := hQ3
  have N3 := Fr.app N0 N3q
  clear eq
  rcases hq with rfl | rfl | rfl | rfl | rfl
  · have sg4 : ∀ t₀, Steps p.tables e below (T3.setTop (mkF m 20 #[.val (.int p1), .val (.int p2), .val (.int p3), .val (.int p4), .val (.int p5), .val (.int (0 : Int32)), .val (.ref b1), .val (.int (0 : Int32))] [])) t₀ → Steps p.tables e below (T3.setTop (mkF m 15 #[.val (.int p1), .val (.int p2), .val (.int p3), .val (.int p4), .val (.int p5), .val (.int (0 : Int32)), .unset, .unset] [(.ref b1)])) t₀ := by
      intro t₀ kt
      show Steps p.tables e below (T3.setTop (mkF m 15 #[.val (.int p1), .val (.int p2), .val (.int p3), .val (.int p4), .val (.int p5), .val (.int (0 : Int32)), .unset, .unset] [(.ref b1)])) _
      refine XS.astore X3.here hx rfl (hb hby at_15) rfl rfl (l' := #[.val (.int p1), .val (.int p2), .val (.int p3), .val (.int p4), .val (.int p5), .val (.int (0 : Int32)), .val (.ref b1), .unset]) rfl ?_
      show Steps p.tables e below (T3.setTop (mkF m 17 #[.val (.int p1), .val (.int p2), .val (.int p3), .val (.int p4), .val (.int p5), .val (.int (0 : Int32)), .val (.ref b1), .unset] [])) _
      refine XS.iconst X3.here hx rfl (hb hby at_17) ?_
      show Steps p.tables e below (T3.setTop (mkF m 18 #[.val (.int p1), .val (.int p2), .val (.int p3), .val (.int p4), .val (.int p5), .val (.int (0 : Int32)), .val (.ref b1), .unset] [(.int (0 : Int32))])) _
      refine XS.istore X3.here hx rfl (hb hby at_18) rfl (l' := #[.val (.int p1), .val (.int p2), .val (.int p3), .val (.int p4), .val (.int p5), .val (.int (0 : Int32)), .val (.ref b1), .val (.int (0 : Int32))]) rfl ?_
      exact kt
    have sg5 : ∀ t₀, Steps p.tables e below (T3.setTop (mkF m 103 #[.val (.int p1), .val (.int p2), .val (.int p3), .val (.int p4), .val (.int p5), .val (.int (0 : Int32)), .val (.ref b1), .val (.int (0 : Int32))] [(.ref b1)])) t₀ → Steps p.tables e below (T3.setTop (mkF m 20 #[.val (.int p1), .val (.int p2), .val (.int p3), .val (.int p4), .val (.int p5), .val (.int (0 : Int32)), .val (.ref b1), .val (.int (0 : Int32))] [])) t₀ := by
      intro t₀ kt
      show Steps p.tables e below (T3.setTop (mkF m 20 #[.val (.int p1), .val (.int p2), .val (.int p3), .val (.int p4), .val (.int p5), .val (.int (0 : Int32)), .val (.ref b1), .val (.int (0 : Int32))] [])) _
      refine XS.iload X3.here hx rfl (hb hby at_20) rfl ?_
      show Steps p.tables e below (T3.setTop (mkF m 22 #[.val (.int p1), .val (.int p2), .val (.int p3), .val (.int p4), .val (.int p5), .val (.int (0 : Int32)), .val (.ref b1), .val (.int (0 : Int32))] [(.int (0 : Int32))])) _
      refine XS.ifYes X3.here hx rfl (pc0 := 22) (pc' := 39) rfl (hb hby at_22) rfl ((if0 _ _).trans (flt (by decide : ¬ ((0 : Int32) < (0 : Int32)))).2.2.2) (by decide) (by decide) ?_
      show Steps p.tables e below (T3.setTop (mkF m 39 #[.val (.int p1), .val (.int p2), .val (.int p3), .val (.int p4), .val (.int p5), .val (.int (0 : Int32)), .val (.ref b1), .val (.int (0 : Int32))] [])) _
      refine XS.iload X3.here hx rfl (hb hby at_39) rfl ?_
      show Steps p.tables e below (T3.setTop (mkF m 41 #[.val (.int p1), .val (.int p2), .val (.int p3), .val (.int p4), .val (.int p5), .val (.int (0 : Int32)), .val (.ref b1), .val (.int (0 : Int32))] [(.int (0 : Int32))])) _
      refine XS.iconst X3.here hx rfl (hb hby at_41) ?_
      show Steps p.tables e below (T3.setTop (mkF m 42 #[.val (.int p1), .val (.int p2), .val (.int p3), .val (.int p4), .val (.int p5), .val (.int (0 : Int32)), .val (.ref b1), .val (.int (0 : Int32))] [(.int (1 : Int32)), (.int (0 : Int32))])) _
      refine XS.icmpYes X3.here hx rfl (pc0 := 42) (pc' := 59) rfl (hb hby at_42) rfl (flt (by decide : ¬ ((1 : Int32) < (0 : Int32)))).2.2.2 (by decide) (by decide) ?_
      show Steps p.tables e below (T3.setTop (mkF m 59 #[.val (.int p1), .val (.int p2), .val (.int p3), .val (.int p4), .val (.int p5), .val (.int (0 : Int32)), .val (.ref b1), .val (.int (0 : Int32))] [])) _
      refine XS.iload X3.here hx rfl (hb hby at_59) rfl ?_
      show Steps p.tables e below (T3.setTop (mkF m 61 #[.val (.int p1), .val (.int p2), .val (.int p3), .val (.int p4), .val (.int p5), .val (.int (0 : Int32)), .val (.ref b1), .val (.int (0 : Int32))] [(.int (0 : Int32))])) _
      refine XS.iconst X3.here hx rfl (hb hby at_61) ?_
      show Steps p.tables e below (T3.setTop (mkF m 62 #[.val (.int p1), .val (.int p2), .val (.int p3), .val (.int p4), .val (.int p5), .val (.int (0 : Int32)), .val (.ref b1), .val (.int (0 : Int32))] [(.int (2 : Int32)), (.int (0 : Int32))])) _
      refine XS.icmpYes X3.here hx rfl (pc0 := 62) (pc' := 79) rfl (hb hby at_62) rfl (flt (by decide : ¬ ((2 : Int32) < (0 : Int32)))).2.2.2 (by decide) (by decide) ?_
      show Steps p.tables e below (T3.setTop (mkF m 79 #[.val (.int p1), .val (.int p2), .val (.int p3), .val (.int p4), .val (.int p5), .val (.int (0 : Int32)), .val (.ref b1), .val (.int (0 : Int32))] [])) _
      refine XS.iload X3.here hx rfl (hb hby at_79) rfl ?_
      show Steps p.tables e below (T3.setTop (mkF m 81 #[.val (.int p1), .val (.int p2), .val (.int p3), .val (.int p4), .val (.int p5), .val (.int (0 : Int32)), .val (.ref b1), .val (.int (0 : Int32))] [(.int (0 : Int32))])) _
      refine XS.iconst X3.here hx rfl (hb hby at_81) ?_
      show Steps p.tables e below (T3.setTop (mkF m 82 #[.val (.int p1), .val (.int p2), .val (.int p3), .val (.int p4), .val (.int p5), .val (.int (0 : Int32)), .val (.ref b1), .val (.int (0 : Int32))] [(.int (3 : Int32)), (.int (0 : Int32))])) _
      refine XS.icmpYes X3.here hx rfl (pc0 := 82) (pc' := 101) rfl (hb hby at_82) rfl (flt (by decide : ¬ ((3 : Int32) < (0 : Int32)))).2.2.2 (by decide) (by decide) ?_
      show Steps p.tables e below (T3.setTop (mkF m 101 #[.val (.int p1), .val (.int p2), .val (.int p3), .val (.int p4), .val (.int p5), .val (.int (0 : Int32)), .val (.ref b1), .val (.int (0 : Int32))] [])) _
      refine XS.aload X3.here hx rfl (hb hby at_101) rfl rfl ?_
      exact kt
    obtain ⟨cq6, kq6, q6a, q6b, q6c⟩ := isOf hZ rfl EE0
    obtain ⟨_, _, ⟨T6, L6, k6, n6⟩, -, X6, ⟨Lc6, hQ6, l6, y6, z6⟩, st6⟩ := X3.virtualBack hx (y := (⟨"com/example/conforce/conforce/engine/ByteWriter", "hash", "()I"⟩ : MethodName)) (z := (⟨"com/example/conforce/conforce/engine/ByteWriter", "hash", "()I"⟩ : MethodName)) hown (mvT hZ (hw _ (List.mem_of_getElem? (i := 13) rfl))) (mvT hZ (hw _ (List.mem_of_getElem? (i := 14) rfl))) (notFace_of_selects (args := #[]) (mvT hZ (hw _ (List.mem_of_getElem? (i := 16) rfl)))) (mvT hZ (hw _ (List.mem_of_getElem? (i := 16) rfl))) (mvT hZ (hw _ (List.mem_of_getElem? (i := 15) rfl))) (by decide) (backOf (W := 0) (rm3 l Z a0 hw [] b1 t 0 (fun _ => (0 : Int32)) T3.heap n0 zz0 (by decide) FB0 FL0 AA0) hZ (hw _ (List.mem_of_getElem? (i := 17) rfl)) (hw _ (List.mem_of_getElem? (i := 3) rfl)) (by decide) (by decide)) q6a q6c (g := (mkF m 103 #[.val (.int p1), .val (.int p2), .val (.int p3), .val (.int p4), .val (.int p5), .val (.int (0 : Int32)), .val (.ref b1), .val (.int (0 : Int32))] [(.ref b1)])) rfl (by rw [hml]; rfl) (Steps.refl _) (argsL := []) (rest := []) (lenOf pd_0 rfl) rfl (by show 2 * 0 + _ ≤ _; exact Nat.le_of_eq rfl) (hb hby at_103) (fun _ _ => ⟨rfl, rfl, (by decide : 2 + 0 ≤ _), (by decide : 66 + 0 ≤ _)⟩)
    dsimp only [Pt.U, Pt.locs, Pt.cells, Pt.slots] at X6 l6 y6 z6 st6 hQ6
    subst l6 y6 z6
    obtain ⟨rfl, N6q, hh6⟩ := hQ6
    have N6 := Fr.app N3 N6q
    have sg7 : ∀ t₀, Steps p.tables e below (T6.setTop (mkF m 108 #[.val (.int p1), .val (.int p2), .val (.int p3), .val (.int p4), .val (.int p5), .val (.int (0 : Int32)), .val (.ref b1), .val (.int (0 : Int32))] [(.int (0 : Int32)), (.int (own_mix (own_h (fun _ => (0 : Int32)) 0 0 0)))])) t₀ → Steps p.tables e below (T6.setTop (mkF m 106 #[.val (.int p1), .val (.int p2), .val (.int p3), .val (.int p4), .val (.int p5), .val (.int (0 : Int32)), .val (.ref b1), .val (.int (0 : Int32))] [(.int (own_mix (own_h (fun _ => (0 : Int32)) 0 0 0)))])) t₀ := by
      intro t₀ kt
      show Steps p.tables e below (T6.setTop (mkF m 106 #[.val (.int p1), .val (.int p2), .val (.int p3), .val (.int p4), .val (.int p5), .val (.int (0 : Int32)), .val (.ref b1), .val (.int (0 : Int32))] [(.int (own_mix (own_h (fun _ => (0 : Int32)) 0 0 0)))])) _
      refine XS.iload X6.here hx rfl (hb hby at_106) rfl ?_
      exact kt
    have hH : own_h (fun _ => (0 : Int32)) 0 0 0 = (0 : Int32) := by rfl
    obtain ⟨_, _, ⟨T8, L8, k8, n8⟩, -, X8, ⟨Lc8, hQ8, l8, y8, z8⟩, st8⟩ := Jvm.LawKit.callS X6 hx (y := (⟨"com/example/conforce/conforce/engine/ByteWriterHashPinLaw", "fmix", "(I)I"⟩ : MethodName)) hown (mvT hZ (hw _ (List.mem_of_getElem? (i := 22) rfl))) (mvT hZ (hw _ (List.mem_of_getElem? (i := 23) rfl))) (mvT hZ (hw _ (List.mem_of_getElem? (i := 24) rfl))) (mvT hZ (hw _ (List.mem_of_getElem? (i := 25) rfl))) (by decide) (backOf (W := 1) (rm4 l Z a0 hw [] (0 : Int32) T3.heap n0 zz0) hZ (hw _ (List.mem_of_getElem? (i := 25) rfl)) (hw _ (List.mem_of_getElem? (i := 24) rfl)) (by decide) (by decide)) (g := (mkF m 108 #[.val (.int p1), .val (.int p2), .val (.int p3), .val (.int p4), .val (.int p5), .val (.int (0 : Int32)), .val (.ref b1), .val (.int (0 : Int32))] [(.int (0 : Int32)), (.int (own_mix (own_h (fun _ => (0 : Int32)) 0 0 0)))])) rfl (by rw [hml]; rfl) (argsL := [(.int (0 : Int32))]) (rest := [(.int (own_mix (own_h (fun _ => (0 : Int32)) 0 0 0)))]) (lenOf pd_2 rfl) rfl (by show 2 * 0 + _ ≤ _; exact Nat.le_of_eq rfl) (hb hby at_108) (fun _ _ => ⟨rfl, hh6, (by decide : 2 + 0 ≤ _), (by decide : 66 + 0 ≤ _)⟩)
    dsimp only [Pt.U, Pt.locs, Pt.cells, Pt.slots] at X8 l8 y8 z8 st8 hQ8
    subst l8 y8 z8
    obtain ⟨rfl, N8q, hh8⟩ := hQ8
    have N8 := Fr.app N6 N8q
    have sg9 : ∀ t₀, Steps p.tables e below (T8.setTop (mkF m 119 #[.val (.int p1), .val (.int p2), .val (.int p3), .val (.int p4), .val (.int p5), .val (.int (0 : Int32)), .val (.ref b1), .val (.int (0 : Int32))] [(.int (1 : Int32))])) t₀ → Steps p.tables e below (T8.setTop (mkF m 111 #[.val (.int p1), .val (.int p2), .val (.int p3), .val (.int p4), .val (.int p5), .val (.int (0 : Int32)), .val (.ref b1), .val (.int (0 : Int32))] [(.int (own_mix (0 : Int32))), (.int (own_mix (own_h (fun _ => (0 : Int32)) 0 0 0)))])) t₀ := by
      intro t₀ kt
      show Steps p.tables e below (T8.setTop (mkF m 111 #[.val (.int p1), .val (.int p2), .val (.int p3), .val (.int p4), .val (.int p5), .val (.int (0 : Int32)), .val (.ref b1), .val (.int (0 : Int32))] [(.int (own_mix (0 : Int32))), (.int (own_mix (own_h (fun _ => (0 : Int32)) 0 0 0)))])) _
      refine XS.icmpNo X8.here hx rfl (hb hby at_111) rfl (teq (congrArg own_mix hH)).2 ?_
      show Steps p.tables e below (T8.setTop (mkF m 114 #[.val (.int p1), .val (.int p2), .val (.int p3), .val (.int p4), .val (.int p5), .val (.int (0 : Int32)), .val (.ref b1), .val (.int (0 : Int32))] [])) _
      refine XS.iconst X8.here hx rfl (hb hby at_114) ?_
      show Steps p.tables e below (T8.setTop (mkF m 115 #[.val (.int p1), .val (.int p2), .val (.int p3), .val (.int p4), .val (.int p5), .val (.int (0 : Int32)), .val (.ref b1), .val (.int (0 : Int32))] [(.int (1 : Int32))])) _
      refine XS.goto X8.here hx rfl (pc0 := 115) (pc' := 119) rfl (hb hby at_115) (by decide) (by decide) ?_
      exact kt
    obtain ⟨fs, hr, hrun, hended, hW, hsame⟩ := X8.leave (v := some (.int (1 : Int32))) (fun h => by rw [Bd.returns] at h; cases h)
    refine ⟨_, _, pre0 _ ?_, hrun, hended, _, _, rfl, ?_, ⟨_, rfl⟩, hW, hsame.mono (by decide) (by decide)⟩
    · exact sq _ (st1 _ (sg2 _ (st3.trans (sg4 _ (sg5 _ (st6.trans (sg7 _ (st8 _ (sg9 _ ((retN X8 hx (t := .boolean) Bd.returns (by simp) (hb hby at_119) hr)))))))))))
    · show Q0 Z p1 p2 p3 p4 p5 h0 n0 _ T8.heap _
      rw [hh8]
      exact ⟨rfl, N8⟩
  · have sg10 : ∀ t₀, Steps p.tables e below (T3.setTop (mkF m 20 #[.val (.int p1), .val (.int p2), .val (.int p3), .val (.int p4), .val (.int p5), .val (.int (1 : Int32)), .val (.ref b1), .val (.int (0 : Int32))] [])) t₀ → Steps p.tables e below (T3.setTop (mkF m 15 #[.val (.int p1), .val (.int p2), .val (.int p3), .val (.int p4), .val (.int p5), .val (.int (1 : Int32)), .unset, .unset] [(.ref b1)])) t₀ := by
      intro t₀ kt
      show Steps p.tables e below (T3.setTop (mkF m 15 #[.val (.int p1), .val (.int p2), .val (.int p3), .val (.int p4), .val (.int p5), .val (.int (1 : Int32)), .unset, .unset] [(.ref b1)])) _
      refine XS.astore X3.here hx rfl (hb hby at_15) rfl rfl (l' := #[.val (.int p1), .val (.int p2), .val (.int p3), .val (.int p4), .val (.int p5), .val (.int (1 : Int32)), .val (.ref b1), .unset]) rfl ?_
      show Steps p.tables e below (T3.setTop (mkF m 17 #[.val (.int p1), .val (.int p2), .val (.int p3), .val (.int p4), .val (.int p5), .val (.int (1 : Int32)), .val (.ref b1), .unset] [])) _
      refine XS.iconst X3.here hx rfl (hb hby at_17) ?_
      show Steps p.tables e below (T3.setTop (mkF m 18 #[.val (.int p1), .val (.int p2), .val (.int p3), .val (.int p4), .val (.int p5), .val (.int (1 : Int32)), .val (.ref b1), .unset] [(.int (0 : Int32))])) _
      refine XS.istore X3.here hx rfl (hb hby at_18) rfl (l' := #[.val (.int p1), .val (.int p2), .val (.int p3), .val (.int p4), .val (.int p5), .val (.int (1 : Int32)), .val (.ref b1), .val (.int (0 : Int32))]) rfl ?_
      exact kt
    have sg11 : ∀ t₀, Steps p.tables e below (T3.setTop (mkF m 28 #[.val (.int p1), .val (.int p2), .val (.int p3), .val (.int p4), .val (.int p5), .val (.int (1 : Int32)), .val (.ref b1), .val (.int (0 : Int32))] [(.int p2), (.ref b1)])) t₀ → Steps p.tables e below (T3.setTop (mkF m 20 #[.val (.int p1), .val (.int p2), .val (.int p3), .val (.int p4), .val (.int p5), .val (.int (1 : Int32)), .val (.ref b1), .val (.int (0 : Int32))] [])) t₀ := by
      intro t₀ kt
      show Steps p.tables e below (T3.setTop (mkF m 20 #[.val (.int p1), .val (.int p2), .val (.int p3), .val (.int p4), .val (.int p5), .val (.int (1 : Int32)), .val (.ref b1), .val (.int (0 : Int32))] [])) _
      refine XS.iload X3.here hx rfl (hb hby at_20) rfl ?_
      show Steps p.tables e below (T3.setTop (mkF m 22 #[.val (.int p1), .val (.int p2), .val (.int p3), .val (.int p4), .val (.int p5), .val (.int (1 : Int32)), .val (.ref b1), .val (.int (0 : Int32))] [(.int (1 : Int32))])) _
      refine XS.ifNo X3.here hx rfl (hb hby at_22) rfl ((if0 _ _).trans (tlt (by decide : (0 : Int32) < (1 : Int32))).2.2.2) ?_
      show Steps p.tables e below (T3.setTop (mkF m 25 #[.val (.int p1), .val (.int p2), .val (.int p3), .val (.int p4), .val (.int p5), .val (.int (1 : Int32)), .val (.ref b1), .val (.int (0 : Int32))] [])) _
      refine XS.aload X3.here hx rfl (hb hby at_25) rfl rfl ?_
      show Steps p.tables e below (T3.setTop (mkF m 27 #[.val (.int p1), .val (.int p2), .val (.int p3), .val (.int p4), .val (.int p5), .val (.int (1 : Int32)), .val (.ref b1), .val (.int (0 : Int32))] [(.ref b1)])) _
      refine XS.iloadN X3.here hx rfl (hb hby at_27) rfl ?_
      exact kt
    obtain ⟨cq12, kq12, q12a, q12b, q12c⟩ := isOf hZ rfl EE0
    obtain ⟨_, _, ⟨T12, L12, k12, n12⟩, -, X12, ⟨Lc12, hQ12, l12, y12, z12⟩, st12⟩ := X3.virtualBack hx (y := (⟨"com/example/conforce/conforce/engine/ByteWriter", "write", "(I)V"⟩ : MethodName)) (z := (⟨"com/example/conforce/conforce/engine/ByteWriter", "write", "(I)V"⟩ : MethodName)) hown (mvT hZ (hw _ (List.mem_of_getElem? (i := 28) rfl))) (mvT hZ (hw _ (List.mem_of_getElem? (i := 29) rfl))) (notFace_of_selects (args := #[]) (mvT hZ (hw _ (List.mem_of_getElem? (i := 31) rfl)))) (mvT hZ (hw _ (List.mem_of_getElem? (i := 31) rfl))) (mvT hZ (hw _ (List.mem_of_getElem? (i := 30) rfl))) (by decide) (backOf (W := 0) (rm5 l Z a0 hw [] b1 p2 t (0 : Int32) (1 : Int32) 0 (fun _ => (0 : Int32)) T3.heap n0 zz0 EE0 g_b1 gt hne FB0 FL0 AA0 (by decide) rfl (by decide)) hZ (hw _ (List.mem_of_getElem? (i := 32) rfl)) (hw _ (List.mem_of_getElem? (i := 3) rfl)) (by decide) (by decide)) q12a q12c (g := (mkF m 28 #[.val (.int p1), .val (.int p2), .val (.int p3), .val (.int p4), .val (.int p5), .val (.int (1 : Int32)), .val (.ref b1), .val (.int (0 : Int32))] [(.int p2), (.ref b1)])) rfl (by rw [hml]; rfl) (Steps.refl _) (argsL := [(.int p2)]) (rest := []) (lenOf pd_3 rfl) rfl (by show 2 * 0 + _ ≤ _; exact Nat.le_of_eq rfl) (hb hby at_28) (fun _ _ => ⟨rfl, rfl, (by decide : 2 + 0 ≤ _), (by decide : 66 + 0 ≤ _)⟩)
    dsimp only [Pt.U, Pt.locs, Pt.cells, Pt.slots] at X12 l12 y12 z12 st12 hQ12
    subst l12 y12 z12
    obtain ⟨rfl, N12q, zz1, EE1, FL1, FB1, AA1⟩ := hQ12
    have N12 := Fr.app N3 N12q
    have sg13 : ∀ t₀, Steps p.tables e below (T12.setTop (mkF m 34 #[.val (.int p1), .val (.int p2), .val (.int p3), .val (.int p4), .val (.int p5), .val (.int (1 : Int32)), .val (.ref b1), .val (.int (0 : Int32))] [(.int p2), (.int (0 : Int32))])) t₀ → Steps p.tables e below (T12.setTop (mkF m 31 #[.val (.int p1), .val (.int p2), .val (.int p3), .val (.int p4), .val (.int p5), .val (.int (1 : Int32)), .val (.ref b1), .val (.int (0 : Int32))] [])) t₀ := by
      intro t₀ kt
      show Steps p.tables e below (T12.setTop (mkF m 31 #[.val (.int p1), .val (.int p2), .val (.int p3), .val (.int p4), .val (.int p5), .val (.int (1 : Int32)), .val (.ref b1), .val (.int (0 : Int32))] [])) _
      refine XS.iload X12.here hx rfl (hb hby at_31) rfl ?_
      show Steps p.tables e below (T12.setTop (mkF m 33 #[.val (.int p1), .val (.int p2), .val (.int p3), .val (.int p4), .val (.int p5), .val (.int (1 : Int32)), .val (.ref b1), .val (.int (0 : Int32))] [(.int (0 : Int32))])) _
      refine XS.iloadN X12.here hx rfl (hb hby at_33) rfl ?_
      exact kt
    obtain ⟨_, _, ⟨T14, L14, k14, n14⟩, -, X14, ⟨Lc14, hQ14, l14, y14, z14⟩, st14⟩ := Jvm.LawKit.callS X12 hx (y := (⟨"com/example/conforce/conforce/engine/ByteWriterHashPinLaw", "fold", "(II)I"⟩ : MethodName)) hown (mvT hZ (hw _ (List.mem_of_getElem? (i := 33) rfl))) (mvT hZ (hw _ (List.mem_of_getElem? (i := 34) rfl))) (mvT hZ (hw _ (List.mem_of_getElem? (i := 24) rfl))) (mvT hZ (hw _ (List.mem_of_getElem? (i := 35) rfl))) (by decide) (backOf (W := 0) (rm6 l Z a0 hw [] (0 : Int32) p2 T12.heap n0 zz1) hZ (hw _ (List.mem_of_getElem? (i := 35) rfl)) (hw _ (List.mem_of_getElem? (i := 24) rfl)) (by decide) (by decide)) (g := (mkF m 34 #[.val (.int p1), .val (.int p2), .val (.int p3), .val (.int p4), .val (.int p5), .val (.int (1 : Int32)), .val (.ref b1), .val (.int (0 : Int32))] [(.int p2), (.int (0 : Int32))])) rfl (by rw [hml]; rfl) (argsL := [(.int (0 : Int32)), (.int p2)]) (rest := []) (lenOf pd_4 rfl) rfl (by show 2 * 0 + _ ≤ _; exact Nat.le_of_eq rfl) (hb hby at_34) (fun _ _ => ⟨rfl, rfl, (by decide : 2 + 0 ≤ _), (by decide : 66 + 0 ≤ _)⟩)
    dsimp only [Pt.U, Pt.locs, Pt.cells, Pt.slots] at X14 l14 y14 z14 st14 hQ14
    subst l14 y14 z14
    obtain ⟨rfl, N14q, hh14⟩ := hQ14
    have N14 := Fr.app N12 N14q
    have sg15 : ∀ t₀, Steps p.tables e below (T14.setTop (mkF m 103 #[.val (.int p1), .val (.int p2), .val (.int p3), .val (.int p4), .val (.int p5), .val (.int (1 : Int32)), .val (.ref b1), .val (.int (((0 : Int32) * (16777619 : Int32)) ^^^ p2.toInt8.toInt32))] [(.ref b1)])) t₀ → Steps p.tables e below (T14.setTop (mkF m 37 #[.val (.int p1), .val (.int p2), .val (.int p3), .val (.int p4), .val (.int p5), .val (.int (1 : Int32)), .val (.ref b1), .val (.int (0 : Int32))] [(.int (((0 : Int32) * (16777619 : Int32)) ^^^ p2.toInt8.toInt32))])) t₀ := by
      intro t₀ kt
      show Steps p.tables e below (T14.setTop (mkF m 37 #[.val (.int p1), .val (.int p2), .val (.int p3), .val (.int p4), .val (.int p5), .val (.int (1 : Int32)), .val (.ref b1), .val (.int (0 : Int32))] [(.int (((0 : Int32) * (16777619 : Int32)) ^^^ p2.toInt8.toInt32))])) _
      refine XS.istore X14.here hx rfl (hb hby at_37) rfl (l' := #[.val (.int p1), .val (.int p2), .val (.int p3), .val (.int p4), .val (.int p5), .val (.int (1 : Int32)), .val (.ref b1), .val (.int (((0 : Int32) * (16777619 : Int32)) ^^^ p2.toInt8.toInt32))]) rfl ?_
      show Steps p.tables e below (T14.setTop (mkF m 39 #[.val (.int p1), .val (.int p2), .val (.int p3), .val (.int p4), .val (.int p5), .val (.int (1 : Int32)), .val (.ref b1), .val (.int (((0 : Int32) * (16777619 : Int32)) ^^^ p2.toInt8.toInt32))] [])) _
      refine XS.iload X14.here hx rfl (hb hby at_39) rfl ?_
      show Steps p.tables e below (T14.setTop (mkF m 41 #[.val (.int p1), .val (.int p2), .val (.int p3), .val (.int p4), .val (.int p5), .val (.int (1 : Int32)), .val (.ref b1), .val (.int (((0 : Int32) * (16777619 : Int32)) ^^^ p2.toInt8.toInt32))] [(.int (1 : Int32))])) _
      refine XS.iconst X14.here hx rfl (hb hby at_41) ?_
      show Steps p.tables e below (T14.setTop (mkF m 42 #[.val (.int p1), .val (.int p2), .val (.int p3), .val (.int p4), .val (.int p5), .val (.int (1 : Int32)), .val (.ref b1), .val (.int (((0 : Int32) * (16777619 : Int32)) ^^^ p2.toInt8.toInt32))] [(.int (1 : Int32)), (.int (1 : Int32))])) _
      refine XS.icmpYes X14.here hx rfl (pc0 := 42) (pc' := 59) rfl (hb hby at_42) rfl (flt (by decide : ¬ ((1 : Int32) < (1 : Int32)))).2.2.2 (by decide) (by decide) ?_
      show Steps p.tables e below (T14.setTop (mkF m 59 #[.val (.int p1), .val (.int p2), .val (.int p3), .val (.int p4), .val (.int p5), .val (.int (1 : Int32)), .val (.ref b1), .val (.int (((0 : Int32) * (16777619 : Int32)) ^^^ p2.toInt8.toInt32))] [])) _
      refine XS.iload X14.here hx rfl (hb hby at_59) rfl ?_
      show Steps p.tables e below (T14.setTop (mkF m 61 #[.val (.int p1), .val (.int p2), .val (.int p3), .val (.int p4), .val (.int p5), .val (.int (1 : Int32)), .val (.ref b1), .val (.int (((0 : Int32) * (16777619 : Int32)) ^^^ p2.toInt8.toInt32))] [(.int (1 : Int32))])) _
      refine XS.iconst X14.here hx rfl (hb hby at_61) ?_
      show Steps p.tables e below (T14.setTop (mkF m 62 #[.val (.int p1), .val (.int p2), .val (.int p3), .val (.int p4), .val (.int p5), .val (.int (1 : Int32)), .val (.ref b1), .val (.int (((0 : Int32) * (16777619 : Int32)) ^^^ p2.toInt8.toInt32))] [(.int (2 : Int32)), (.int (1 : Int32))])) _
      refine XS.icmpYes X14.here hx rfl (pc0 := 62) (pc' := 79) rfl (hb hby at_62) rfl (flt (by decide : ¬ ((2 : Int32) < (1 : Int32)))).2.2.2 (by decide) (by decide) ?_
      show Steps p.tables e below (T14.setTop (mkF m 79 #[.val (.int p1), .val (.int p2), .val (.int p3), .val (.int p4), .val (.int p5), .val (.int (1 : Int32)), .val (.ref b1), .val (.int (((0 : Int32) * (16777619 : Int32)) ^^^ p2.toInt8.toInt32))] [])) _
      refine XS.iload X14.here hx rfl (hb hby at_79) rfl ?_
      show Steps p.tables e below (T14.setTop (mkF m 81 #[.val (.int p1), .val (.int p2), .val (.int p3), .val (.int p4), .val (.int p5), .val (.int (1 : Int32)), .val (.ref b1), .val (.int (((0 : Int32) * (16777619 : Int32)) ^^^ p2.toInt8.toInt32))] [(.int (1 : Int32))])) _
      refine XS.iconst X14.here hx rfl (hb hby at_81) ?_
      show Steps p.tables e below (T14.setTop (mkF m 82 #[.val (.int p1), .val (.int p2), .val (.int p3), .val (.int p4), .val (.int p5), .val (.int (1 : Int32)), .val (.ref b1), .val (.int (((0 : Int32) * (16777619 : Int32)) ^^^ p2.toInt8.toInt32))] [(.int (3 : Int32)), (.int (1 : Int32))])) _
      refine XS.icmpYes X14.here hx rfl (pc0 := 82) (pc' := 101) rfl (hb hby at_82) rfl (flt (by decide : ¬ ((3 : Int32) < (1 : Int32)))).2.2.2 (by decide) (by decide) ?_
      show Steps p.tables e below (T14.setTop (mkF m 101 #[.val (.int p1), .val (.int p2), .val (.int p3), .val (.int p4), .val (.int p5), .val (.int (1 : Int32)), .val (.ref b1), .val (.int (((0 : Int32) * (16777619 : Int32)) ^^^ p2.toInt8.toInt32))] [])) _
      refine XS.aload X14.here hx rfl (hb hby at_101) rfl rfl ?_
      exact kt
    obtain ⟨cq16, kq16, q16a, q16b, q16c⟩ := isOf hZ hh14 EE1
    obtain ⟨_, _, ⟨T16, L16, k16, n16⟩, -, X16, ⟨Lc16, hQ16, l16, y16, z16⟩, st16⟩ := X14.virtualBack hx (y := (⟨"com/example/conforce/conforce/engine/ByteWriter", "hash", "()I"⟩ : MethodName)) (z := (⟨"com/example/conforce/conforce/engine/ByteWriter", "hash", "()I"⟩ : MethodName)) hown (mvT hZ (hw _ (List.mem_of_getElem? (i := 13) rfl))) (mvT hZ (hw _ (List.mem_of_getElem? (i := 14) rfl))) (notFace_of_selects (args := #[]) (mvT hZ (hw _ (List.mem_of_getElem? (i := 16) rfl)))) (mvT hZ (hw _ (List.mem_of_getElem? (i := 16) rfl))) (mvT hZ (hw _ (List.mem_of_getElem? (i := 15) rfl))) (by decide) (backOf (W := 0) (rm3 l Z a0 hw [] b1 t 1 (fun i => if i = 0 then p2.toInt8.toInt32 else (fun _ => (0 : Int32)) i) T12.heap n0 zz1 (by decide) FB1 FL1 AA1) hZ (hw _ (List.mem_of_getElem? (i := 17) rfl)) (hw _ (List.mem_of_getElem? (i := 3) rfl)) (by decide) (by decide)) q16a q16c (g := (mkF m 103 #[.val (.int p1), .val (.int p2), .val (.int p3), .val (.int p4), .val (.int p5), .val (.int (1 : Int32)), .val (.ref b1), .val (.int (((0 : Int32) * (16777619 : Int32)) ^^^ p2.toInt8.toInt32))] [(.ref b1)])) rfl (by rw [hml]; rfl) (Steps.refl _) (argsL := []) (rest := []) (lenOf pd_0 rfl) rfl (by show 2 * 0 + _ ≤ _; exact Nat.le_of_eq rfl) (hb hby at_103) (fun _ _ => ⟨rfl, hh14, (by decide : 2 + 0 ≤ _), (by decide : 66 + 0 ≤ _)⟩)
    dsimp only [Pt.U, Pt.locs, Pt.cells, Pt.slots] at X16 l16 y16 z16 st16 hQ16
    subst l16 y16 z16
    obtain ⟨rfl, N16q, hh16⟩ := hQ16
    have N16 := Fr.app N14 N16q
    have sg17 : ∀ t₀, Steps p.tables e below (T16.setTop (mkF m 108 #[.val (.int p1), .val (.int p2), .val (.int p3), .val (.int p4), .val (.int p5), .val (.int (1 : Int32)), .val (.ref b1), .val (.int (((0 : Int32) * (16777619 : Int32)) ^^^ p2.toInt8.toInt32))] [(.int (((0 : Int32) * (16777619 : Int32)) ^^^ p2.toInt8.toInt32)), (.int (own_mix (own_h (fun i => if i = 0 then p2.toInt8.toInt32 else (fun _ => (0 : Int32)) i) 1 0 0)))])) t₀ → Steps p.tables e below (T16.setTop (mkF m 106 #[.val (.int p1), .val (.int p2), .val (.int p3), .val (.int p4), .val (.int p5), .val (.int (1 : Int32)), .val (.ref b1), .val (.int (((0 : Int32) * (16777619 : Int32)) ^^^ p2.toInt8.toInt32))] [(.int (own_mix (own_h (fun i => if i = 0 then p2.toInt8.toInt32 else (fun _ => (0 : Int32)) i) 1 0 0)))])) t₀ := by
      intro t₀ kt
      show Steps p.tables e below (T16.setTop (mkF m 106 #[.val (.int p1), .val (.int p2), .val (.int p3), .val (.int p4), .val (.int p5), .val (.int (1 : Int32)), .val (.ref b1), .val (.int (((0 : Int32) * (16777619 : Int32)) ^^^ p2.toInt8.toInt32))] [(.int (own_mix (own_h (fun i => if i = 0 then p2.toInt8.toInt32 else (fun _ => (0 : Int32)) i) 1 0 0)))])) _
      refine XS.iload X16.here hx rfl (hb hby at_106) rfl ?_
      exact kt
    have hH : own_h (fun i => if i = 0 then p2.toInt8.toInt32 else (fun _ => (0 : Int32)) i) 1 0 0 = (((0 : Int32) * (16777619 : Int32)) ^^^ p2.toInt8.toInt32) := by rfl
    obtain ⟨_, _, ⟨T18, L18, k18, n18⟩, -, X18, ⟨Lc18, hQ18, l18, y18, z18⟩, st18⟩ := Jvm.LawKit.callS X16 hx (y := (⟨"com/example/conforce/conforce/engine/ByteWriterHashPinLaw", "fmix", "(I)I"⟩ : MethodName)) hown (mvT hZ (hw _ (List.mem_of_getElem? (i := 22) rfl))) (mvT hZ (hw _ (List.mem_of_getElem? (i := 23) rfl))) (mvT hZ (hw _ (List.mem_of_getElem? (i := 24) rfl))) (mvT hZ (hw _ (List.mem_of_getElem? (i := 25) rfl))) (by decide) (backOf (W := 1) (rm4 l Z a0 hw [] (((0 : Int32) * (16777619 : Int32)) ^^^ p2.toInt8.toInt32) T12.heap n0 zz1) hZ (hw _ (List.mem_of_getElem? (i := 25) rfl)) (hw _ (List.mem_of_getElem? (i := 24) rfl)) (by decide) (by decide)) (g := (mkF m 108 #[.val (.int p1), .val (.int p2), .val (.int p3), .val (.int p4), .val (.int p5), .val (.int (1 : Int32)), .val (.ref b1), .val (.int (((0 : Int32) * (16777619 : Int32)) ^^^ p2.toInt8.toInt32))] [(.int (((0 : Int32) * (16777619 : Int32)) ^^^ p2.toInt8.toInt32)), (.int (own_mix (own_h (fun i => if i = 0 then p2.toInt8.toInt32 else (fun _ => (0 : Int32)) i) 1 0 0)))])) rfl (by rw [hml]; rfl) (argsL := [(.int (((0 : Int32) * (16777619 : Int32)) ^^^ p2.toInt8.toInt32))]) (rest := [(.int (own_mix (own_h (fun i => if i = 0 then p2.toInt8.toInt32 else (fun _ => (0 : Int32)) i) 1 0 0)))]) (lenOf pd_2 rfl) rfl (by show 2 * 0 + _ ≤ _; exact Nat.le_of_eq rfl) (hb hby at_108) (fun _ _ => ⟨rfl, hh16, (by decide : 2 + 0 ≤ _), (by decide : 66 + 0 ≤ _)⟩)
    dsimp only [Pt.U, Pt.locs, Pt.cells, Pt.slots] at X18 l18 y18 z18 st18 hQ18
    subst l18 y18 z18
    obtain ⟨rfl, N18q, hh18⟩ := hQ18
    have N18 := Fr.app N16 N18q
    have sg19 : ∀ t₀, Steps p.tables e below (T18.setTop (mkF m 119 #[.val (.int p1), .val (.int p2), .val (.int p3), .val (.int p4), .val (.int p5), .val (.int (1 : Int32)), .val (.ref b1), .val (.int (((0 : Int32) * (16777619 : Int32)) ^^^ p2.toInt8.toInt32))] [(.int (1 : Int32))])) t₀ → Steps p.tables e below (T18.setTop (mkF m 111 #[.val (.int p1), .val (.int p2), .val (.int p3), .val (.int p4), .val (.int p5), .val (.int (1 : Int32)), .val (.ref b1), .val (.int (((0 : Int32) * (16777619 : Int32)) ^^^ p2.toInt8.toInt32))] [(.int (own_mix (((0 : Int32) * (16777619 : Int32)) ^^^ p2.toInt8.toInt32))), (.int (own_mix (own_h (fun i => if i = 0 then p2.toInt8.toInt32 else (fun _ => (0 : Int32)) i) 1 0 0)))])) t₀ := by
      intro t₀ kt
      show Steps p.tables e below (T18.setTop (mkF m 111 #[.val (.int p1), .val (.int p2), .val (.int p3), .val (.int p4), .val (.int p5), .val (.int (1 : Int32)), .val (.ref b1), .val (.int (((0 : Int32) * (16777619 : Int32)) ^^^ p2.toInt8.toInt32))] [(.int (own_mix (((0 : Int32) * (16777619 : Int32)) ^^^ p2.toInt8.toInt32))), (.int (own_mix (own_h (fun i => if i = 0 then p2.toInt8.toInt32 else (fun _ => (0 : Int32)) i) 1 0 0)))])) _
      refine XS.icmpNo X18.here hx rfl (hb hby at_111) rfl (teq (congrArg own_mix hH)).2 ?_
      show Steps p.tables e below (T18.setTop (mkF m 114 #[.val (.int p1), .val (.int p2), .val (.int p3), .val (.int p4), .val (.int p5), .val (.int (1 : Int32)), .val (.ref b1), .val (.int (((0 : Int32) * (16777619 : Int32)) ^^^ p2.toInt8.toInt32))] [])) _
      refine XS.iconst X18.here hx rfl (hb hby at_114) ?_
      show Steps p.tables e below (T18.setTop (mkF m 115 #[.val (.int p1), .val (.int p2), .val (.int p3), .val (.int p4), .val (.int p5), .val (.int (1 : Int32)), .val (.ref b1), .val (.int (((0 : Int32) * (16777619 : Int32)) ^^^ p2.toInt8.toInt32))] [(.int (1 : Int32))])) _
      refine XS.goto X18.here hx rfl (pc0 := 115) (pc' := 119) rfl (hb hby at_115) (by decide) (by decide) ?_
      exact kt
    obtain ⟨fs, hr, hrun, hended, hW, hsame⟩ := X18.leave (v := some (.int (1 : Int32))) (fun h => by rw [Bd.returns] at h; cases h)
    refine ⟨_, _, pre0 _ ?_, hrun, hended, _, _, rfl, ?_, ⟨_, rfl⟩, hW, hsame.mono (by decide) (by decide)⟩
    · exact sq _ (st1 _ (sg2 _ (st3.trans (sg10 _ (sg11 _ (st12.trans (sg13 _ (st14 _ (sg15 _ (st16.trans (sg17 _ (st18 _ (sg19 _ ((retN X18 hx (t := .boolean) Bd.returns (by simp) (hb hby at_119) hr)))))))))))))))
    · show Q0 Z p1 p2 p3 p4 p5 h0 n0 _ T18.heap _
      rw [hh18]
      exact ⟨rfl, N18⟩
  · have sg20 : ∀ t₀, Steps p.tables e below (T3.setTop (mkF m 20 #[.val (.int p1), .val (.int p2), .val (.int p3), .val (.int p4), .val (.int p5), .val (.int (2 : Int32)), .val (.ref b1), .val (.int (0 : Int32))] [])) t₀ → Steps p.tables e below (T3.setTop (mkF m 15 #[.val (.int p1), .val (.int p2), .val (.int p3), .val (.int p4), .val (.int p5), .val (.int (2 : Int32)), .unset, .unset] [(.ref b1)])) t₀ := by
      intro t₀ kt
      show Steps p.tables e below (T3.setTop (mkF m 15 #[.val (.int p1), .val (.int p2), .val (.int p3), .val (.int p4), .val (.int p5), .val (.int (2 : Int32)), .unset, .unset] [(.ref b1)])) _
      refine XS.astore X3.here hx rfl (hb hby at_15) rfl rfl (l' := #[.val (.int p1), .val (.int p2), .val (.int p3), .val (.int p4), .val (.int p5), .val (.int (2 : Int32)), .val (.ref b1), .unset]) rfl ?_
      show Steps p.tables e below (T3.setTop (mkF m 17 #[.val (.int p1), .val (.int p2), .val (.int p3), .val (.int p4), .val (.int p5), .val (.int (2 : Int32)), .val (.ref b1), .unset] [])) _
      refine XS.iconst X3.here hx rfl (hb hby at_17) ?_
      show Steps p.tables e below (T3.setTop (mkF m 18 #[.val (.int p1), .val (.int p2), .val (.int p3), .val (.int p4), .val (.int p5), .val (.int (2 : Int32)), .val (.ref b1), .unset] [(.int (0 : Int32))])) _
      refine XS.istore X3.here hx rfl (hb hby at_18) rfl (l' := #[.val (.int p1), .val (.int p2), .val (.int p3), .val (.int p4), .val (.int p5), .val (.int (2 : Int32)), .val (.ref b1), .val (.int (0 : Int32))]) rfl ?_
      exact kt
    have sg21 : ∀ t₀, Steps p.tables e below (T3.setTop (mkF m 28 #[.val (.int p1), .val (.int p2), .val (.int p3), .val (.int p4), .val (.int p5), .val (.int (2 : Int32)), .val (.ref b1), .val (.int (0 : Int32))] [(.int p2), (.ref b1)])) t₀ → Steps p.tables e below (T3.setTop (mkF m 20 #[.val (.int p1), .val (.int p2), .val (.int p3), .val (.int p4), .val (.int p5), .val (.int (2 : Int32)), .val (.ref b1), .val (.int (0 : Int32))] [])) t₀ := by
      intro t₀ kt
      show Steps p.tables e below (T3.setTop (mkF m 20 #[.val (.int p1), .val (.int p2), .val (.int p3), .val (.int p4), .val (.int p5), .val (.int (2 : Int32)), .val (.ref b1), .val (.int (0 : Int32))] [])) _
      refine XS.iload X3.here hx rfl (hb hby at_20) rfl ?_
      show Steps p.tables e below (T3.setTop (mkF m 22 #[.val (.int p1), .val (.int p2), .val (.int p3), .val (.int p4), .val (.int p5), .val (.int (2 : Int32)), .val (.ref b1), .val (.int (0 : Int32))] [(.int (2 : Int32))])) _
      refine XS.ifNo X3.here hx rfl (hb hby at_22) rfl ((if0 _ _).trans (tlt (by decide : (0 : Int32) < (2 : Int32))).2.2.2) ?_
      show Steps p.tables e below (T3.setTop (mkF m 25 #[.val (.int p1), .val (.int p2), .val (.int p3), .val (.int p4), .val (.int p5), .val (.int (2 : Int32)), .val (.ref b1), .val (.int (0 : Int32))] [])) _
      refine XS.aload X3.here hx rfl (hb hby at_25) rfl rfl ?_
      show Steps p.tables e below (T3.setTop (mkF m 27 #[.val (.int p1), .val (.int p2), .val (.int p3), .val (.int p4), .val (.int p5), .val (.int (2 : Int32)), .val (.ref b1), .val (.int (0 : Int32))] [(.ref b1)])) _
      refine XS.iloadN X3.here hx rfl (hb hby at_27) rfl ?_
      exact kt
    obtain ⟨cq22, kq22, q22a, q22b, q22c⟩ := isOf hZ rfl EE0
    obtain ⟨_, _, ⟨T22, L22, k22, n22⟩, -, X22, ⟨Lc22, hQ22, l22, y22, z22⟩, st22⟩ := X3.virtualBack hx (y := (⟨"com/example/conforce/conforce/engine/ByteWriter", "write", "(I)V"⟩ : MethodName)) (z := (⟨"com/example/conforce/conforce/engine/ByteWriter", "write", "(I)V"⟩ : MethodName)) hown (mvT hZ (hw _ (List.mem_of_getElem? (i := 28) rfl))) (mvT hZ (hw _ (List.mem_of_getElem? (i := 29) rfl))) (notFace_of_selects (args := #[]) (mvT hZ (hw _ (List.mem_of_getElem? (i := 31) rfl)))) (mvT hZ (hw _ (List.mem_of_getElem? (i := 31) rfl))) (mvT hZ (hw _ (List.mem_of_getElem? (i := 30) rfl))) (by decide) (backOf (W := 0) (rm5 l Z a0 hw [] b1 p2 t (0 : Int32) (1 : Int32) 0 (fun _ => (0 : Int32)) T3.heap n0 zz0 EE0 g_b1 gt hne FB0 FL0 AA0 (by decide) rfl (by decide)) hZ (hw _ (List.mem_of_getElem? (i := 32) rfl)) (hw _ (List.mem_of_getElem? (i := 3) rfl)) (by decide) (by decide)) q22a q22c (g := (mkF m 28 #[.val (.int p1), .val (.int p2), .val (.int p3), .val (.int p4), .val (.int p5), .val (.int (2 : Int32)), .val (.ref b1), .val (.int (0 : Int32))] [(.int p2), (.ref b1)])) rfl (by rw [hml]; rfl) (Steps.refl _) (argsL := [(.int p2)]) (rest := []) (lenOf pd_3 rfl) rfl (by show 2 * 0 + _ ≤ _; exact Nat.le_of_eq rfl) (hb hby at_28) (fun _ _ => ⟨rfl, rfl, (by decide : 2 + 0 ≤ _), (by decide : 66 + 0 ≤ _)⟩)
    dsimp only [Pt.U, Pt.locs, Pt.cells, Pt.slots] at X22 l22 y22 z22 st22 hQ22
    subst l22 y22 z22
    obtain ⟨rfl, N22q, zz1, EE1, FL1, FB1, AA1⟩ := hQ22
    have N22 := Fr.app N3 N22q
    have sg23 : ∀ t₀, Steps p.tables e below (T22.setTop (mkF m 34 #[.val (.int p1), .val (.int p2), .val (.int p3), .val (.int p4), .val (.int p5), .val (.int (2 : Int32)), .val (.ref b1), .val (.int (0 : Int32))] [(.int p2), (.int (0 : Int32))])) t₀ → Steps p.tables e below (T22.setTop (mkF m 31 #[.val (.int p1), .val (.int p2), .val (.int p3), .val (.int p4), .val (.int p5), .val (.int (2 : Int32)), .val (.ref b1), .val (.int (0 : Int32))] [])) t₀ := by
      intro t₀ kt
      show Steps p.tables e below (T22.setTop (mkF m 31 #[.val (.int p1), .val (.int p2), .val (.int p3), .val (.int p4), .val (.int p5), .val (.int (2 : Int32)), .val (.ref b1), .val (.int (0 : Int32))] [])) _
      refine XS.iload X22.here hx rfl (hb hby at_31) rfl ?_
      show Steps p.tables e below (T22.setTop (mkF m 33 #[.val (.int p1), .val (.int p2), .val (.int p3), .val (.int p4), .val (.int p5), .val (.int (2 : Int32)), .val (.ref b1), .val (.int (0 : Int32))] [(.int (0 : Int32))])) _
      refine XS.iloadN X22.here hx rfl (hb hby at_33) rfl ?_
      exact kt
    obtain ⟨_, _, ⟨T24, L24, k24, n24⟩, -, X24, ⟨Lc24, hQ24, l24, y24, z24⟩, st24⟩ := Jvm.LawKit.callS X22 hx (y := (⟨"com/example/conforce/conforce/engine/ByteWriterHashPinLaw", "fold", "(II)I"⟩ : MethodName)) hown (mvT hZ (hw _ (List.mem_of_getElem? (i := 33) rfl))) (mvT hZ (hw _ (List.mem_of_getElem? (i := 34) rfl))) (mvT hZ (hw _ (List.mem_of_getElem? (i := 24) rfl))) (mvT hZ (hw _ (List.mem_of_getElem? (i := 35) rfl))) (by decide) (backOf (W := 0) (rm6 l Z a0 hw [] (0 : Int32) p2 T22.heap n0 zz1) hZ (hw _ (List.mem_of_getElem? (i := 35) rfl)) (hw _ (List.mem_of_getElem? (i := 24) rfl)) (by decide) (by decide)) (g := (mkF m 34 #[.val (.int p1), .val (.int p2), .val (.int p3), .val (.int p4), .val (.int p5), .val (.int (2 : Int32)), .val (.ref b1), .val (.int (0 : Int32))] [(.int p2), (.int (0 : Int32))])) rfl (by rw [hml]; rfl) (argsL := [(.int (0 : Int32)), (.int p2)]) (rest := []) (lenOf pd_4 rfl) rfl (by show 2 * 0 + _ ≤ _; exact Nat.le_of_eq rfl) (hb hby at_34) (fun _ _ => ⟨rfl, rfl, (by decide : 2 + 0 ≤ _), (by decide : 66 + 0 ≤ _)⟩)
    dsimp only [Pt.U, Pt.locs, Pt.cells, Pt.slots] at X24 l24 y24 z24 st24 hQ24
    subst l24 y24 z24
    obtain ⟨rfl, N24q, hh24⟩ := hQ24
    have N24 := Fr.app N22 N24q
    have sg25 : ∀ t₀, Steps p.tables e below (T24.setTop (mkF m 48 #[.val (.int p1), .val (.int p2), .val (.int p3), .val (.int p4), .val (.int p5), .val (.int (2 : Int32)), .val (.ref b1), .val (.int (((0 : Int32) * (16777619 : Int32)) ^^^ p2.toInt8.toInt32))] [(.int p3), (.ref b1)])) t₀ → Steps p.tables e below (T24.setTop (mkF m 37 #[.val (.int p1), .val (.int p2), .val (.int p3), .val (.int p4), .val (.int p5), .val (.int (2 : Int32)), .val (.ref b1), .val (.int (0 : Int32))] [(.int (((0 : Int32) * (16777619 : Int32)) ^^^ p2.toInt8.toInt32))])) t₀ := by
      intro t₀ kt
      show Steps p.tables e below (T24.setTop (mkF m 37 #[.val (.int p1), .val (.int p2), .val (.int p3), .val (.int p4), .val (.int p5), .val (.int (2 : Int32)), .val (.ref b1), .val (.int (0 : Int32))] [(.int (((0 : Int32) * (16777619 : Int32)) ^^^ p2.toInt8.toInt32))])) _
      refine XS.istore X24.here hx rfl (hb hby at_37) rfl (l' := #[.val (.int p1), .val (.int p2), .val (.int p3), .val (.int p4), .val (.int p5), .val (.int (2 : Int32)), .val (.ref b1), .val (.int (((0 : Int32) * (16777619 : Int32)) ^^^ p2.toInt8.toInt32))]) rfl ?_
      show Steps p.tables e below (T24.setTop (mkF m 39 #[.val (.int p1), .val (.int p2), .val (.int p3), .val (.int p4), .val (.int p5), .val (.int (2 : Int32)), .val (.ref b1), .val (.int (((0 : Int32) * (16777619 : Int32)) ^^^ p2.toInt8.toInt32))] [])) _
      refine XS.iload X24.here hx rfl (hb hby at_39) rfl ?_
      show Steps p.tables e below (T24.setTop (mkF m 41 #[.val (.int p1), .val (.int p2), .val (.int p3), .val (.int p4), .val (.int p5), .val (.int (2 : Int32)), .val (.ref b1), .val (.int (((0 : Int32) * (16777619 : Int32)) ^^^ p2.toInt8.toInt32))] [(.int (2 : Int32))])) _
      refine XS.iconst X24.here hx rfl (hb hby at_41) ?_
      show Steps p.tables e below (T24.setTop (mkF m 42 #[.val (.int p1), .val (.int p2), .val (.int p3), .val (.int p4), .val (.int p5), .val (.int (2 : Int32)), .val (.ref b1), .val (.int (((0 : Int32) * (16777619 : Int32)) ^^^ p2.toInt8.toInt32))] [(.int (1 : Int32)), (.int (2 : Int32))])) _
      refine XS.icmpNo X24.here hx rfl (hb hby at_42) rfl (tlt (by decide : (1 : Int32) < (2 : Int32))).2.2.2 ?_
      show Steps p.tables e below (T24.setTop (mkF m 45 #[.val (.int p1), .val (.int p2), .val (.int p3), .val (.int p4), .val (.int p5), .val (.int (2 : Int32)), .val (.ref b1), .val (.int (((0 : Int32) * (16777619 : Int32)) ^^^ p2.toInt8.toInt32))] [])) _
      refine XS.aload X24.here hx rfl (hb hby at_45) rfl rfl ?_
      show Steps p.tables e below (T24.setTop (mkF m 47 #[.val (.int p1), .val (.int p2), .val (.int p3), .val (.int p4), .val (.int p5), .val (.int (2 : Int32)), .val (.ref b1), .val (.int (((0 : Int32) * (16777619 : Int32)) ^^^ p2.toInt8.toInt32))] [(.ref b1)])) _
      refine XS.iloadN X24.here hx rfl (hb hby at_47) rfl ?_
      exact kt
    obtain ⟨cq26, kq26, q26a, q26b, q26c⟩ := isOf hZ hh24 EE1
    obtain ⟨_, _, ⟨T26, L26, k26, n26⟩, -, X26, ⟨Lc26, hQ26, l26, y26, z26⟩, st26⟩ := X24.virtualBack hx (y := (⟨"com/example/conforce/conforce/engine/ByteWriter", "write", "(I)V"⟩ : MethodName)) (z := (⟨"com/example/conforce/conforce/engine/ByteWriter", "write", "(I)V"⟩ : MethodName)) hown (mvT hZ (hw _ (List.mem_of_getElem? (i := 28) rfl))) (mvT hZ (hw _ (List.mem_of_getElem? (i := 29) rfl))) (notFace_of_selects (args := #[]) (mvT hZ (hw _ (List.mem_of_getElem? (i := 31) rfl)))) (mvT hZ (hw _ (List.mem_of_getElem? (i := 31) rfl))) (mvT hZ (hw _ (List.mem_of_getElem? (i := 30) rfl))) (by decide) (backOf (W := 0) (rm5 l Z a0 hw [] b1 p3 t (1 : Int32) (2 : Int32) 1 (fun i => if i = 0 then p2.toInt8.toInt32 else (fun _ => (0 : Int32)) i) T22.heap n0 zz1 EE1 g_b1 gt hne FB1 FL1 AA1 (by decide) rfl (by decide)) hZ (hw _ (List.mem_of_getElem? (i := 32) rfl)) (hw _ (List.mem_of_getElem? (i := 3) rfl)) (by decide) (by decide)) q26a q26c (g := (mkF m 48 #[.val (.int p1), .val (.int p2), .val (.int p3), .val (.int p4), .val (.int p5), .val (.int (2 : Int32)), .val (.ref b1), .val (.int (((0 : Int32) * (16777619 : Int32)) ^^^ p2.toInt8.toInt32))] [(.int p3), (.ref b1)])) rfl (by rw [hml]; rfl) (Steps.refl _) (argsL := [(.int p3)]) (rest := []) (lenOf pd_3 rfl) rfl (by show 2 * 0 + _ ≤ _; exact Nat.le_of_eq rfl) (hb hby at_48) (fun _ _ => ⟨rfl, hh24, (by decide : 2 + 0 ≤ _), (by decide : 66 + 0 ≤ _)⟩)
    dsimp only [Pt.U, Pt.locs, Pt.cells, Pt.slots] at X26 l26 y26 z26 st26 hQ26
    subst l26 y26 z26
    obtain ⟨rfl, N26q, zz2, EE2, FL2, FB2, AA2⟩ := hQ26
    have N26 := Fr.app N24 N26q
    have sg27 : ∀ t₀, Steps p.tables e below (T26.setTop (mkF m 54 #[.val (.int p1), .val (.int p2), .val (.int p3), .val (.int p4), .val (.int p5), .val (.int (2 : Int32)), .val (.ref b1), .val (.int (((0 : Int32) * (16777619 : Int32)) ^^^ p2.toInt8.toInt32))] [(.int p3), (.int (((0 : Int32) * (16777619 : Int32)) ^^^ p2.toInt8.toInt32))])) t₀ → Steps p.tables e below (T26.setTop (mkF m 51 #[.val (.int p1), .val (.int p2), .val (.int p3), .val (.int p4), .val (.int p5), .val (.int (2 : Int32)), .val (.ref b1), .val (.int (((0 : Int32) * (16777619 : Int32)) ^^^ p2.toInt8.toInt32))] [])) t₀ := by
      intro t₀ kt
      show Steps p.tables e below (T26.setTop (mkF m 51 #[.val (.int p1), .val (.int p2), .val (.int p3), .val (.int p4), .val (.int p5), .val (.int (2 : Int32)), .val (.ref b1), .val (.int (((0 : Int32) * (16777619 : Int32)) ^^^ p2.toInt8.toInt32))] [])) _
      refine XS.iload X26.here hx rfl (hb hby at_51) rfl ?_
      show Steps p.tables e below (T26.setTop (mkF m 53 #[.val (.int p1), .val (.int p2), .val (.int p3), .val (.int p4), .val (.int p5), .val (.int (2 : Int32)), .val (.ref b1), .val (.int (((0 : Int32) * (16777619 : Int32)) ^^^ p2.toInt8.toInt32))] [(.int (((0 : Int32) * (16777619 : Int32)) ^^^ p2.toInt8.toInt32))])) _
      refine XS.iloadN X26.here hx rfl (hb hby at_53) rfl ?_
      exact kt
    obtain ⟨_, _, ⟨T28, L28, k28, n28⟩, -, X28, ⟨Lc28, hQ28, l28, y28, z28⟩, st28⟩ := Jvm.LawKit.callS X26 hx (y := (⟨"com/example/conforce/conforce/engine/ByteWriterHashPinLaw", "fold", "(II)I"⟩ : MethodName)) hown (mvT hZ (hw _ (List.mem_of_getElem? (i := 33) rfl))) (mvT hZ (hw _ (List.mem_of_getElem? (i := 34) rfl))) (mvT hZ (hw _ (List.mem_of_getElem? (i := 24) rfl))) (mvT hZ (hw _ (List.mem_of_getElem? (i := 35) rfl))) (by decide) (backOf (W := 0) (rm6 l Z a0 hw [] (((0 : Int32) * (16777619 : Int32)) ^^^ p2.toInt8.toInt32) p3 T26.heap n0 zz2) hZ (hw _ (List.mem_of_getElem? (i := 35) rfl)) (hw _ (List.mem_of_getElem? (i := 24) rfl)) (by decide) (by decide)) (g := (mkF m 54 #[.val (.int p1), .val (.int p2), .val (.int p3), .val (.int p4), .val (.int p5), .val (.int (2 : Int32)), .val (.ref b1), .val (.int (((0 : Int32) * (16777619 : Int32)) ^^^ p2.toInt8.toInt32))] [(.int p3), (.int (((0 : Int32) * (16777619 : Int32)) ^^^ p2.toInt8.toInt32))])) rfl (by rw [hml]; rfl) (argsL := [(.int (((0 : Int32) * (16777619 : Int32)) ^^^ p2.toInt8.toInt32)), (.int p3)]) (rest := []) (lenOf pd_4 rfl) rfl (by show 2 * 0 + _ ≤ _; exact Nat.le_of_eq rfl) (hb hby at_54) (fun _ _ => ⟨rfl, rfl, (by decide : 2 + 0 ≤ _), (by decide : 66 + 0 ≤ _)⟩)
    dsimp only [Pt.U, Pt.locs, Pt.cells, Pt.slots] at X28 l28 y28 z28 st28 hQ28
    subst l28 y28 z28
    obtain ⟨rfl, N28q, hh28⟩ := hQ28
    have N28 := Fr.app N26 N28q
    have sg29 : ∀ t₀, Steps p.tables e below (T28.setTop (mkF m 103 #[.val (.int p1), .val (.int p2), .val (.int p3), .val (.int p4), .val (.int p5), .val (.int (2 : Int32)), .val (.ref b1), .val (.int (((((0 : Int32) * (16777619 : Int32)) ^^^ p2.toInt8.toInt32) * (16777619 : Int32)) ^^^ p3.toInt8.toInt32))] [(.ref b1)])) t₀ → Steps p.tables e below (T28.setTop (mkF m 57 #[.val (.int p1), .val (.int p2), .val (.int p3), .val (.int p4), .val (.int p5), .val (.int (2 : Int32)), .val (.ref b1), .val (.int (((0 : Int32) * (16777619 : Int32)) ^^^ p2.toInt8.toInt32))] [(.int (((((0 : Int32) * (16777619 : Int32)) ^^^ p2.toInt8.toInt32) * (16777619 : Int32)) ^^^ p3.toInt8.toInt32))])) t₀ := by
      intro t₀ kt
      show Steps p.tables e below (T28.setTop (mkF m 57 #[.val (.int p1), .val (.int p2), .val (.int p3), .val (.int p4), .val (.int p5), .val (.int (2 : Int32)), .val (.ref b1), .val (.int (((0 : Int32) * (16777619 : Int32)) ^^^ p2.toInt8.toInt32))] [(.int (((((0 : Int32) * (16777619 : Int32)) ^^^ p2.toInt8.toInt32) * (16777619 : Int32)) ^^^ p3.toInt8.toInt32))])) _
      refine XS.istore X28.here hx rfl (hb hby at_57) rfl (l' := #[.val (.int p1), .val (.int p2), .val (.int p3), .val (.int p4), .val (.int p5), .val (.int (2 : Int32)), .val (.ref b1), .val (.int (((((0 : Int32) * (16777619 : Int32)) ^^^ p2.toInt8.toInt32) * (16777619 : Int32)) ^^^ p3.toInt8.toInt32))]) rfl ?_
      show Steps p.tables e below (T28.setTop (mkF m 59 #[.val (.int p1), .val (.int p2), .val (.int p3), .val (.int p4), .val (.int p5), .val (.int (2 : Int32)), .val (.ref b1), .val (.int (((((0 : Int32) * (16777619 : Int32)) ^^^ p2.toInt8.toInt32) * (16777619 : Int32)) ^^^ p3.toInt8.toInt32))] [])) _
      refine XS.iload X28.here hx rfl (hb hby at_59) rfl ?_
      show Steps p.tables e below (T28.setTop (mkF m 61 #[.val (.int p1), .val (.int p2), .val (.int p3), .val (.int p4), .val (.int p5), .val (.int (2 : Int32)), .val (.ref b1), .val (.int (((((0 : Int32) * (16777619 : Int32)) ^^^ p2.toInt8.toInt32) * (16777619 : Int32)) ^^^ p3.toInt8.toInt32))] [(.int (2 : Int32))])) _
      refine XS.iconst X28.here hx rfl (hb hby at_61) ?_
      show Steps p.tables e below (T28.setTop (mkF m 62 #[.val (.int p1), .val (.int p2), .val (.int p3), .val (.int p4), .val (.int p5), .val (.int (2 : Int32)), .val (.ref b1), .val (.int (((((0 : Int32) * (16777619 : Int32)) ^^^ p2.toInt8.toInt32) * (16777619 : Int32)) ^^^ p3.toInt8.toInt32))] [(.int (2 : Int32)), (.int (2 : Int32))])) _
      refine XS.icmpYes X28.here hx rfl (pc0 := 62) (pc' := 79) rfl (hb hby at_62) rfl (flt (by decide : ¬ ((2 : Int32) < (2 : Int32)))).2.2.2 (by decide) (by decide) ?_
      show Steps p.tables e below (T28.setTop (mkF m 79 #[.val (.int p1), .val (.int p2), .val (.int p3), .val (.int p4), .val (.int p5), .val (.int (2 : Int32)), .val (.ref b1), .val (.int (((((0 : Int32) * (16777619 : Int32)) ^^^ p2.toInt8.toInt32) * (16777619 : Int32)) ^^^ p3.toInt8.toInt32))] [])) _
      refine XS.iload X28.here hx rfl (hb hby at_79) rfl ?_
      show Steps p.tables e below (T28.setTop (mkF m 81 #[.val (.int p1), .val (.int p2), .val (.int p3), .val (.int p4), .val (.int p5), .val (.int (2 : Int32)), .val (.ref b1), .val (.int (((((0 : Int32) * (16777619 : Int32)) ^^^ p2.toInt8.toInt32) * (16777619 : Int32)) ^^^ p3.toInt8.toInt32))] [(.int (2 : Int32))])) _
      refine XS.iconst X28.here hx rfl (hb hby at_81) ?_
      show Steps p.tables e below (T28.setTop (mkF m 82 #[.val (.int p1), .val (.int p2), .val (.int p3), .val (.int p4), .val (.int p5), .val (.int (2 : Int32)), .val (.ref b1), .val (.int (((((0 : Int32) * (16777619 : Int32)) ^^^ p2.toInt8.toInt32) * (16777619 : Int32)) ^^^ p3.toInt8.toInt32))] [(.int (3 : Int32)), (.int (2 : Int32))])) _
      refine XS.icmpYes X28.here hx rfl (pc0 := 82) (pc' := 101) rfl (hb hby at_82) rfl (flt (by decide : ¬ ((3 : Int32) < (2 : Int32)))).2.2.2 (by decide) (by decide) ?_
      show Steps p.tables e below (T28.setTop (mkF m 101 #[.val (.int p1), .val (.int p2), .val (.int p3), .val (.int p4), .val (.int p5), .val (.int (2 : Int32)), .val (.ref b1), .val (.int (((((0 : Int32) * (16777619 : Int32)) ^^^ p2.toInt8.toInt32) * (16777619 : Int32)) ^^^ p3.toInt8.toInt32))] [])) _
      refine XS.aload X28.here hx rfl (hb hby at_101) rfl rfl ?_
      exact kt
    obtain ⟨cq30, kq30, q30a, q30b, q30c⟩ := isOf hZ hh28 EE2
    obtain ⟨_, _, ⟨T30, L30, k30, n30⟩, -, X30, ⟨Lc30, hQ30, l30, y30, z30⟩, st30⟩ := X28.virtualBack hx (y := (⟨"com/example/conforce/conforce/engine/ByteWriter", "hash", "()I"⟩ : MethodName)) (z := (⟨"com/example/conforce/conforce/engine/ByteWriter", "hash", "()I"⟩ : MethodName)) hown (mvT hZ (hw _ (List.mem_of_getElem? (i := 13) rfl))) (mvT hZ (hw _ (List.mem_of_getElem? (i := 14) rfl))) (notFace_of_selects (args := #[]) (mvT hZ (hw _ (List.mem_of_getElem? (i := 16) rfl)))) (mvT hZ (hw _ (List.mem_of_getElem? (i := 16) rfl))) (mvT hZ (hw _ (List.mem_of_getElem? (i := 15) rfl))) (by decide) (backOf (W := 0) (rm3 l Z a0 hw [] b1 t 2 (fun i => if i = 1 then p3.toInt8.toInt32 else (fun i => if i = 0 then p2.toInt8.toInt32 else (fun _ => (0 : Int32)) i) i) T26.heap n0 zz2 (by decide) FB2 FL2 AA2) hZ (hw _ (List.mem_of_getElem? (i := 17) rfl)) (hw _ (List.mem_of_getElem? (i := 3) rfl)) (by decide) (by decide)) q30a q30c (g := (mkF m 103 #[.val (.int p1), .val (.int p2), .val (.int p3), .val (.int p4), .val (.int p5), .val (.int (2 : Int32)), .val (.ref b1), .val (.int (((((0 : Int32) * (16777619 : Int32)) ^^^ p2.toInt8.toInt32) * (16777619 : Int32)) ^^^ p3.toInt8.toInt32))] [(.ref b1)])) rfl (by rw [hml]; rfl) (Steps.refl _) (argsL := []) (rest := []) (lenOf pd_0 rfl) rfl (by show 2 * 0 + _ ≤ _; exact Nat.le_of_eq rfl) (hb hby at_103) (fun _ _ => ⟨rfl, hh28, (by decide : 2 + 0 ≤ _), (by decide : 66 + 0 ≤ _)⟩)
    dsimp only [Pt.U, Pt.locs, Pt.cells, Pt.slots] at X30 l30 y30 z30 st30 hQ30
    subst l30 y30 z30
    obtain ⟨rfl, N30q, hh30⟩ := hQ30
    have N30 := Fr.app N28 N30q
    have sg31 : ∀ t₀, Steps p.tables e below (T30.setTop (mkF m 108 #[.val (.int p1), .val (.int p2), .val (.int p3), .val (.int p4), .val (.int p5), .val (.int (2 : Int32)), .val (.ref b1), .val (.int (((((0 : Int32) * (16777619 : Int32)) ^^^ p2.toInt8.toInt32) * (16777619 : Int32)) ^^^ p3.toInt8.toInt32))] [(.int (((((0 : Int32) * (16777619 : Int32)) ^^^ p2.toInt8.toInt32) * (16777619 : Int32)) ^^^ p3.toInt8.toInt32)), (.int (own_mix (own_h (fun i => if i = 1 then p3.toInt8.toInt32 else (fun i => if i = 0 then p2.toInt8.toInt32 else (fun _ => (0 : Int32)) i) i) 2 0 0)))])) t₀ → Steps p.tables e below (T30.setTop (mkF m 106 #[.val (.int p1), .val (.int p2), .val (.int p3), .val (.int p4), .val (.int p5), .val (.int (2 : Int32)), .val (.ref b1), .val (.int (((((0 : Int32) * (16777619 : Int32)) ^^^ p2.toInt8.toInt32) * (16777619 : Int32)) ^^^ p3.toInt8.toInt32))] [(.int (own_mix (own_h (fun i => if i = 1 then p3.toInt8.toInt32 else (fun i => if i = 0 then p2.toInt8.toInt32 else (fun _ => (0 : Int32)) i) i) 2 0 0)))])) t₀ := by
      intro t₀ kt
      show Steps p.tables e below (T30.setTop (mkF m 106 #[.val (.int p1), .val (.int p2), .val (.int p3), .val (.int p4), .val (.int p5), .val (.int (2 : Int32)), .val (.ref b1), .val (.int (((((0 : Int32) * (16777619 : Int32)) ^^^ p2.toInt8.toInt32) * (16777619 : Int32)) ^^^ p3.toInt8.toInt32))] [(.int (own_mix (own_h (fun i => if i = 1 then p3.toInt8.toInt32 else (fun i => if i = 0 then p2.toInt8.toInt32 else (fun _ => (0 : Int32)) i) i) 2 0 0)))])) _
      refine XS.iload X30.here hx rfl (hb hby at_106) rfl ?_
      exact kt
    have hH : own_h (fun i => if i = 1 then p3.toInt8.toInt32 else (fun i => if i = 0 then p2.toInt8.toInt32 else (fun _ => (0 : Int32)) i) i) 2 0 0 = (((((0 : Int32) * (16777619 : Int32)) ^^^ p2.toInt8.toInt32) * (16777619 : Int32)) ^^^ p3.toInt8.toInt32) := by rfl
    obtain ⟨_, _, ⟨T32, L32, k32, n32⟩, -, X32, ⟨Lc32, hQ32, l32, y32, z32⟩, st32⟩ := Jvm.LawKit.callS X30 hx (y := (⟨"com/example/conforce/conforce/engine/ByteWriterHashPinLaw", "fmix", "(I)I"⟩ : MethodName)) hown (mvT hZ (hw _ (List.mem_of_getElem? (i := 22) rfl))) (mvT hZ (hw _ (List.mem_of_getElem? (i := 23) rfl))) (mvT hZ (hw _ (List.mem_of_getElem? (i := 24) rfl))) (mvT hZ (hw _ (List.mem_of_getElem? (i := 25) rfl))) (by decide) (backOf (W := 1) (rm4 l Z a0 hw [] (((((0 : Int32) * (16777619 : Int32)) ^^^ p2.toInt8.toInt32) * (16777619 : Int32)) ^^^ p3.toInt8.toInt32) T26.heap n0 zz2) hZ (hw _ (List.mem_of_getElem? (i := 25) rfl)) (hw _ (List.mem_of_getElem? (i := 24) rfl)) (by decide) (by decide)) (g := (mkF m 108 #[.val (.int p1), .val (.int p2), .val (.int p3), .val (.int p4), .val (.int p5), .val (.int (2 : Int32)), .val (.ref b1), .val (.int (((((0 : Int32) * (16777619 : Int32)) ^^^ p2.toInt8.toInt32) * (16777619 : Int32)) ^^^ p3.toInt8.toInt32))] [(.int (((((0 : Int32) * (16777619 : Int32)) ^^^ p2.toInt8.toInt32) * (16777619 : Int32)) ^^^ p3.toInt8.toInt32)), (.int (own_mix (own_h (fun i => if i = 1 then p3.toInt8.toInt32 else (fun i => if i = 0 then p2.toInt8.toInt32 else (fun _ => (0 : Int32)) i) i) 2 0 0)))])) rfl (by rw [hml]; rfl) (argsL := [(.int (((((0 : Int32) * (16777619 : Int32)) ^^^ p2.toInt8.toInt32) * (16777619 : Int32)) ^^^ p3.toInt8.toInt32))]) (rest := [(.int (own_mix (own_h (fun i => if i = 1 then p3.toInt8.toInt32 else (fun i => if i = 0 then p2.toInt8.toInt32 else (fun _ => (0 : Int32)) i) i) 2 0 0)))]) (lenOf pd_2 rfl) rfl (by show 2 * 0 + _ ≤ _; exact Nat.le_of_eq rfl) (hb hby at_108) (fun _ _ => ⟨rfl, hh30, (by decide : 2 + 0 ≤ _), (by decide : 66 + 0 ≤ _)⟩)
    dsimp only [Pt.U, Pt.locs, Pt.cells, Pt.slots] at X32 l32 y32 z32 st32 hQ32
    subst l32 y32 z32
    obtain ⟨rfl, N32q, hh32⟩ := hQ32
    have N32 := Fr.app N30 N32q
    have sg33 : ∀ t₀, Steps p.tables e below (T32.setTop (mkF m 119 #[.val (.int p1), .val (.int p2), .val (.int p3), .val (.int p4), .val (.int p5), .val (.int (2 : Int32)), .val (.ref b1), .val (.int (((((0 : Int32) * (16777619 : Int32)) ^^^ p2.toInt8.toInt32) * (16777619 : Int32)) ^^^ p3.toInt8.toInt32))] [(.int (1 : Int32))])) t₀ → Steps p.tables e below (T32.setTop (mkF m 111 #[.val (.int p1), .val (.int p2), .val (.int p3), .val (.int p4), .val (.int p5), .val (.int (2 : Int32)), .val (.ref b1), .val (.int (((((0 : Int32) * (16777619 : Int32)) ^^^ p2.toInt8.toInt32) * (16777619 : Int32)) ^^^ p3.toInt8.toInt32))] [(.int (own_mix (((((0 : Int32) * (16777619 : Int32)) ^^^ p2.toInt8.toInt32) * (16777619 : Int32)) ^^^ p3.toInt8.toInt32))), (.int (own_mix (own_h (fun i => if i = 1 then p3.toInt8.toInt32 else (fun i => if i = 0 then p2.toInt8.toInt32 else (fun _ => (0 : Int32)) i) i) 2 0 0)))])) t₀ := by
      intro t₀ kt
      show Steps p.tables e below (T32.setTop (mkF m 111 #[.val (.int p1), .val (.int p2), .val (.int p3), .val (.int p4), .val (.int p5), .val (.int (2 : Int32)), .val (.ref b1), .val (.int (((((0 : Int32) * (16777619 : Int32)) ^^^ p2.toInt8.toInt32) * (16777619 : Int32)) ^^^ p3.toInt8.toInt32))] [(.int (own_mix (((((0 : Int32) * (16777619 : Int32)) ^^^ p2.toInt8.toInt32) * (16777619 : Int32)) ^^^ p3.toInt8.toInt32))), (.int (own_mix (own_h (fun i => if i = 1 then p3.toInt8.toInt32 else (fun i => if i = 0 then p2.toInt8.toInt32 else (fun _ => (0 : Int32)) i) i) 2 0 0)))])) _
      refine XS.icmpNo X32.here hx rfl (hb hby at_111) rfl (teq (congrArg own_mix hH)).2 ?_
      show Steps p.tables e below (T32.setTop (mkF m 114 #[.val (.int p1), .val (.int p2), .val (.int p3), .val (.int p4), .val (.int p5), .val (.int (2 : Int32)), .val (.ref b1), .val (.int (((((0 : Int32) * (16777619 : Int32)) ^^^ p2.toInt8.toInt32) * (16777619 : Int32)) ^^^ p3.toInt8.toInt32))] [])) _
      refine XS.iconst X32.here hx rfl (hb hby at_114) ?_
      show Steps p.tables e below (T32.setTop (mkF m 115 #[.val (.int p1), .val (.int p2), .val (.int p3), .val (.int p4), .val (.int p5), .val (.int (2 : Int32)), .val (.ref b1), .val (.int (((((0 : Int32) * (16777619 : Int32)) ^^^ p2.toInt8.toInt32) * (16777619 : Int32)) ^^^ p3.toInt8.toInt32))] [(.int (1 : Int32))])) _
      refine XS.goto X32.here hx rfl (pc0 := 115) (pc' := 119) rfl (hb hby at_115) (by decide) (by decide) ?_
      exact kt
    obtain ⟨fs, hr, hrun, hended, hW, hsame⟩ := X32.leave (v := some (.int (1 : Int32))) (fun h => by rw [Bd.returns] at h; cases h)
    refine ⟨_, _, pre0 _ ?_, hrun, hended, _, _, rfl, ?_, ⟨_, rfl⟩, hW, hsame.mono (by decide) (by decide)⟩
    · exact sq _ (st1 _ (sg2 _ (st3.trans (sg20 _ (sg21 _ (st22.trans (sg23 _ (st24 _ (sg25 _ (st26.trans (sg27 _ (st28 _ (sg29 _ (st30.trans (sg31 _ (st32 _ (sg33 _ ((retN X32 hx (t := .boolean) Bd.returns (by simp) (hb hby at_119) hr)))))))))))))))))))
    · show Q0 Z p1 p2 p3 p4 p5 h0 n0 _ T32.heap _
      rw [hh32]
      exact ⟨rfl, N32⟩
  · have sg34 : ∀ t₀, Steps p.tables e below (T3.setTop (mkF m 20 #[.val (.int p1), .val (.int p2), .val (.int p3), .val (.int p4), .val (.int p5), .val (.int (3 : Int32)), .val (.ref b1), .val (.int (0 : Int32))] [])) t₀ → Steps p.tables e below (T3.setTop (mkF m 15 #[.val (.int p1), .val (.int p2), .val (.int p3), .val (.int p4), .val (.int p5), .val (.int (3 : Int32)), .unset, .unset] [(.ref b1)])) t₀ := by
      intro t₀ kt
      show Steps p.tables e below (T3.setTop (mkF m 15 #[.val (.int p1), .val (.int p2), .val (.int p3), .val (.int p4), .val (.int p5), .val (.int (3 : Int32)), .unset, .unset] [(.ref b1)])) _
      refine XS.astore X3.here hx rfl (hb hby at_15) rfl rfl (l' := #[.val (.int p1), .val (.int p2), .val (.int p3), .val (.int p4), .val (.int p5), .val (.int (3 : Int32)), .val (.ref b1), .unset]) rfl ?_
      show Steps p.tables e below (T3.setTop (mkF m 17 #[.val (.int p1), .val (.int p2), .val (.int p3), .val (.int p4), .val (.int p5), .val (.int (3 : Int32)), .val (.ref b1), .unset] [])) _
      refine XS.iconst X3.here hx rfl (hb hby at_17) ?_
      show Steps p.tables e below (T3.setTop (mkF m 18 #[.val (.int p1), .val (.int p2), .val (.int p3), .val (.int p4), .val (.int p5), .val (.int (3 : Int32)), .val (.ref b1), .unset] [(.int (0 : Int32))])) _
      refine XS.istore X3.here hx rfl (hb hby at_18) rfl (l' := #[.val (.int p1), .val (.int p2), .val (.int p3), .val (.int p4), .val (.int p5), .val (.int (3 : Int32)), .val (.ref b1), .val (.int (0 : Int32))]) rfl ?_
      exact kt
    have sg35 : ∀ t₀, Steps p.tables e below (T3.setTop (mkF m 28 #[.val (.int p1), .val (.int p2), .val (.int p3), .val (.int p4), .val (.int p5), .val (.int (3 : Int32)), .val (.ref b1), .val (.int (0 : Int32))] [(.int p2), (.ref b1)])) t₀ → Steps p.tables e below (T3.setTop (mkF m 20 #[.val (.int p1), .val (.int p2), .val (.int p3), .val (.int p4), .val (.int p5), .val (.int (3 : Int32)), .val (.ref b1), .val (.int (0 : Int32))] [])) t₀ := by
      intro t₀ kt
      show Steps p.tables e below (T3.setTop (mkF m 20 #[.val (.int p1), .val (.int p2), .val (.int p3), .val (.int p4), .val (.int p5), .val (.int (3 : Int32)), .val (.ref b1), .val (.int (0 : Int32))] [])) _
      refine XS.iload X3.here hx rfl (hb hby at_20) rfl ?_
      show Steps p.tables e below (T3.setTop (mkF m 22 #[.val (.int p1), .val (.int p2), .val (.int p3), .val (.int p4), .val (.int p5), .val (.int (3 : Int32)), .val (.ref b1), .val (.int (0 : Int32))] [(.int (3 : Int32))])) _
      refine XS.ifNo X3.here hx rfl (hb hby at_22) rfl ((if0 _ _).trans (tlt (by decide : (0 : Int32) < (3 : Int32))).2.2.2) ?_
      show Steps p.tables e below (T3.setTop (mkF m 25 #[.val (.int p1), .val (.int p2), .val (.int p3), .val (.int p4), .val (.int p5), .val (.int (3 : Int32)), .val (.ref b1), .val (.int (0 : Int32))] [])) _
      refine XS.aload X3.here hx rfl (hb hby at_25) rfl rfl ?_
      show Steps p.tables e below (T3.setTop (mkF m 27 #[.val (.int p1), .val (.int p2), .val (.int p3), .val (.int p4), .val (.int p5), .val (.int (3 : Int32)), .val (.ref b1), .val (.int (0 : Int32))] [(.ref b1)])) _
      refine XS.iloadN X3.here hx rfl (hb hby at_27) rfl ?_
      exact kt
    obtain ⟨cq36, kq36, q36a, q36b, q36c⟩ := isOf hZ rfl EE0
    obtain ⟨_, _, ⟨T36, L36, k36, n36⟩, -, X36, ⟨Lc36, hQ36, l36, y36, z36⟩, st36⟩ := X3.virtualBack hx (y := (⟨"com/example/conforce/conforce/engine/ByteWriter", "write", "(I)V"⟩ : MethodName)) (z := (⟨"com/example/conforce/conforce/engine/ByteWriter", "write", "(I)V"⟩ : MethodName)) hown (mvT hZ (hw _ (List.mem_of_getElem? (i := 28) rfl))) (mvT hZ (hw _ (List.mem_of_getElem? (i := 29) rfl))) (notFace_of_selects (args := #[]) (mvT hZ (hw _ (List.mem_of_getElem? (i := 31) rfl)))) (mvT hZ (hw _ (List.mem_of_getElem? (i := 31) rfl))) (mvT hZ (hw _ (List.mem_of_getElem? (i := 30) rfl))) (by decide) (backOf (W := 0) (rm5 l Z a0 hw [] b1 p2 t (0 : Int32) (1 : Int32) 0 (fun _ => (0 : Int32)) T3.heap n0 zz0 EE0 g_b1 gt hne FB0 FL0 AA0 (by decide) rfl (by decide)) hZ (hw _ (List.mem_of_getElem? (i := 32) rfl)) (hw _ (List.mem_of_getElem? (i := 3) rfl)) (by decide) (by decide)) q36a q36c (g := (mkF m 28 #[.val (.int p1), .val (.int p2), .val (.int p3), .val (.int p4), .val (.int p5), .val (.int (3 : Int32)), .val (.ref b1), .val (.int (0 : Int32))] [(.int p2), (.ref b1)])) rfl (by rw [hml]; rfl) (Steps.refl _) (argsL := [(.int p2)]) (rest := []) (lenOf pd_3 rfl) rfl (by show 2 * 0 + _ ≤ _; exact Nat.le_of_eq rfl) (hb hby at_28) (fun _ _ => ⟨rfl, rfl, (by decide : 2 + 0 ≤ _), (by decide : 66 + 0 ≤ _)⟩)
    dsimp only [Pt.U, Pt.locs, Pt.cells, Pt.slots] at X36 l36 y36 z36 st36 hQ36
    subst l36 y36 z36
    obtain ⟨rfl, N36q, zz1, EE1, FL1, FB1, AA1⟩ := hQ36
    have N36 := Fr.app N3 N36q
    have sg37 : ∀ t₀, Steps p.tables e below (T36.setTop (mkF m 34 #[.val (.int p1), .val (.int p2), .val (.int p3), .val (.int p4), .val (.int p5), .val (.int (3 : Int32)), .val (.ref b1), .val (.int (0 : Int32))] [(.int p2), (.int (0 : Int32))])) t₀ → Steps p.tables e below (T36.setTop (mkF m 31 #[.val (.int p1), .val (.int p2), .val (.int p3), .val (.int p4), .val (.int p5), .val (.int (3 : Int32)), .val (.ref b1), .val (.int (0 : Int32))] [])) t₀ := by
      intro t₀ kt
      show Steps p.tables e below (T36.setTop (mkF m 31 #[.val (.int p1), .val (.int p2), .val (.int p3), .val (.int p4), .val (.int p5), .val (.int (3 : Int32)), .val (.ref b1), .val (.int (0 : Int32))] [])) _
      refine XS.iload X36.here hx rfl (hb hby at_31) rfl ?_
      show Steps p.tables e below (T36.setTop (mkF m 33 #[.val (.int p1), .val (.int p2), .val (.int p3), .val (.int p4), .val (.int p5), .val (.int (3 : Int32)), .val (.ref b1), .val (.int (0 : Int32))] [(.int (0 : Int32))])) _
      refine XS.iloadN X36.here hx rfl (hb hby at_33) rfl ?_
      exact kt
    obtain ⟨_, _, ⟨T38, L38, k38, n38⟩, -, X38, ⟨Lc38, hQ38, l38, y38, z38⟩, st38⟩ := Jvm.LawKit.callS X36 hx (y := (⟨"com/example/conforce/conforce/engine/ByteWriterHashPinLaw", "fold", "(II)I"⟩ : MethodName)) hown (mvT hZ (hw _ (List.mem_of_getElem? (i := 33) rfl))) (mvT hZ (hw _ (List.mem_of_getElem? (i := 34) rfl))) (mvT hZ (hw _ (List.mem_of_getElem? (i := 24) rfl))) (mvT hZ (hw _ (List.mem_of_getElem? (i := 35) rfl))) (by decide) (backOf (W := 0) (rm6 l Z a0 hw [] (0 : Int32) p2 T36.heap n0 zz1) hZ (hw _ (List.mem_of_getElem? (i := 35) rfl)) (hw _ (List.mem_of_getElem? (i := 24) rfl)) (by decide) (by decide)) (g := (mkF m 34 #[.val (.int p1), .val (.int p2), .val (.int p3), .val (.int p4), .val (.int p5), .val (.int (3 : Int32)), .val (.ref b1), .val (.int (0 : Int32))] [(.int p2), (.int (0 : Int32))])) rfl (by rw [hml]; rfl) (argsL := [(.int (0 : Int32)), (.int p2)]) (rest := []) (lenOf pd_4 rfl) rfl (by show 2 * 0 + _ ≤ _; exact Nat.le_of_eq rfl) (hb hby at_34) (fun _ _ => ⟨rfl, rfl, (by decide : 2 + 0 ≤ _), (by decide : 66 + 0 ≤ _)⟩)
    dsimp only [Pt.U, Pt.locs, Pt.cells, Pt.slots] at X38 l38 y38 z38 st38 hQ38
    subst l38 y38 z38
    obtain ⟨rfl, N38q, hh38⟩ := hQ38
    have N38 := Fr.app N36 N38q
    have sg39 : ∀ t₀, Steps p.tables e below (T38.setTop (mkF m 48 #[.val (.int p1), .val (.int p2), .val (.int p3), .val (.int p4), .val (.int p5), .val (.int (3 : Int32)), .val (.ref b1), .val (.int (((0 : Int32) * (16777619 : Int32)) ^^^ p2.toInt8.toInt32))] [(.int p3), (.ref b1)])) t₀ → Steps p.tables e below (T38.setTop (mkF m 37 #[.val (.int p1), .val (.int p2), .val (.int p3), .val (.int p4), .val (.int p5), .val (.int (3 : Int32)), .val (.ref b1), .val (.int (0 : Int32))] [(.int (((0 : Int32) * (16777619 : Int32)) ^^^ p2.toInt8.toInt32))])) t₀ := by
      intro t₀ kt
      show Steps p.tables e below (T38.setTop (mkF m 37 #[.val (.int p1), .val (.int p2), .val (.int p3), .val (.int p4), .val (.int p5), .val (.int (3 : Int32)), .val (.ref b1), .val (.int (0 : Int32))] [(.int (((0 : Int32) * (16777619 : Int32)) ^^^ p2.toInt8.toInt32))])) _
      refine XS.istore X38.here hx rfl (hb hby at_37) rfl (l' := #[.val (.int p1), .val (.int p2), .val (.int p3), .val (.int p4), .val (.int p5), .val (.int (3 : Int32)), .val (.ref b1), .val (.int (((0 : Int32) * (16777619 : Int32)) ^^^ p2.toInt8.toInt32))]) rfl ?_
      show Steps p.tables e below (T38.setTop (mkF m 39 #[.val (.int p1), .val (.int p2), .val (.int p3), .val (.int p4), .val (.int p5), .val (.int (3 : Int32)), .val (.ref b1), .val (.int (((0 : Int32) * (16777619 : Int32)) ^^^ p2.toInt8.toInt32))] [])) _
      refine XS.iload X38.here hx rfl (hb hby at_39) rfl ?_
      show Steps p.tables e below (T38.setTop (mkF m 41 #[.val (.int p1), .val (.int p2), .val (.int p3), .val (.int p4), .val (.int p5), .val (.int (3 : Int32)), .val (.ref b1), .val (.int (((0 : Int32) * (16777619 : Int32)) ^^^ p2.toInt8.toInt32))] [(.int (3 : Int32))])) _
      refine XS.iconst X38.here hx rfl (hb hby at_41) ?_
      show Steps p.tables e below (T38.setTop (mkF m 42 #[.val (.int p1), .val (.int p2), .val (.int p3), .val (.int p4), .val (.int p5), .val (.int (3 : Int32)), .val (.ref b1), .val (.int (((0 : Int32) * (16777619 : Int32)) ^^^ p2.toInt8.toInt32))] [(.int (1 : Int32)), (.int (3 : Int32))])) _
      refine XS.icmpNo X38.here hx rfl (hb hby at_42) rfl (tlt (by decide : (1 : Int32) < (3 : Int32))).2.2.2 ?_
      show Steps p.tables e below (T38.setTop (mkF m 45 #[.val (.int p1), .val (.int p2), .val (.int p3), .val (.int p4), .val (.int p5), .val (.int (3 : Int32)), .val (.ref b1), .val (.int (((0 : Int32) * (16777619 : Int32)) ^^^ p2.toInt8.toInt32))] [])) _
      refine XS.aload X38.here hx rfl (hb hby at_45) rfl rfl ?_
      show Steps p.tables e below (T38.setTop (mkF m 47 #[.val (.int p1), .val (.int p2), .val (.int p3), .val (.int p4), .val (.int p5), .val (.int (3 : Int32)), .val (.ref b1), .val (.int (((0 : Int32) * (16777619 : Int32)) ^^^ p2.toInt8.toInt32))] [(.ref b1)])) _
      refine XS.iloadN X38.here hx rfl (hb hby at_47) rfl ?_
      exact kt
    obtain ⟨cq40, kq40, q40a, q40b, q40c⟩ := isOf hZ hh38 EE1
    obtain ⟨_, _, ⟨T40, L40, k40, n40⟩, -, X40, ⟨Lc40, hQ40, l40, y40, z40⟩, st40⟩ := X38.virtualBack hx (y := (⟨"com/example/conforce/conforce/engine/ByteWriter", "write", "(I)V"⟩ : MethodName)) (z := (⟨"com/example/conforce/conforce/engine/ByteWriter", "write", "(I)V"⟩ : MethodName)) hown (mvT hZ (hw _ (List.mem_of_getElem? (i := 28) rfl))) (mvT hZ (hw _ (List.mem_of_getElem? (i := 29) rfl))) (notFace_of_selects (args := #[]) (mvT hZ (hw _ (List.mem_of_getElem? (i := 31) rfl)))) (mvT hZ (hw _ (List.mem_of_getElem? (i := 31) rfl))) (mvT hZ (hw _ (List.mem_of_getElem? (i := 30) rfl))) (by decide) (backOf (W := 0) (rm5 l Z a0 hw [] b1 p3 t (1 : Int32) (2 : Int32) 1 (fun i => if i = 0 then p2.toInt8.toInt32 else (fun _ => (0 : Int32)) i) T36.heap n0 zz1 EE1 g_b1 gt hne FB1 FL1 AA1 (by decide) rfl (by decide)) hZ (hw _ (List.mem_of_getElem? (i := 32) rfl)) (hw _ (List.mem_of_getElem? (i := 3) rfl)) (by decide) (by decide)) q40a q40c (g := (mkF m 48 #[.val (.int p1), .val (.int p2), .val (.int p3), .val (.int p4), .val (.int p5), .val (.int (3 : Int32)), .val (.ref b1), .val (.int (((0 : Int32) * (16777619 : Int32)) ^^^ p2.toInt8.toInt32))] [(.int p3), (.ref b1)])) rfl (by rw [hml]; rfl) (Steps.refl _) (argsL := [(.int p3)]) (rest := []) (lenOf pd_3 rfl) rfl (by show 2 * 0 + _ ≤ _; exact Nat.le_of_eq rfl) (hb hby at_48) (fun _ _ => ⟨rfl, hh38, (by decide : 2 + 0 ≤ _), (by decide : 66 + 0 ≤ _)⟩)
    dsimp only [Pt.U, Pt.locs, Pt.cells, Pt.slots] at X40 l40 y40 z40 st40 hQ40
    subst l40 y40 z40
    obtain ⟨rfl, N40q, zz2, EE2, FL2, FB2, AA2⟩ := hQ40
    have N40 := Fr.app N38 N40q
    have sg41 : ∀ t₀, Steps p.tables e below (T40.setTop (mkF m 54 #[.val (.int p1), .val (.int p2), .val (.int p3), .val (.int p4), .val (.int p5), .val (.int (3 : Int32)), .val (.ref b1), .val (.int (((0 : Int32) * (16777619 : Int32)) ^^^ p2.toInt8.toInt32))] [(.int p3), (.int (((0 : Int32) * (16777619 : Int32)) ^^^ p2.toInt8.toInt32))])) t₀ → Steps p.tables e below (T40.setTop (mkF m 51 #[.val (.int p1), .val (.int p2), .val (.int p3), .val (.int p4), .val (.int p5), .val (.int (3 : Int32)), .val (.ref b1), .val (.int (((0 : Int32) * (16777619 : Int32)) ^^^ p2.toInt8.toInt32))] [])) t₀ := by
      intro t₀ kt
      show Steps p.tables e below (T40.setTop (mkF m 51 #[.val (.int p1), .val (.int p2), .val (.int p3), .val (.int p4), .val (.int p5), .val (.int (3 : Int32)), .val (.ref b1), .val (.int (((0 : Int32) * (16777619 : Int32)) ^^^ p2.toInt8.toInt32))] [])) _
      refine XS.iload X40.here hx rfl (hb hby at_51) rfl ?_
      show Steps p.tables e below (T40.setTop (mkF m 53 #[.val (.int p1), .val (.int p2), .val (.int p3), .val (.int p4), .val (.int p5), .val (.int (3 : Int32)), .val (.ref b1), .val (.int (((0 : Int32) * (16777619 : Int32)) ^^^ p2.toInt8.toInt32))] [(.int (((0 : Int32) * (16777619 : Int32)) ^^^ p2.toInt8.toInt32))])) _
      refine XS.iloadN X40.here hx rfl (hb hby at_53) rfl ?_
      exact kt
    obtain ⟨_, _, ⟨T42, L42, k42, n42⟩, -, X42, ⟨Lc42, hQ42, l42, y42, z42⟩, st42⟩ := Jvm.LawKit.callS X40 hx (y := (⟨"com/example/conforce/conforce/engine/ByteWriterHashPinLaw", "fold", "(II)I"⟩ : MethodName)) hown (mvT hZ (hw _ (List.mem_of_getElem? (i := 33) rfl))) (mvT hZ (hw _ (List.mem_of_getElem? (i := 34) rfl))) (mvT hZ (hw _ (List.mem_of_getElem? (i := 24) rfl))) (mvT hZ (hw _ (List.mem_of_getElem? (i := 35) rfl))) (by decide) (backOf (W := 0) (rm6 l Z a0 hw [] (((0 : Int32) * (16777619 : Int32)) ^^^ p2.toInt8.toInt32) p3 T40.heap n0 zz2) hZ (hw _ (List.mem_of_getElem? (i := 35) rfl)) (hw _ (List.mem_of_getElem? (i := 24) rfl)) (by decide) (by decide)) (g := (mkF m 54 #[.val (.int p1), .val (.int p2), .val (.int p3), .val (.int p4), .val (.int p5), .val (.int (3 : Int32)), .val (.ref b1), .val (.int (((0 : Int32) * (16777619 : Int32)) ^^^ p2.toInt8.toInt32))] [(.int p3), (.int (((0 : Int32) * (16777619 : Int32)) ^^^ p2.toInt8.toInt32))])) rfl (by rw [hml]; rfl) (argsL := [(.int (((0 : Int32) * (16777619 : Int32)) ^^^ p2.toInt8.toInt32)), (.int p3)]) (rest := []) (lenOf pd_4 rfl) rfl (by show 2 * 0 + _ ≤ _; exact Nat.le_of_eq rfl) (hb hby at_54) (fun _ _ => ⟨rfl, rfl, (by decide : 2 + 0 ≤ _), (by decide : 66 + 0 ≤ _)⟩)
    dsimp only [Pt.U, Pt.locs, Pt.cells, Pt.slots] at X42 l42 y42 z42 st42 hQ42
    subst l42 y42 z42
    obtain ⟨rfl, N42q, hh42⟩ := hQ42
    have N42 := Fr.app N40 N42q
    have sg43 : ∀ t₀, Steps p.tables e below (T42.setTop (mkF m 68 #[.val (.int p1), .val (.int p2), .val (.int p3), .val (.int p4), .val (.int p5), .val (.int (3 : Int32)), .val (.ref b1), .val (.int (((((0 : Int32) * (16777619 : Int32)) ^^^ p2.toInt8.toInt32) * (16777619 : Int32)) ^^^ p3.toInt8.toInt32))] [(.int p4), (.ref b1)])) t₀ → Steps p.tables e below (T42.setTop (mkF m 57 #[.val (.int p1), .val (.int p2), .val (.int p3), .val (.int p4), .val (.int p5), .val (.int (3 : Int32)), .val (.ref b1), .val (.int (((0 : Int32) * (16777619 : Int32)) ^^^ p2.toInt8.toInt32))] [(.int (((((0 : Int32) * (16777619 : Int32)) ^^^ p2.toInt8.toInt32) * (16777619 : Int32)) ^^^ p3.toInt8.toInt32))])) t₀ := by
      intro t₀ kt
      show Steps p.tables e below (T42.setTop (mkF m 57 #[.val (.int p1), .val (.int p2), .val (.int p3), .val (.int p4), .val (.int p5), .val (.int (3 : Int32)), .val (.ref b1), .val (.int (((0 : Int32) * (16777619 : Int32)) ^^^ p2.toInt8.toInt32))] [(.int (((((0 : Int32) * (16777619 : Int32)) ^^^ p2.toInt8.toInt32) * (16777619 : Int32)) ^^^ p3.toInt8.toInt32))])) _
      refine XS.istore X42.here hx rfl (hb hby at_57) rfl (l' := #[.val (.int p1), .val (.int p2), .val (.int p3), .val (.int p4), .val (.int p5), .val (.int (3 : Int32)), .val (.ref b1), .val (.int (((((0 : Int32) * (16777619 : Int32)) ^^^ p2.toInt8.toInt32) * (16777619 : Int32)) ^^^ p3.toInt8.toInt32))]) rfl ?_
      show Steps p.tables e below (T42.setTop (mkF m 59 #[.val (.int p1), .val (.int p2), .val (.int p3), .val (.int p4), .val (.int p5), .val (.int (3 : Int32)), .val (.ref b1), .val (.int (((((0 : Int32) * (16777619 : Int32)) ^^^ p2.toInt8.toInt32) * (16777619 : Int32)) ^^^ p3.toInt8.toInt32))] [])) _
      refine XS.iload X42.here hx rfl (hb hby at_59) rfl ?_
      show Steps p.tables e below (T42.setTop (mkF m 61 #[.val (.int p1), .val (.int p2), .val (.int p3), .val (.int p4), .val (.int p5), .val (.int (3 : Int32)), .val (.ref b1), .val (.int (((((0 : Int32) * (16777619 : Int32)) ^^^ p2.toInt8.toInt32) * (16777619 : Int32)) ^^^ p3.toInt8.toInt32))] [(.int (3 : Int32))])) _
      refine XS.iconst X42.here hx rfl (hb hby at_61) ?_
      show Steps p.tables e below (T42.setTop (mkF m 62 #[.val (.int p1), .val (.int p2), .val (.int p3), .val (.int p4), .val (.int p5), .val (.int (3 : Int32)), .val (.ref b1), .val (.int (((((0 : Int32) * (16777619 : Int32)) ^^^ p2.toInt8.toInt32) * (16777619 : Int32)) ^^^ p3.toInt8.toInt32))] [(.int (2 : Int32)), (.int (3 : Int32))])) _
      refine XS.icmpNo X42.here hx rfl (hb hby at_62) rfl (tlt (by decide : (2 : Int32) < (3 : Int32))).2.2.2 ?_
      show Steps p.tables e below (T42.setTop (mkF m 65 #[.val (.int p1), .val (.int p2), .val (.int p3), .val (.int p4), .val (.int p5), .val (.int (3 : Int32)), .val (.ref b1), .val (.int (((((0 : Int32) * (16777619 : Int32)) ^^^ p2.toInt8.toInt32) * (16777619 : Int32)) ^^^ p3.toInt8.toInt32))] [])) _
      refine XS.aload X42.here hx rfl (hb hby at_65) rfl rfl ?_
      show Steps p.tables e below (T42.setTop (mkF m 67 #[.val (.int p1), .val (.int p2), .val (.int p3), .val (.int p4), .val (.int p5), .val (.int (3 : Int32)), .val (.ref b1), .val (.int (((((0 : Int32) * (16777619 : Int32)) ^^^ p2.toInt8.toInt32) * (16777619 : Int32)) ^^^ p3.toInt8.toInt32))] [(.ref b1)])) _
      refine XS.iloadN X42.here hx rfl (hb hby at_67) rfl ?_
      exact kt
    obtain ⟨cq44, kq44, q44a, q44b, q44c⟩ := isOf hZ hh42 EE2
    obtain ⟨_, _, ⟨T44, L44, k44, n44⟩, -, X44, ⟨Lc44, hQ44, l44, y44, z44⟩, st44⟩ := X42.virtualBack hx (y := (⟨"com/example/conforce/conforce/engine/ByteWriter", "write", "(I)V"⟩ : MethodName)) (z := (⟨"com/example/conforce/conforce/engine/ByteWriter", "write", "(I)V"⟩ : MethodName)) hown (mvT hZ (hw _ (List.mem_of_getElem? (i := 28) rfl))) (mvT hZ (hw _ (List.mem_of_getElem? (i := 29) rfl))) (notFace_of_selects (args := #[]) (mvT hZ (hw _ (List.mem_of_getElem? (i := 31) rfl)))) (mvT hZ (hw _ (List.mem_of_getElem? (i := 31) rfl))) (mvT hZ (hw _ (List.mem_of_getElem? (i := 30) rfl))) (by decide) (backOf (W := 0) (rm5 l Z a0 hw [] b1 p4 t (2 : Int32) (3 : Int32) 2 (fun i => if i = 1 then p3.toInt8.toInt32 else (fun i => if i = 0 then p2.toInt8.toInt32 else (fun _ => (0 : Int32)) i) i) T40.heap n0 zz2 EE2 g_b1 gt hne FB2 FL2 AA2 (by decide) rfl (by decide)) hZ (hw _ (List.mem_of_getElem? (i := 32) rfl)) (hw _ (List.mem_of_getElem? (i := 3) rfl)) (by decide) (by decide)) q44a q44c (g := (mkF m 68 #[.val (.int p1), .val (.int p2), .val (.int p3), .val (.int p4), .val (.int p5), .val (.int (3 : Int32)), .val (.ref b1), .val (.int (((((0 : Int32) * (16777619 : Int32)) ^^^ p2.toInt8.toInt32) * (16777619 : Int32)) ^^^ p3.toInt8.toInt32))] [(.int p4), (.ref b1)])) rfl (by rw [hml]; rfl) (Steps.refl _) (argsL := [(.int p4)]) (rest := []) (lenOf pd_3 rfl) rfl (by show 2 * 0 + _ ≤ _; exact Nat.le_of_eq rfl) (hb hby at_68) (fun _ _ => ⟨rfl, hh42, (by decide : 2 + 0 ≤ _), (by decide : 66 + 0 ≤ _)⟩)
    dsimp only [Pt.U, Pt.locs, Pt.cells, Pt.slots] at X44 l44 y44 z44 st44 hQ44
    subst l44 y44 z44
    obtain ⟨rfl, N44q, zz3, EE3, FL3, FB3, AA3⟩ := hQ44
    have N44 := Fr.app N42 N44q
    have sg45 : ∀ t₀, Steps p.tables e below (T44.setTop (mkF m 74 #[.val (.int p1), .val (.int p2), .val (.int p3), .val (.int p4), .val (.int p5), .val (.int (3 : Int32)), .val (.ref b1), .val (.int (((((0 : Int32) * (16777619 : Int32)) ^^^ p2.toInt8.toInt32) * (16777619 : Int32)) ^^^ p3.toInt8.toInt32))] [(.int p4), (.int (((((0 : Int32) * (16777619 : Int32)) ^^^ p2.toInt8.toInt32) * (16777619 : Int32)) ^^^ p3.toInt8.toInt32))])) t₀ → Steps p.tables e below (T44.setTop (mkF m 71 #[.val (.int p1), .val (.int p2), .val (.int p3), .val (.int p4), .val (.int p5), .val (.int (3 : Int32)), .val (.ref b1), .val (.int (((((0 : Int32) * (16777619 : Int32)) ^^^ p2.toInt8.toInt32) * (16777619 : Int32)) ^^^ p3.toInt8.toInt32))] [])) t₀ := by
      intro t₀ kt
      show Steps p.tables e below (T44.setTop (mkF m 71 #[.val (.int p1), .val (.int p2), .val (.int p3), .val (.int p4), .val (.int p5), .val (.int (3 : Int32)), .val (.ref b1), .val (.int (((((0 : Int32) * (16777619 : Int32)) ^^^ p2.toInt8.toInt32) * (16777619 : Int32)) ^^^ p3.toInt8.toInt32))] [])) _
      refine XS.iload X44.here hx rfl (hb hby at_71) rfl ?_
      show Steps p.tables e below (T44.setTop (mkF m 73 #[.val (.int p1), .val (.int p2), .val (.int p3), .val (.int p4), .val (.int p5), .val (.int (3 : Int32)), .val (.ref b1), .val (.int (((((0 : Int32) * (16777619 : Int32)) ^^^ p2.toInt8.toInt32) * (16777619 : Int32)) ^^^ p3.toInt8.toInt32))] [(.int (((((0 : Int32) * (16777619 : Int32)) ^^^ p2.toInt8.toInt32) * (16777619 : Int32)) ^^^ p3.toInt8.toInt32))])) _
      refine XS.iloadN X44.here hx rfl (hb hby at_73) rfl ?_
      exact kt
    obtain ⟨_, _, ⟨T46, L46, k46, n46⟩, -, X46, ⟨Lc46, hQ46, l46, y46, z46⟩, st46⟩ := Jvm.LawKit.callS X44 hx (y := (⟨"com/example/conforce/conforce/engine/ByteWriterHashPinLaw", "fold", "(II)I"⟩ : MethodName)) hown (mvT hZ (hw _ (List.mem_of_getElem? (i := 33) rfl))) (mvT hZ (hw _ (List.mem_of_getElem? (i := 34) rfl))) (mvT hZ (hw _ (List.mem_of_getElem? (i := 24) rfl))) (mvT hZ (hw _ (List.mem_of_getElem? (i := 35) rfl))) (by decide) (backOf (W := 0) (rm6 l Z a0 hw [] (((((0 : Int32) * (16777619 : Int32)) ^^^ p2.toInt8.toInt32) * (16777619 : Int32)) ^^^ p3.toInt8.toInt32) p4 T44.heap n0 zz3) hZ (hw _ (List.mem_of_getElem? (i := 35) rfl)) (hw _ (List.mem_of_getElem? (i := 24) rfl)) (by decide) (by decide)) (g := (mkF m 74 #[.val (.int p1), .val (.int p2), .val (.int p3), .val (.int p4), .val (.int p5), .val (.int (3 : Int32)), .val (.ref b1), .val (.int (((((0 : Int32) * (16777619 : Int32)) ^^^ p2.toInt8.toInt32) * (16777619 : Int32)) ^^^ p3.toInt8.toInt32))] [(.int p4), (.int (((((0 : Int32) * (16777619 : Int32)) ^^^ p2.toInt8.toInt32) * (16777619 : Int32)) ^^^ p3.toInt8.toInt32))])) rfl (by rw [hml]; rfl) (argsL := [(.int (((((0 : Int32) * (16777619 : Int32)) ^^^ p2.toInt8.toInt32) * (16777619 : Int32)) ^^^ p3.toInt8.toInt32)), (.int p4)]) (rest := []) (lenOf pd_4 rfl) rfl (by show 2 * 0 + _ ≤ _; exact Nat.le_of_eq rfl) (hb hby at_74) (fun _ _ => ⟨rfl, rfl, (by decide : 2 + 0 ≤ _), (by decide : 66 + 0 ≤ _)⟩)
    dsimp only [Pt.U, Pt.locs, Pt.cells, Pt.slots] at X46 l46 y46 z46 st46 hQ46
    subst l46 y46 z46
    obtain ⟨rfl, N46q, hh46⟩ := hQ46
    have N46 := Fr.app N44 N46q
    have sg47 : ∀ t₀, Steps p.tables e below (T46.setTop (mkF m 103 #[.val (.int p1), .val (.int p2), .val (.int p3), .val (.int p4), .val (.int p5), .val (.int (3 : Int32)), .val (.ref b1), .val (.int (((((((0 : Int32) * (16777619 : Int32)) ^^^ p2.toInt8.toInt32) * (16777619 : Int32)) ^^^ p3.toInt8.toInt32) * (16777619 : Int32)) ^^^ p4.toInt8.toInt32))] [(.ref b1)])) t₀ → Steps p.tables e below (T46.setTop (mkF m 77 #[.val (.int p1), .val (.int p2), .val (.int p3), .val (.int p4), .val (.int p5), .val (.int (3 : Int32)), .val (.ref b1), .val (.int (((((0 : Int32) * (16777619 : Int32)) ^^^ p2.toInt8.toInt32) * (16777619 : Int32)) ^^^ p3.toInt8.toInt32))] [(.int (((((((0 : Int32) * (16777619 : Int32)) ^^^ p2.toInt8.toInt32) * (16777619 : Int32)) ^^^ p3.toInt8.toInt32) * (16777619 : Int32)) ^^^ p4.toInt8.toInt32))])) t₀ := by
      intro t₀ kt
      show Steps p.tables e below (T46.setTop (mkF m 77 #[.val (.int p1), .val (.int p2), .val (.int p3), .val (.int p4), .val (.int p5), .val (.int (3 : Int32)), .val (.ref b1), .val (.int (((((0 : Int32) * (16777619 : Int32)) ^^^ p2.toInt8.toInt32) * (16777619 : Int32)) ^^^ p3.toInt8.toInt32))] [(.int (((((((0 : Int32) * (16777619 : Int32)) ^^^ p2.toInt8.toInt32) * (16777619 : Int32)) ^^^ p3.toInt8.toInt32) * (16777619 : Int32)) ^^^ p4.toInt8.toInt32))])) _
      refine XS.istore X46.here hx rfl (hb hby at_77) rfl (l' := #[.val (.int p1), .val (.int p2), .val (.int p3), .val (.int p4), .val (.int p5), .val (.int (3 : Int32)), .val (.ref b1), .val (.int (((((((0 : Int32) * (16777619 : Int32)) ^^^ p2.toInt8.toInt32) * (16777619 : Int32)) ^^^ p3.toInt8.toInt32) * (16777619 : Int32)) ^^^ p4.toInt8.toInt32))]) rfl ?_
      show Steps p.tables e below (T46.setTop (mkF m 79 #[.val (.int p1), .val (.int p2), .val (.int p3), .val (.int p4), .val (.int p5), .val (.int (3 : Int32)), .val (.ref b1), .val (.int (((((((0 : Int32) * (16777619 : Int32)) ^^^ p2.toInt8.toInt32) * (16777619 : Int32)) ^^^ p3.toInt8.toInt32) * (16777619 : Int32)) ^^^ p4.toInt8.toInt32))] [])) _
      refine XS.iload X46.here hx rfl (hb hby at_79) rfl ?_
      show Steps p.tables e below (T46.setTop (mkF m 81 #[.val (.int p1), .val (.int p2), .val (.int p3), .val (.int p4), .val (.int p5), .val (.int (3 : Int32)), .val (.ref b1), .val (.int (((((((0 : Int32) * (16777619 : Int32)) ^^^ p2.toInt8.toInt32) * (16777619 : Int32)) ^^^ p3.toInt8.toInt32) * (16777619 : Int32)) ^^^ p4.toInt8.toInt32))] [(.int (3 : Int32))])) _
      refine XS.iconst X46.here hx rfl (hb hby at_81) ?_
      show Steps p.tables e below (T46.setTop (mkF m 82 #[.val (.int p1), .val (.int p2), .val (.int p3), .val (.int p4), .val (.int p5), .val (.int (3 : Int32)), .val (.ref b1), .val (.int (((((((0 : Int32) * (16777619 : Int32)) ^^^ p2.toInt8.toInt32) * (16777619 : Int32)) ^^^ p3.toInt8.toInt32) * (16777619 : Int32)) ^^^ p4.toInt8.toInt32))] [(.int (3 : Int32)), (.int (3 : Int32))])) _
      refine XS.icmpYes X46.here hx rfl (pc0 := 82) (pc' := 101) rfl (hb hby at_82) rfl (flt (by decide : ¬ ((3 : Int32) < (3 : Int32)))).2.2.2 (by decide) (by decide) ?_
      show Steps p.tables e below (T46.setTop (mkF m 101 #[.val (.int p1), .val (.int p2), .val (.int p3), .val (.int p4), .val (.int p5), .val (.int (3 : Int32)), .val (.ref b1), .val (.int (((((((0 : Int32) * (16777619 : Int32)) ^^^ p2.toInt8.toInt32) * (16777619 : Int32)) ^^^ p3.toInt8.toInt32) * (16777619 : Int32)) ^^^ p4.toInt8.toInt32))] [])) _
      refine XS.aload X46.here hx rfl (hb hby at_101) rfl rfl ?_
      exact kt
    obtain ⟨cq48, kq48, q48a, q48b, q48c⟩ := isOf hZ hh46 EE3
    obtain ⟨_, _, ⟨T48, L48, k48, n48⟩, -, X48, ⟨Lc48, hQ48, l48, y48, z48⟩, st48⟩ := X46.virtualBack hx (y := (⟨"com/example/conforce/conforce/engine/ByteWriter", "hash", "()I"⟩ : MethodName)) (z := (⟨"com/example/conforce/conforce/engine/ByteWriter", "hash", "()I"⟩ : MethodName)) hown (mvT hZ (hw _ (List.mem_of_getElem? (i := 13) rfl))) (mvT hZ (hw _ (List.mem_of_getElem? (i := 14) rfl))) (notFace_of_selects (args := #[]) (mvT hZ (hw _ (List.mem_of_getElem? (i := 16) rfl)))) (mvT hZ (hw _ (List.mem_of_getElem? (i := 16) rfl))) (mvT hZ (hw _ (List.mem_of_getElem? (i := 15) rfl))) (by decide) (backOf (W := 0) (rm3 l Z a0 hw [] b1 t 3 (fun i => if i = 2 then p4.toInt8.toInt32 else (fun i => if i = 1 then p3.toInt8.toInt32 else (fun i => if i = 0 then p2.toInt8.toInt32 else (fun _ => (0 : Int32)) i) i) i) T44.heap n0 zz3 (by decide) FB3 FL3 AA3) hZ (hw _ (List.mem_of_getElem? (i := 17) rfl)) (hw _ (List.mem_of_getElem? (i := 3) rfl)) (by decide) (by decide)) q48a q48c (g := (mkF m 103 #[.val (.int p1), .val (.int p2), .val (.int p3), .val (.int p4), .val (.int p5), .val (.int (3 : Int32)), .val (.ref b1), .val (.int (((((((0 : Int32) * (16777619 : Int32)) ^^^ p2.toInt8.toInt32) * (16777619 : Int32)) ^^^ p3.toInt8.toInt32) * (16777619 : Int32)) ^^^ p4.toInt8.toInt32))] [(.ref b1)])) rfl (by rw [hml]; rfl) (Steps.refl _) (argsL := []) (rest := []) (lenOf pd_0 rfl) rfl (by show 2 * 0 + _ ≤ _; exact Nat.le_of_eq rfl) (hb hby at_103) (fun _ _ => ⟨rfl, hh46, (by decide : 2 + 0 ≤ _), (by decide : 66 + 0 ≤ _)⟩)
    dsimp only [Pt.U, Pt.locs, Pt.cells, Pt.slots] at X48 l48 y48 z48 st48 hQ48
    subst l48 y48 z48
    obtain ⟨rfl, N48q, hh48⟩ := hQ48
    have N48 := Fr.app N46 N48q
    have sg49 : ∀ t₀, Steps p.tables e below (T48.setTop (mkF m 108 #[.val (.int p1), .val (.int p2), .val (.int p3), .val (.int p4), .val (.int p5), .val (.int (3 : Int32)), .val (.ref b1), .val (.int (((((((0 : Int32) * (16777619 : Int32)) ^^^ p2.toInt8.toInt32) * (16777619 : Int32)) ^^^ p3.toInt8.toInt32) * (16777619 : Int32)) ^^^ p4.toInt8.toInt32))] [(.int (((((((0 : Int32) * (16777619 : Int32)) ^^^ p2.toInt8.toInt32) * (16777619 : Int32)) ^^^ p3.toInt8.toInt32) * (16777619 : Int32)) ^^^ p4.toInt8.toInt32)), (.int (own_mix (own_h (fun i => if i = 2 then p4.toInt8.toInt32 else (fun i => if i = 1 then p3.toInt8.toInt32 else (fun i => if i = 0 then p2.toInt8.toInt32 else (fun _ => (0 : Int32)) i) i) i) 3 0 0)))])) t₀ → Steps p.tables e below (T48.setTop (mkF m 106 #[.val (.int p1), .val (.int p2), .val (.int p3), .val (.int p4), .val (.int p5), .val (.int (3 : Int32)), .val (.ref b1), .val (.int (((((((0 : Int32) * (16777619 : Int32)) ^^^ p2.toInt8.toInt32) * (16777619 : Int32)) ^^^ p3.toInt8.toInt32) * (16777619 : Int32)) ^^^ p4.toInt8.toInt32))] [(.int (own_mix (own_h (fun i => if i = 2 then p4.toInt8.toInt32 else (fun i => if i = 1 then p3.toInt8.toInt32 else (fun i => if i = 0 then p2.toInt8.toInt32 else (fun _ => (0 : Int32)) i) i) i) 3 0 0)))])) t₀ := by
      intro t₀ kt
      show Steps p.tables e below (T48.setTop (mkF m 106 #[.val (.int p1), .val (.int p2), .val (.int p3), .val (.int p4), .val (.int p5), .val (.int (3 : Int32)), .val (.ref b1), .val (.int (((((((0 : Int32) * (16777619 : Int32)) ^^^ p2.toInt8.toInt32) * (16777619 : Int32)) ^^^ p3.toInt8.toInt32) * (16777619 : Int32)) ^^^ p4.toInt8.toInt32))] [(.int (own_mix (own_h (fun i => if i = 2 then p4.toInt8.toInt32 else (fun i => if i = 1 then p3.toInt8.toInt32 else (fun i => if i = 0 then p2.toInt8.toInt32 else (fun _ => (0 : Int32)) i) i) i) 3 0 0)))])) _
      refine XS.iload X48.here hx rfl (hb hby at_106) rfl ?_
      exact kt
    have hH : own_h (fun i => if i = 2 then p4.toInt8.toInt32 else (fun i => if i = 1 then p3.toInt8.toInt32 else (fun i => if i = 0 then p2.toInt8.toInt32 else (fun _ => (0 : Int32)) i) i) i) 3 0 0 = (((((((0 : Int32) * (16777619 : Int32)) ^^^ p2.toInt8.toInt32) * (16777619 : Int32)) ^^^ p3.toInt8.toInt32) * (16777619 : Int32)) ^^^ p4.toInt8.toInt32) := by rfl
    obtain ⟨_, _, ⟨T50, L50, k50, n50⟩, -, X50, ⟨Lc50, hQ50, l50, y50, z50⟩, st50⟩ := Jvm.LawKit.callS X48 hx (y := (⟨"com/example/conforce/conforce/engine/ByteWriterHashPinLaw", "fmix", "(I)I"⟩ : MethodName)) hown (mvT hZ (hw _ (List.mem_of_getElem? (i := 22) rfl))) (mvT hZ (hw _ (List.mem_of_getElem? (i := 23) rfl))) (mvT hZ (hw _ (List.mem_of_getElem? (i := 24) rfl))) (mvT hZ (hw _ (List.mem_of_getElem? (i := 25) rfl))) (by decide) (backOf (W := 1) (rm4 l Z a0 hw [] (((((((0 : Int32) * (16777619 : Int32)) ^^^ p2.toInt8.toInt32) * (16777619 : Int32)) ^^^ p3.toInt8.toInt32) * (16777619 : Int32)) ^^^ p4.toInt8.toInt32) T44.heap n0 zz3) hZ (hw _ (List.mem_of_getElem? (i := 25) rfl)) (hw _ (List.mem_of_getElem? (i := 24) rfl)) (by decide) (by decide)) (g := (mkF m 108 #[.val (.int p1), .val (.int p2), .val (.int p3), .val (.int p4), .val (.int p5), .val (.int (3 : Int32)), .val (.ref b1), .val (.int (((((((0 : Int32) * (16777619 : Int32)) ^^^ p2.toInt8.toInt32) * (16777619 : Int32)) ^^^ p3.toInt8.toInt32) * (16777619 : Int32)) ^^^ p4.toInt8.toInt32))] [(.int (((((((0 : Int32) * (16777619 : Int32)) ^^^ p2.toInt8.toInt32) * (16777619 : Int32)) ^^^ p3.toInt8.toInt32) * (16777619 : Int32)) ^^^ p4.toInt8.toInt32)), (.int (own_mix (own_h (fun i => if i = 2 then p4.toInt8.toInt32 else (fun i => if i = 1 then p3.toInt8.toInt32 else (fun i => if i = 0 then p2.toInt8.toInt32 else (fun _ => (0 : Int32)) i) i) i) 3 0 0)))])) rfl (by rw [hml]; rfl) (argsL := [(.int (((((((0 : Int32) * (16777619 : Int32)) ^^^ p2.toInt8.toInt32) * (16777619 : Int32)) ^^^ p3.toInt8.toInt32) * (16777619 : Int32)) ^^^ p4.toInt8.toInt32))]) (rest := [(.int (own_mix (own_h (fun i => if i = 2 then p4.toInt8.toInt32 else (fun i => if i = 1 then p3.toInt8.toInt32 else (fun i => if i = 0 then p2.toInt8.toInt32 else (fun _ => (0 : Int32)) i) i) i) 3 0 0)))]) (lenOf pd_2 rfl) rfl (by show 2 * 0 + _ ≤ _; exact Nat.le_of_eq rfl) (hb hby at_108) (fun _ _ => ⟨rfl, hh48, (by decide : 2 + 0 ≤ _), (by decide : 66 + 0 ≤ _)⟩)
    dsimp only [Pt.U, Pt.locs, Pt.cells, Pt.slots] at X50 l50 y50 z50 st50 hQ50
    subst l50 y50 z50
    obtain ⟨rfl, N50q, hh50⟩ := hQ50
    have N50 := Fr.app N48 N50q
    have sg51 : ∀ t₀, Steps p.tables e below (T50.setTop (mkF m 119 #[.val (.int p1), .val (.int p2), .val (.int p3), .val (.int p4), .val (.int p5), .val (.int (3 : Int32)), .val (.ref b1), .val (.int (((((((0 : Int32) * (16777619 : Int32)) ^^^ p2.toInt8.toInt32) * (16777619 : Int32)) ^^^ p3.toInt8.toInt32) * (16777619 : Int32)) ^^^ p4.toInt8.toInt32))] [(.int (1 : Int32))])) t₀ → Steps p.tables e below (T50.setTop (mkF m 111 #[.val (.int p1), .val (.int p2), .val (.int p3), .val (.int p4), .val (.int p5), .val (.int (3 : Int32)), .val (.ref b1), .val (.int (((((((0 : Int32) * (16777619 : Int32)) ^^^ p2.toInt8.toInt32) * (16777619 : Int32)) ^^^ p3.toInt8.toInt32) * (16777619 : Int32)) ^^^ p4.toInt8.toInt32))] [(.int (own_mix (((((((0 : Int32) * (16777619 : Int32)) ^^^ p2.toInt8.toInt32) * (16777619 : Int32)) ^^^ p3.toInt8.toInt32) * (16777619 : Int32)) ^^^ p4.toInt8.toInt32))), (.int (own_mix (own_h (fun i => if i = 2 then p4.toInt8.toInt32 else (fun i => if i = 1 then p3.toInt8.toInt32 else (fun i => if i = 0 then p2.toInt8.toInt32 else (fun _ => (0 : Int32)) i) i) i) 3 0 0)))])) t₀ := by
      intro t₀ kt
      show Steps p.tables e below (T50.setTop (mkF m 111 #[.val (.int p1), .val (.int p2), .val (.int p3), .val (.int p4), .val (.int p5), .val (.int (3 : Int32)), .val (.ref b1), .val (.int (((((((0 : Int32) * (16777619 : Int32)) ^^^ p2.toInt8.toInt32) * (16777619 : Int32)) ^^^ p3.toInt8.toInt32) * (16777619 : Int32)) ^^^ p4.toInt8.toInt32))] [(.int (own_mix (((((((0 : Int32) * (16777619 : Int32)) ^^^ p2.toInt8.toInt32) * (16777619 : Int32)) ^^^ p3.toInt8.toInt32) * (16777619 : Int32)) ^^^ p4.toInt8.toInt32))), (.int (own_mix (own_h (fun i => if i = 2 then p4.toInt8.toInt32 else (fun i => if i = 1 then p3.toInt8.toInt32 else (fun i => if i = 0 then p2.toInt8.toInt32 else (fun _ => (0 : Int32)) i) i) i) 3 0 0)))])) _
      refine XS.icmpNo X50.here hx rfl (hb hby at_111) rfl (teq (congrArg own_mix hH)).2 ?_
      show Steps p.tables e below (T50.setTop (mkF m 114 #[.val (.int p1), .val (.int p2), .val (.int p3), .val (.int p4), .val (.int p5), .val (.int (3 : Int32)), .val (.ref b1), .val (.int (((((((0 : Int32) * (16777619 : Int32)) ^^^ p2.toInt8.toInt32) * (16777619 : Int32)) ^^^ p3.toInt8.toInt32) * (16777619 : Int32)) ^^^ p4.toInt8.toInt32))] [])) _
      refine XS.iconst X50.here hx rfl (hb hby at_114) ?_
      show Steps p.tables e below (T50.setTop (mkF m 115 #[.val (.int p1), .val (.int p2), .val (.int p3), .val (.int p4), .val (.int p5), .val (.int (3 : Int32)), .val (.ref b1), .val (.int (((((((0 : Int32) * (16777619 : Int32)) ^^^ p2.toInt8.toInt32) * (16777619 : Int32)) ^^^ p3.toInt8.toInt32) * (16777619 : Int32)) ^^^ p4.toInt8.toInt32))] [(.int (1 : Int32))])) _
      refine XS.goto X50.here hx rfl (pc0 := 115) (pc' := 119) rfl (hb hby at_115) (by decide) (by decide) ?_
      exact kt
    obtain ⟨fs, hr, hrun, hended, hW, hsame⟩ := X50.leave (v := some (.int (1 : Int32))) (fun h => by rw [Bd.returns] at h; cases h)
    refine ⟨_, _, pre0 _ ?_, hrun, hended, _, _, rfl, ?_, ⟨_, rfl⟩, hW, hsame.mono (by decide) (by decide)⟩
    · exact sq _ (st1 _ (sg2 _ (st3.trans (sg34 _ (sg35 _ (st36.trans (sg37 _ (st38 _ (sg39 _ (st40.trans (sg41 _ (st42 _ (sg43 _ (st44.trans (sg45 _ (st46 _ (sg47 _ (st48.trans (sg49 _ (st50 _ (sg51 _ ((retN X50 hx (t := .boolean) Bd.returns (by simp) (hb hby at_119) hr)))))))))))))))))))))))
    · show Q0 Z p1 p2 p3 p4 p5 h0 n0 _ T50.heap _
      rw [hh50]
      exact ⟨rfl, N50⟩
  · have sg52 : ∀ t₀, Steps p.tables e below (T3.setTop (mkF m 20 #[.val (.int p1), .val (.int p2), .val (.int p3), .val (.int p4), .val (.int p5), .val (.int (4 : Int32)), .val (.ref b1), .val (.int (0 : Int32))] [])) t₀ → Steps p.tables e below (T3.setTop (mkF m 15 #[.val (.int p1), .val (.int p2), .val (.int p3), .val (.int p4), .val (.int p5), .val (.int (4 : Int32)), .unset, .unset] [(.ref b1)])) t₀ := by
      intro t₀ kt
      show Steps p.tables e below (T3.setTop (mkF m 15 #[.val (.int p1), .val (.int p2), .val (.int p3), .val (.int p4), .val (.int p5), .val (.int (4 : Int32)), .unset, .unset] [(.ref b1)])) _
      refine XS.astore X3.here hx rfl (hb hby at_15) rfl rfl (l' := #[.val (.int p1), .val (.int p2), .val (.int p3), .val (.int p4), .val (.int p5), .val (.int (4 : Int32)), .val (.ref b1), .unset]) rfl ?_
      show Steps p.tables e below (T3.setTop (mkF m 17 #[.val (.int p1), .val (.int p2), .val (.int p3), .val (.int p4), .val (.int p5), .val (.int (4 : Int32)), .val (.ref b1), .unset] [])) _
      refine XS.iconst X3.here hx rfl (hb hby at_17) ?_
      show Steps p.tables e below (T3.setTop (mkF m 18 #[.val (.int p1), .val (.int p2), .val (.int p3), .val (.int p4), .val (.int p5), .val (.int (4 : Int32)), .val (.ref b1), .unset] [(.int (0 : Int32))])) _
      refine XS.istore X3.here hx rfl (hb hby at_18) rfl (l' := #[.val (.int p1), .val (.int p2), .val (.int p3), .val (.int p4), .val (.int p5), .val (.int (4 : Int32)), .val (.ref b1), .val (.int (0 : Int32))]) rfl ?_
      exact kt
    have sg53 : ∀ t₀, Steps p.tables e below (T3.setTop (mkF m 28 #[.val (.int p1), .val (.int p2), .val (.int p3), .val (.int p4), .val (.int p5), .val (.int (4 : Int32)), .val (.ref b1), .val (.int (0 : Int32))] [(.int p2), (.ref b1)])) t₀ → Steps p.tables e below (T3.setTop (mkF m 20 #[.val (.int p1), .val (.int p2), .val (.int p3), .val (.int p4), .val (.int p5), .val (.int (4 : Int32)), .val (.ref b1), .val (.int (0 : Int32))] [])) t₀ := by
      intro t₀ kt
      show Steps p.tables e below (T3.setTop (mkF m 20 #[.val (.int p1), .val (.int p2), .val (.int p3), .val (.int p4), .val (.int p5), .val (.int (4 : Int32)), .val (.ref b1), .val (.int (0 : Int32))] [])) _
      refine XS.iload X3.here hx rfl (hb hby at_20) rfl ?_
      show Steps p.tables e below (T3.setTop (mkF m 22 #[.val (.int p1), .val (.int p2), .val (.int p3), .val (.int p4), .val (.int p5), .val (.int (4 : Int32)), .val (.ref b1), .val (.int (0 : Int32))] [(.int (4 : Int32))])) _
      refine XS.ifNo X3.here hx rfl (hb hby at_22) rfl ((if0 _ _).trans (tlt (by decide : (0 : Int32) < (4 : Int32))).2.2.2) ?_
      show Steps p.tables e below (T3.setTop (mkF m 25 #[.val (.int p1), .val (.int p2), .val (.int p3), .val (.int p4), .val (.int p5), .val (.int (4 : Int32)), .val (.ref b1), .val (.int (0 : Int32))] [])) _
      refine XS.aload X3.here hx rfl (hb hby at_25) rfl rfl ?_
      show Steps p.tables e below (T3.setTop (mkF m 27 #[.val (.int p1), .val (.int p2), .val (.int p3), .val (.int p4), .val (.int p5), .val (.int (4 : Int32)), .val (.ref b1), .val (.int (0 : Int32))] [(.ref b1)])) _
      refine XS.iloadN X3.here hx rfl (hb hby at_27) rfl ?_
      exact kt
    obtain ⟨cq54, kq54, q54a, q54b, q54c⟩ := isOf hZ rfl EE0
    obtain ⟨_, _, ⟨T54, L54, k54, n54⟩, -, X54, ⟨Lc54, hQ54, l54, y54, z54⟩, st54⟩ := X3.virtualBack hx (y := (⟨"com/example/conforce/conforce/engine/ByteWriter", "write", "(I)V"⟩ : MethodName)) (z := (⟨"com/example/conforce/conforce/engine/ByteWriter", "write", "(I)V"⟩ : MethodName)) hown (mvT hZ (hw _ (List.mem_of_getElem? (i := 28) rfl))) (mvT hZ (hw _ (List.mem_of_getElem? (i := 29) rfl))) (notFace_of_selects (args := #[]) (mvT hZ (hw _ (List.mem_of_getElem? (i := 31) rfl)))) (mvT hZ (hw _ (List.mem_of_getElem? (i := 31) rfl))) (mvT hZ (hw _ (List.mem_of_getElem? (i := 30) rfl))) (by decide) (backOf (W := 0) (rm5 l Z a0 hw [] b1 p2 t (0 : Int32) (1 : Int32) 0 (fun _ => (0 : Int32)) T3.heap n0 zz0 EE0 g_b1 gt hne FB0 FL0 AA0 (by decide) rfl (by decide)) hZ (hw _ (List.mem_of_getElem? (i := 32) rfl)) (hw _ (List.mem_of_getElem? (i := 3) rfl)) (by decide) (by decide)) q54a q54c (g := (mkF m 28 #[.val (.int p1), .val (.int p2), .val (.int p3), .val (.int p4), .val (.int p5), .val (.int (4 : Int32)), .val (.ref b1), .val (.int (0 : Int32))] [(.int p2), (.ref b1)])) rfl (by rw [hml]; rfl) (Steps.refl _) (argsL := [(.int p2)]) (rest := []) (lenOf pd_3 rfl) rfl (by show 2 * 0 + _ ≤ _; exact Nat.le_of_eq rfl) (hb hby at_28) (fun _ _ => ⟨rfl, rfl, (by decide : 2 + 0 ≤ _), (by decide : 66 + 0 ≤ _)⟩)
    dsimp only [Pt.U, Pt.locs, Pt.cells, Pt.slots] at X54 l54 y54 z54 st54 hQ54
    subst l54 y54 z54
    obtain ⟨rfl, N54q, zz1, EE1, FL1, FB1, AA1⟩ := hQ54
    have N54 := Fr.app N3 N54q
    have sg55 : ∀ t₀, Steps p.tables e below (T54.setTop (mkF m 34 #[.val (.int p1), .val (.int p2), .val (.int p3), .val (.int p4), .val (.int p5), .val (.int (4 : Int32)), .val (.ref b1), .val (.int (0 : Int32))] [(.int p2), (.int (0 : Int32))])) t₀ → Steps p.tables e below (T54.setTop (mkF m 31 #[.val (.int p1), .val (.int p2), .val (.int p3), .val (.int p4), .val (.int p5), .val (.int (4 : Int32)), .val (.ref b1), .val (.int (0 : Int32))] [])) t₀ := by
      intro t₀ kt
      show Steps p.tables e below (T54.setTop (mkF m 31 #[.val (.int p1), .val (.int p2), .val (.int p3), .val (.int p4), .val (.int p5), .val (.int (4 : Int32)), .val (.ref b1), .val (.int (0 : Int32))] [])) _
      refine XS.iload X54.here hx rfl (hb hby at_31) rfl ?_
      show Steps p.tables e below (T54.setTop (mkF m 33 #[.val (.int p1), .val (.int p2), .val (.int p3), .val (.int p4), .val (.int p5), .val (.int (4 : Int32)), .val (.ref b1), .val (.int (0 : Int32))] [(.int (0 : Int32))])) _
      refine XS.iloadN X54.here hx rfl (hb hby at_33) rfl ?_
      exact kt
    obtain ⟨_, _, ⟨T56, L56, k56, n56⟩, -, X56, ⟨Lc56, hQ56, l56, y56, z56⟩, st56⟩ := Jvm.LawKit.callS X54 hx (y := (⟨"com/example/conforce/conforce/engine/ByteWriterHashPinLaw", "fold", "(II)I"⟩ : MethodName)) hown (mvT hZ (hw _ (List.mem_of_getElem? (i := 33) rfl))) (mvT hZ (hw _ (List.mem_of_getElem? (i := 34) rfl))) (mvT hZ (hw _ (List.mem_of_getElem? (i := 24) rfl))) (mvT hZ (hw _ (List.mem_of_getElem? (i := 35) rfl))) (by decide) (backOf (W := 0) (rm6 l Z a0 hw [] (0 : Int32) p2 T54.heap n0 zz1) hZ (hw _ (List.mem_of_getElem? (i := 35) rfl)) (hw _ (List.mem_of_getElem? (i := 24) rfl)) (by decide) (by decide)) (g := (mkF m 34 #[.val (.int p1), .val (.int p2), .val (.int p3), .val (.int p4), .val (.int p5), .val (.int (4 : Int32)), .val (.ref b1), .val (.int (0 : Int32))] [(.int p2), (.int (0 : Int32))])) rfl (by rw [hml]; rfl) (argsL := [(.int (0 : Int32)), (.int p2)]) (rest := []) (lenOf pd_4 rfl) rfl (by show 2 * 0 + _ ≤ _; exact Nat.le_of_eq rfl) (hb hby at_34) (fun _ _ => ⟨rfl, rfl, (by decide : 2 + 0 ≤ _), (by decide : 66 + 0 ≤ _)⟩)
    dsimp only [Pt.U, Pt.locs, Pt.cells, Pt.slots] at X56 l56 y56 z56 st56 hQ56
    subst l56 y56 z56
    obtain ⟨rfl, N56q, hh56⟩ := hQ56
    have N56 := Fr.app N54 N56q
    have sg57 : ∀ t₀, Steps p.tables e below (T56.setTop (mkF m 48 #[.val (.int p1), .val (.int p2), .val (.int p3), .val (.int p4), .val (.int p5), .val (.int (4 : Int32)), .val (.ref b1), .val (.int (((0 : Int32) * (16777619 : Int32)) ^^^ p2.toInt8.toInt32))] [(.int p3), (.ref b1)])) t₀ → Steps p.tables e below (T56.setTop (mkF m 37 #[.val (.int p1), .val (.int p2), .val (.int p3), .val (.int p4), .val (.int p5), .val (.int (4 : Int32)), .val (.ref b1), .val (.int (0 : Int32))] [(.int (((0 : Int32) * (16777619 : Int32)) ^^^ p2.toInt8.toInt32))])) t₀ := by
      intro t₀ kt
      show Steps p.tables e below (T56.setTop (mkF m 37 #[.val (.int p1), .val (.int p2), .val (.int p3), .val (.int p4), .val (.int p5), .val (.int (4 : Int32)), .val (.ref b1), .val (.int (0 : Int32))] [(.int (((0 : Int32) * (16777619 : Int32)) ^^^ p2.toInt8.toInt32))])) _
      refine XS.istore X56.here hx rfl (hb hby at_37) rfl (l' := #[.val (.int p1), .val (.int p2), .val (.int p3), .val (.int p4), .val (.int p5), .val (.int (4 : Int32)), .val (.ref b1), .val (.int (((0 : Int32) * (16777619 : Int32)) ^^^ p2.toInt8.toInt32))]) rfl ?_
      show Steps p.tables e below (T56.setTop (mkF m 39 #[.val (.int p1), .val (.int p2), .val (.int p3), .val (.int p4), .val (.int p5), .val (.int (4 : Int32)), .val (.ref b1), .val (.int (((0 : Int32) * (16777619 : Int32)) ^^^ p2.toInt8.toInt32))] [])) _
      refine XS.iload X56.here hx rfl (hb hby at_39) rfl ?_
      show Steps p.tables e below (T56.setTop (mkF m 41 #[.val (.int p1), .val (.int p2), .val (.int p3), .val (.int p4), .val (.int p5), .val (.int (4 : Int32)), .val (.ref b1), .val (.int (((0 : Int32) * (16777619 : Int32)) ^^^ p2.toInt8.toInt32))] [(.int (4 : Int32))])) _
      refine XS.iconst X56.here hx rfl (hb hby at_41) ?_
      show Steps p.tables e below (T56.setTop (mkF m 42 #[.val (.int p1), .val (.int p2), .val (.int p3), .val (.int p4), .val (.int p5), .val (.int (4 : Int32)), .val (.ref b1), .val (.int (((0 : Int32) * (16777619 : Int32)) ^^^ p2.toInt8.toInt32))] [(.int (1 : Int32)), (.int (4 : Int32))])) _
      refine XS.icmpNo X56.here hx rfl (hb hby at_42) rfl (tlt (by decide : (1 : Int32) < (4 : Int32))).2.2.2 ?_
      show Steps p.tables e below (T56.setTop (mkF m 45 #[.val (.int p1), .val (.int p2), .val (.int p3), .val (.int p4), .val (.int p5), .val (.int (4 : Int32)), .val (.ref b1), .val (.int (((0 : Int32) * (16777619 : Int32)) ^^^ p2.toInt8.toInt32))] [])) _
      refine XS.aload X56.here hx rfl (hb hby at_45) rfl rfl ?_
      show Steps p.tables e below (T56.setTop (mkF m 47 #[.val (.int p1), .val (.int p2), .val (.int p3), .val (.int p4), .val (.int p5), .val (.int (4 : Int32)), .val (.ref b1), .val (.int (((0 : Int32) * (16777619 : Int32)) ^^^ p2.toInt8.toInt32))] [(.ref b1)])) _
      refine XS.iloadN X56.here hx rfl (hb hby at_47) rfl ?_
      exact kt
    obtain ⟨cq58, kq58, q58a, q58b, q58c⟩ := isOf hZ hh56 EE1
    obtain ⟨_, _, ⟨T58, L58, k58, n58⟩, -, X58, ⟨Lc58, hQ58, l58, y58, z58⟩, st58⟩ := X56.virtualBack hx (y := (⟨"com/example/conforce/conforce/engine/ByteWriter", "write", "(I)V"⟩ : MethodName)) (z := (⟨"com/example/conforce/conforce/engine/ByteWriter", "write", "(I)V"⟩ : MethodName)) hown (mvT hZ (hw _ (List.mem_of_getElem? (i := 28) rfl))) (mvT hZ (hw _ (List.mem_of_getElem? (i := 29) rfl))) (notFace_of_selects (args := #[]) (mvT hZ (hw _ (List.mem_of_getElem? (i := 31) rfl)))) (mvT hZ (hw _ (List.mem_of_getElem? (i := 31) rfl))) (mvT hZ (hw _ (List.mem_of_getElem? (i := 30) rfl))) (by decide) (backOf (W := 0) (rm5 l Z a0 hw [] b1 p3 t (1 : Int32) (2 : Int32) 1 (fun i => if i = 0 then p2.toInt8.toInt32 else (fun _ => (0 : Int32)) i) T54.heap n0 zz1 EE1 g_b1 gt hne FB1 FL1 AA1 (by decide) rfl (by decide)) hZ (hw _ (List.mem_of_getElem? (i := 32) rfl)) (hw _ (List.mem_of_getElem? (i := 3) rfl)) (by decide) (by decide)) q58a q58c (g := (mkF m 48 #[.val (.int p1), .val (.int p2), .val (.int p3), .val (.int p4), .val (.int p5), .val (.int (4 : Int32)), .val (.ref b1), .val (.int (((0 : Int32) * (16777619 : Int32)) ^^^ p2.toInt8.toInt32))] [(.int p3), (.ref b1)])) rfl (by rw [hml]; rfl) (Steps.refl _) (argsL := [(.int p3)]) (rest := []) (lenOf pd_3 rfl) rfl (by show 2 * 0 + _ ≤ _; exact Nat.le_of_eq rfl) (hb hby at_48) (fun _ _ => ⟨rfl, hh56, (by decide : 2 + 0 ≤ _), (by decide : 66 + 0 ≤ _)⟩)
    dsimp only [Pt.U, Pt.locs, Pt.cells, Pt.slots] at X58 l58 y58 z58 st58 hQ58
    subst l58 y58 z58
    obtain ⟨rfl, N58q, zz2, EE2, FL2, FB2, AA2⟩ := hQ58
    have N58 := Fr.app N56 N58q
    have sg59 : ∀ t₀, Steps p.tables e below (T58.setTop (mkF m 54 #[.val (.int p1), .val (.int p2), .val (.int p3), .val (.int p4), .val (.int p5), .val (.int (4 : Int32)), .val (.ref b1), .val (.int (((0 : Int32) * (16777619 : Int32)) ^^^ p2.toInt8.toInt32))] [(.int p3), (.int (((0 : Int32) * (16777619 : Int32)) ^^^ p2.toInt8.toInt32))])) t₀ → Steps p.tables e below (T58.setTop (mkF m 51 #[.val (.int p1), .val (.int p2), .val (.int p3), .val (.int p4), .val (.int p5), .val (.int (4 : Int32)), .val (.ref b1), .val (.int (((0 : Int32) * (16777619 : Int32)) ^^^ p2.toInt8.toInt32))] [])) t₀ := by
      intro t₀ kt
      show Steps p.tables e below (T58.setTop (mkF m 51 #[.val (.int p1), .val (.int p2), .val (.int p3), .val (.int p4), .val (.int p5), .val (.int (4 : Int32)), .val (.ref b1), .val (.int (((0 : Int32) * (16777619 : Int32)) ^^^ p2.toInt8.toInt32))] [])) _
      refine XS.iload X58.here hx rfl (hb hby at_51) rfl ?_
      show Steps p.tables e below (T58.setTop (mkF m 53 #[.val (.int p1), .val (.int p2), .val (.int p3), .val (.int p4), .val (.int p5), .val (.int (4 : Int32)), .val (.ref b1), .val (.int (((0 : Int32) * (16777619 : Int32)) ^^^ p2.toInt8.toInt32))] [(.int (((0 : Int32) * (16777619 : Int32)) ^^^ p2.toInt8.toInt32))])) _
      refine XS.iloadN X58.here hx rfl (hb hby at_53) rfl ?_
      exact kt
    obtain ⟨_, _, ⟨T60, L60, k60, n60⟩, -, X60, ⟨Lc60, hQ60, l60, y60, z60⟩, st60⟩ := Jvm.LawKit.callS X58 hx (y := (⟨"com/example/conforce/conforce/engine/ByteWriterHashPinLaw", "fold", "(II)I"⟩ : MethodName)) hown (mvT hZ (hw _ (List.mem_of_getElem? (i := 33) rfl))) (mvT hZ (hw _ (List.mem_of_getElem? (i := 34) rfl))) (mvT hZ (hw _ (List.mem_of_getElem? (i := 24) rfl))) (mvT hZ (hw _ (List.mem_of_getElem? (i := 35) rfl))) (by decide) (backOf (W := 0) (rm6 l Z a0 hw [] (((0 : Int32) * (16777619 : Int32)) ^^^ p2.toInt8.toInt32) p3 T58.heap n0 zz2) hZ (hw _ (List.mem_of_getElem? (i := 35) rfl)) (hw _ (List.mem_of_getElem? (i := 24) rfl)) (by decide) (by decide)) (g := (mkF m 54 #[.val (.int p1), .val (.int p2), .val (.int p3), .val (.int p4), .val (.int p5), .val (.int (4 : Int32)), .val (.ref b1), .val (.int (((0 : Int32) * (16777619 : Int32)) ^^^ p2.toInt8.toInt32))] [(.int p3), (.int (((0 : Int32) * (16777619 : Int32)) ^^^ p2.toInt8.toInt32))])) rfl (by rw [hml]; rfl) (argsL := [(.int (((0 : Int32) * (16777619 : Int32)) ^^^ p2.toInt8.toInt32)), (.int p3)]) (rest := []) (lenOf pd_4 rfl) rfl (by show 2 * 0 + _ ≤ _; exact Nat.le_of_eq rfl) (hb hby at_54) (fun _ _ => ⟨rfl, rfl, (by decide : 2 + 0 ≤ _), (by decide : 66 + 0 ≤ _)⟩)
    dsimp only [Pt.U, Pt.locs, Pt.cells, Pt.slots] at X60 l60 y60 z60 st60 hQ60
    subst l60 y60 z60
    obtain ⟨rfl, N60q, hh60⟩ := hQ60
    have N60 := Fr.app N58 N60q
    have sg61 : ∀ t₀, Steps p.tables e below (T60.setTop (mkF m 68 #[.val (.int p1), .val (.int p2), .val (.int p3), .val (.int p4), .val (.int p5), .val (.int (4 : Int32)), .val (.ref b1), .val (.int (((((0 : Int32) * (16777619 : Int32)) ^^^ p2.toInt8.toInt32) * (16777619 : Int32)) ^^^ p3.toInt8.toInt32))] [(.int p4), (.ref b1)])) t₀ → Steps p.tables e below (T60.setTop (mkF m 57 #[.val (.int p1), .val (.int p2), .val (.int p3), .val (.int p4), .val (.int p5), .val (.int (4 : Int32)), .val (.ref b1), .val (.int (((0 : Int32) * (16777619 : Int32)) ^^^ p2.toInt8.toInt32))] [(.int (((((0 : Int32) * (16777619 : Int32)) ^^^ p2.toInt8.toInt32) * (16777619 : Int32)) ^^^ p3.toInt8.toInt32))])) t₀ := by
      intro t₀ kt
      show Steps p.tables e below (T60.setTop (mkF m 57 #[.val (.int p1), .val (.int p2), .val (.int p3), .val (.int p4), .val (.int p5), .val (.int (4 : Int32)), .val (.ref b1), .val (.int (((0 : Int32) * (16777619 : Int32)) ^^^ p2.toInt8.toInt32))] [(.int (((((0 : Int32) * (16777619 : Int32)) ^^^ p2.toInt8.toInt32) * (16777619 : Int32)) ^^^ p3.toInt8.toInt32))])) _
      refine XS.istore X60.here hx rfl (hb hby at_57) rfl (l' := #[.val (.int p1), .val (.int p2), .val (.int p3), .val (.int p4), .val (.int p5), .val (.int (4 : Int32)), .val (.ref b1), .val (.int (((((0 : Int32) * (16777619 : Int32)) ^^^ p2.toInt8.toInt32) * (16777619 : Int32)) ^^^ p3.toInt8.toInt32))]) rfl ?_
      show Steps p.tables e below (T60.setTop (mkF m 59 #[.val (.int p1), .val (.int p2), .val (.int p3), .val (.int p4), .val (.int p5), .val (.int (4 : Int32)), .val (.ref b1), .val (.int (((((0 : Int32) * (16777619 : Int32)) ^^^ p2.toInt8.toInt32) * (16777619 : Int32)) ^^^ p3.toInt8.toInt32))] [])) _
      refine XS.iload X60.here hx rfl (hb hby at_59) rfl ?_
      show Steps p.tables e below (T60.setTop (mkF m 61 #[.val (.int p1), .val (.int p2), .val (.int p3), .val (.int p4), .val (.int p5), .val (.int (4 : Int32)), .val (.ref b1), .val (.int (((((0 : Int32) * (16777619 : Int32)) ^^^ p2.toInt8.toInt32) * (16777619 : Int32)) ^^^ p3.toInt8.toInt32))] [(.int (4 : Int32))])) _
      refine XS.iconst X60.here hx rfl (hb hby at_61) ?_
      show Steps p.tables e below (T60.setTop (mkF m 62 #[.val (.int p1), .val (.int p2), .val (.int p3), .val (.int p4), .val (.int p5), .val (.int (4 : Int32)), .val (.ref b1), .val (.int (((((0 : Int32) * (16777619 : Int32)) ^^^ p2.toInt8.toInt32) * (16777619 : Int32)) ^^^ p3.toInt8.toInt32))] [(.int (2 : Int32)), (.int (4 : Int32))])) _
      refine XS.icmpNo X60.here hx rfl (hb hby at_62) rfl (tlt (by decide : (2 : Int32) < (4 : Int32))).2.2.2 ?_
      show Steps p.tables e below (T60.setTop (mkF m 65 #[.val (.int p1), .val (.int p2), .val (.int p3), .val (.int p4), .val (.int p5), .val (.int (4 : Int32)), .val (.ref b1), .val (.int (((((0 : Int32) * (16777619 : Int32)) ^^^ p2.toInt8.toInt32) * (16777619 : Int32)) ^^^ p3.toInt8.toInt32))] [])) _
      refine XS.aload X60.here hx rfl (hb hby at_65) rfl rfl ?_
      show Steps p.tables e below (T60.setTop (mkF m 67 #[.val (.int p1), .val (.int p2), .val (.int p3), .val (.int p4), .val (.int p5), .val (.int (4 : Int32)), .val (.ref b1), .val (.int (((((0 : Int32) * (16777619 : Int32)) ^^^ p2.toInt8.toInt32) * (16777619 : Int32)) ^^^ p3.toInt8.toInt32))] [(.ref b1)])) _
      refine XS.iloadN X60.here hx rfl (hb hby at_67) rfl ?_
      exact kt
    obtain ⟨cq62, kq62, q62a, q62b, q62c⟩ := isOf hZ hh60 EE2
    obtain ⟨_, _, ⟨T62, L62, k62, n62⟩, -, X62, ⟨Lc62, hQ62, l62, y62, z62⟩, st62⟩ := X60.virtualBack hx (y := (⟨"com/example/conforce/conforce/engine/ByteWriter", "write", "(I)V"⟩ : MethodName)) (z := (⟨"com/example/conforce/conforce/engine/ByteWriter", "write", "(I)V"⟩ : MethodName)) hown (mvT hZ (hw _ (List.mem_of_getElem? (i := 28) rfl))) (mvT hZ (hw _ (List.mem_of_getElem? (i := 29) rfl))) (notFace_of_selects (args := #[]) (mvT hZ (hw _ (List.mem_of_getElem? (i := 31) rfl)))) (mvT hZ (hw _ (List.mem_of_getElem? (i := 31) rfl))) (mvT hZ (hw _ (List.mem_of_getElem? (i := 30) rfl))) (by decide) (backOf (W := 0) (rm5 l Z a0 hw [] b1 p4 t (2 : Int32) (3 : Int32) 2 (fun i => if i = 1 then p3.toInt8.toInt32 else (fun i => if i = 0 then p2.toInt8.toInt32 else (fun _ => (0 : Int32)) i) i) T58.heap n0 zz2 EE2 g_b1 gt hne FB2 FL2 AA2 (by decide) rfl (by decide)) hZ (hw _ (List.mem_of_getElem? (i := 32) rfl)) (hw _ (List.mem_of_getElem? (i := 3) rfl)) (by decide) (by decide)) q62a q62c (g := (mkF m 68 #[.val (.int p1), .val (.int p2), .val (.int p3), .val (.int p4), .val (.int p5), .val (.int (4 : Int32)), .val (.ref b1), .val (.int (((((0 : Int32) * (16777619 : Int32)) ^^^ p2.toInt8.toInt32) * (16777619 : Int32)) ^^^ p3.toInt8.toInt32))] [(.int p4), (.ref b1)])) rfl (by rw [hml]; rfl) (Steps.refl _) (argsL := [(.int p4)]) (rest := []) (lenOf pd_3 rfl) rfl (by show 2 * 0 + _ ≤ _; exact Nat.le_of_eq rfl) (hb hby at_68) (fun _ _ => ⟨rfl, hh60, (by decide : 2 + 0 ≤ _), (by decide : 66 + 0 ≤ _)⟩)
    dsimp only [Pt.U, Pt.locs, Pt.cells, Pt.slots] at X62 l62 y62 z62 st62 hQ62
    subst l62 y62 z62
    obtain ⟨rfl, N62q, zz3, EE3, FL3, FB3, AA3⟩ := hQ62
    have N62 := Fr.app N60 N62q
    have sg63 : ∀ t₀, Steps p.tables e below (T62.setTop (mkF m 74 #[.val (.int p1), .val (.int p2), .val (.int p3), .val (.int p4), .val (.int p5), .val (.int (4 : Int32)), .val (.ref b1), .val (.int (((((0 : Int32) * (16777619 : Int32)) ^^^ p2.toInt8.toInt32) * (16777619 : Int32)) ^^^ p3.toInt8.toInt32))] [(.int p4), (.int (((((0 : Int32) * (16777619 : Int32)) ^^^ p2.toInt8.toInt32) * (16777619 : Int32)) ^^^ p3.toInt8.toInt32))])) t₀ → Steps p.tables e below (T62.setTop (mkF m 71 #[.val (.int p1), .val (.int p2), .val (.int p3), .val (.int p4), .val (.int p5), .val (.int (4 : Int32)), .val (.ref b1), .val (.int (((((0 : Int32) * (16777619 : Int32)) ^^^ p2.toInt8.toInt32) * (16777619 : Int32)) ^^^ p3.toInt8.toInt32))] [])) t₀ := by
      intro t₀ kt
      show Steps p.tables e below (T62.setTop (mkF m 71 #[.val (.int p1), .val (.int p2), .val (.int p3), .val (.int p4), .val (.int p5), .val (.int (4 : Int32)), .val (.ref b1), .val (.int (((((0 : Int32) * (16777619 : Int32)) ^^^ p2.toInt8.toInt32) * (16777619 : Int32)) ^^^ p3.toInt8.toInt32))] [])) _
      refine XS.iload X62.here hx rfl (hb hby at_71) rfl ?_
      show Steps p.tables e below (T62.setTop (mkF m 73 #[.val (.int p1), .val (.int p2), .val (.int p3), .val (.int p4), .val (.int p5), .val (.int (4 : Int32)), .val (.ref b1), .val (.int (((((0 : Int32) * (16777619 : Int32)) ^^^ p2.toInt8.toInt32) * (16777619 : Int32)) ^^^ p3.toInt8.toInt32))] [(.int (((((0 : Int32) * (16777619 : Int32)) ^^^ p2.toInt8.toInt32) * (16777619 : Int32)) ^^^ p3.toInt8.toInt32))])) _
      refine XS.iloadN X62.here hx rfl (hb hby at_73) rfl ?_
      exact kt
    obtain ⟨_, _, ⟨T64, L64, k64, n64⟩, -, X64, ⟨Lc64, hQ64, l64, y64, z64⟩, st64⟩ := Jvm.LawKit.callS X62 hx (y := (⟨"com/example/conforce/conforce/engine/ByteWriterHashPinLaw", "fold", "(II)I"⟩ : MethodName)) hown (mvT hZ (hw _ (List.mem_of_getElem? (i := 33) rfl))) (mvT hZ (hw _ (List.mem_of_getElem? (i := 34) rfl))) (mvT hZ (hw _ (List.mem_of_getElem? (i := 24) rfl))) (mvT hZ (hw _ (List.mem_of_getElem? (i := 35) rfl))) (by decide) (backOf (W := 0) (rm6 l Z a0 hw [] (((((0 : Int32) * (16777619 : Int32)) ^^^ p2.toInt8.toInt32) * (16777619 : Int32)) ^^^ p3.toInt8.toInt32) p4 T62.heap n0 zz3) hZ (hw _ (List.mem_of_getElem? (i := 35) rfl)) (hw _ (List.mem_of_getElem? (i := 24) rfl)) (by decide) (by decide)) (g := (mkF m 74 #[.val (.int p1), .val (.int p2), .val (.int p3), .val (.int p4), .val (.int p5), .val (.int (4 : Int32)), .val (.ref b1), .val (.int (((((0 : Int32) * (16777619 : Int32)) ^^^ p2.toInt8.toInt32) * (16777619 : Int32)) ^^^ p3.toInt8.toInt32))] [(.int p4), (.int (((((0 : Int32) * (16777619 : Int32)) ^^^ p2.toInt8.toInt32) * (16777619 : Int32)) ^^^ p3.toInt8.toInt32))])) rfl (by rw [hml]; rfl) (argsL := [(.int (((((0 : Int32) * (16777619 : Int32)) ^^^ p2.toInt8.toInt32) * (16777619 : Int32)) ^^^ p3.toInt8.toInt32)), (.int p4)]) (rest := []) (lenOf pd_4 rfl) rfl (by show 2 * 0 + _ ≤ _; exact Nat.le_of_eq rfl) (hb hby at_74) (fun _ _ => ⟨rfl, rfl, (by decide : 2 + 0 ≤ _), (by decide : 66 + 0 ≤ _)⟩)
    dsimp only [Pt.U, Pt.locs, Pt.cells, Pt.slots] at X64 l64 y64 z64 st64 hQ64
    subst l64 y64 z64
    obtain ⟨rfl, N64q, hh64⟩ := hQ64
    have N64 := Fr.app N62 N64q
    have sg65 : ∀ t₀, Steps p.tables e below (T64.setTop (mkF m 89 #[.val (.int p1), .val (.int p2), .val (.int p3), .val (.int p4), .val (.int p5), .val (.int (4 : Int32)), .val (.ref b1), .val (.int (((((((0 : Int32) * (16777619 : Int32)) ^^^ p2.toInt8.toInt32) * (16777619 : Int32)) ^^^ p3.toInt8.toInt32) * (16777619 : Int32)) ^^^ p4.toInt8.toInt32))] [(.int p5), (.ref b1)])) t₀ → Steps p.tables e below (T64.setTop (mkF m 77 #[.val (.int p1), .val (.int p2), .val (.int p3), .val (.int p4), .val (.int p5), .val (.int (4 : Int32)), .val (.ref b1), .val (.int (((((0 : Int32) * (16777619 : Int32)) ^^^ p2.toInt8.toInt32) * (16777619 : Int32)) ^^^ p3.toInt8.toInt32))] [(.int (((((((0 : Int32) * (16777619 : Int32)) ^^^ p2.toInt8.toInt32) * (16777619 : Int32)) ^^^ p3.toInt8.toInt32) * (16777619 : Int32)) ^^^ p4.toInt8.toInt32))])) t₀ := by
      intro t₀ kt
      show Steps p.tables e below (T64.setTop (mkF m 77 #[.val (.int p1), .val (.int p2), .val (.int p3), .val (.int p4), .val (.int p5), .val (.int (4 : Int32)), .val (.ref b1), .val (.int (((((0 : Int32) * (16777619 : Int32)) ^^^ p2.toInt8.toInt32) * (16777619 : Int32)) ^^^ p3.toInt8.toInt32))] [(.int (((((((0 : Int32) * (16777619 : Int32)) ^^^ p2.toInt8.toInt32) * (16777619 : Int32)) ^^^ p3.toInt8.toInt32) * (16777619 : Int32)) ^^^ p4.toInt8.toInt32))])) _
      refine XS.istore X64.here hx rfl (hb hby at_77) rfl (l' := #[.val (.int p1), .val (.int p2), .val (.int p3), .val (.int p4), .val (.int p5), .val (.int (4 : Int32)), .val (.ref b1), .val (.int (((((((0 : Int32) * (16777619 : Int32)) ^^^ p2.toInt8.toInt32) * (16777619 : Int32)) ^^^ p3.toInt8.toInt32) * (16777619 : Int32)) ^^^ p4.toInt8.toInt32))]) rfl ?_
      show Steps p.tables e below (T64.setTop (mkF m 79 #[.val (.int p1), .val (.int p2), .val (.int p3), .val (.int p4), .val (.int p5), .val (.int (4 : Int32)), .val (.ref b1), .val (.int (((((((0 : Int32) * (16777619 : Int32)) ^^^ p2.toInt8.toInt32) * (16777619 : Int32)) ^^^ p3.toInt8.toInt32) * (16777619 : Int32)) ^^^ p4.toInt8.toInt32))] [])) _
      refine XS.iload X64.here hx rfl (hb hby at_79) rfl ?_
      show Steps p.tables e below (T64.setTop (mkF m 81 #[.val (.int p1), .val (.int p2), .val (.int p3), .val (.int p4), .val (.int p5), .val (.int (4 : Int32)), .val (.ref b1), .val (.int (((((((0 : Int32) * (16777619 : Int32)) ^^^ p2.toInt8.toInt32) * (16777619 : Int32)) ^^^ p3.toInt8.toInt32) * (16777619 : Int32)) ^^^ p4.toInt8.toInt32))] [(.int (4 : Int32))])) _
      refine XS.iconst X64.here hx rfl (hb hby at_81) ?_
      show Steps p.tables e below (T64.setTop (mkF m 82 #[.val (.int p1), .val (.int p2), .val (.int p3), .val (.int p4), .val (.int p5), .val (.int (4 : Int32)), .val (.ref b1), .val (.int (((((((0 : Int32) * (16777619 : Int32)) ^^^ p2.toInt8.toInt32) * (16777619 : Int32)) ^^^ p3.toInt8.toInt32) * (16777619 : Int32)) ^^^ p4.toInt8.toInt32))] [(.int (3 : Int32)), (.int (4 : Int32))])) _
      refine XS.icmpNo X64.here hx rfl (hb hby at_82) rfl (tlt (by decide : (3 : Int32) < (4 : Int32))).2.2.2 ?_
      show Steps p.tables e below (T64.setTop (mkF m 85 #[.val (.int p1), .val (.int p2), .val (.int p3), .val (.int p4), .val (.int p5), .val (.int (4 : Int32)), .val (.ref b1), .val (.int (((((((0 : Int32) * (16777619 : Int32)) ^^^ p2.toInt8.toInt32) * (16777619 : Int32)) ^^^ p3.toInt8.toInt32) * (16777619 : Int32)) ^^^ p4.toInt8.toInt32))] [])) _
      refine XS.aload X64.here hx rfl (hb hby at_85) rfl rfl ?_
      show Steps p.tables e below (T64.setTop (mkF m 87 #[.val (.int p1), .val (.int p2), .val (.int p3), .val (.int p4), .val (.int p5), .val (.int (4 : Int32)), .val (.ref b1), .val (.int (((((((0 : Int32) * (16777619 : Int32)) ^^^ p2.toInt8.toInt32) * (16777619 : Int32)) ^^^ p3.toInt8.toInt32) * (16777619 : Int32)) ^^^ p4.toInt8.toInt32))] [(.ref b1)])) _
      refine XS.iload X64.here hx rfl (hb hby at_87) rfl ?_
      exact kt
    obtain ⟨cq66, kq66, q66a, q66b, q66c⟩ := isOf hZ hh64 EE3
    obtain ⟨_, _, ⟨T66, L66, k66, n66⟩, -, X66, ⟨Lc66, hQ66, l66, y66, z66⟩, st66⟩ := X64.virtualBack hx (y := (⟨"com/example/conforce/conforce/engine/ByteWriter", "write", "(I)V"⟩ : MethodName)) (z := (⟨"com/example/conforce/conforce/engine/ByteWriter", "write", "(I)V"⟩ : MethodName)) hown (mvT hZ (hw _ (List.mem_of_getElem? (i := 28) rfl))) (mvT hZ (hw _ (List.mem_of_getElem? (i := 29) rfl))) (notFace_of_selects (args := #[]) (mvT hZ (hw _ (List.mem_of_getElem? (i := 31) rfl)))) (mvT hZ (hw _ (List.mem_of_getElem? (i := 31) rfl))) (mvT hZ (hw _ (List.mem_of_getElem? (i := 30) rfl))) (by decide) (backOf (W := 0) (rm5 l Z a0 hw [] b1 p5 t (3 : Int32) (4 : Int32) 3 (fun i => if i = 2 then p4.toInt8.toInt32 else (fun i => if i = 1 then p3.toInt8.toInt32 else (fun i => if i = 0 then p2.toInt8.toInt32 else (fun _ => (0 : Int32)) i) i) i) T62.heap n0 zz3 EE3 g_b1 gt hne FB3 FL3 AA3 (by decide) rfl (by decide)) hZ (hw _ (List.mem_of_getElem? (i := 32) rfl)) (hw _ (List.mem_of_getElem? (i := 3) rfl)) (by decide) (by decide)) q66a q66c (g := (mkF m 89 #[.val (.int p1), .val (.int p2), .val (.int p3), .val (.int p4), .val (.int p5), .val (.int (4 : Int32)), .val (.ref b1), .val (.int (((((((0 : Int32) * (16777619 : Int32)) ^^^ p2.toInt8.toInt32) * (16777619 : Int32)) ^^^ p3.toInt8.toInt32) * (16777619 : Int32)) ^^^ p4.toInt8.toInt32))] [(.int p5), (.ref b1)])) rfl (by rw [hml]; rfl) (Steps.refl _) (argsL := [(.int p5)]) (rest := []) (lenOf pd_3 rfl) rfl (by show 2 * 0 + _ ≤ _; exact Nat.le_of_eq rfl) (hb hby at_89) (fun _ _ => ⟨rfl, hh64, (by decide : 2 + 0 ≤ _), (by decide : 66 + 0 ≤ _)⟩)
    dsimp only [Pt.U, Pt.locs, Pt.cells, Pt.slots] at X66 l66 y66 z66 st66 hQ66
    subst l66 y66 z66
    obtain ⟨rfl, N66q, zz4, EE4, FL4, FB4, AA4⟩ := hQ66
    have N66 := Fr.app N64 N66q
    have sg67 : ∀ t₀, Steps p.tables e below (T66.setTop (mkF m 96 #[.val (.int p1), .val (.int p2), .val (.int p3), .val (.int p4), .val (.int p5), .val (.int (4 : Int32)), .val (.ref b1), .val (.int (((((((0 : Int32) * (16777619 : Int32)) ^^^ p2.toInt8.toInt32) * (16777619 : Int32)) ^^^ p3.toInt8.toInt32) * (16777619 : Int32)) ^^^ p4.toInt8.toInt32))] [(.int p5), (.int (((((((0 : Int32) * (16777619 : Int32)) ^^^ p2.toInt8.toInt32) * (16777619 : Int32)) ^^^ p3.toInt8.toInt32) * (16777619 : Int32)) ^^^ p4.toInt8.toInt32))])) t₀ → Steps p.tables e below (T66.setTop (mkF m 92 #[.val (.int p1), .val (.int p2), .val (.int p3), .val (.int p4), .val (.int p5), .val (.int (4 : Int32)), .val (.ref b1), .val (.int (((((((0 : Int32) * (16777619 : Int32)) ^^^ p2.toInt8.toInt32) * (16777619 : Int32)) ^^^ p3.toInt8.toInt32) * (16777619 : Int32)) ^^^ p4.toInt8.toInt32))] [])) t₀ := by
      intro t₀ kt
      show Steps p.tables e below (T66.setTop (mkF m 92 #[.val (.int p1), .val (.int p2), .val (.int p3), .val (.int p4), .val (.int p5), .val (.int (4 : Int32)), .val (.ref b1), .val (.int (((((((0 : Int32) * (16777619 : Int32)) ^^^ p2.toInt8.toInt32) * (16777619 : Int32)) ^^^ p3.toInt8.toInt32) * (16777619 : Int32)) ^^^ p4.toInt8.toInt32))] [])) _
      refine XS.iload X66.here hx rfl (hb hby at_92) rfl ?_
      show Steps p.tables e below (T66.setTop (mkF m 94 #[.val (.int p1), .val (.int p2), .val (.int p3), .val (.int p4), .val (.int p5), .val (.int (4 : Int32)), .val (.ref b1), .val (.int (((((((0 : Int32) * (16777619 : Int32)) ^^^ p2.toInt8.toInt32) * (16777619 : Int32)) ^^^ p3.toInt8.toInt32) * (16777619 : Int32)) ^^^ p4.toInt8.toInt32))] [(.int (((((((0 : Int32) * (16777619 : Int32)) ^^^ p2.toInt8.toInt32) * (16777619 : Int32)) ^^^ p3.toInt8.toInt32) * (16777619 : Int32)) ^^^ p4.toInt8.toInt32))])) _
      refine XS.iload X66.here hx rfl (hb hby at_94) rfl ?_
      exact kt
    obtain ⟨_, _, ⟨T68, L68, k68, n68⟩, -, X68, ⟨Lc68, hQ68, l68, y68, z68⟩, st68⟩ := Jvm.LawKit.callS X66 hx (y := (⟨"com/example/conforce/conforce/engine/ByteWriterHashPinLaw", "fold", "(II)I"⟩ : MethodName)) hown (mvT hZ (hw _ (List.mem_of_getElem? (i := 33) rfl))) (mvT hZ (hw _ (List.mem_of_getElem? (i := 34) rfl))) (mvT hZ (hw _ (List.mem_of_getElem? (i := 24) rfl))) (mvT hZ (hw _ (List.mem_of_getElem? (i := 35) rfl))) (by decide) (backOf (W := 0) (rm6 l Z a0 hw [] (((((((0 : Int32) * (16777619 : Int32)) ^^^ p2.toInt8.toInt32) * (16777619 : Int32)) ^^^ p3.toInt8.toInt32) * (16777619 : Int32)) ^^^ p4.toInt8.toInt32) p5 T66.heap n0 zz4) hZ (hw _ (List.mem_of_getElem? (i := 35) rfl)) (hw _ (List.mem_of_getElem? (i := 24) rfl)) (by decide) (by decide)) (g := (mkF m 96 #[.val (.int p1), .val (.int p2), .val (.int p3), .val (.int p4), .val (.int p5), .val (.int (4 : Int32)), .val (.ref b1), .val (.int (((((((0 : Int32) * (16777619 : Int32)) ^^^ p2.toInt8.toInt32) * (16777619 : Int32)) ^^^ p3.toInt8.toInt32) * (16777619 : Int32)) ^^^ p4.toInt8.toInt32))] [(.int p5), (.int (((((((0 : Int32) * (16777619 : Int32)) ^^^ p2.toInt8.toInt32) * (16777619 : Int32)) ^^^ p3.toInt8.toInt32) * (16777619 : Int32)) ^^^ p4.toInt8.toInt32))])) rfl (by rw [hml]; rfl) (argsL := [(.int (((((((0 : Int32) * (16777619 : Int32)) ^^^ p2.toInt8.toInt32) * (16777619 : Int32)) ^^^ p3.toInt8.toInt32) * (16777619 : Int32)) ^^^ p4.toInt8.toInt32)), (.int p5)]) (rest := []) (lenOf pd_4 rfl) rfl (by show 2 * 0 + _ ≤ _; exact Nat.le_of_eq rfl) (hb hby at_96) (fun _ _ => ⟨rfl, rfl, (by decide : 2 + 0 ≤ _), (by decide : 66 + 0 ≤ _)⟩)
    dsimp only [Pt.U, Pt.locs, Pt.cells, Pt.slots] at X68 l68 y68 z68 st68 hQ68
    subst l68 y68 z68
    obtain ⟨rfl, N68q, hh68⟩ := hQ68
    have N68 := Fr.app N66 N68q
    have sg69 : ∀ t₀, Steps p.tables e below (T68.setTop (mkF m 103 #[.val (.int p1), .val (.int p2), .val (.int p3), .val (.int p4), .val (.int p5), .val (.int (4 : Int32)), .val (.ref b1), .val (.int (((((((((0 : Int32) * (16777619 : Int32)) ^^^ p2.toInt8.toInt32) * (16777619 : Int32)) ^^^ p3.toInt8.toInt32) * (16777619 : Int32)) ^^^ p4.toInt8.toInt32) * (16777619 : Int32)) ^^^ p5.toInt8.toInt32))] [(.ref b1)])) t₀ → Steps p.tables e below (T68.setTop (mkF m 99 #[.val (.int p1), .val (.int p2), .val (.int p3), .val (.int p4), .val (.int p5), .val (.int (4 : Int32)), .val (.ref b1), .val (.int (((((((0 : Int32) * (16777619 : Int32)) ^^^ p2.toInt8.toInt32) * (16777619 : Int32)) ^^^ p3.toInt8.toInt32) * (16777619 : Int32)) ^^^ p4.toInt8.toInt32))] [(.int (((((((((0 : Int32) * (16777619 : Int32)) ^^^ p2.toInt8.toInt32) * (16777619 : Int32)) ^^^ p3.toInt8.toInt32) * (16777619 : Int32)) ^^^ p4.toInt8.toInt32) * (16777619 : Int32)) ^^^ p5.toInt8.toInt32))])) t₀ := by
      intro t₀ kt
      show Steps p.tables e below (T68.setTop (mkF m 99 #[.val (.int p1), .val (.int p2), .val (.int p3), .val (.int p4), .val (.int p5), .val (.int (4 : Int32)), .val (.ref b1), .val (.int (((((((0 : Int32) * (16777619 : Int32)) ^^^ p2.toInt8.toInt32) * (16777619 : Int32)) ^^^ p3.toInt8.toInt32) * (16777619 : Int32)) ^^^ p4.toInt8.toInt32))] [(.int (((((((((0 : Int32) * (16777619 : Int32)) ^^^ p2.toInt8.toInt32) * (16777619 : Int32)) ^^^ p3.toInt8.toInt32) * (16777619 : Int32)) ^^^ p4.toInt8.toInt32) * (16777619 : Int32)) ^^^ p5.toInt8.toInt32))])) _
      refine XS.istore X68.here hx rfl (hb hby at_99) rfl (l' := #[.val (.int p1), .val (.int p2), .val (.int p3), .val (.int p4), .val (.int p5), .val (.int (4 : Int32)), .val (.ref b1), .val (.int (((((((((0 : Int32) * (16777619 : Int32)) ^^^ p2.toInt8.toInt32) * (16777619 : Int32)) ^^^ p3.toInt8.toInt32) * (16777619 : Int32)) ^^^ p4.toInt8.toInt32) * (16777619 : Int32)) ^^^ p5.toInt8.toInt32))]) rfl ?_
      show Steps p.tables e below (T68.setTop (mkF m 101 #[.val (.int p1), .val (.int p2), .val (.int p3), .val (.int p4), .val (.int p5), .val (.int (4 : Int32)), .val (.ref b1), .val (.int (((((((((0 : Int32) * (16777619 : Int32)) ^^^ p2.toInt8.toInt32) * (16777619 : Int32)) ^^^ p3.toInt8.toInt32) * (16777619 : Int32)) ^^^ p4.toInt8.toInt32) * (16777619 : Int32)) ^^^ p5.toInt8.toInt32))] [])) _
      refine XS.aload X68.here hx rfl (hb hby at_101) rfl rfl ?_
      exact kt
    obtain ⟨cq70, kq70, q70a, q70b, q70c⟩ := isOf hZ hh68 EE4
    obtain ⟨_, _, ⟨T70, L70, k70, n70⟩, -, X70, ⟨Lc70, hQ70, l70, y70, z70⟩, st70⟩ := X68.virtualBack hx (y := (⟨"com/example/conforce/conforce/engine/ByteWriter", "hash", "()I"⟩ : MethodName)) (z := (⟨"com/example/conforce/conforce/engine/ByteWriter", "hash", "()I"⟩ : MethodName)) hown (mvT hZ (hw _ (List.mem_of_getElem? (i := 13) rfl))) (mvT hZ (hw _ (List.mem_of_getElem? (i := 14) rfl))) (notFace_of_selects (args := #[]) (mvT hZ (hw _ (List.mem_of_getElem? (i := 16) rfl)))) (mvT hZ (hw _ (List.mem_of_getElem? (i := 16) rfl))) (mvT hZ (hw _ (List.mem_of_getElem? (i := 15) rfl))) (by decide) (backOf (W := 0) (rm3 l Z a0 hw [] b1 t 4 (fun i => if i = 3 then p5.toInt8.toInt32 else (fun i => if i = 2 then p4.toInt8.toInt32 else (fun i => if i = 1 then p3.toInt8.toInt32 else (fun i => if i = 0 then p2.toInt8.toInt32 else (fun _ => (0 : Int32)) i) i) i) i) T66.heap n0 zz4 (by decide) FB4 FL4 AA4) hZ (hw _ (List.mem_of_getElem? (i := 17) rfl)) (hw _ (List.mem_of_getElem? (i := 3) rfl)) (by decide) (by decide)) q70a q70c (g := (mkF m 103 #[.val (.int p1), .val (.int p2), .val (.int p3), .val (.int p4), .val (.int p5), .val (.int (4 : Int32)), .val (.ref b1), .val (.int (((((((((0 : Int32) * (16777619 : Int32)) ^^^ p2.toInt8.toInt32) * (16777619 : Int32)) ^^^ p3.toInt8.toInt32) * (16777619 : Int32)) ^^^ p4.toInt8.toInt32) * (16777619 : Int32)) ^^^ p5.toInt8.toInt32))] [(.ref b1)])) rfl (by rw [hml]; rfl) (Steps.refl _) (argsL := []) (rest := []) (lenOf pd_0 rfl) rfl (by show 2 * 0 + _ ≤ _; exact Nat.le_of_eq rfl) (hb hby at_103) (fun _ _ => ⟨rfl, hh68, (by decide : 2 + 0 ≤ _), (by decide : 66 + 0 ≤ _)⟩)
    dsimp only [Pt.U, Pt.locs, Pt.cells, Pt.slots] at X70 l70 y70 z70 st70 hQ70
    subst l70 y70 z70
    obtain ⟨rfl, N70q, hh70⟩ := hQ70
    have N70 := Fr.app N68 N70q
    have sg71 : ∀ t₀, Steps p.tables e below (T70.setTop (mkF m 108 #[.val (.int p1), .val (.int p2), .val (.int p3), .val (.int p4), .val (.int p5), .val (.int (4 : Int32)), .val (.ref b1), .val (.int (((((((((0 : Int32) * (16777619 : Int32)) ^^^ p2.toInt8.toInt32) * (16777619 : Int32)) ^^^ p3.toInt8.toInt32) * (16777619 : Int32)) ^^^ p4.toInt8.toInt32) * (16777619 : Int32)) ^^^ p5.toInt8.toInt32))] [(.int (((((((((0 : Int32) * (16777619 : Int32)) ^^^ p2.toInt8.toInt32) * (16777619 : Int32)) ^^^ p3.toInt8.toInt32) * (16777619 : Int32)) ^^^ p4.toInt8.toInt32) * (16777619 : Int32)) ^^^ p5.toInt8.toInt32)), (.int (own_mix (own_h (fun i => if i = 3 then p5.toInt8.toInt32 else (fun i => if i = 2 then p4.toInt8.toInt32 else (fun i => if i = 1 then p3.toInt8.toInt32 else (fun i => if i = 0 then p2.toInt8.toInt32 else (fun _ => (0 : Int32)) i) i) i) i) 4 0 0)))])) t₀ → Steps p.tables e below (T70.setTop (mkF m 106 #[.val (.int p1), .val (.int p2), .val (.int p3), .val (.int p4), .val (.int p5), .val (.int (4 : Int32)), .val (.ref b1), .val (.int (((((((((0 : Int32) * (16777619 : Int32)) ^^^ p2.toInt8.toInt32) * (16777619 : Int32)) ^^^ p3.toInt8.toInt32) * (16777619 : Int32)) ^^^ p4.toInt8.toInt32) * (16777619 : Int32)) ^^^ p5.toInt8.toInt32))] [(.int (own_mix (own_h (fun i => if i = 3 then p5.toInt8.toInt32 else (fun i => if i = 2 then p4.toInt8.toInt32 else (fun i => if i = 1 then p3.toInt8.toInt32 else (fun i => if i = 0 then p2.toInt8.toInt32 else (fun _ => (0 : Int32)) i) i) i) i) 4 0 0)))])) t₀ := by
      intro t₀ kt
      show Steps p.tables e below (T70.setTop (mkF m 106 #[.val (.int p1), .val (.int p2), .val (.int p3), .val (.int p4), .val (.int p5), .val (.int (4 : Int32)), .val (.ref b1), .val (.int (((((((((0 : Int32) * (16777619 : Int32)) ^^^ p2.toInt8.toInt32) * (16777619 : Int32)) ^^^ p3.toInt8.toInt32) * (16777619 : Int32)) ^^^ p4.toInt8.toInt32) * (16777619 : Int32)) ^^^ p5.toInt8.toInt32))] [(.int (own_mix (own_h (fun i => if i = 3 then p5.toInt8.toInt32 else (fun i => if i = 2 then p4.toInt8.toInt32 else (fun i => if i = 1 then p3.toInt8.toInt32 else (fun i => if i = 0 then p2.toInt8.toInt32 else (fun _ => (0 : Int32)) i) i) i) i) 4 0 0)))])) _
      refine XS.iload X70.here hx rfl (hb hby at_106) rfl ?_
      exact kt
    have hH : own_h (fun i => if i = 3 then p5.toInt8.toInt32 else (fun i => if i = 2 then p4.toInt8.toInt32 else (fun i => if i = 1 then p3.toInt8.toInt32 else (fun i => if i = 0 then p2.toInt8.toInt32 else (fun _ => (0 : Int32)) i) i) i) i) 4 0 0 = (((((((((0 : Int32) * (16777619 : Int32)) ^^^ p2.toInt8.toInt32) * (16777619 : Int32)) ^^^ p3.toInt8.toInt32) * (16777619 : Int32)) ^^^ p4.toInt8.toInt32) * (16777619 : Int32)) ^^^ p5.toInt8.toInt32) := by rfl
    obtain ⟨_, _, ⟨T72, L72, k72, n72⟩, -, X72, ⟨Lc72, hQ72, l72, y72, z72⟩, st72⟩ := Jvm.LawKit.callS X70 hx (y := (⟨"com/example/conforce/conforce/engine/ByteWriterHashPinLaw", "fmix", "(I)I"⟩ : MethodName)) hown (mvT hZ (hw _ (List.mem_of_getElem? (i := 22) rfl))) (mvT hZ (hw _ (List.mem_of_getElem? (i := 23) rfl))) (mvT hZ (hw _ (List.mem_of_getElem? (i := 24) rfl))) (mvT hZ (hw _ (List.mem_of_getElem? (i := 25) rfl))) (by decide) (backOf (W := 1) (rm4 l Z a0 hw [] (((((((((0 : Int32) * (16777619 : Int32)) ^^^ p2.toInt8.toInt32) * (16777619 : Int32)) ^^^ p3.toInt8.toInt32) * (16777619 : Int32)) ^^^ p4.toInt8.toInt32) * (16777619 : Int32)) ^^^ p5.toInt8.toInt32) T66.heap n0 zz4) hZ (hw _ (List.mem_of_getElem? (i := 25) rfl)) (hw _ (List.mem_of_getElem? (i := 24) rfl)) (by decide) (by decide)) (g := (mkF m 108 #[.val (.int p1), .val (.int p2), .val (.int p3), .val (.int p4), .val (.int p5), .val (.int (4 : Int32)), .val (.ref b1), .val (.int (((((((((0 : Int32) * (16777619 : Int32)) ^^^ p2.toInt8.toInt32) * (16777619 : Int32)) ^^^ p3.toInt8.toInt32) * (16777619 : Int32)) ^^^ p4.toInt8.toInt32) * (16777619 : Int32)) ^^^ p5.toInt8.toInt32))] [(.int (((((((((0 : Int32) * (16777619 : Int32)) ^^^ p2.toInt8.toInt32) * (16777619 : Int32)) ^^^ p3.toInt8.toInt32) * (16777619 : Int32)) ^^^ p4.toInt8.toInt32) * (16777619 : Int32)) ^^^ p5.toInt8.toInt32)), (.int (own_mix (own_h (fun i => if i = 3 then p5.toInt8.toInt32 else (fun i => if i = 2 then p4.toInt8.toInt32 else (fun i => if i = 1 then p3.toInt8.toInt32 else (fun i => if i = 0 then p2.toInt8.toInt32 else (fun _ => (0 : Int32)) i) i) i) i) 4 0 0)))])) rfl (by rw [hml]; rfl) (argsL := [(.int (((((((((0 : Int32) * (16777619 : Int32)) ^^^ p2.toInt8.toInt32) * (16777619 : Int32)) ^^^ p3.toInt8.toInt32) * (16777619 : Int32)) ^^^ p4.toInt8.toInt32) * (16777619 : Int32)) ^^^ p5.toInt8.toInt32))]) (rest := [(.int (own_mix (own_h (fun i => if i = 3 then p5.toInt8.toInt32 else (fun i => if i = 2 then p4.toInt8.toInt32 else (fun i => if i = 1 then p3.toInt8.toInt32 else (fun i => if i = 0 then p2.toInt8.toInt32 else (fun _ => (0 : Int32)) i) i) i) i) 4 0 0)))]) (lenOf pd_2 rfl) rfl (by show 2 * 0 + _ ≤ _; exact Nat.le_of_eq rfl) (hb hby at_108) (fun _ _ => ⟨rfl, hh70, (by decide : 2 + 0 ≤ _), (by decide : 66 + 0 ≤ _)⟩)
    dsimp only [Pt.U, Pt.locs, Pt.cells, Pt.slots] at X72 l72 y72 z72 st72 hQ72
    subst l72 y72 z72
    obtain ⟨rfl, N72q, hh72⟩ := hQ72
    have N72 := Fr.app N70 N72q
    have sg73 : ∀ t₀, Steps p.tables e below (T72.setTop (mkF m 119 #[.val (.int p1), .val (.int p2), .val (.int p3), .val (.int p4), .val (.int p5), .val (.int (4 : Int32)), .val (.ref b1), .val (.int (((((((((0 : Int32) * (16777619 : Int32)) ^^^ p2.toInt8.toInt32) * (16777619 : Int32)) ^^^ p3.toInt8.toInt32) * (16777619 : Int32)) ^^^ p4.toInt8.toInt32) * (16777619 : Int32)) ^^^ p5.toInt8.toInt32))] [(.int (1 : Int32))])) t₀ → Steps p.tables e below (T72.setTop (mkF m 111 #[.val (.int p1), .val (.int p2), .val (.int p3), .val (.int p4), .val (.int p5), .val (.int (4 : Int32)), .val (.ref b1), .val (.int (((((((((0 : Int32) * (16777619 : Int32)) ^^^ p2.toInt8.toInt32) * (16777619 : Int32)) ^^^ p3.toInt8.toInt32) * (16777619 : Int32)) ^^^ p4.toInt8.toInt32) * (16777619 : Int32)) ^^^ p5.toInt8.toInt32))] [(.int (own_mix (((((((((0 : Int32) * (16777619 : Int32)) ^^^ p2.toInt8.toInt32) * (16777619 : Int32)) ^^^ p3.toInt8.toInt32) * (16777619 : Int32)) ^^^ p4.toInt8.toInt32) * (16777619 : Int32)) ^^^ p5.toInt8.toInt32))), (.int (own_mix (own_h (fun i => if i = 3 then p5.toInt8.toInt32 else (fun i => if i = 2 then p4.toInt8.toInt32 else (fun i => if i = 1 then p3.toInt8.toInt32 else (fun i => if i = 0 then p2.toInt8.toInt32 else (fun _ => (0 : Int32)) i) i) i) i) 4 0 0)))])) t₀ := by
      intro t₀ kt
      show Steps p.tables e below (T72.setTop (mkF m 111 #[.val (.int p1), .val (.int p2), .val (.int p3), .val (.int p4), .val (.int p5), .val (.int (4 : Int32)), .val (.ref b1), .val (.int (((((((((0 : Int32) * (16777619 : Int32)) ^^^ p2.toInt8.toInt32) * (16777619 : Int32)) ^^^ p3.toInt8.toInt32) * (16777619 : Int32)) ^^^ p4.toInt8.toInt32) * (16777619 : Int32)) ^^^ p5.toInt8.toInt32))] [(.int (own_mix (((((((((0 : Int32) * (16777619 : Int32)) ^^^ p2.toInt8.toInt32) * (16777619 : Int32)) ^^^ p3.toInt8.toInt32) * (16777619 : Int32)) ^^^ p4.toInt8.toInt32) * (16777619 : Int32)) ^^^ p5.toInt8.toInt32))), (.int (own_mix (own_h (fun i => if i = 3 then p5.toInt8.toInt32 else (fun i => if i = 2 then p4.toInt8.toInt32 else (fun i => if i = 1 then p3.toInt8.toInt32 else (fun i => if i = 0 then p2.toInt8.toInt32 else (fun _ => (0 : Int32)) i) i) i) i) 4 0 0)))])) _
      refine XS.icmpNo X72.here hx rfl (hb hby at_111) rfl (teq (congrArg own_mix hH)).2 ?_
      show Steps p.tables e below (T72.setTop (mkF m 114 #[.val (.int p1), .val (.int p2), .val (.int p3), .val (.int p4), .val (.int p5), .val (.int (4 : Int32)), .val (.ref b1), .val (.int (((((((((0 : Int32) * (16777619 : Int32)) ^^^ p2.toInt8.toInt32) * (16777619 : Int32)) ^^^ p3.toInt8.toInt32) * (16777619 : Int32)) ^^^ p4.toInt8.toInt32) * (16777619 : Int32)) ^^^ p5.toInt8.toInt32))] [])) _
      refine XS.iconst X72.here hx rfl (hb hby at_114) ?_
      show Steps p.tables e below (T72.setTop (mkF m 115 #[.val (.int p1), .val (.int p2), .val (.int p3), .val (.int p4), .val (.int p5), .val (.int (4 : Int32)), .val (.ref b1), .val (.int (((((((((0 : Int32) * (16777619 : Int32)) ^^^ p2.toInt8.toInt32) * (16777619 : Int32)) ^^^ p3.toInt8.toInt32) * (16777619 : Int32)) ^^^ p4.toInt8.toInt32) * (16777619 : Int32)) ^^^ p5.toInt8.toInt32))] [(.int (1 : Int32))])) _
      refine XS.goto X72.here hx rfl (pc0 := 115) (pc' := 119) rfl (hb hby at_115) (by decide) (by decide) ?_
      exact kt
    obtain ⟨fs, hr, hrun, hended, hW, hsame⟩ := X72.leave (v := some (.int (1 : Int32))) (fun h => by rw [Bd.returns] at h; cases h)
    refine ⟨_, _, pre0 _ ?_, hrun, hended, _, _, rfl, ?_, ⟨_, rfl⟩, hW, hsame.mono (by decide) (by decide)⟩
    · exact sq _ (st1 _ (sg2 _ (st3.trans (sg52 _ (sg53 _ (st54.trans (sg55 _ (st56 _ (sg57 _ (st58.trans (sg59 _ (st60 _ (sg61 _ (st62.trans (sg63 _ (st64 _ (sg65 _ (st66.trans (sg67 _ (st68 _ (sg69 _ (st70.trans (sg71 _ (st72 _ (sg73 _ ((retN X72 hx (t := .boolean) Bd.returns (by simp) (hb hby at_119) hr)))))))))))))))))))))))))))
    · show Q0 Z p1 p2 p3 p4 p5 h0 n0 _ T72.heap _
      rw [hh72]
      exact ⟨rfl, N72⟩
set_option maxRecDepth 65536 in
set_option maxHeartbeats 40000000 in
theorem comes_1 {Post : Tables → Env → Array Value → State → Outcome → State → Prop} (hpost : ∀ tb e args s v u, (limb_1_1.after args s (.returned v) u = true ∧ limb_1_2.after args s (.returned v) u = true ∧ True) → FrameEnd s (.returned v) u (Jvm.fieldLocs frame_1_writes args s ++ Jvm.arrayLocs frame_1_arrays args s ++ Jvm.staticLocs frame_1_statics s) 16 256 → Post tb e args s (.returned v) u) :
    ArmFor flags0 classFile x code maxLocals ret World_1 tables_1 room_1 Calls_1 rest_1 Pre_1 Post := by
  intro l hfl _ _ p e ha hc hk s m args below hf hA hF happ hP
  obtain ⟨hcalls, hrest, hpre⟩ := hP
  obtain ⟨-, -, -, hnamed, -, -, -, hat⟩ := (Spec.applies_iff hf).mp happ
  obtain ⟨hg, hn⟩ := and_e (Cond.before_iff.mp (show (Jvm.Cond.and given_1 narrow_1).before args s = true from hpre))
  obtain ⟨hg0, hr0⟩ := and_e hg
  obtain ⟨ha0, hr1⟩ := and_e hr0
  obtain ⟨ha1, hr2⟩ := and_e hr1
  obtain ⟨ha2, hr3⟩ := and_e hr2
  obtain ⟨ha3, hr4⟩ := and_e hr3
  obtain ⟨w0, w1, w2, w3, w4, rfl⟩ : ∃ w0 w1 w2 w3 w4 : Value, args = #[w0, w1, w2, w3, w4] := by
    have hs : args.size = 5 := by simpa [Cond.value, given_1] using hg0
    obtain ⟨L⟩ := args
    match L, hs with
    | [w0, w1, w2, w3, w4], _ => exact ⟨w0, w1, w2, w3, w4, rfl⟩
  have hw := fun d (hd : d ∈ tables_1) => atoms_spec (ws := Jvm.Cond.code x code maxLocals ret :: tables_1) hat d (List.mem_cons_of_mem _ hd)
  obtain ⟨i0, ei0⟩ := is_v ha0
  obtain rfl : w0 = (.int i0) := Option.some.inj ei0
  obtain ⟨i1, ei1⟩ := is_v ha1
  obtain rfl : w1 = (.int i1) := Option.some.inj ei1
  obtain ⟨i2, ei2⟩ := is_v ha2
  obtain rfl : w2 = (.int i2) := Option.some.inj ei2
  obtain ⟨i3, ei3⟩ := is_v ha3
  obtain rfl : w3 = (.int i3) := Option.some.inj ei3
  obtain ⟨i4, ei4⟩ := is_v hr4
  obtain rfl : w4 = (.int i4) := Option.some.inj ei4
  obtain ⟨n, o, h1, h2, h3, _, L, rfl, ⟨rfl, N⟩, hq⟩ := rm0 l s _ hw tables_1 i0 i1 i2 i3 i4 s.heap s.heap.size (Nat.le_refl _) p e ha hc hk s m _ below hf ((Spec.applies_iff_loose hf).mp happ).1 ⟨rfl, State.Warmed39.refl s, rfl⟩ trivial
  refine ⟨n, _, h1, h2, h3, hpost _ _ _ _ _ _ ⟨Cond.after_iff.mpr rfl, Cond.after_iff.mpr (eq_i res_at (Term.int_eval (1)) rfl), trivial⟩ ⟨hq.1, hq.2.1, (hq.2.2.sift fun y hy => Or.inr (N y hy)).mono (by decide) (by decide)⟩⟩
theorem main_1_1 : Claimed_1_1 := comes_1 fun _ _ _ _ _ _ h hF => ⟨h.1, hF⟩
theorem main_1_2 : Claimed_1_2 := comes_1 fun _ _ _ _ _ _ h hF => ⟨h.2.1, hF⟩
end Jvm.Pilot.@@N@@
namespace Jvm.Pilot.@@N@@
open Jvm Jvm.ClassFile Sem Op Lib Jvm.Free Jvm.Stand Jvm.Pilot.@@N@@.Jvm.D
/-! MADE BY PROGRAM (witnessworld.py) out of the Statement's table words and the real class files: 9 classes; the members and pool entries that the words name. The judged class is class 1, her method 3. -/
namespace start1
open Jvm.ClassFile
def u (s : String) : CpInfo := .utf8 (stringToUtf16 s)
/-- a pool by its gaps: so many unusable entries, then the entry; so many at the end -/
def gap : Nat → List CpInfo → List CpInfo
  | 0, r => r
  | n + 1, r => .unusable :: gap n r
def poolList (es : List (Nat × CpInfo)) (last : Nat) : List CpInfo := es.foldr (fun e r => gap e.1 (e.2 :: r)) (gap last [])
def pool (es : List (Nat × CpInfo)) (last : Nat) : Array CpInfo := ⟨poolList es last⟩
def fileOf (pool : Array CpInfo) (this : Nat) (attrs : Array Attribute := #[]) (ms : Array MethodInfo := #[]) (fl : Nat := 33) (sup : Nat := 0) (ifs : Array Nat := #[]) (fds : Array FieldInfo := #[]) : ClassFile where
  minorVersion := 0
  majorVersion := 65
  constantPool := pool
  accessFlags := fl
  thisClass := this
  superClass := sup
  interfaces := ifs
  fields := fds
  methods := ms
  attributes := attrs
def plain (name : String) (sup : Option ClassId) : Class where
  name := name
  kind := .ordinary
  loader := none
  accessFlags := 33
  super := sup
  interfaces := #[]
  cf := none
  fields := #[]
  methods := #[]
  instanceTypes := #[]
  staticTypes := #[]
  resolved := #[]
  callSites := []
  init := .initialized
  statics := none
  mirror := none

def pool0 : Array CpInfo := pool [(5, u "<init>"), (0, u "()V"), (1, .class_ 10), (1, u "java/lang/Object")] 113

def k0c0 : Code := { maxStack := 0, maxLocals := 1, code := object_method_1_code, exceptionTable := #[], attributes := #[] }
def k0m0 : Method := { name := "<init>", desc := "()V", sig := { parameters := [], returnType := none }, accessFlags := 1, code := some k0c0 }
/-- java/lang/Object -/
def k0 : Class := { plain "java/lang/Object" none with
  accessFlags := 33
  interfaces := #[]
  cf := some (fileOf pool0 8 #[] #[{ accessFlags := 1, nameIndex := 5, descriptorIndex := 6, attributes := #[] }] 33 0 #[] #[])
  fields := #[]
  methods := #[k0m0]
  instanceTypes := #[]
  staticTypes := #[]
  resolved := Array.replicate 124 none
  statics := none }

def pool1 : Array CpInfo := pool [(2, .class_ 4), (0, .nameAndType 5 6), (0, u "java/lang/Object"), (0, u "<init>"), (0, u "()V"), (0, .integer 16777619), (0, .integer 2246822507), (0, .integer 3266489909), (0, .integer 2147483647), (0, .class_ 12), (0, u "com/example/conforce/conforce/engine/ByteWriter"), (0, .methodref 11 3), (0, .methodref 11 15), (0, .nameAndType 16 17), (0, u "write"), (0, u "(I)V"), (0, .methodref 19 20), (0, .class_ 21), (0, .nameAndType 22 23), (0, u "com/example/conforce/conforce/engine/ByteWriterHashPinLaw"), (0, u "fold"), (0, u "(II)I"), (0, .methodref 11 25), (0, .nameAndType 26 27), (0, u "hash"), (0, u "()I"), (0, .methodref 19 29), (0, .nameAndType 30 31), (0, u "fmix"), (0, u "(I)I"), (2, u "law"), (0, u "(IIIII)Z")] 3

def k1m0 : Method := { name := "<init>", desc := "()V", sig := { parameters := [], returnType := none }, accessFlags := 1, code := none }
def k1c1 : Code := { maxStack := 2, maxLocals := 2, code := method_2_code, exceptionTable := #[], attributes := #[] }
def k1m1 : Method := { name := "fold", desc := "(II)I", sig := { parameters := [.int, .int], returnType := some .int }, accessFlags := 10, code := some k1c1 }
def k1c2 : Code := { maxStack := 3, maxLocals := 2, code := method_3_code, exceptionTable := #[], attributes := #[] }
def k1m2 : Method := { name := "fmix", desc := "(I)I", sig := { parameters := [.int], returnType := some .int }, accessFlags := 10, code := some k1c2 }
def k1c3 : Code := { maxStack := 2, maxLocals := 8, code := code, exceptionTable := #[], attributes := #[] }
def k1m3 : Method := { name := "law", desc := "(IIIII)Z", sig := { parameters := [.int, .int, .int, .int, .int], returnType := some .boolean }, accessFlags := 9, code := some k1c3 }
/-- com/example/conforce/conforce/engine/ByteWriterHashPinLaw -/
def k1 : Class := { plain "com/example/conforce/conforce/engine/ByteWriterHashPinLaw" (some 0) with
  accessFlags := 49
  interfaces := #[]
  cf := some (fileOf pool1 19 #[] #[{ accessFlags := 1, nameIndex := 5, descriptorIndex := 6, attributes := #[] }, { accessFlags := 10, nameIndex := 22, descriptorIndex := 23, attributes := #[] }, { accessFlags := 10, nameIndex := 30, descriptorIndex := 31, attributes := #[] }, { accessFlags := 9, nameIndex := 34, descriptorIndex := 35, attributes := #[] }] 49 2 #[] #[])
  fields := #[]
  methods := #[k1m0, k1m1, k1m2, k1m3]
  instanceTypes := #[]
  staticTypes := #[]
  resolved := Array.replicate 39 none
  statics := none }

def pool2 : Array CpInfo := pool [(1, .methodref 2 3), (0, .class_ 4), (0, .nameAndType 5 6), (0, u "java/lang/Object"), (0, u "<init>"), (0, u "()V"), (0, .fieldref 8 9), (0, .class_ 10), (0, .nameAndType 11 12), (0, u "com/example/conforce/conforce/engine/ByteWriter"), (0, u "bytes"), (0, u "[B"), (0, .fieldref 8 14), (0, .nameAndType 15 16), (0, u "length"), (0, u "I"), (21, u "write"), (28, u "()I"), (10, u "(I)V"), (0, .integer 16777619), (0, .integer 2246822507), (0, .integer 3266489909), (11, u "MAX_UNSIGNED_SIZE"), (17, u "hash")] 6

def k2c0 : Code := { maxStack := 2, maxLocals := 1, code := prog_10_method_1_code, exceptionTable := #[], attributes := #[] }
def k2m0 : Method := { name := "<init>", desc := "()V", sig := { parameters := [], returnType := none }, accessFlags := 0, code := some k2c0 }
def k2c1 : Code := { maxStack := 5, maxLocals := 2, code := prog_10_method_5_code, exceptionTable := #[], attributes := #[] }
def k2m1 : Method := { name := "write", desc := "(I)V", sig := { parameters := [.int], returnType := none }, accessFlags := 0, code := some k2c1 }
def k2c2 : Code := { maxStack := 3, maxLocals := 3, code := prog_10_method_17_code, exceptionTable := #[], attributes := #[] }
def k2m2 : Method := { name := "hash", desc := "()I", sig := { parameters := [], returnType := some .int }, accessFlags := 0, code := some k2c2 }
/-- com/example/conforce/conforce/engine/ByteWriter -/
def k2 : Class := { plain "com/example/conforce/conforce/engine/ByteWriter" (some 0) with
  accessFlags := 48
  interfaces := #[]
  cf := some (fileOf pool2 8 #[] #[{ accessFlags := 0, nameIndex := 5, descriptorIndex := 6, attributes := #[] }, { accessFlags := 0, nameIndex := 38, descriptorIndex := 78, attributes := #[] }, { accessFlags := 0, nameIndex := 111, descriptorIndex := 67, attributes := #[] }] 48 2 #[] #[{ accessFlags := 26, nameIndex := 93, descriptorIndex := 16, attributes := #[] }, { accessFlags := 2, nameIndex := 11, descriptorIndex := 12, attributes := #[] }, { accessFlags := 2, nameIndex := 15, descriptorIndex := 16, attributes := #[] }])
  fields := #[{ name := "MAX_UNSIGNED_SIZE", type := .int, accessFlags := 26, slot := 0, constantValue := 0 }, { name := "bytes", type := (.array .byte), accessFlags := 2, slot := 0, constantValue := 0 }, { name := "length", type := .int, accessFlags := 2, slot := 1, constantValue := 0 }]
  methods := #[k2m0, k2m1, k2m2]
  instanceTypes := #[(.array .byte), .int]
  staticTypes := #[.int]
  resolved := Array.replicate 118 none
  statics := none }

def pool3 : Array CpInfo := pool [(1, u "java/lang/Cloneable"), (0, .class_ 1), (0, u "java/lang/Object"), (0, .class_ 3)] 3

/-- java/lang/Cloneable -/
def k3 : Class := { plain "java/lang/Cloneable" (some 0) with
  accessFlags := 1537
  interfaces := #[]
  cf := some (fileOf pool3 2 #[] #[] 1537 4 #[] #[])
  fields := #[]
  methods := #[]
  instanceTypes := #[]
  staticTypes := #[]
  resolved := Array.replicate 8 none
  statics := none }

def pool4 : Array CpInfo := pool [(1, u "java/io/Serializable"), (0, .class_ 1), (0, u "java/lang/Object"), (0, .class_ 3)] 3

/-- java/io/Serializable -/
def k4 : Class := { plain "java/io/Serializable" (some 0) with
  accessFlags := 1537
  interfaces := #[]
  cf := some (fileOf pool4 2 #[] #[] 1537 4 #[] #[])
  fields := #[]
  methods := #[]
  instanceTypes := #[]
  staticTypes := #[]
  resolved := Array.replicate 8 none
  statics := none }

/-- the primitive byte -/
def k5 : Class := { plain "byte" none with kind := .primitive 'B', accessFlags := 0x411 }
/-- [B -/
def k6 : Class := { plain "[B" (some 0) with kind := .array 5 .byte, interfaces := #[3, 4], accessFlags := 1041 }

/-- the primitive int -/
def k7 : Class := { plain "int" none with kind := .primitive 'I', accessFlags := 0x411 }
/-- [I -/
def k8 : Class := { plain "[I" (some 0) with kind := .array 7 .int, interfaces := #[3, 4], accessFlags := 1041 }

def heap : Heap := #[]
def classes : Array Class := #[k0, k1, k2, k3, k4, k5, k6, k7, k8]
def interned : List (Array UInt16 × Addr) := []
def slotsUsed : Nat := 0
def theMethod : MethodId := ⟨1, 3⟩
def args0 : Array Value := #[.int 3, .int 2, .int 1, .int 9, .int 7]
def aboutOver (below : List Frame) : State where
  vm := { classes := classes, interned := interned.toArray }
  heap := heap
  slotsUsed := slotsUsed
  threads := #[{ frames := .invoking theMethod args0 :: below }]
def below0 : List Frame := [.native { method := ⟨0, 0⟩, args := #[] }]
def about1 : State := aboutOver below0
def p0 : Program := .bare "" "" ""
def e0 : Env := launch0.env 0 0 0
theorem w_frames : about1.frames = Frame.invoking theMethod args0 :: below0 := rfl
set_option maxRecDepth 65536 in
theorem w_args : argsFit about1.vm theMethod args0 = true := by decide +kernel
set_option maxRecDepth 65536 in
theorem w_heap : heapFits about1 = true := by decide +kernel
set_option maxRecDepth 65536 in
theorem w_runnable : about1.curStatus? = some .runnable := by decide +kernel
set_option maxRecDepth 65536 in
theorem w_alone : about1.alone = true := by decide +kernel
set_option maxRecDepth 65536 in
theorem w_named : about1.methodNamed? x = some theMethod := by decide +kernel
set_option maxRecDepth 65536 in
theorem w_hears : about1.hears theMethod below0 = true := by decide +kernel
set_option maxRecDepth 65536 in
theorem w_ripe : about1.ripe theMethod args0 below0 = true := by decide +kernel
theorem w_running : about1.status = .running := rfl
set_option maxRecDepth 65536 in
theorem w_room : about1.hasRoom e0.platform room_1 = true :=
  launch0.hasRoom_least _ room_1 (by decide +kernel) (by decide +kernel) (by decide +kernel) (by decide +kernel) (by decide +kernel) (by decide +kernel)
theorem allAtoms_all (ts : List Jvm.Cond) (a : Array Jvm.Value) (st : Jvm.State) : (allAtoms ts).before a st = ts.all (fun c => c.before a st) := by
  induction ts with
  | nil => rfl
  | cons c t ih =>
    show (Jvm.Cond.and c (allAtoms t)).before a st = _
    rw [Jvm.Cond.before_and, ih, List.all_cons]
def words1 : List Jvm.Cond := Jvm.Cond.code x code maxLocals ret :: tables_1
/-- a 'code' word, met by the world's own term for the bytes: nothing is compared byte by byte -/
theorem code_word {y : MethodName} {bytes : ByteArray} {mx : Nat} {rt : Option FieldType} {a : Array Value} {s : State} {m : MethodId} {meth : Method} {c : Code} (h1 : s.methodNamed? y = some m) (h2 : s.vm.method? m = some meth) (h3 : meth.code = some c) (h4 : c.code = bytes)
    (h5 : (c.maxLocals == mx && c.exceptionTable.isEmpty && decide (c.maxStack ≤ mostOperands) && decide (meth.sig.returnType = rt) && !meth.locks && decide (parseMethodDescriptor y.desc = some meth.sig)) = true) : (Jvm.Cond.code y bytes mx rt).before a s = true := by
  simp only [Bool.and_eq_true, beq_iff_eq, Bool.not_eq_true', decide_eq_true_eq] at h5
  obtain ⟨⟨⟨⟨⟨g1, g2⟩, g3⟩, g4⟩, g5⟩, g6⟩ := h5
  simp [Cond.before, Cond.holds, Cond.value, h1, h2, h3, h4, g1, g2, g3, g4, g5, g6]
def isCode : Jvm.Cond → Bool
  | .code _ _ _ _ => true
  | _ => false
theorem all_split {L : List Jvm.Cond} {P : Jvm.Cond → Bool} (h1 : L.all (fun c => isCode c || P c) = true) (h2 : ∀ c ∈ L.filter isCode, P c = true) : L.all P = true := by
  refine List.all_eq_true.mpr fun c hc => ?_
  have h := List.all_eq_true.mp h1 c hc
  rcases Bool.eq_false_or_eq_true (isCode c) with hi | hi
  · exact h2 c (List.mem_filter.mpr ⟨hc, hi⟩)
  · simpa [hi] using h
set_option maxRecDepth 65536 in
theorem w_c0 : (Jvm.Cond.code x code maxLocals ret).before args0 about1 = true := code_word (m := ⟨1, 3⟩) (meth := k1m3) (c := k1c3) (by decide +kernel) rfl rfl rfl (by decide +kernel)
set_option maxRecDepth 65536 in
theorem w_c1 : (Jvm.Cond.code ({ cls := "com/example/conforce/conforce/engine/ByteWriter", name := "<init>", desc := "()V" } : Jvm.MethodName) prog_10_method_1_code (1 : Nat) (Option.none : Option Jvm.ClassFile.FieldType)).before args0 about1 = true := code_word (m := ⟨2, 0⟩) (meth := k2m0) (c := k2c0) (by decide +kernel) rfl rfl rfl (by decide +kernel)
set_option maxRecDepth 65536 in
theorem w_c2 : (Jvm.Cond.code ({ cls := "java/lang/Object", name := "<init>", desc := "()V" } : Jvm.MethodName) object_method_1_code (1 : Nat) (Option.none : Option Jvm.ClassFile.FieldType)).before args0 about1 = true := code_word (m := ⟨0, 0⟩) (meth := k0m0) (c := k0c0) (by decide +kernel) rfl rfl rfl (by decide +kernel)
set_option maxRecDepth 65536 in
theorem w_c3 : (Jvm.Cond.code ({ cls := "com/example/conforce/conforce/engine/ByteWriter", name := "hash", desc := "()I" } : Jvm.MethodName) prog_10_method_17_code (3 : Nat) (Option.some Jvm.ClassFile.FieldType.int)).before args0 about1 = true := code_word (m := ⟨2, 2⟩) (meth := k2m2) (c := k2c2) (by decide +kernel) rfl rfl rfl (by decide +kernel)
set_option maxRecDepth 65536 in
theorem w_c4 : (Jvm.Cond.code ({ cls := "com/example/conforce/conforce/engine/ByteWriterHashPinLaw", name := "fmix", desc := "(I)I" } : Jvm.MethodName) method_3_code (2 : Nat) (Option.some Jvm.ClassFile.FieldType.int)).before args0 about1 = true := code_word (m := ⟨1, 2⟩) (meth := k1m2) (c := k1c2) (by decide +kernel) rfl rfl rfl (by decide +kernel)
set_option maxRecDepth 65536 in
theorem w_c5 : (Jvm.Cond.code ({ cls := "com/example/conforce/conforce/engine/ByteWriter", name := "write", desc := "(I)V" } : Jvm.MethodName) prog_10_method_5_code (2 : Nat) (Option.none : Option Jvm.ClassFile.FieldType)).before args0 about1 = true := code_word (m := ⟨2, 1⟩) (meth := k2m1) (c := k2c1) (by decide +kernel) rfl rfl rfl (by decide +kernel)
set_option maxRecDepth 65536 in
theorem w_c6 : (Jvm.Cond.code ({ cls := "com/example/conforce/conforce/engine/ByteWriterHashPinLaw", name := "fold", desc := "(II)I" } : Jvm.MethodName) method_2_code (2 : Nat) (Option.some Jvm.ClassFile.FieldType.int)).before args0 about1 = true := code_word (m := ⟨1, 1⟩) (meth := k1m1) (c := k1c1) (by decide +kernel) rfl rfl rfl (by decide +kernel)
def codes1 : List Jvm.Cond := [Jvm.Cond.code x code maxLocals ret, Jvm.Cond.code ({ cls := "com/example/conforce/conforce/engine/ByteWriter", name := "<init>", desc := "()V" } : Jvm.MethodName) prog_10_method_1_code (1 : Nat) (Option.none : Option Jvm.ClassFile.FieldType), Jvm.Cond.code ({ cls := "java/lang/Object", name := "<init>", desc := "()V" } : Jvm.MethodName) object_method_1_code (1 : Nat) (Option.none : Option Jvm.ClassFile.FieldType), Jvm.Cond.code ({ cls := "com/example/conforce/conforce/engine/ByteWriter", name := "hash", desc := "()I" } : Jvm.MethodName) prog_10_method_17_code (3 : Nat) (Option.some Jvm.ClassFile.FieldType.int), Jvm.Cond.code ({ cls := "com/example/conforce/conforce/engine/ByteWriterHashPinLaw", name := "fmix", desc := "(I)I" } : Jvm.MethodName) method_3_code (2 : Nat) (Option.some Jvm.ClassFile.FieldType.int), Jvm.Cond.code ({ cls := "com/example/conforce/conforce/engine/ByteWriter", name := "write", desc := "(I)V" } : Jvm.MethodName) prog_10_method_5_code (2 : Nat) (Option.none : Option Jvm.ClassFile.FieldType), Jvm.Cond.code ({ cls := "com/example/conforce/conforce/engine/ByteWriterHashPinLaw", name := "fold", desc := "(II)I" } : Jvm.MethodName) method_2_code (2 : Nat) (Option.some Jvm.ClassFile.FieldType.int)]
set_option maxRecDepth 65536 in
theorem codes_eq : words1.filter isCode = codes1 := rfl
theorem w_codes : ∀ c ∈ words1.filter isCode, c.before args0 about1 = true := by
  rw [codes_eq]
  intro c hc
  simp only [codes1, List.mem_cons, List.not_mem_nil, or_false] at hc
  rcases hc with rfl | rfl | rfl | rfl | rfl | rfl | rfl
  · exact w_c0
  · exact w_c1
  · exact w_c2
  · exact w_c3
  · exact w_c4
  · exact w_c5
  · exact w_c6
set_option maxRecDepth 65536 in
theorem w_t1 : (words1.take 24).all (fun c => isCode c || c.before args0 about1) = true := by decide +kernel
set_option maxRecDepth 65536 in
theorem w_t2 : (words1.drop 24).all (fun c => isCode c || c.before args0 about1) = true := by decide +kernel
theorem w_tables : (allAtoms (Jvm.Cond.code x code maxLocals ret :: tables_1)).before args0 about1 = true := by
  rw [allAtoms_all]
  show words1.all (fun c => c.before args0 about1) = true
  refine all_split ?_ w_codes
  rw [← List.take_append_drop 24 words1, List.all_append, w_t1, w_t2]
  rfl
set_option maxRecDepth 65536 in
theorem w_case : (Jvm.Cond.and given_1 narrow_1).before args0 about1 = true := by decide +kernel
theorem w_applies : (headSpec (Jvm.Cond.code x code maxLocals ret :: tables_1) room_1).applies x e0.platform about1 = true :=
  (Spec.applies_iff w_frames).mpr ⟨w_running, w_runnable, w_alone, w_named, w_hears, w_ripe, w_room, w_tables⟩
theorem atStart : AtStart classFile x code maxLocals ret World_1 tables_1 room_1 Calls_1 rest_1 Pre_1 launch0 p0 e0 about1 theMethod args0 below0 :=
  ⟨lists_1, trivial, launch0.admits_env _ _ _, launch0.least_env, fairChoices_fair.cas, fairChoices_fair.clock, w_frames, w_args, w_heap, w_applies, trivial, trivial, w_case⟩
end start1
theorem witness_1 : WitnessClaimed_1 := ⟨start1.p0, start1.e0, start1.about1, start1.theMethod, start1.args0, start1.below0, start1.atStart⟩
end Jvm.Pilot.@@N@@
