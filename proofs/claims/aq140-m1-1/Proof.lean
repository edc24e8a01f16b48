import JvmDerived
import JvmDerived.Pilot.@@N@@Statement
import JvmDerived.Pilot.@@N@@Code
set_option linter.unusedVariables false
set_option linter.unusedSimpArgs false
namespace Jvm.RoadKit
open Sem ClassFile Op Lib Jvm.Stand Jvm.Free Jvm.LawKit
section New
variable {p : Program} {l : Launch} {e : Env} {R : Room} {s : State} {m : MethodId} {args : Array Value} {below : List Frame} {meth : Method} {c : Code} {T : State} {locs : List Loc} {cells slots : Nat}
theorem retI (X : Stand p l e R s m args below meth c T locs cells slots) (hx : p.tables.exec = Jvm.exec) {pc : Nat} {Ls : Array Slot} {z : Int32} {rest : List Value} (hret : meth.sig.returnType = some .int) (hd : decode c.code pc = .ok (.ireturn, 1)) {fs : List Frame}
    (hl : ∀ (f : JFrame) (acts : List Action), f.method = m → f.locked = none → f.entered = [] → (doReturn e (T.setTop f) acts (some (.int z))).1 = T.setFrames fs) : Steps p.tables e below (T.setTop (mkF m pc Ls (.int z :: rest))) (T.setFrames fs) := by
  have hm' : T.vm.method? m = some meth := X.method'
  have hn : narrow .int (.int z) = .int z := rfl
  show Steps p.tables e below (T.setTop { method := m, pc := pc, locals := Ls, stack := _ :: rest, locked := none }) _
  jvm_step X.here [X.here.top, hx, hd, hm', hret, hn]
  first | (intro acts; rw [hl _ acts rfl rfl rfl]) | rw [hl _ _ rfl rfl rfl]
  exact Steps.refl _
end New
end Jvm.RoadKit
namespace Jvm.Pilot.@@N@@
open Jvm Jvm.ClassFile Sem Op Lib Jvm.Free Jvm.Stand Jvm.LawKit Jvm.RoadKit Bundle Jvm.Pilot.@@N@@.Jvm.D
theorem pn_1 : plainName "com/example/annalist/annalist/store/RecordCodec$Input" = true := by first | (simp [plainName, overriddenIn]; done) | decide +kernel
theorem ef_1 (m : MethodId) (x0 : Addr) (x1 : Addr) (x2 : Int32) (x3 : Int32) : entryFrame m #[(.ref x0), (.ref x1), (.int x2), (.int x3)] 4 = mkF m 0 #[.val (.ref x0), .val (.ref x1), .val (.int x2), .val (.int x3)] [] := by first | (simp [entryFrame, mkF, argsToLocals, Value.category]; done) | rfl
theorem d1_0 : decode prog_92_method_2_code 0 = .ok (.aload_n 0, 1) := by decide +kernel
theorem d1_1 : decode prog_92_method_2_code 1 = .ok (.invokespecial 7, 3) := by decide +kernel
theorem d1_4 : decode prog_92_method_2_code 4 = .ok (.aload_n 0, 1) := by decide +kernel
theorem d1_5 : decode prog_92_method_2_code 5 = .ok (.aload_n 1, 1) := by decide +kernel
theorem d1_6 : decode prog_92_method_2_code 6 = .ok (.putfield 12, 3) := by decide +kernel
theorem d1_9 : decode prog_92_method_2_code 9 = .ok (.aload_n 0, 1) := by decide +kernel
theorem d1_10 : decode prog_92_method_2_code 10 = .ok (.iload_n 2, 1) := by decide +kernel
theorem d1_11 : decode prog_92_method_2_code 11 = .ok (.putfield 16, 3) := by decide +kernel
theorem d1_14 : decode prog_92_method_2_code 14 = .ok (.aload_n 0, 1) := by decide +kernel
theorem d1_15 : decode prog_92_method_2_code 15 = .ok (.iload_n 2, 1) := by decide +kernel
theorem d1_16 : decode prog_92_method_2_code 16 = .ok (.iload_n 3, 1) := by decide +kernel
theorem d1_17 : decode prog_92_method_2_code 17 = .ok (.iadd, 1) := by decide +kernel
theorem d1_18 : decode prog_92_method_2_code 18 = .ok (.putfield 20, 3) := by decide +kernel
theorem d1_21 : decode prog_92_method_2_code 21 = .ok (.return_, 1) := by decide +kernel
theorem pn_3 : plainName "com/example/annalist/annalist/store/RecordCodec$Input" = true := by first | (simp [plainName, overriddenIn]; done) | decide +kernel
theorem ef_3 (m : MethodId) (x0 : Addr) : entryFrame m #[(.ref x0)] 1 = mkF m 0 #[.val (.ref x0)] [] := by first | (simp [entryFrame, mkF, argsToLocals, Value.category]; done) | rfl
theorem d3_0 : decode prog_92_method_8_code 0 = .ok (.aload_n 0, 1) := by decide +kernel
theorem d3_1 : decode prog_92_method_8_code 1 = .ok (.getfield 16, 3) := by decide +kernel
theorem d3_4 : decode prog_92_method_8_code 4 = .ok (.aload_n 0, 1) := by decide +kernel
theorem d3_5 : decode prog_92_method_8_code 5 = .ok (.getfield 20, 3) := by decide +kernel
theorem d3_8 : decode prog_92_method_8_code 8 = .ok (.if_icmp .ne 7, 3) := by decide +kernel
theorem d3_11 : decode prog_92_method_8_code 11 = .ok (.iconst 1, 1) := by decide +kernel
theorem d3_12 : decode prog_92_method_8_code 12 = .ok (.goto 4, 3) := by decide +kernel
theorem d3_16 : decode prog_92_method_8_code 16 = .ok (.ireturn, 1) := by decide +kernel
theorem d3_15 : decode prog_92_method_8_code 15 = .ok (.iconst 0, 1) := by decide +kernel
theorem pn_5 : plainName "com/example/annalist/annalist/store/RecordCodec$Input" = true := by first | (simp [plainName, overriddenIn]; done) | decide +kernel
theorem ef_5 (m : MethodId) (x0 : Addr) (x1 : Int32) : entryFrame m #[(.ref x0), (.int x1)] 2 = mkF m 0 #[.val (.ref x0), .val (.int x1)] [] := by first | (simp [entryFrame, mkF, argsToLocals, Value.category]; done) | rfl
theorem d5_0 : decode prog_92_method_12_code 0 = .ok (.aload_n 0, 1) := by decide +kernel
theorem d5_1 : decode prog_92_method_12_code 1 = .ok (.getfield 20, 3) := by decide +kernel
theorem d5_4 : decode prog_92_method_12_code 4 = .ok (.aload_n 0, 1) := by decide +kernel
theorem d5_5 : decode prog_92_method_12_code 5 = .ok (.getfield 16, 3) := by decide +kernel
theorem d5_8 : decode prog_92_method_12_code 8 = .ok (.isub, 1) := by decide +kernel
theorem d5_9 : decode prog_92_method_12_code 9 = .ok (.iload_n 1, 1) := by decide +kernel
theorem d5_10 : decode prog_92_method_12_code 10 = .ok (.if_icmp .ge 13, 3) := by decide +kernel
theorem d5_23 : decode prog_92_method_12_code 23 = .ok (.return_, 1) := by decide +kernel
theorem pn_7 : plainName "com/example/annalist/annalist/store/RecordCodec$Input" = true := by first | (simp [plainName, overriddenIn]; done) | decide +kernel
theorem ef_7 (m : MethodId) (x0 : Addr) (x1 : Int64) : entryFrame m #[(.ref x0), (.long x1)] 3 = mkF m 0 #[.val (.ref x0), .val (.long x1), .second] [] := by first | (simp [entryFrame, mkF, argsToLocals, Value.category]; done) | rfl
theorem d7_0 : decode prog_92_method_7_code 0 = .ok (.lload_n 1, 1) := by decide +kernel
theorem d7_1 : decode prog_92_method_7_code 1 = .ok (.lconst 0, 1) := by decide +kernel
theorem d7_2 : decode prog_92_method_7_code 2 = .ok (.lcmp, 1) := by decide +kernel
theorem d7_3 : decode prog_92_method_7_code 3 = .ok (.ifCond .lt 18, 3) := by decide +kernel
theorem d7_6 : decode prog_92_method_7_code 6 = .ok (.lload_n 1, 1) := by decide +kernel
theorem d7_7 : decode prog_92_method_7_code 7 = .ok (.aload_n 0, 1) := by decide +kernel
theorem d7_8 : decode prog_92_method_7_code 8 = .ok (.getfield 20, 3) := by decide +kernel
theorem d7_11 : decode prog_92_method_7_code 11 = .ok (.aload_n 0, 1) := by decide +kernel
theorem d7_12 : decode prog_92_method_7_code 12 = .ok (.getfield 16, 3) := by decide +kernel
theorem d7_15 : decode prog_92_method_7_code 15 = .ok (.isub, 1) := by decide +kernel
theorem d7_16 : decode prog_92_method_7_code 16 = .ok (.i2l, 1) := by decide +kernel
theorem d7_17 : decode prog_92_method_7_code 17 = .ok (.lcmp, 1) := by decide +kernel
theorem d7_18 : decode prog_92_method_7_code 18 = .ok (.ifCond .le 13, 3) := by decide +kernel
theorem d7_31 : decode prog_92_method_7_code 31 = .ok (.lload_n 1, 1) := by decide +kernel
theorem d7_32 : decode prog_92_method_7_code 32 = .ok (.l2i, 1) := by decide +kernel
theorem d7_33 : decode prog_92_method_7_code 33 = .ok (.ireturn, 1) := by decide +kernel
theorem pn_6 : plainName "com/example/annalist/annalist/store/RecordCodec$Input" = true := by first | (simp [plainName, overriddenIn]; done) | decide +kernel
theorem ef_6 (m : MethodId) (x0 : Addr) (x1 : Int64) : entryFrame m #[(.ref x0), (.long x1)] 3 = mkF m 0 #[.val (.ref x0), .val (.long x1), .second] [] := by first | (simp [entryFrame, mkF, argsToLocals, Value.category]; done) | rfl
theorem d6_0 : decode prog_92_method_6_code 0 = .ok (.aload_n 0, 1) := by decide +kernel
theorem d6_1 : decode prog_92_method_6_code 1 = .ok (.dup, 1) := by decide +kernel
theorem d6_2 : decode prog_92_method_6_code 2 = .ok (.getfield 16, 3) := by decide +kernel
theorem d6_5 : decode prog_92_method_6_code 5 = .ok (.aload_n 0, 1) := by decide +kernel
theorem d6_6 : decode prog_92_method_6_code 6 = .ok (.lload_n 1, 1) := by decide +kernel
theorem d6_7 : decode prog_92_method_6_code 7 = .ok (.invokevirtual 36, 3) := by decide +kernel
theorem pd_5 : parseMethodDescriptor "(J)I" = some ⟨[.long], some .int⟩ := by decide +kernel
theorem d6_10 : decode prog_92_method_6_code 10 = .ok (.iadd, 1) := by decide +kernel
theorem d6_11 : decode prog_92_method_6_code 11 = .ok (.putfield 16, 3) := by decide +kernel
theorem d6_14 : decode prog_92_method_6_code 14 = .ok (.return_, 1) := by decide +kernel
theorem pn_4 : plainName "com/example/annalist/annalist/store/RecordCodec$Input" = true := by first | (simp [plainName, overriddenIn]; done) | decide +kernel
theorem ef_4 (m : MethodId) (x0 : Addr) (x1 : Int32) : entryFrame m #[(.ref x0), (.int x1)] 5 = mkF m 0 #[.val (.ref x0), .val (.int x1), .unset, .unset, .unset] [] := by first | (simp [entryFrame, mkF, argsToLocals, Value.category]; done) | rfl
theorem d4_0 : decode prog_92_method_3_code 0 = .ok (.aload_n 0, 1) := by decide +kernel
theorem d4_1 : decode prog_92_method_3_code 1 = .ok (.iload_n 1, 1) := by decide +kernel
theorem d4_2 : decode prog_92_method_3_code 2 = .ok (.invokevirtual 23, 3) := by decide +kernel
theorem pd_3 : parseMethodDescriptor "(I)V" = some ⟨[.int], none⟩ := by decide +kernel
theorem d4_5 : decode prog_92_method_3_code 5 = .ok (.aload_n 0, 1) := by decide +kernel
theorem d4_6 : decode prog_92_method_3_code 6 = .ok (.getfield 12, 3) := by decide +kernel
theorem d4_9 : decode prog_92_method_3_code 9 = .ok (.aload_n 0, 1) := by decide +kernel
theorem d4_10 : decode prog_92_method_3_code 10 = .ok (.dup, 1) := by decide +kernel
theorem d4_11 : decode prog_92_method_3_code 11 = .ok (.getfield 16, 3) := by decide +kernel
theorem d4_14 : decode prog_92_method_3_code 14 = .ok (.dup_x1, 1) := by decide +kernel
theorem d4_15 : decode prog_92_method_3_code 15 = .ok (.iconst 1, 1) := by decide +kernel
theorem d4_16 : decode prog_92_method_3_code 16 = .ok (.iadd, 1) := by decide +kernel
theorem d4_17 : decode prog_92_method_3_code 17 = .ok (.putfield 16, 3) := by decide +kernel
theorem d4_20 : decode prog_92_method_3_code 20 = .ok (.baload, 1) := by decide +kernel
theorem d4_21 : decode prog_92_method_3_code 21 = .ok (.i2l, 1) := by decide +kernel
theorem d4_22 : decode prog_92_method_3_code 22 = .ok (.lstore_n 2, 1) := by decide +kernel
theorem d4_23 : decode prog_92_method_3_code 23 = .ok (.iconst 1, 1) := by decide +kernel
theorem d4_24 : decode prog_92_method_3_code 24 = .ok (.istore 4, 2) := by decide +kernel
theorem d4_26 : decode prog_92_method_3_code 26 = .ok (.iload 4, 2) := by decide +kernel
theorem d4_28 : decode prog_92_method_3_code 28 = .ok (.iload_n 1, 1) := by decide +kernel
theorem d4_29 : decode prog_92_method_3_code 29 = .ok (.if_icmp .ge 36, 3) := by decide +kernel
theorem d4_32 : decode prog_92_method_3_code 32 = .ok (.lload_n 2, 1) := by decide +kernel
theorem d4_33 : decode prog_92_method_3_code 33 = .ok (.bipush 8, 2) := by decide +kernel
theorem d4_35 : decode prog_92_method_3_code 35 = .ok (.lshl, 1) := by decide +kernel
theorem d4_36 : decode prog_92_method_3_code 36 = .ok (.aload_n 0, 1) := by decide +kernel
theorem d4_37 : decode prog_92_method_3_code 37 = .ok (.getfield 12, 3) := by decide +kernel
theorem d4_40 : decode prog_92_method_3_code 40 = .ok (.aload_n 0, 1) := by decide +kernel
theorem d4_41 : decode prog_92_method_3_code 41 = .ok (.dup, 1) := by decide +kernel
theorem d4_42 : decode prog_92_method_3_code 42 = .ok (.getfield 16, 3) := by decide +kernel
theorem d4_45 : decode prog_92_method_3_code 45 = .ok (.dup_x1, 1) := by decide +kernel
theorem d4_46 : decode prog_92_method_3_code 46 = .ok (.iconst 1, 1) := by decide +kernel
theorem d4_47 : decode prog_92_method_3_code 47 = .ok (.iadd, 1) := by decide +kernel
theorem d4_48 : decode prog_92_method_3_code 48 = .ok (.putfield 16, 3) := by decide +kernel
theorem d4_51 : decode prog_92_method_3_code 51 = .ok (.baload, 1) := by decide +kernel
theorem d4_52 : decode prog_92_method_3_code 52 = .ok (.sipush 255, 3) := by decide +kernel
theorem d4_55 : decode prog_92_method_3_code 55 = .ok (.iand, 1) := by decide +kernel
theorem d4_56 : decode prog_92_method_3_code 56 = .ok (.i2l, 1) := by decide +kernel
theorem d4_57 : decode prog_92_method_3_code 57 = .ok (.lor, 1) := by decide +kernel
theorem d4_58 : decode prog_92_method_3_code 58 = .ok (.lstore_n 2, 1) := by decide +kernel
theorem d4_59 : decode prog_92_method_3_code 59 = .ok (.iinc 4 1, 3) := by decide +kernel
theorem d4_62 : decode prog_92_method_3_code 62 = .ok (.goto (-36), 3) := by decide +kernel
theorem d4_65 : decode prog_92_method_3_code 65 = .ok (.lload_n 2, 1) := by decide +kernel
theorem d4_66 : decode prog_92_method_3_code 66 = .ok (.lreturn, 1) := by decide +kernel
theorem pn_0 : plainName "com/example/annalist/annalist/store/InputAtEndPinLaw" = true := by first | (simp [plainName, overriddenIn]; done) | decide +kernel
theorem ef_0 (m : MethodId) (x0 : Int32) (x1 : Int32) (x2 : Int32) (x3 : Int32) : entryFrame m #[(.int x0), (.int x1), (.int x2), (.int x3)] maxLocals = mkF m 0 #[.val (.int x0), .val (.int x1), .val (.int x2), .val (.int x3), .unset, .unset, .unset, .unset, .unset, .unset, .unset, .unset, .unset] [] := by first | (simp [entryFrame, mkF, argsToLocals, Value.category, maxLocals]; done) | rfl
theorem pd_7 : parseMethodDescriptor "([BII)V" = some ⟨[(.array .byte), .int, .int], none⟩ := by decide +kernel
theorem pd_1 : parseMethodDescriptor "()Z" = some ⟨[], some .boolean⟩ := by decide +kernel
theorem pd_6 : parseMethodDescriptor "(J)V" = some ⟨[.long], none⟩ := by decide +kernel
theorem pd_2 : parseMethodDescriptor "(I)J" = some ⟨[.int], some .long⟩ := by decide +kernel
theorem own_lt {i n : Nat} (h : i < n) (hn : n ≤ 4096) : Int32.ofNat i < Int32.ofNat n := by
  rw [Int32.lt_iff_toInt_lt, Int32.toInt_ofNat_of_lt (by omega), Int32.toInt_ofNat_of_lt (by omega)]
  omega
theorem own_nn {n : Nat} (hn : n ≤ 4096) : ¬ Int32.ofNat n < 0 := by
  rw [Int32.lt_iff_toInt_lt, Int32.toInt_ofNat_of_lt (by omega), show (0 : Int32).toInt = 0 from rfl]
  omega
theorem own_n32 {n : Nat} (hn : n ≤ 4096) : (Int32.ofNat n).toNatClampNeg = n := by
  rw [Int32.toNatClampNeg, Int32.toInt_ofNat_of_lt (by omega)]; rfl
theorem own_one (i : Nat) : Int32.ofNat (i + 1) = Int32.ofNat i + (1 : Int32) := Int32.ofNat_add i 1
def own_A (Z : State) (h : Heap) (t : Addr) (n : Nat) (ty : FieldType) (f : Nat → Value) : Prop := ∃ cl : Cell, Arr Z h t cl ty ∧ cl.slots.size = n ∧ ∀ j, j < n → cl.slots[j]? = some (f j)
theorem own_A_ext {Z : State} {h h' : Heap} {t : Addr} {n : Nat} {ty : FieldType} {f : Nat → Value} (A : own_A Z h t n ty f) (E : Ext h h') : own_A Z h' t n ty f := by obtain ⟨cl, B, r⟩ := A; exact ⟨cl, B.ext E, r⟩
theorem own_A_other {Z : State} {h h' : Heap} {t a : Addr} {n sl : Nat} {v : Value} {ty : FieldType} {f : Nat → Value} (A : own_A Z h t n ty f) (W : Wr h h' a sl v) (q : t ≠ a) : own_A Z h' t n ty f := by obtain ⟨cl, B, r⟩ := A; exact ⟨cl, B.other W q, r⟩
theorem own_A_keep {Z : State} {h h' : Heap} {t : Addr} {n : Nat} {ty : FieldType} {f : Nat → Value} {ws : List Addr} (A : own_A Z h t n ty f) (K : Keep h h' ws) (q : t ∉ ws) : own_A Z h' t n ty f := by obtain ⟨cl, B, r⟩ := A; exact ⟨cl, ⟨K.2.1 t cl B.1 q, B.2⟩, r⟩
theorem own_A_lt {Z : State} {h : Heap} {t : Addr} {n : Nat} {ty : FieldType} {f : Nat → Value} (A : own_A Z h t n ty f) : t < h.size := by obtain ⟨cl, B, -⟩ := A; exact B.lt
theorem own_A_set {Z : State} {h h' : Heap} {t : Addr} {n : Nat} {ty : FieldType} {f : Nat → Value} {v : Value} {sl : Nat} (A : own_A Z h t n ty f) (W : Wr h h' t sl v) (k : Nat) (hk : sl = k) (hn : k < n) : own_A Z h' t n ty (fun i => if i = k then v else f i) := by
  subst hk
  obtain ⟨cl, B, S, H⟩ := A
  refine ⟨_, B.same W, by rw [sz_set]; exact S, fun i hi => ?_⟩
  show (cl.slots.setIfInBounds sl v)[i]? = some (if i = sl then v else f i)
  rw [Array.getElem?_setIfInBounds]
  by_cases q : sl = i
  · rw [if_pos q, if_pos (by rw [S]; exact hn), if_pos q.symm]
  · rw [if_neg q, if_neg (fun z => q z.symm)]; exact H i hi
theorem own_nar (x : Int32) : nar .byte (x.toInt8.toInt32) = x.toInt8.toInt32 := by show x.toInt8.toInt32.toInt8.toInt32 = _; simp
theorem own_setB {Z : State} {h h' : Heap} {t : Addr} {n : Nat} {g : Nat → Int32} {x : Int32} {sl : Nat} (A : own_A Z h t n .byte (fun i => .int (g i))) (W : Wr h h' t sl (.int (nar .byte (x.toInt8.toInt32)))) (k : Nat) (hk : sl = k) (hn : k < n) : own_A Z h' t n .byte (fun i => .int (if i = k then x.toInt8.toInt32 else g i)) := by
  obtain ⟨c3, B3, S3, H3⟩ := own_A_set A W k hk hn
  refine ⟨c3, B3, S3, fun i hi => ?_⟩
  rw [H3 i hi]
  dsimp only
  by_cases qq : i = k
  · rw [if_pos qq, if_pos qq, own_nar]
  · rw [if_neg qq, if_neg qq]
theorem own_setL {Z : State} {h h' : Heap} {t : Addr} {n : Nat} {g : Nat → Int64} {x : Int64} {sl : Nat} (A : own_A Z h t n .long (fun i => .long (g i))) (W : Wr h h' t sl (.long x)) (k : Nat) (hk : sl = k) (hn : k < n) : own_A Z h' t n .long (fun i => .long (if i = k then x else g i)) := by
  obtain ⟨c3, B3, S3, H3⟩ := own_A_set A W k hk hn
  refine ⟨c3, B3, S3, fun i hi => ?_⟩
  rw [H3 i hi]
  dsimp only
  by_cases qq : i = k
  · rw [if_pos qq, if_pos qq]
  · rw [if_neg qq, if_neg qq]
theorem own_fitL {Z : State} {h : Heap} {t : Addr} {cl : Cell} {n : Nat} {g : Nat → Int64} (B : Arr Z h t cl .long) (S : cl.slots.size = n) (H : ∀ j, j < n → cl.slots[j]? = some (.long (g j))) : FitC Z cl :=
  fitC_of B fun i hi v hv => by rw [H i (by rw [← S]; exact hi)] at hv; cases hv; rfl
theorem own_A_new {Z : State} {h : Heap} {t : Addr} {k : ClassId} {ty : FieldType} {z : Int32} {n : Nat} (V : Arv Z h t k ty z [] (defaultValue ty)) (hz : z.toNatClampNeg = n) : own_A Z h t n ty (fun _ => defaultValue ty) := by
  obtain ⟨cl, B, -, S, -, H, -⟩ := V
  exact ⟨cl, B, by rw [S, hz], fun j hj => by rw [H j (by rw [S, hz]; exact hj)]; rfl⟩
theorem own_in {cl : Cell} {n i : Nat} (S : cl.slots.size = n) (hi : i < n) (hn : n ≤ 4096) : ¬ (Int32.ofNat i < 0 ∨ cl.slots.size ≤ (Int32.ofNat i).toNatClampNeg) := by
  rw [S, own_n32 (by omega)]
  exact fun q => q.elim (own_nn (by omega)) (by omega)
theorem own_at {cl : Cell} {n i : Nat} {f : Nat → Value} (H : ∀ j, j < n → cl.slots[j]? = some (f j)) (hi : i < n) (hn : n ≤ 4096) : cl.slots[(Int32.ofNat i).toNatClampNeg]? = some (f i) := by
  rw [own_n32 (by omega)]; exact H i hi
theorem own_sel {s : State} {args : Array Value} {y z : MethodName} (hz : (Cond.selects z.cls z z).before args s = true) (e : z.cls = y.cls) (hpriv : s.PrivateAt y) (hinst : (Cond.instanceMethod y).before args s = true) (hy : y.cls ≠ "java/lang/invoke/MethodHandle" ∧ y.cls ≠ "java/lang/invoke/VarHandle") : (Cond.selects y.cls y y).before args s = true := by
  obtain ⟨c2, r2, m2, -, -, q3, -, kP, hkP, hkPi⟩ := Cond.selects_spec hz
  exact selects_self_of_private (e ▸ findClass_of_methodNamed q3) hkP hkPi hpriv hinst hy
def own_I (Z : State) (h : Heap) (n0 : Nat) (a1 t : Addr) (x z : Nat) : Prop := n0 ≤ h.size ∧ Exa Z h a1 "com/example/annalist/annalist/store/RecordCodec$Input" ∧ Fld Z h a1 "com/example/annalist/annalist/store/RecordCodec$Input" "bytes" "[B" (.ref t) ∧ Fld Z h a1 "com/example/annalist/annalist/store/RecordCodec$Input" "end" "I" (.int (Int32.ofNat z)) ∧ Fld Z h a1 "com/example/annalist/annalist/store/RecordCodec$Input" "position" "I" (.int (Int32.ofNat x)) ∧ own_A Z h t 16 .byte (fun _ => .int (0 : Int32))
def own_e (x z : Int32) : Int32 := if x = z then 1 else 0
theorem own_int {n : Nat} (hn : n ≤ 4096) : (Int32.ofNat n).toInt = n := Int32.toInt_ofNat_of_lt (by omega)
theorem own_inj {a b : Nat} (ha : a ≤ 4096) (hb : b ≤ 4096) : Int32.ofNat a = Int32.ofNat b ↔ a = b := by
  rw [← Int32.toInt_inj, own_int ha, own_int hb]; omega
theorem own_sub {a b : Nat} (ha : a ≤ 4096) (hb : b ≤ a) : Int32.ofNat a - Int32.ofNat b = Int32.ofNat (a - b) := by
  rw [← Int32.toInt_inj, own_int (by omega)]
  have h1 := c_isub (Int32.ofNat a) (Int32.ofNat b); have h2 := rng32 (Int32.ofNat a - Int32.ofNat b)
  rw [own_int ha, own_int (by omega)] at h1
  omega
theorem own_nat {x : Int32} {b : Nat} (h0 : 0 ≤ x.toInt) (h1 : x.toInt ≤ b) : ∃ n : Nat, n ≤ b ∧ x = Int32.ofNat n := by
  have h2 := rng32 x
  refine ⟨x.toInt.toNat, by omega, ?_⟩
  rw [← Int32.toInt_inj, Int32.toInt_ofNat_of_lt (by omega)]
  omega
theorem own_off (a : Int32) : ∃ n : Nat, n ≤ 7 ∧ (a &&& (7 : Int32)) = Int32.ofNat n := by
  have h := c_mask a 7 3 (by decide) (by decide)
  exact own_nat (by omega) (by omega)
theorem own_len (a : Int32) : ∃ n : Nat, n ≤ 8 ∧ ((a &&& (2147483647 : Int32)) % (9 : Int32)) = Int32.ofNat n := by
  have h1 := c_mask a (2147483647 : Int32) 31 (by decide) (by decide)
  have h2 := (c_irem (a &&& (2147483647 : Int32)) 9 9 (by decide)).1 (by omega)
  exact own_nat (by omega) (by omega)
theorem own_nz {n : Nat} (hn : n ≤ 8) : Int32.ofNat n + (1 : Int32) ≠ 0 := by
  rw [← own_one]
  exact fun q => by have z := (own_inj (a := n + 1) (b := 0) (by omega) (by omega)).mp q; omega
theorem own_k (a : Int32) {n : Nat} (hn : n ≤ 8) : ∃ k : Nat, k ≤ n ∧ ((a &&& (2147483647 : Int32)) % (Int32.ofNat n + (1 : Int32))) = Int32.ofNat k := by
  have h1 := c_mask a (2147483647 : Int32) 31 (by decide) (by decide)
  rw [← own_one]
  have h3 := own_int (n := n + 1) (by omega)
  have h2 := (c_iremV (a &&& (2147483647 : Int32)) (Int32.ofNat (n + 1))).1 (by omega) (by omega)
  exact own_nat (by omega) (by omega)
theorem own_ep {x z : Int32} (h : x = z) : (1 : Int32) = own_e x z := by rw [own_e, if_pos h]
theorem own_en {x z : Int32} (h : ¬ x = z) : (0 : Int32) = own_e x z := by rw [own_e, if_neg h]
theorem own_e1 (x : Int32) : own_e x x = 1 := if_pos rfl
theorem own_same {a b u v : Nat} (ha : a ≤ 4096) (hb : b ≤ 4096) (hu : u ≤ 4096) (hv : v ≤ 4096) (h : a = b ↔ u = v) : own_e (Int32.ofNat a) (Int32.ofNat b) = own_e (Int32.ofNat u) (Int32.ofNat v) := by
  unfold own_e
  by_cases q : a = b
  · rw [if_pos ((own_inj ha hb).mpr q), if_pos ((own_inj hu hv).mpr (h.mp q))]
  · rw [if_neg (fun z => q ((own_inj ha hb).mp z)), if_neg (fun z => q (h.mpr ((own_inj hu hv).mp z)))]
theorem own_l {n : Nat} (hn : n ≤ 4096) : (Int32.ofNat n).toInt64.toInt = n := by rw [c_i2l, own_int hn]
theorem own_li {q : Int64} {d : Nat} (hd : d ≤ 4096) (hq : q.toInt = d) : q.toInt32 = Int32.ofNat d := by
  rw [← Int32.toInt_inj, own_int hd]
  have h1 := c_l2i q; have h2 := rng32 q.toInt32
  omega
theorem own_f1 {q : Int64} {d : Nat} (hq : q.toInt = d) : ¬ (lcmpW q (0 : Int64)) < (0 : Int32) := fun z => by
  have h := (lw_lt _ _).mp z
  rw [Int64.lt_iff_toInt_lt, hq] at h
  have h0 : (0 : Int64).toInt = 0 := rfl
  omega
theorem own_f2 {q : Int64} {d x z : Nat} (hq : q.toInt = d) (hz : z ≤ 4096) (hx : x + d ≤ z) : ¬ (0 : Int32) < (lcmpW q ((Int32.ofNat z - Int32.ofNat x).toInt64)) := fun k => by
  have h := (lw_gt _ _).mp k
  rw [Int64.lt_iff_toInt_lt, hq, own_sub hz (by omega), own_l (by omega)] at h
  omega
def Q1 (Z : State) (a1 : Addr) (t : Addr) (o : Nat) (ln : Nat) (h0 : Heap) (n0 : Nat) (v : Option Value) (h : Heap) (L : List Loc) : Prop := v = none ∧ Fr n0 L ∧ own_I Z h n0 a1 t o (o + ln)
set_option maxRecDepth 65536 in
set_option maxHeartbeats 40000000 in
theorem rm1 (l : Launch) (Z : State) (a0 : Array Value) (hw : ∀ d ∈ tables_1, d.before a0 Z = true) (ws : List Jvm.Cond) (a1 : Addr) (t : Addr) (o : Nat) (ln : Nat) (h0 : Heap) (n0 : Nat) (Z0 : n0 ≤ h0.size) (E1 : Exa Z h0 a1 "com/example/annalist/annalist/store/RecordCodec$Input") (g1 : n0 ≤ a1) (ne : t ≠ a1) (F1 : Fld Z h0 a1 "com/example/annalist/annalist/store/RecordCodec$Input" "bytes" "[B" .null) (F2 : Fld Z h0 a1 "com/example/annalist/annalist/store/RecordCodec$Input" "position" "I" (.int (0 : Int32))) (F3 : Fld Z h0 a1 "com/example/annalist/annalist/store/RecordCodec$Input" "end" "I" (.int (0 : Int32))) (A1 : own_A Z h0 t 16 .byte (fun _ => .int (0 : Int32))) :
    MetFree l (⟨"com/example/annalist/annalist/store/RecordCodec$Input", "<init>", "([BII)V"⟩ : MethodName) (head1 (Jvm.Cond.code (⟨"com/example/annalist/annalist/store/RecordCodec$Input", "<init>", "([BII)V"⟩ : MethodName) prog_92_method_2_code 4 none :: ws) ({ frames := 1, cells := 0, slots := 0, locals := 12 } : Room)) (fun a U => a = #[(.ref a1), (.ref t), (.int (Int32.ofNat o)), (.int (Int32.ofNat ln))] ∧ Z.Warmed39 U.vm ∧ U.heap = h0) (fun _ _ _ _ _ => True) (fun _ U oo U' => ∃ v L, oo = .returned v ∧ Q1 Z a1 t o ln h0 n0 v U'.heap L ∧ FrameEnd U oo U' L ({ frames := 1, cells := 0, slots := 0, locals := 12 } : Room).cells ({ frames := 1, cells := 0, slots := 0, locals := 12 } : Room).slots) := by
  refine MetFree.of_bodySF (plainFor_of_name pn_1) hisR ?_
  intro p e s m args below meth c s₁ Bd hml0 hP hK
  obtain ⟨rfl, hZ, hh⟩ := hP
  have hx := Bd.exec
  have hby := Bd.bytes
  have hml : c.maxLocals = 4 := hml0
  have hown : s.vm.findClass "com/example/annalist/annalist/store/RecordCodec$Input" = some m.cls := findClass_of_methodNamed Bd.named
  have hnm := (name_of_methodNamed Bd.named Bd.method).1
  have X0 : Stand p l e ({ frames := 1, cells := 0, slots := 0, locals := 12 } : Room) s m #[(.ref a1), (.ref t), (.int (Int32.ofNat o)), (.int (Int32.ofNat ln))] below meth c s₁ [] 0 0 := Stand.of_body Bd
  have e0 : s₁.heap = h0 := by rw [← hh, Bd.state]; rfl
  have N0 := Fr.nil n0
  have pre0 : ∀ t₀, Steps p.tables e below (s₁.setTop (mkF m 0 #[.val (.ref a1), .val (.ref t), .val (.int (Int32.ofNat o)), .val (.int (Int32.ofNat ln))] [])) t₀ → Steps p.tables e below (s₁.setTop (entryFrame m #[(.ref a1), (.ref t), (.int (Int32.ofNat o)), (.int (Int32.ofNat ln))] 4)) t₀ := fun t₀ k => castTop (ef_1 m a1 t (Int32.ofNat o) (Int32.ofNat ln)) k
  have sg1 : ∀ t₀, Steps p.tables e below (s₁.setTop (mkF m 1 #[.val (.ref a1), .val (.ref t), .val (.int (Int32.ofNat o)), .val (.int (Int32.ofNat ln))] [(.ref a1)])) t₀ → Steps p.tables e below (s₁.setTop (mkF m 0 #[.val (.ref a1), .val (.ref t), .val (.int (Int32.ofNat o)), .val (.int (Int32.ofNat ln))] [])) t₀ := by
    intro t₀ kt
    show Steps p.tables e below (s₁.setTop (mkF m 0 #[.val (.ref a1), .val (.ref t), .val (.int (Int32.ofNat o)), .val (.int (Int32.ofNat ln))] [])) _
    refine XS.aloadN X0.here hx rfl (hb hby d1_0) rfl rfl ?_
    exact kt
  obtain ⟨T2, X2, e2, st2⟩ := initO X0 hx hZ hown (hw _ (List.mem_of_getElem? (i := 8) rfl)) (hw _ (List.mem_of_getElem? (i := 9) rfl)) (hw _ (List.mem_of_getElem? (i := 10) rfl)) e0 (g := (mkF m 1 #[.val (.ref a1), .val (.ref t), .val (.int (Int32.ofNat o)), .val (.int (Int32.ofNat ln))] [(.ref a1)])) rfl (by rw [hml]; rfl) rfl (hb hby d1_1) (by decide) (W := 0) (by show 2 * 0 + _ ≤ _; exact Nat.le_of_eq rfl) (by decide)
  have sg3 : ∀ t₀, Steps p.tables e below (T2.setTop (mkF m 6 #[.val (.ref a1), .val (.ref t), .val (.int (Int32.ofNat o)), .val (.int (Int32.ofNat ln))] [(.ref t), (.ref a1)])) t₀ → Steps p.tables e below (T2.setTop (mkF m 4 #[.val (.ref a1), .val (.ref t), .val (.int (Int32.ofNat o)), .val (.int (Int32.ofNat ln))] [])) t₀ := by
    intro t₀ kt
    show Steps p.tables e below (T2.setTop (mkF m 4 #[.val (.ref a1), .val (.ref t), .val (.int (Int32.ofNat o)), .val (.int (Int32.ofNat ln))] [])) _
    refine XS.aloadN X2.here hx rfl (hb hby d1_4) rfl rfl ?_
    show Steps p.tables e below (T2.setTop (mkF m 5 #[.val (.ref a1), .val (.ref t), .val (.int (Int32.ofNat o)), .val (.int (Int32.ofNat ln))] [(.ref a1)])) _
    refine XS.aloadN X2.here hx rfl (hb hby d1_5) rfl rfl ?_
    exact kt
  obtain ⟨T4, h4, X4, e4, W4, st4⟩ := putF X2 hx hZ hown (host := "") (Or.inl (hw _ (List.mem_of_getElem? (i := 11) rfl))) Via.refl e2 F1 E1 (Or.inr ⟨(hw _ (List.mem_of_getElem? (i := 12) rfl)), rfl, hnm⟩) (hw _ (List.mem_of_getElem? (i := 3) rfl)) (ty := (.array .byte)) (by decide) rfl rfl (g := (mkF m 6 #[.val (.ref a1), .val (.ref t), .val (.int (Int32.ofNat o)), .val (.int (Int32.ofNat ln))] [(.ref t), (.ref a1)])) rfl rfl (hb hby d1_6)
  have Fw4 := F1.same W4
  have N4 := Fr.snoc X4 N0 g1
  have F2b := F2.other W4 (Or.inr (slot_ne (Or.inl (hw _ (List.mem_of_getElem? (i := 14) rfl))) (Or.inr (hw _ (List.mem_of_getElem? (i := 12) rfl))) (by decide) (t := .int) (t' := (.array .byte)) (by decide) (by decide)))
  have F3b := F3.other W4 (Or.inr (slot_ne (Or.inr (hw _ (List.mem_of_getElem? (i := 16) rfl))) (Or.inr (hw _ (List.mem_of_getElem? (i := 12) rfl))) (by decide) (t := .int) (t' := (.array .byte)) (by decide) (by decide)))
  have E2 := E1.wr W4
  have A2 := own_A_other A1 W4 ne
  have sg5 : ∀ t₀, Steps p.tables e below (T4.setTop (mkF m 11 #[.val (.ref a1), .val (.ref t), .val (.int (Int32.ofNat o)), .val (.int (Int32.ofNat ln))] [(.int (Int32.ofNat o)), (.ref a1)])) t₀ → Steps p.tables e below (T4.setTop (mkF m 9 #[.val (.ref a1), .val (.ref t), .val (.int (Int32.ofNat o)), .val (.int (Int32.ofNat ln))] [])) t₀ := by
    intro t₀ kt
    show Steps p.tables e below (T4.setTop (mkF m 9 #[.val (.ref a1), .val (.ref t), .val (.int (Int32.ofNat o)), .val (.int (Int32.ofNat ln))] [])) _
    refine XS.aloadN X4.here hx rfl (hb hby d1_9) rfl rfl ?_
    show Steps p.tables e below (T4.setTop (mkF m 10 #[.val (.ref a1), .val (.ref t), .val (.int (Int32.ofNat o)), .val (.int (Int32.ofNat ln))] [(.ref a1)])) _
    refine XS.iloadN X4.here hx rfl (hb hby d1_10) rfl ?_
    exact kt
  obtain ⟨T6, h6, X6, e6, W6, st6⟩ := putF X4 hx hZ hown (host := "") (Or.inl (hw _ (List.mem_of_getElem? (i := 13) rfl))) Via.refl e4 F2b E2 (Or.inl (hw _ (List.mem_of_getElem? (i := 14) rfl))) (hw _ (List.mem_of_getElem? (i := 3) rfl)) (ty := .int) (by decide) rfl rfl (g := (mkF m 11 #[.val (.ref a1), .val (.ref t), .val (.int (Int32.ofNat o)), .val (.int (Int32.ofNat ln))] [(.int (Int32.ofNat o)), (.ref a1)])) rfl rfl (hb hby d1_11)
  have Fw6 := F2b.same W6
  have N6 := Fr.snoc X6 N4 g1
  have FBc := Fw4.other W6 (Or.inr (slot_ne (Or.inr (hw _ (List.mem_of_getElem? (i := 12) rfl))) (Or.inl (hw _ (List.mem_of_getElem? (i := 14) rfl))) (by decide) (t := (.array .byte)) (t' := .int) (by decide) (by decide)))
  have F3c := F3b.other W6 (Or.inr (slot_ne (Or.inr (hw _ (List.mem_of_getElem? (i := 16) rfl))) (Or.inl (hw _ (List.mem_of_getElem? (i := 14) rfl))) (by decide) (t := .int) (t' := .int) (by decide) (by decide)))
  have E3 := E2.wr W6
  have A3 := own_A_other A2 W6 ne
  have sg7 : ∀ t₀, Steps p.tables e below (T6.setTop (mkF m 18 #[.val (.ref a1), .val (.ref t), .val (.int (Int32.ofNat o)), .val (.int (Int32.ofNat ln))] [(.int ((Int32.ofNat o) + (Int32.ofNat ln))), (.ref a1)])) t₀ → Steps p.tables e below (T6.setTop (mkF m 14 #[.val (.ref a1), .val (.ref t), .val (.int (Int32.ofNat o)), .val (.int (Int32.ofNat ln))] [])) t₀ := by
    intro t₀ kt
    show Steps p.tables e below (T6.setTop (mkF m 14 #[.val (.ref a1), .val (.ref t), .val (.int (Int32.ofNat o)), .val (.int (Int32.ofNat ln))] [])) _
    refine XS.aloadN X6.here hx rfl (hb hby d1_14) rfl rfl ?_
    show Steps p.tables e below (T6.setTop (mkF m 15 #[.val (.ref a1), .val (.ref t), .val (.int (Int32.ofNat o)), .val (.int (Int32.ofNat ln))] [(.ref a1)])) _
    refine XS.iloadN X6.here hx rfl (hb hby d1_15) rfl ?_
    show Steps p.tables e below (T6.setTop (mkF m 16 #[.val (.ref a1), .val (.ref t), .val (.int (Int32.ofNat o)), .val (.int (Int32.ofNat ln))] [(.int (Int32.ofNat o)), (.ref a1)])) _
    refine XS.iloadN X6.here hx rfl (hb hby d1_16) rfl ?_
    show Steps p.tables e below (T6.setTop (mkF m 17 #[.val (.ref a1), .val (.ref t), .val (.int (Int32.ofNat o)), .val (.int (Int32.ofNat ln))] [(.int (Int32.ofNat ln)), (.int (Int32.ofNat o)), (.ref a1)])) _
    refine XS.iadd X6.here hx rfl (hb hby d1_17) rfl ?_
    exact kt
  obtain ⟨T8, h8, X8, e8, W8, st8⟩ := putF X6 hx hZ hown (host := "") (Or.inl (hw _ (List.mem_of_getElem? (i := 15) rfl))) Via.refl e6 F3c E3 (Or.inr ⟨(hw _ (List.mem_of_getElem? (i := 16) rfl)), rfl, hnm⟩) (hw _ (List.mem_of_getElem? (i := 3) rfl)) (ty := .int) (by decide) rfl rfl (g := (mkF m 18 #[.val (.ref a1), .val (.ref t), .val (.int (Int32.ofNat o)), .val (.int (Int32.ofNat ln))] [(.int ((Int32.ofNat o) + (Int32.ofNat ln))), (.ref a1)])) rfl rfl (hb hby d1_18)
  have Fw8 := F3c.same W8
  have N8 := Fr.snoc X8 N6 g1
  have FEd := Fw8
  rw [← Int32.ofNat_add] at FEd
  obtain ⟨fs, hr, hrun, hended, hW, hsame⟩ := X8.leave (v := none) (fun _ => rfl)
  refine ⟨_, _, pre0 _ ?_, hrun, hended, _, _, rfl, ?_, ⟨_, rfl⟩, hW, hsame.mono (by decide) (by decide)⟩
  · exact sg1 _ (st2 _ (sg3 _ (st4 _ (sg5 _ (st6 _ (sg7 _ (st8 _ ((X8.returnOut hx Bd.returns (hb hby d1_21) hr)))))))))
  · show Q1 Z a1 t o ln h0 n0 _ T8.heap _
    rw [e8]
    exact ⟨rfl, N8, Nat.le_trans (Nat.le_trans (Nat.le_trans Z0 (Keep.of_wr W4).1) (Keep.of_wr W6).1) (Keep.of_wr W8).1, E3.wr W8, FBc.other W8 (Or.inr (slot_ne (Or.inr (hw _ (List.mem_of_getElem? (i := 12) rfl))) (Or.inr (hw _ (List.mem_of_getElem? (i := 16) rfl))) (by decide) (t := (.array .byte)) (t' := .int) (by decide) (by decide))), FEd, Fw6.other W8 (Or.inr (slot_ne (Or.inl (hw _ (List.mem_of_getElem? (i := 14) rfl))) (Or.inr (hw _ (List.mem_of_getElem? (i := 16) rfl))) (by decide) (t := .int) (t' := .int) (by decide) (by decide))), own_A_other A3 W8 ne⟩
def Q3 (Z : State) (a1 : Addr) (x : Int32) (z : Int32) (h0 : Heap) (n0 : Nat) (v : Option Value) (h : Heap) (L : List Loc) : Prop := v = some (.int (own_e x z)) ∧ Fr n0 L ∧ h = h0
set_option maxRecDepth 65536 in
set_option maxHeartbeats 40000000 in
theorem rm3 (l : Launch) (Z : State) (a0 : Array Value) (hw : ∀ d ∈ tables_1, d.before a0 Z = true) (ws : List Jvm.Cond) (a1 : Addr) (x : Int32) (z : Int32) (h0 : Heap) (n0 : Nat) (Z0 : n0 ≤ h0.size) (F1 : Fld Z h0 a1 "com/example/annalist/annalist/store/RecordCodec$Input" "position" "I" (.int x)) (F2 : Fld Z h0 a1 "com/example/annalist/annalist/store/RecordCodec$Input" "end" "I" (.int z)) :
    MetFree l (⟨"com/example/annalist/annalist/store/RecordCodec$Input", "atEnd", "()Z"⟩ : MethodName) (head1 (Jvm.Cond.code (⟨"com/example/annalist/annalist/store/RecordCodec$Input", "atEnd", "()Z"⟩ : MethodName) prog_92_method_8_code 1 (some .boolean) :: ws) ({ frames := 0, cells := 0, slots := 0, locals := 0 } : Room)) (fun a U => a = #[(.ref a1)] ∧ Z.Warmed39 U.vm ∧ U.heap = h0) (fun _ _ _ _ _ => True) (fun _ U oo U' => ∃ v L, oo = .returned v ∧ Q3 Z a1 x z h0 n0 v U'.heap L ∧ FrameEnd U oo U' L ({ frames := 0, cells := 0, slots := 0, locals := 0 } : Room).cells ({ frames := 0, cells := 0, slots := 0, locals := 0 } : Room).slots) := by
  refine MetFree.of_bodySF (plainFor_of_name pn_3) hisR ?_
  intro p e s m args below meth c s₁ Bd hml0 hP hK
  obtain ⟨rfl, hZ, hh⟩ := hP
  have hx := Bd.exec
  have hby := Bd.bytes
  have hml : c.maxLocals = 1 := hml0
  have hown : s.vm.findClass "com/example/annalist/annalist/store/RecordCodec$Input" = some m.cls := findClass_of_methodNamed Bd.named
  have hnm := (name_of_methodNamed Bd.named Bd.method).1
  have X0 : Stand p l e ({ frames := 0, cells := 0, slots := 0, locals := 0 } : Room) s m #[(.ref a1)] below meth c s₁ [] 0 0 := Stand.of_body Bd
  have e0 : s₁.heap = h0 := by rw [← hh, Bd.state]; rfl
  have N0 := Fr.nil n0
  have pre0 : ∀ t₀, Steps p.tables e below (s₁.setTop (mkF m 0 #[.val (.ref a1)] [])) t₀ → Steps p.tables e below (s₁.setTop (entryFrame m #[(.ref a1)] 1)) t₀ := fun t₀ k => castTop (ef_3 m a1) k
  have sg1 : ∀ t₀, Steps p.tables e below (s₁.setTop (mkF m 1 #[.val (.ref a1)] [(.ref a1)])) t₀ → Steps p.tables e below (s₁.setTop (mkF m 0 #[.val (.ref a1)] [])) t₀ := by
    intro t₀ kt
    show Steps p.tables e below (s₁.setTop (mkF m 0 #[.val (.ref a1)] [])) _
    refine XS.aloadN X0.here hx rfl (hb hby d3_0) rfl rfl ?_
    exact kt
  obtain ⟨T2, X2, e2, st2⟩ := getF X0 hx hZ hown (host := "") (Or.inl (hw _ (List.mem_of_getElem? (i := 13) rfl))) Via.refl e0 F1 (g := (mkF m 1 #[.val (.ref a1)] [(.ref a1)])) rfl rfl (hb hby d3_1)
  have sg3 : ∀ t₀, Steps p.tables e below (T2.setTop (mkF m 5 #[.val (.ref a1)] [(.ref a1), (.int x)])) t₀ → Steps p.tables e below (T2.setTop (mkF m 4 #[.val (.ref a1)] [(.int x)])) t₀ := by
    intro t₀ kt
    show Steps p.tables e below (T2.setTop (mkF m 4 #[.val (.ref a1)] [(.int x)])) _
    refine XS.aloadN X2.here hx rfl (hb hby d3_4) rfl rfl ?_
    exact kt
  obtain ⟨T4, X4, e4, st4⟩ := getF X2 hx hZ hown (host := "") (Or.inl (hw _ (List.mem_of_getElem? (i := 15) rfl))) Via.refl e2 F2 (g := (mkF m 5 #[.val (.ref a1)] [(.ref a1), (.int x)])) rfl rfl (hb hby d3_5)
  by_cases hb8 : x = z
  · have sg5 : ∀ t₀, Steps p.tables e below (T4.setTop (mkF m 16 #[.val (.ref a1)] [(.int (1 : Int32))])) t₀ → Steps p.tables e below (T4.setTop (mkF m 8 #[.val (.ref a1)] [(.int z), (.int x)])) t₀ := by
      intro t₀ kt
      show Steps p.tables e below (T4.setTop (mkF m 8 #[.val (.ref a1)] [(.int z), (.int x)])) _
      refine XS.icmpNo X4.here hx rfl (hb hby d3_8) rfl (teq hb8).2 ?_
      show Steps p.tables e below (T4.setTop (mkF m 11 #[.val (.ref a1)] [])) _
      refine XS.iconst X4.here hx rfl (hb hby d3_11) ?_
      show Steps p.tables e below (T4.setTop (mkF m 12 #[.val (.ref a1)] [(.int (1 : Int32))])) _
      refine XS.goto X4.here hx rfl (pc0 := 12) (pc' := 16) rfl (hb hby d3_12) (by decide) (by decide) ?_
      exact kt
    obtain ⟨fs, hr, hrun, hended, hW, hsame⟩ := X4.leave (v := some (.int (1 : Int32))) (fun h => by rw [Bd.returns] at h; cases h)
    refine ⟨_, _, pre0 _ ?_, hrun, hended, _, _, rfl, ?_, ⟨_, rfl⟩, hW, hsame.mono (by decide) (by decide)⟩
    · exact sg1 _ (st2 _ (sg3 _ (st4 _ (sg5 _ ((retN X4 hx (t := .boolean) Bd.returns (by simp) (hb hby d3_16) hr))))))
    · show Q3 Z a1 x z h0 n0 _ T4.heap _
      rw [e4]
      exact ⟨by rw [own_e, if_pos hb8], N0, rfl⟩
  · have sg6 : ∀ t₀, Steps p.tables e below (T4.setTop (mkF m 16 #[.val (.ref a1)] [(.int (0 : Int32))])) t₀ → Steps p.tables e below (T4.setTop (mkF m 8 #[.val (.ref a1)] [(.int z), (.int x)])) t₀ := by
      intro t₀ kt
      show Steps p.tables e below (T4.setTop (mkF m 8 #[.val (.ref a1)] [(.int z), (.int x)])) _
      refine XS.icmpYes X4.here hx rfl (pc0 := 8) (pc' := 15) rfl (hb hby d3_8) rfl (feq hb8).2 (by decide) (by decide) ?_
      show Steps p.tables e below (T4.setTop (mkF m 15 #[.val (.ref a1)] [])) _
      refine XS.iconst X4.here hx rfl (hb hby d3_15) ?_
      exact kt
    obtain ⟨fs, hr, hrun, hended, hW, hsame⟩ := X4.leave (v := some (.int (0 : Int32))) (fun h => by rw [Bd.returns] at h; cases h)
    refine ⟨_, _, pre0 _ ?_, hrun, hended, _, _, rfl, ?_, ⟨_, rfl⟩, hW, hsame.mono (by decide) (by decide)⟩
    · exact sg1 _ (st2 _ (sg3 _ (st4 _ (sg6 _ ((retN X4 hx (t := .boolean) Bd.returns (by simp) (hb hby d3_16) hr))))))
    · show Q3 Z a1 x z h0 n0 _ T4.heap _
      rw [e4]
      exact ⟨by rw [own_e, if_neg hb8], N0, rfl⟩
def Q5 (Z : State) (a1 : Addr) (p2 : Int32) (x : Int32) (z : Int32) (h0 : Heap) (n0 : Nat) (v : Option Value) (h : Heap) (L : List Loc) : Prop := v = none ∧ Fr n0 L ∧ h = h0
set_option maxRecDepth 65536 in
set_option maxHeartbeats 40000000 in
theorem rm5 (l : Launch) (Z : State) (a0 : Array Value) (hw : ∀ d ∈ tables_1, d.before a0 Z = true) (ws : List Jvm.Cond) (a1 : Addr) (p2 : Int32) (x : Int32) (z : Int32) (h0 : Heap) (n0 : Nat) (Z0 : n0 ≤ h0.size) (F1 : Fld Z h0 a1 "com/example/annalist/annalist/store/RecordCodec$Input" "end" "I" (.int z)) (F2 : Fld Z h0 a1 "com/example/annalist/annalist/store/RecordCodec$Input" "position" "I" (.int x)) (hge : ¬ (z - x) < p2) :
    MetFree l (⟨"com/example/annalist/annalist/store/RecordCodec$Input", "need", "(I)V"⟩ : MethodName) (head1 (Jvm.Cond.code (⟨"com/example/annalist/annalist/store/RecordCodec$Input", "need", "(I)V"⟩ : MethodName) prog_92_method_12_code 2 none :: ws) ({ frames := 0, cells := 0, slots := 0, locals := 0 } : Room)) (fun a U => a = #[(.ref a1), (.int p2)] ∧ Z.Warmed39 U.vm ∧ U.heap = h0) (fun _ _ _ _ _ => True) (fun _ U oo U' => ∃ v L, oo = .returned v ∧ Q5 Z a1 p2 x z h0 n0 v U'.heap L ∧ FrameEnd U oo U' L ({ frames := 0, cells := 0, slots := 0, locals := 0 } : Room).cells ({ frames := 0, cells := 0, slots := 0, locals := 0 } : Room).slots) := by
  refine MetFree.of_bodySF (plainFor_of_name pn_5) hisR ?_
  intro p e s m args below meth c s₁ Bd hml0 hP hK
  obtain ⟨rfl, hZ, hh⟩ := hP
  have hx := Bd.exec
  have hby := Bd.bytes
  have hml : c.maxLocals = 2 := hml0
  have hown : s.vm.findClass "com/example/annalist/annalist/store/RecordCodec$Input" = some m.cls := findClass_of_methodNamed Bd.named
  have hnm := (name_of_methodNamed Bd.named Bd.method).1
  have X0 : Stand p l e ({ frames := 0, cells := 0, slots := 0, locals := 0 } : Room) s m #[(.ref a1), (.int p2)] below meth c s₁ [] 0 0 := Stand.of_body Bd
  have e0 : s₁.heap = h0 := by rw [← hh, Bd.state]; rfl
  have N0 := Fr.nil n0
  have pre0 : ∀ t₀, Steps p.tables e below (s₁.setTop (mkF m 0 #[.val (.ref a1), .val (.int p2)] [])) t₀ → Steps p.tables e below (s₁.setTop (entryFrame m #[(.ref a1), (.int p2)] 2)) t₀ := fun t₀ k => castTop (ef_5 m a1 p2) k
  have sg1 : ∀ t₀, Steps p.tables e below (s₁.setTop (mkF m 1 #[.val (.ref a1), .val (.int p2)] [(.ref a1)])) t₀ → Steps p.tables e below (s₁.setTop (mkF m 0 #[.val (.ref a1), .val (.int p2)] [])) t₀ := by
    intro t₀ kt
    show Steps p.tables e below (s₁.setTop (mkF m 0 #[.val (.ref a1), .val (.int p2)] [])) _
    refine XS.aloadN X0.here hx rfl (hb hby d5_0) rfl rfl ?_
    exact kt
  obtain ⟨T2, X2, e2, st2⟩ := getF X0 hx hZ hown (host := "") (Or.inl (hw _ (List.mem_of_getElem? (i := 15) rfl))) Via.refl e0 F1 (g := (mkF m 1 #[.val (.ref a1), .val (.int p2)] [(.ref a1)])) rfl rfl (hb hby d5_1)
  have sg3 : ∀ t₀, Steps p.tables e below (T2.setTop (mkF m 5 #[.val (.ref a1), .val (.int p2)] [(.ref a1), (.int z)])) t₀ → Steps p.tables e below (T2.setTop (mkF m 4 #[.val (.ref a1), .val (.int p2)] [(.int z)])) t₀ := by
    intro t₀ kt
    show Steps p.tables e below (T2.setTop (mkF m 4 #[.val (.ref a1), .val (.int p2)] [(.int z)])) _
    refine XS.aloadN X2.here hx rfl (hb hby d5_4) rfl rfl ?_
    exact kt
  obtain ⟨T4, X4, e4, st4⟩ := getF X2 hx hZ hown (host := "") (Or.inl (hw _ (List.mem_of_getElem? (i := 13) rfl))) Via.refl e2 F2 (g := (mkF m 5 #[.val (.ref a1), .val (.int p2)] [(.ref a1), (.int z)])) rfl rfl (hb hby d5_5)
  have sg5 : ∀ t₀, Steps p.tables e below (T4.setTop (mkF m 23 #[.val (.ref a1), .val (.int p2)] [])) t₀ → Steps p.tables e below (T4.setTop (mkF m 8 #[.val (.ref a1), .val (.int p2)] [(.int x), (.int z)])) t₀ := by
    intro t₀ kt
    show Steps p.tables e below (T4.setTop (mkF m 8 #[.val (.ref a1), .val (.int p2)] [(.int x), (.int z)])) _
    refine XS.isub X4.here hx rfl (hb hby d5_8) rfl ?_
    show Steps p.tables e below (T4.setTop (mkF m 9 #[.val (.ref a1), .val (.int p2)] [(.int (z - x))])) _
    refine XS.iloadN X4.here hx rfl (hb hby d5_9) rfl ?_
    show Steps p.tables e below (T4.setTop (mkF m 10 #[.val (.ref a1), .val (.int p2)] [(.int p2), (.int (z - x))])) _
    refine XS.icmpYes X4.here hx rfl (pc0 := 10) (pc' := 23) rfl (hb hby d5_10) rfl (flt hge).2.1 (by decide) (by decide) ?_
    exact kt
  obtain ⟨fs, hr, hrun, hended, hW, hsame⟩ := X4.leave (v := none) (fun _ => rfl)
  refine ⟨_, _, pre0 _ ?_, hrun, hended, _, _, rfl, ?_, ⟨_, rfl⟩, hW, hsame.mono (by decide) (by decide)⟩
  · exact sg1 _ (st2 _ (sg3 _ (st4 _ (sg5 _ ((X4.returnOut hx Bd.returns (hb hby d5_23) hr))))))
  · show Q5 Z a1 p2 x z h0 n0 _ T4.heap _
    rw [e4]
    exact ⟨rfl, N0, rfl⟩
def Q7 (Z : State) (a1 : Addr) (q2 : Int64) (x : Int32) (z : Int32) (h0 : Heap) (n0 : Nat) (v : Option Value) (h : Heap) (L : List Loc) : Prop := v = some (.int q2.toInt32) ∧ Fr n0 L ∧ h = h0
set_option maxRecDepth 65536 in
set_option maxHeartbeats 40000000 in
theorem rm7 (l : Launch) (Z : State) (a0 : Array Value) (hw : ∀ d ∈ tables_1, d.before a0 Z = true) (ws : List Jvm.Cond) (a1 : Addr) (q2 : Int64) (x : Int32) (z : Int32) (h0 : Heap) (n0 : Nat) (Z0 : n0 ≤ h0.size) (F1 : Fld Z h0 a1 "com/example/annalist/annalist/store/RecordCodec$Input" "end" "I" (.int z)) (F2 : Fld Z h0 a1 "com/example/annalist/annalist/store/RecordCodec$Input" "position" "I" (.int x)) (h1 : ¬ (lcmpW q2 (0 : Int64)) < (0 : Int32)) (h2 : ¬ (0 : Int32) < (lcmpW q2 ((z - x).toInt64))) :
    MetFree l (⟨"com/example/annalist/annalist/store/RecordCodec$Input", "field", "(J)I"⟩ : MethodName) (head1 (Jvm.Cond.code (⟨"com/example/annalist/annalist/store/RecordCodec$Input", "field", "(J)I"⟩ : MethodName) prog_92_method_7_code 3 (some .int) :: ws) ({ frames := 0, cells := 0, slots := 0, locals := 0 } : Room)) (fun a U => a = #[(.ref a1), (.long q2)] ∧ Z.Warmed39 U.vm ∧ U.heap = h0) (fun _ _ _ _ _ => True) (fun _ U oo U' => ∃ v L, oo = .returned v ∧ Q7 Z a1 q2 x z h0 n0 v U'.heap L ∧ FrameEnd U oo U' L ({ frames := 0, cells := 0, slots := 0, locals := 0 } : Room).cells ({ frames := 0, cells := 0, slots := 0, locals := 0 } : Room).slots) := by
  refine MetFree.of_bodySF (plainFor_of_name pn_7) hisR ?_
  intro p e s m args below meth c s₁ Bd hml0 hP hK
  obtain ⟨rfl, hZ, hh⟩ := hP
  have hx := Bd.exec
  have hby := Bd.bytes
  have hml : c.maxLocals = 3 := hml0
  have hown : s.vm.findClass "com/example/annalist/annalist/store/RecordCodec$Input" = some m.cls := findClass_of_methodNamed Bd.named
  have hnm := (name_of_methodNamed Bd.named Bd.method).1
  have X0 : Stand p l e ({ frames := 0, cells := 0, slots := 0, locals := 0 } : Room) s m #[(.ref a1), (.long q2)] below meth c s₁ [] 0 0 := Stand.of_body Bd
  have e0 : s₁.heap = h0 := by rw [← hh, Bd.state]; rfl
  have N0 := Fr.nil n0
  have pre0 : ∀ t₀, Steps p.tables e below (s₁.setTop (mkF m 0 #[.val (.ref a1), .val (.long q2), .second] [])) t₀ → Steps p.tables e below (s₁.setTop (entryFrame m #[(.ref a1), (.long q2)] 3)) t₀ := fun t₀ k => castTop (ef_7 m a1 q2) k
  have sg1 : ∀ t₀, Steps p.tables e below (s₁.setTop (mkF m 8 #[.val (.ref a1), .val (.long q2), .second] [(.ref a1), (.long q2)])) t₀ → Steps p.tables e below (s₁.setTop (mkF m 0 #[.val (.ref a1), .val (.long q2), .second] [])) t₀ := by
    intro t₀ kt
    show Steps p.tables e below (s₁.setTop (mkF m 0 #[.val (.ref a1), .val (.long q2), .second] [])) _
    refine XS.lloadN X0.here hx rfl (hb hby d7_0) rfl ?_
    show Steps p.tables e below (s₁.setTop (mkF m 1 #[.val (.ref a1), .val (.long q2), .second] [(.long q2)])) _
    refine XS.lconst X0.here hx rfl (hb hby d7_1) ?_
    show Steps p.tables e below (s₁.setTop (mkF m 2 #[.val (.ref a1), .val (.long q2), .second] [(.long (0 : Int64)), (.long q2)])) _
    refine XS.lcmp X0.here hx rfl (hb hby d7_2) rfl ?_
    show Steps p.tables e below (s₁.setTop (mkF m 3 #[.val (.ref a1), .val (.long q2), .second] [(.int (lcmpW q2 (0 : Int64)))])) _
    refine XS.ifNo X0.here hx rfl (hb hby d7_3) rfl ((if0 _ _).trans (flt h1).1) ?_
    show Steps p.tables e below (s₁.setTop (mkF m 6 #[.val (.ref a1), .val (.long q2), .second] [])) _
    refine XS.lloadN X0.here hx rfl (hb hby d7_6) rfl ?_
    show Steps p.tables e below (s₁.setTop (mkF m 7 #[.val (.ref a1), .val (.long q2), .second] [(.long q2)])) _
    refine XS.aloadN X0.here hx rfl (hb hby d7_7) rfl rfl ?_
    exact kt
  obtain ⟨T2, X2, e2, st2⟩ := getF X0 hx hZ hown (host := "") (Or.inl (hw _ (List.mem_of_getElem? (i := 15) rfl))) Via.refl e0 F1 (g := (mkF m 8 #[.val (.ref a1), .val (.long q2), .second] [(.ref a1), (.long q2)])) rfl rfl (hb hby d7_8)
  have sg3 : ∀ t₀, Steps p.tables e below (T2.setTop (mkF m 12 #[.val (.ref a1), .val (.long q2), .second] [(.ref a1), (.int z), (.long q2)])) t₀ → Steps p.tables e below (T2.setTop (mkF m 11 #[.val (.ref a1), .val (.long q2), .second] [(.int z), (.long q2)])) t₀ := by
    intro t₀ kt
    show Steps p.tables e below (T2.setTop (mkF m 11 #[.val (.ref a1), .val (.long q2), .second] [(.int z), (.long q2)])) _
    refine XS.aloadN X2.here hx rfl (hb hby d7_11) rfl rfl ?_
    exact kt
  obtain ⟨T4, X4, e4, st4⟩ := getF X2 hx hZ hown (host := "") (Or.inl (hw _ (List.mem_of_getElem? (i := 13) rfl))) Via.refl e2 F2 (g := (mkF m 12 #[.val (.ref a1), .val (.long q2), .second] [(.ref a1), (.int z), (.long q2)])) rfl rfl (hb hby d7_12)
  have sg5 : ∀ t₀, Steps p.tables e below (T4.setTop (mkF m 33 #[.val (.ref a1), .val (.long q2), .second] [(.int (q2.toInt32))])) t₀ → Steps p.tables e below (T4.setTop (mkF m 15 #[.val (.ref a1), .val (.long q2), .second] [(.int x), (.int z), (.long q2)])) t₀ := by
    intro t₀ kt
    show Steps p.tables e below (T4.setTop (mkF m 15 #[.val (.ref a1), .val (.long q2), .second] [(.int x), (.int z), (.long q2)])) _
    refine XS.isub X4.here hx rfl (hb hby d7_15) rfl ?_
    show Steps p.tables e below (T4.setTop (mkF m 16 #[.val (.ref a1), .val (.long q2), .second] [(.int (z - x)), (.long q2)])) _
    refine XS.i2l X4.here hx rfl (hb hby d7_16) rfl ?_
    show Steps p.tables e below (T4.setTop (mkF m 17 #[.val (.ref a1), .val (.long q2), .second] [(.long ((z - x).toInt64)), (.long q2)])) _
    refine XS.lcmp X4.here hx rfl (hb hby d7_17) rfl ?_
    show Steps p.tables e below (T4.setTop (mkF m 18 #[.val (.ref a1), .val (.long q2), .second] [(.int (lcmpW q2 ((z - x).toInt64)))])) _
    refine XS.ifYes X4.here hx rfl (pc0 := 18) (pc' := 31) rfl (hb hby d7_18) rfl ((if0 _ _).trans (flt h2).2.2.2) (by decide) (by decide) ?_
    show Steps p.tables e below (T4.setTop (mkF m 31 #[.val (.ref a1), .val (.long q2), .second] [])) _
    refine XS.lloadN X4.here hx rfl (hb hby d7_31) rfl ?_
    show Steps p.tables e below (T4.setTop (mkF m 32 #[.val (.ref a1), .val (.long q2), .second] [(.long q2)])) _
    refine XS.l2i X4.here hx rfl (hb hby d7_32) rfl ?_
    exact kt
  obtain ⟨fs, hr, hrun, hended, hW, hsame⟩ := X4.leave (v := some (.int (q2.toInt32))) (fun h => by rw [Bd.returns] at h; cases h)
  refine ⟨_, _, pre0 _ ?_, hrun, hended, _, _, rfl, ?_, ⟨_, rfl⟩, hW, hsame.mono (by decide) (by decide)⟩
  · exact sg1 _ (st2 _ (sg3 _ (st4 _ (sg5 _ ((retI X4 hx Bd.returns (hb hby d7_33) hr))))))
  · show Q7 Z a1 q2 x z h0 n0 _ T4.heap _
    rw [e4]
    exact ⟨rfl, N0, rfl⟩
def Q6 (Z : State) (a1 : Addr) (q2 : Int64) (t : Addr) (x : Nat) (z : Nat) (d : Nat) (h0 : Heap) (n0 : Nat) (v : Option Value) (h : Heap) (L : List Loc) : Prop := v = none ∧ Fr n0 L ∧ own_I Z h n0 a1 t (x + d) z
set_option maxRecDepth 65536 in
set_option maxHeartbeats 40000000 in
theorem rm6 (l : Launch) (Z : State) (a0 : Array Value) (hw : ∀ d ∈ tables_1, d.before a0 Z = true) (ws : List Jvm.Cond) (a1 : Addr) (q2 : Int64) (t : Addr) (x : Nat) (z : Nat) (d : Nat) (h0 : Heap) (n0 : Nat) (Z0 : n0 ≤ h0.size) (g1 : n0 ≤ a1) (ne : t ≠ a1) (I1 : own_I Z h0 n0 a1 t x z) (hq : q2.toInt = d) (hz : z ≤ 4096) (hx' : x + d ≤ z) :
    MetFree l (⟨"com/example/annalist/annalist/store/RecordCodec$Input", "skip", "(J)V"⟩ : MethodName) (head1 (Jvm.Cond.code (⟨"com/example/annalist/annalist/store/RecordCodec$Input", "skip", "(J)V"⟩ : MethodName) prog_92_method_6_code 3 none :: ws) ({ frames := 1, cells := 0, slots := 0, locals := 16 } : Room)) (fun a U => a = #[(.ref a1), (.long q2)] ∧ Z.Warmed39 U.vm ∧ U.heap = h0) (fun _ _ _ _ _ => True) (fun _ U oo U' => ∃ v L, oo = .returned v ∧ Q6 Z a1 q2 t x z d h0 n0 v U'.heap L ∧ FrameEnd U oo U' L ({ frames := 1, cells := 0, slots := 0, locals := 16 } : Room).cells ({ frames := 1, cells := 0, slots := 0, locals := 16 } : Room).slots) := by
  refine MetFree.of_bodySF (plainFor_of_name pn_6) hisR ?_
  intro p e s m args below meth c s₁ Bd hml0 hP hK
  obtain ⟨rfl, hZ, hh⟩ := hP
  have hx := Bd.exec
  have hby := Bd.bytes
  have hml : c.maxLocals = 3 := hml0
  have hown : s.vm.findClass "com/example/annalist/annalist/store/RecordCodec$Input" = some m.cls := findClass_of_methodNamed Bd.named
  have hnm := (name_of_methodNamed Bd.named Bd.method).1
  have X0 : Stand p l e ({ frames := 1, cells := 0, slots := 0, locals := 16 } : Room) s m #[(.ref a1), (.long q2)] below meth c s₁ [] 0 0 := Stand.of_body Bd
  have e0 : s₁.heap = h0 := by rw [← hh, Bd.state]; rfl
  have N0 := Fr.nil n0
  have pre0 : ∀ t₀, Steps p.tables e below (s₁.setTop (mkF m 0 #[.val (.ref a1), .val (.long q2), .second] [])) t₀ → Steps p.tables e below (s₁.setTop (entryFrame m #[(.ref a1), (.long q2)] 3)) t₀ := fun t₀ k => castTop (ef_6 m a1 q2) k
  obtain ⟨zz, E1, FB, FE, FP, A1⟩ := I1
  have sg1 : ∀ t₀, Steps p.tables e below (s₁.setTop (mkF m 2 #[.val (.ref a1), .val (.long q2), .second] [(.ref a1), (.ref a1)])) t₀ → Steps p.tables e below (s₁.setTop (mkF m 0 #[.val (.ref a1), .val (.long q2), .second] [])) t₀ := by
    intro t₀ kt
    show Steps p.tables e below (s₁.setTop (mkF m 0 #[.val (.ref a1), .val (.long q2), .second] [])) _
    refine XS.aloadN X0.here hx rfl (hb hby d6_0) rfl rfl ?_
    show Steps p.tables e below (s₁.setTop (mkF m 1 #[.val (.ref a1), .val (.long q2), .second] [(.ref a1)])) _
    refine XS.dup X0.here hx rfl (hb hby d6_1) rfl rfl ?_
    exact kt
  obtain ⟨T2, X2, e2, st2⟩ := getF X0 hx hZ hown (host := "") (Or.inl (hw _ (List.mem_of_getElem? (i := 13) rfl))) Via.refl e0 FP (g := (mkF m 2 #[.val (.ref a1), .val (.long q2), .second] [(.ref a1), (.ref a1)])) rfl rfl (hb hby d6_2)
  have sg3 : ∀ t₀, Steps p.tables e below (T2.setTop (mkF m 7 #[.val (.ref a1), .val (.long q2), .second] [(.long q2), (.ref a1), (.int (Int32.ofNat x)), (.ref a1)])) t₀ → Steps p.tables e below (T2.setTop (mkF m 5 #[.val (.ref a1), .val (.long q2), .second] [(.int (Int32.ofNat x)), (.ref a1)])) t₀ := by
    intro t₀ kt
    show Steps p.tables e below (T2.setTop (mkF m 5 #[.val (.ref a1), .val (.long q2), .second] [(.int (Int32.ofNat x)), (.ref a1)])) _
    refine XS.aloadN X2.here hx rfl (hb hby d6_5) rfl rfl ?_
    show Steps p.tables e below (T2.setTop (mkF m 6 #[.val (.ref a1), .val (.long q2), .second] [(.ref a1), (.int (Int32.ofNat x)), (.ref a1)])) _
    refine XS.lloadN X2.here hx rfl (hb hby d6_6) rfl ?_
    exact kt
  obtain ⟨cq4, q4, q4'⟩ := E1.cell
  obtain ⟨_, _, ⟨T4, L4, k4, n4⟩, -, X4, ⟨Lc4, hQ4, l4, y4, z4⟩, st4⟩ := X2.privateBack hx (y := (⟨"com/example/annalist/annalist/store/RecordCodec$Input", "field", "(J)I"⟩ : MethodName)) hown (mvT hZ (hw _ (List.mem_of_getElem? (i := 36) rfl))) (mvT hZ (hw _ (List.mem_of_getElem? (i := 37) rfl))) (own_sel (y := (⟨"com/example/annalist/annalist/store/RecordCodec$Input", "field", "(J)I"⟩ : MethodName)) (args := #[(.ref a1), (.long q2)]) (z := (⟨"com/example/annalist/annalist/store/RecordCodec$Input", "atEnd", "()Z"⟩ : MethodName)) (mvT hZ (hw _ (List.mem_of_getElem? (i := 20) rfl))) rfl (Cond.privateMethod_at (mvP hZ (hw _ (List.mem_of_getElem? (i := 38) rfl)) (args := #[]))) (mvT hZ (hw _ (List.mem_of_getElem? (i := 37) rfl))) (by decide)) (Cond.privateMethod_at (mvP hZ (hw _ (List.mem_of_getElem? (i := 38) rfl)) (args := #[]))) (mvT hZ (hw _ (List.mem_of_getElem? (i := 39) rfl))) (by decide) (backOf (W := 2) (rm7 l Z a0 hw [] a1 q2 (Int32.ofNat x) (Int32.ofNat z) h0 n0 Z0 FE FP (own_f1 hq) (own_f2 hq hz hx')) hZ (hw _ (List.mem_of_getElem? (i := 39) rfl)) (hw _ (List.mem_of_getElem? (i := 4) rfl)) (by decide) (by decide)) (g := (mkF m 7 #[.val (.ref a1), .val (.long q2), .second] [(.long q2), (.ref a1), (.int (Int32.ofNat x)), (.ref a1)])) rfl (by rw [hml]; rfl) (Steps.refl _) (a := a1) (by rw [e2]; exact q4) q4' (argsL := [(.long q2)]) (rest := [(.int (Int32.ofNat x)), (.ref a1)]) (lenOf pd_5 rfl) rfl (by show 2 * 0 + _ ≤ _; exact Nat.le_of_eq rfl) (hb hby d6_7) (fun _ _ => ⟨rfl, e2, (by decide : 0 + 0 ≤ _), (by decide : 0 + 0 ≤ _)⟩)
  dsimp only [Pt.U, Pt.locs, Pt.cells, Pt.slots] at X4 l4 y4 z4 st4 hQ4
  subst l4 y4 z4
  obtain ⟨rfl, N4q, hh4⟩ := hQ4
  have N4 := Fr.app N0 N4q
  have sg5 : ∀ t₀, Steps p.tables e below (T4.setTop (mkF m 11 #[.val (.ref a1), .val (.long q2), .second] [(.int ((Int32.ofNat x) + q2.toInt32)), (.ref a1)])) t₀ → Steps p.tables e below (T4.setTop (mkF m 10 #[.val (.ref a1), .val (.long q2), .second] [(.int q2.toInt32), (.int (Int32.ofNat x)), (.ref a1)])) t₀ := by
    intro t₀ kt
    show Steps p.tables e below (T4.setTop (mkF m 10 #[.val (.ref a1), .val (.long q2), .second] [(.int q2.toInt32), (.int (Int32.ofNat x)), (.ref a1)])) _
    refine XS.iadd X4.here hx rfl (hb hby d6_10) rfl ?_
    exact kt
  obtain ⟨T6, h6, X6, e6, W6, st6⟩ := putF X4 hx hZ hown (host := "") (Or.inl (hw _ (List.mem_of_getElem? (i := 13) rfl))) Via.refl hh4 FP E1 (Or.inl (hw _ (List.mem_of_getElem? (i := 14) rfl))) (hw _ (List.mem_of_getElem? (i := 3) rfl)) (ty := .int) (by decide) rfl rfl (g := (mkF m 11 #[.val (.ref a1), .val (.long q2), .second] [(.int ((Int32.ofNat x) + q2.toInt32)), (.ref a1)])) rfl rfl (hb hby d6_11)
  have Fw6 := FP.same W6
  have N6 := Fr.snoc X6 N4 g1
  have FPb := Fw6
  rw [own_li (by omega) hq, ← Int32.ofNat_add] at FPb
  obtain ⟨fs, hr, hrun, hended, hW, hsame⟩ := X6.leave (v := none) (fun _ => rfl)
  refine ⟨_, _, pre0 _ ?_, hrun, hended, _, _, rfl, ?_, ⟨_, rfl⟩, hW, hsame.mono (by decide) (by decide)⟩
  · exact sg1 _ (st2 _ (sg3 _ (st4.trans (sg5 _ (st6 _ ((X6.returnOut hx Bd.returns (hb hby d6_14) hr)))))))
  · show Q6 Z a1 q2 t x z d h0 n0 _ T6.heap _
    rw [e6]
    exact ⟨rfl, N6, Nat.le_trans zz (Keep.of_wr W6).1, E1.wr W6, FB.other W6 (Or.inr (slot_ne (Or.inr (hw _ (List.mem_of_getElem? (i := 12) rfl))) (Or.inl (hw _ (List.mem_of_getElem? (i := 14) rfl))) (by decide) (t := (.array .byte)) (t' := .int) (by decide) (by decide))), FE.other W6 (Or.inr (slot_ne (Or.inr (hw _ (List.mem_of_getElem? (i := 16) rfl))) (Or.inl (hw _ (List.mem_of_getElem? (i := 14) rfl))) (by decide) (t := .int) (t' := .int) (by decide) (by decide))), FPb, own_A_other A1 W6 ne⟩
def Q4 (Z : State) (a1 : Addr) (t : Addr) (o : Nat) (ln : Nat) (kk : Nat) (h0 : Heap) (n0 : Nat) (v : Option Value) (h : Heap) (L : List Loc) : Prop := ∃ r : Int64, v = some (.long r) ∧ Fr n0 L ∧ own_I Z h n0 a1 t (o + kk) (o + ln)
set_option maxRecDepth 65536 in
set_option maxHeartbeats 40000000 in
theorem rm4 (l : Launch) (Z : State) (a0 : Array Value) (hw : ∀ d ∈ tables_1, d.before a0 Z = true) (ws : List Jvm.Cond) (a1 : Addr) (t : Addr) (o : Nat) (ln : Nat) (kk : Nat) (h0 : Heap) (n0 : Nat) (Z0 : n0 ≤ h0.size) (g1 : n0 ≤ a1) (ne : t ≠ a1) (I1 : own_I Z h0 n0 a1 t o (o + ln)) (h1 : 1 ≤ kk) (hk : kk ≤ ln) (hl : o + ln ≤ 16) :
    MetFree l (⟨"com/example/annalist/annalist/store/RecordCodec$Input", "fixed", "(I)J"⟩ : MethodName) (head1 (Jvm.Cond.code (⟨"com/example/annalist/annalist/store/RecordCodec$Input", "fixed", "(I)J"⟩ : MethodName) prog_92_method_3_code 5 (some .long) :: ws) ({ frames := 1, cells := 0, slots := 0, locals := 13 } : Room)) (fun a U => a = #[(.ref a1), (.int (Int32.ofNat kk))] ∧ Z.Warmed39 U.vm ∧ U.heap = h0) (fun _ _ _ _ _ => True) (fun _ U oo U' => ∃ v L, oo = .returned v ∧ Q4 Z a1 t o ln kk h0 n0 v U'.heap L ∧ FrameEnd U oo U' L ({ frames := 1, cells := 0, slots := 0, locals := 13 } : Room).cells ({ frames := 1, cells := 0, slots := 0, locals := 13 } : Room).slots) := by
  refine MetFree.of_bodySF (plainFor_of_name pn_4) hisR ?_
  intro p e s m args below meth c s₁ Bd hml0 hP hK
  obtain ⟨rfl, hZ, hh⟩ := hP
  have hx := Bd.exec
  have hby := Bd.bytes
  have hml : c.maxLocals = 5 := hml0
  have hown : s.vm.findClass "com/example/annalist/annalist/store/RecordCodec$Input" = some m.cls := findClass_of_methodNamed Bd.named
  have hnm := (name_of_methodNamed Bd.named Bd.method).1
  have X0 : Stand p l e ({ frames := 1, cells := 0, slots := 0, locals := 13 } : Room) s m #[(.ref a1), (.int (Int32.ofNat kk))] below meth c s₁ [] 0 0 := Stand.of_body Bd
  have e0 : s₁.heap = h0 := by rw [← hh, Bd.state]; rfl
  have N0 := Fr.nil n0
  have pre0 : ∀ t₀, Steps p.tables e below (s₁.setTop (mkF m 0 #[.val (.ref a1), .val (.int (Int32.ofNat kk)), .unset, .unset, .unset] [])) t₀ → Steps p.tables e below (s₁.setTop (entryFrame m #[(.ref a1), (.int (Int32.ofNat kk))] 5)) t₀ := fun t₀ k => castTop (ef_4 m a1 (Int32.ofNat kk)) k
  obtain ⟨zz, E1, FB, FE, FP, A1⟩ := I1
  have hge : ¬ (Int32.ofNat (o + ln) - Int32.ofNat o) < Int32.ofNat kk := fun z => by
    rw [own_sub (by omega) (by omega), Int32.lt_iff_toInt_lt, own_int (by omega), own_int (by omega)] at z
    omega
  have sg1 : ∀ t₀, Steps p.tables e below (s₁.setTop (mkF m 2 #[.val (.ref a1), .val (.int (Int32.ofNat kk)), .unset, .unset, .unset] [(.int (Int32.ofNat kk)), (.ref a1)])) t₀ → Steps p.tables e below (s₁.setTop (mkF m 0 #[.val (.ref a1), .val (.int (Int32.ofNat kk)), .unset, .unset, .unset] [])) t₀ := by
    intro t₀ kt
    show Steps p.tables e below (s₁.setTop (mkF m 0 #[.val (.ref a1), .val (.int (Int32.ofNat kk)), .unset, .unset, .unset] [])) _
    refine XS.aloadN X0.here hx rfl (hb hby d4_0) rfl rfl ?_
    show Steps p.tables e below (s₁.setTop (mkF m 1 #[.val (.ref a1), .val (.int (Int32.ofNat kk)), .unset, .unset, .unset] [(.ref a1)])) _
    refine XS.iloadN X0.here hx rfl (hb hby d4_1) rfl ?_
    exact kt
  obtain ⟨cq2, q2, q2'⟩ := E1.cell
  obtain ⟨_, _, ⟨T2, L2, k2, n2⟩, -, X2, ⟨Lc2, hQ2, l2, y2, z2⟩, st2⟩ := X0.privateBack hx (y := (⟨"com/example/annalist/annalist/store/RecordCodec$Input", "need", "(I)V"⟩ : MethodName)) hown (mvT hZ (hw _ (List.mem_of_getElem? (i := 27) rfl))) (mvT hZ (hw _ (List.mem_of_getElem? (i := 28) rfl))) (own_sel (y := (⟨"com/example/annalist/annalist/store/RecordCodec$Input", "need", "(I)V"⟩ : MethodName)) (args := #[(.ref a1), (.int (Int32.ofNat kk))]) (z := (⟨"com/example/annalist/annalist/store/RecordCodec$Input", "atEnd", "()Z"⟩ : MethodName)) (mvT hZ (hw _ (List.mem_of_getElem? (i := 20) rfl))) rfl (Cond.privateMethod_at (mvP hZ (hw _ (List.mem_of_getElem? (i := 29) rfl)) (args := #[]))) (mvT hZ (hw _ (List.mem_of_getElem? (i := 28) rfl))) (by decide)) (Cond.privateMethod_at (mvP hZ (hw _ (List.mem_of_getElem? (i := 29) rfl)) (args := #[]))) (mvT hZ (hw _ (List.mem_of_getElem? (i := 30) rfl))) (by decide) (backOf (W := 0) (rm5 l Z a0 hw [] a1 (Int32.ofNat kk) (Int32.ofNat o) (Int32.ofNat (o + ln)) h0 n0 Z0 FE FP hge) hZ (hw _ (List.mem_of_getElem? (i := 30) rfl)) (hw _ (List.mem_of_getElem? (i := 4) rfl)) (by decide) (by decide)) (g := (mkF m 2 #[.val (.ref a1), .val (.int (Int32.ofNat kk)), .unset, .unset, .unset] [(.int (Int32.ofNat kk)), (.ref a1)])) rfl (by rw [hml]; rfl) (Steps.refl _) (a := a1) (by rw [e0]; exact q2) q2' (argsL := [(.int (Int32.ofNat kk))]) (rest := []) (lenOf pd_3 rfl) rfl (by show 2 * 0 + _ ≤ _; exact Nat.le_of_eq rfl) (hb hby d4_2) (fun _ _ => ⟨rfl, e0, (by decide : 0 + 0 ≤ _), (by decide : 0 + 0 ≤ _)⟩)
  dsimp only [Pt.U, Pt.locs, Pt.cells, Pt.slots] at X2 l2 y2 z2 st2 hQ2
  subst l2 y2 z2
  obtain ⟨rfl, N2q, hh2⟩ := hQ2
  have N2 := Fr.app N0 N2q
  have sg3 : ∀ t₀, Steps p.tables e below (T2.setTop (mkF m 6 #[.val (.ref a1), .val (.int (Int32.ofNat kk)), .unset, .unset, .unset] [(.ref a1)])) t₀ → Steps p.tables e below (T2.setTop (mkF m 5 #[.val (.ref a1), .val (.int (Int32.ofNat kk)), .unset, .unset, .unset] [])) t₀ := by
    intro t₀ kt
    show Steps p.tables e below (T2.setTop (mkF m 5 #[.val (.ref a1), .val (.int (Int32.ofNat kk)), .unset, .unset, .unset] [])) _
    refine XS.aloadN X2.here hx rfl (hb hby d4_5) rfl rfl ?_
    exact kt
  obtain ⟨T4, X4, e4, st4⟩ := getF X2 hx hZ hown (host := "") (Or.inl (hw _ (List.mem_of_getElem? (i := 11) rfl))) Via.refl hh2 FB (g := (mkF m 6 #[.val (.ref a1), .val (.int (Int32.ofNat kk)), .unset, .unset, .unset] [(.ref a1)])) rfl rfl (hb hby d4_6)
  have sg5 : ∀ t₀, Steps p.tables e below (T4.setTop (mkF m 11 #[.val (.ref a1), .val (.int (Int32.ofNat kk)), .unset, .unset, .unset] [(.ref a1), (.ref a1), (.ref t)])) t₀ → Steps p.tables e below (T4.setTop (mkF m 9 #[.val (.ref a1), .val (.int (Int32.ofNat kk)), .unset, .unset, .unset] [(.ref t)])) t₀ := by
    intro t₀ kt
    show Steps p.tables e below (T4.setTop (mkF m 9 #[.val (.ref a1), .val (.int (Int32.ofNat kk)), .unset, .unset, .unset] [(.ref t)])) _
    refine XS.aloadN X4.here hx rfl (hb hby d4_9) rfl rfl ?_
    show Steps p.tables e below (T4.setTop (mkF m 10 #[.val (.ref a1), .val (.int (Int32.ofNat kk)), .unset, .unset, .unset] [(.ref a1), (.ref t)])) _
    refine XS.dup X4.here hx rfl (hb hby d4_10) rfl rfl ?_
    exact kt
  obtain ⟨T6, X6, e6, st6⟩ := getF X4 hx hZ hown (host := "") (Or.inl (hw _ (List.mem_of_getElem? (i := 13) rfl))) Via.refl e4 FP (g := (mkF m 11 #[.val (.ref a1), .val (.int (Int32.ofNat kk)), .unset, .unset, .unset] [(.ref a1), (.ref a1), (.ref t)])) rfl rfl (hb hby d4_11)
  have sg7 : ∀ t₀, Steps p.tables e below (T6.setTop (mkF m 17 #[.val (.ref a1), .val (.int (Int32.ofNat kk)), .unset, .unset, .unset] [(.int ((Int32.ofNat o) + (1 : Int32))), (.ref a1), (.int (Int32.ofNat o)), (.ref t)])) t₀ → Steps p.tables e below (T6.setTop (mkF m 14 #[.val (.ref a1), .val (.int (Int32.ofNat kk)), .unset, .unset, .unset] [(.int (Int32.ofNat o)), (.ref a1), (.ref t)])) t₀ := by
    intro t₀ kt
    show Steps p.tables e below (T6.setTop (mkF m 14 #[.val (.ref a1), .val (.int (Int32.ofNat kk)), .unset, .unset, .unset] [(.int (Int32.ofNat o)), (.ref a1), (.ref t)])) _
    refine XS.dupX1 X6.here hx rfl (hb hby d4_14) rfl rfl rfl ?_
    show Steps p.tables e below (T6.setTop (mkF m 15 #[.val (.ref a1), .val (.int (Int32.ofNat kk)), .unset, .unset, .unset] [(.int (Int32.ofNat o)), (.ref a1), (.int (Int32.ofNat o)), (.ref t)])) _
    refine XS.iconst X6.here hx rfl (hb hby d4_15) ?_
    show Steps p.tables e below (T6.setTop (mkF m 16 #[.val (.ref a1), .val (.int (Int32.ofNat kk)), .unset, .unset, .unset] [(.int (1 : Int32)), (.int (Int32.ofNat o)), (.ref a1), (.int (Int32.ofNat o)), (.ref t)])) _
    refine XS.iadd X6.here hx rfl (hb hby d4_16) rfl ?_
    exact kt
  obtain ⟨T8, h8, X8, e8, W8, st8⟩ := putF X6 hx hZ hown (host := "") (Or.inl (hw _ (List.mem_of_getElem? (i := 13) rfl))) Via.refl e6 FP E1 (Or.inl (hw _ (List.mem_of_getElem? (i := 14) rfl))) (hw _ (List.mem_of_getElem? (i := 3) rfl)) (ty := .int) (by decide) rfl rfl (g := (mkF m 17 #[.val (.ref a1), .val (.int (Int32.ofNat kk)), .unset, .unset, .unset] [(.int ((Int32.ofNat o) + (1 : Int32))), (.ref a1), (.int (Int32.ofNat o)), (.ref t)])) rfl rfl (hb hby d4_17)
  have Fw8 := FP.same W8
  have N8 := Fr.snoc X8 N2 g1
  have FPb := Fw8
  rw [← own_one] at FPb
  have A2 := own_A_other A1 W8 ne
  obtain ⟨cl, Ar, Sz, Hs⟩ := id A2
  have hin := own_in (i := o) Sz (by omega) (by omega)
  have hat := own_at (i := o) Hs (by omega) (by omega)
  have II : own_I Z h8 n0 a1 t (o + 1) (o + ln) := ⟨Nat.le_trans zz (Keep.of_wr W8).1, E1.wr W8, FB.other W8 (Or.inr (slot_ne (Or.inr (hw _ (List.mem_of_getElem? (i := 12) rfl))) (Or.inl (hw _ (List.mem_of_getElem? (i := 14) rfl))) (by decide) (t := (.array .byte)) (t' := .int) (by decide) (by decide))), FE.other W8 (Or.inr (slot_ne (Or.inr (hw _ (List.mem_of_getElem? (i := 16) rfl))) (Or.inl (hw _ (List.mem_of_getElem? (i := 14) rfl))) (by decide) (t := .int) (t' := .int) (by decide) (by decide))), FPb, A2⟩
  have sg9 : ∀ t₀, Steps p.tables e below (T8.setTop (mkF m 26 #[.val (.ref a1), .val (.int (Int32.ofNat kk)), .val (.long ((0 : Int32).toInt64)), .second, .val (.int (1 : Int32))] [])) t₀ → Steps p.tables e below (T8.setTop (mkF m 20 #[.val (.ref a1), .val (.int (Int32.ofNat kk)), .unset, .unset, .unset] [(.int (Int32.ofNat o)), (.ref t)])) t₀ := by
    intro t₀ kt
    show Steps p.tables e below (T8.setTop (mkF m 20 #[.val (.ref a1), .val (.int (Int32.ofNat kk)), .unset, .unset, .unset] [(.int (Int32.ofNat o)), (.ref t)])) _
    refine X8.baloadBytes hx (j := (Int32.ofNat o)) (v := (.int (0 : Int32))) (by rw [e8]; exact Ar.1) (State.isArrayOf_alike hZ.alike Ar.2.1) Ar.2.2 hin hat (g := (mkF m 20 #[.val (.ref a1), .val (.int (Int32.ofNat kk)), .unset, .unset, .unset] [(.int (Int32.ofNat o)), (.ref t)])) rfl rfl (hb hby d4_20) _ ?_
    show Steps p.tables e below (T8.setTop (mkF m 21 #[.val (.ref a1), .val (.int (Int32.ofNat kk)), .unset, .unset, .unset] [(.int (0 : Int32))])) _
    refine XS.i2l X8.here hx rfl (hb hby d4_21) rfl ?_
    show Steps p.tables e below (T8.setTop (mkF m 22 #[.val (.ref a1), .val (.int (Int32.ofNat kk)), .unset, .unset, .unset] [(.long ((0 : Int32).toInt64))])) _
    refine XS.lstoreN X8.here hx rfl (hb hby d4_22) rfl (l' := #[.val (.ref a1), .val (.int (Int32.ofNat kk)), .val (.long ((0 : Int32).toInt64)), .second, .unset]) rfl ?_
    show Steps p.tables e below (T8.setTop (mkF m 23 #[.val (.ref a1), .val (.int (Int32.ofNat kk)), .val (.long ((0 : Int32).toInt64)), .second, .unset] [])) _
    refine XS.iconst X8.here hx rfl (hb hby d4_23) ?_
    show Steps p.tables e below (T8.setTop (mkF m 24 #[.val (.ref a1), .val (.int (Int32.ofNat kk)), .val (.long ((0 : Int32).toInt64)), .second, .unset] [(.int (1 : Int32))])) _
    refine XS.istore X8.here hx rfl (hb hby d4_24) rfl (l' := #[.val (.ref a1), .val (.int (Int32.ofNat kk)), .val (.long ((0 : Int32).toInt64)), .second, .val (.int (1 : Int32))]) rfl ?_
    exact kt
  have loop : ∀ (k i : Nat) (r : Int64) (T0 : State) (H0 : Heap) (LL : List Loc), i + k = kk → Stand p l e ({ frames := 1, cells := 0, slots := 0, locals := 13 } : Room) s m #[(.ref a1), (.int (Int32.ofNat kk))] below meth c T0 LL 0 0 → T0.heap = H0 → Fr n0 LL → own_I Z H0 n0 a1 t (o + i) (o + ln) → ∃ (T' : State) (H' : Heap) (LL' : List Loc) (r' : Int64), Stand p l e ({ frames := 1, cells := 0, slots := 0, locals := 13 } : Room) s m #[(.ref a1), (.int (Int32.ofNat kk))] below meth c T' LL' 0 0 ∧ T'.heap = H' ∧ Fr n0 LL' ∧ own_I Z H' n0 a1 t (o + kk) (o + ln) ∧ ∀ t', Steps p.tables e below (T'.setTop (mkF m 65 #[.val (.ref a1), .val (.int (Int32.ofNat kk)), .val (.long r'), .second, .val (.int (Int32.ofNat kk))] [])) t' → Steps p.tables e below (T0.setTop (mkF m 26 #[.val (.ref a1), .val (.int (Int32.ofNat kk)), .val (.long r), .second, .val (.int (Int32.ofNat i))] [])) t' := by
    intro k
    induction k with
    | zero =>
      intro i r T0 H0 LL hi XX e0' NN I0
      obtain rfl : i = kk := by omega
      have sg10 : ∀ t₀, Steps p.tables e below (T0.setTop (mkF m 65 #[.val (.ref a1), .val (.int (Int32.ofNat i)), .val (.long r), .second, .val (.int (Int32.ofNat i))] [])) t₀ → Steps p.tables e below (T0.setTop (mkF m 26 #[.val (.ref a1), .val (.int (Int32.ofNat i)), .val (.long r), .second, .val (.int (Int32.ofNat i))] [])) t₀ := by
        intro t₀ kt
        show Steps p.tables e below (T0.setTop (mkF m 26 #[.val (.ref a1), .val (.int (Int32.ofNat i)), .val (.long r), .second, .val (.int (Int32.ofNat i))] [])) _
        refine XS.iload XX.here hx rfl (hb hby d4_26) rfl ?_
        show Steps p.tables e below (T0.setTop (mkF m 28 #[.val (.ref a1), .val (.int (Int32.ofNat i)), .val (.long r), .second, .val (.int (Int32.ofNat i))] [(.int (Int32.ofNat i))])) _
        refine XS.iloadN XX.here hx rfl (hb hby d4_28) rfl ?_
        show Steps p.tables e below (T0.setTop (mkF m 29 #[.val (.ref a1), .val (.int (Int32.ofNat i)), .val (.long r), .second, .val (.int (Int32.ofNat i))] [(.int (Int32.ofNat i)), (.int (Int32.ofNat i))])) _
        refine XS.icmpYes XX.here hx rfl (pc0 := 29) (pc' := 65) rfl (hb hby d4_29) rfl (flt (Int32.lt_irrefl : ¬ (Int32.ofNat i < Int32.ofNat i))).2.1 (by decide) (by decide) ?_
        exact kt
      exact ⟨T0, H0, LL, r, XX, e0', NN, I0, fun t' kt => sg10 _ (kt)⟩
    | succ k ih =>
      intro i r T0 H0 LL hi XX e0' NN I0
      obtain ⟨zz', E1', FB', FE', FP', A1'⟩ := I0
      have sg11 : ∀ t₀, Steps p.tables e below (T0.setTop (mkF m 37 #[.val (.ref a1), .val (.int (Int32.ofNat kk)), .val (.long r), .second, .val (.int (Int32.ofNat i))] [(.ref a1), (.long (r <<< ((8 : Int32) &&& 0x3f).toInt64))])) t₀ → Steps p.tables e below (T0.setTop (mkF m 26 #[.val (.ref a1), .val (.int (Int32.ofNat kk)), .val (.long r), .second, .val (.int (Int32.ofNat i))] [])) t₀ := by
        intro t₀ kt
        show Steps p.tables e below (T0.setTop (mkF m 26 #[.val (.ref a1), .val (.int (Int32.ofNat kk)), .val (.long r), .second, .val (.int (Int32.ofNat i))] [])) _
        refine XS.iload XX.here hx rfl (hb hby d4_26) rfl ?_
        show Steps p.tables e below (T0.setTop (mkF m 28 #[.val (.ref a1), .val (.int (Int32.ofNat kk)), .val (.long r), .second, .val (.int (Int32.ofNat i))] [(.int (Int32.ofNat i))])) _
        refine XS.iloadN XX.here hx rfl (hb hby d4_28) rfl ?_
        show Steps p.tables e below (T0.setTop (mkF m 29 #[.val (.ref a1), .val (.int (Int32.ofNat kk)), .val (.long r), .second, .val (.int (Int32.ofNat i))] [(.int (Int32.ofNat kk)), (.int (Int32.ofNat i))])) _
        refine XS.icmpNo XX.here hx rfl (hb hby d4_29) rfl (tlt (own_lt (i := i) (n := kk) (by omega) (by omega))).2.1 ?_
        show Steps p.tables e below (T0.setTop (mkF m 32 #[.val (.ref a1), .val (.int (Int32.ofNat kk)), .val (.long r), .second, .val (.int (Int32.ofNat i))] [])) _
        refine XS.lloadN XX.here hx rfl (hb hby d4_32) rfl ?_
        show Steps p.tables e below (T0.setTop (mkF m 33 #[.val (.ref a1), .val (.int (Int32.ofNat kk)), .val (.long r), .second, .val (.int (Int32.ofNat i))] [(.long r)])) _
        refine XS.bipush XX.here hx rfl (hb hby d4_33) ?_
        show Steps p.tables e below (T0.setTop (mkF m 35 #[.val (.ref a1), .val (.int (Int32.ofNat kk)), .val (.long r), .second, .val (.int (Int32.ofNat i))] [(.int (8 : Int32)), (.long r)])) _
        refine XS.lshl XX.here hx rfl (hb hby d4_35) rfl ?_
        show Steps p.tables e below (T0.setTop (mkF m 36 #[.val (.ref a1), .val (.int (Int32.ofNat kk)), .val (.long r), .second, .val (.int (Int32.ofNat i))] [(.long (r <<< ((8 : Int32) &&& 0x3f).toInt64))])) _
        refine XS.aloadN XX.here hx rfl (hb hby d4_36) rfl rfl ?_
        exact kt
      obtain ⟨T12, X12, e12, st12⟩ := getF XX hx hZ hown (host := "") (Or.inl (hw _ (List.mem_of_getElem? (i := 11) rfl))) Via.refl e0' FB' (g := (mkF m 37 #[.val (.ref a1), .val (.int (Int32.ofNat kk)), .val (.long r), .second, .val (.int (Int32.ofNat i))] [(.ref a1), (.long (r <<< ((8 : Int32) &&& 0x3f).toInt64))])) rfl rfl (hb hby d4_37)
      have sg13 : ∀ t₀, Steps p.tables e below (T12.setTop (mkF m 42 #[.val (.ref a1), .val (.int (Int32.ofNat kk)), .val (.long r), .second, .val (.int (Int32.ofNat i))] [(.ref a1), (.ref a1), (.ref t), (.long (r <<< ((8 : Int32) &&& 0x3f).toInt64))])) t₀ → Steps p.tables e below (T12.setTop (mkF m 40 #[.val (.ref a1), .val (.int (Int32.ofNat kk)), .val (.long r), .second, .val (.int (Int32.ofNat i))] [(.ref t), (.long (r <<< ((8 : Int32) &&& 0x3f).toInt64))])) t₀ := by
        intro t₀ kt
        show Steps p.tables e below (T12.setTop (mkF m 40 #[.val (.ref a1), .val (.int (Int32.ofNat kk)), .val (.long r), .second, .val (.int (Int32.ofNat i))] [(.ref t), (.long (r <<< ((8 : Int32) &&& 0x3f).toInt64))])) _
        refine XS.aloadN X12.here hx rfl (hb hby d4_40) rfl rfl ?_
        show Steps p.tables e below (T12.setTop (mkF m 41 #[.val (.ref a1), .val (.int (Int32.ofNat kk)), .val (.long r), .second, .val (.int (Int32.ofNat i))] [(.ref a1), (.ref t), (.long (r <<< ((8 : Int32) &&& 0x3f).toInt64))])) _
        refine XS.dup X12.here hx rfl (hb hby d4_41) rfl rfl ?_
        exact kt
      obtain ⟨T14, X14, e14, st14⟩ := getF X12 hx hZ hown (host := "") (Or.inl (hw _ (List.mem_of_getElem? (i := 13) rfl))) Via.refl e12 FP' (g := (mkF m 42 #[.val (.ref a1), .val (.int (Int32.ofNat kk)), .val (.long r), .second, .val (.int (Int32.ofNat i))] [(.ref a1), (.ref a1), (.ref t), (.long (r <<< ((8 : Int32) &&& 0x3f).toInt64))])) rfl rfl (hb hby d4_42)
      have sg15 : ∀ t₀, Steps p.tables e below (T14.setTop (mkF m 48 #[.val (.ref a1), .val (.int (Int32.ofNat kk)), .val (.long r), .second, .val (.int (Int32.ofNat i))] [(.int ((Int32.ofNat (o + i)) + (1 : Int32))), (.ref a1), (.int (Int32.ofNat (o + i))), (.ref t), (.long (r <<< ((8 : Int32) &&& 0x3f).toInt64))])) t₀ → Steps p.tables e below (T14.setTop (mkF m 45 #[.val (.ref a1), .val (.int (Int32.ofNat kk)), .val (.long r), .second, .val (.int (Int32.ofNat i))] [(.int (Int32.ofNat (o + i))), (.ref a1), (.ref t), (.long (r <<< ((8 : Int32) &&& 0x3f).toInt64))])) t₀ := by
        intro t₀ kt
        show Steps p.tables e below (T14.setTop (mkF m 45 #[.val (.ref a1), .val (.int (Int32.ofNat kk)), .val (.long r), .second, .val (.int (Int32.ofNat i))] [(.int (Int32.ofNat (o + i))), (.ref a1), (.ref t), (.long (r <<< ((8 : Int32) &&& 0x3f).toInt64))])) _
        refine XS.dupX1 X14.here hx rfl (hb hby d4_45) rfl rfl rfl ?_
        show Steps p.tables e below (T14.setTop (mkF m 46 #[.val (.ref a1), .val (.int (Int32.ofNat kk)), .val (.long r), .second, .val (.int (Int32.ofNat i))] [(.int (Int32.ofNat (o + i))), (.ref a1), (.int (Int32.ofNat (o + i))), (.ref t), (.long (r <<< ((8 : Int32) &&& 0x3f).toInt64))])) _
        refine XS.iconst X14.here hx rfl (hb hby d4_46) ?_
        show Steps p.tables e below (T14.setTop (mkF m 47 #[.val (.ref a1), .val (.int (Int32.ofNat kk)), .val (.long r), .second, .val (.int (Int32.ofNat i))] [(.int (1 : Int32)), (.int (Int32.ofNat (o + i))), (.ref a1), (.int (Int32.ofNat (o + i))), (.ref t), (.long (r <<< ((8 : Int32) &&& 0x3f).toInt64))])) _
        refine XS.iadd X14.here hx rfl (hb hby d4_47) rfl ?_
        exact kt
      obtain ⟨T16, h16, X16, e16, W16, st16⟩ := putF X14 hx hZ hown (host := "") (Or.inl (hw _ (List.mem_of_getElem? (i := 13) rfl))) Via.refl e14 FP' E1' (Or.inl (hw _ (List.mem_of_getElem? (i := 14) rfl))) (hw _ (List.mem_of_getElem? (i := 3) rfl)) (ty := .int) (by decide) rfl rfl (g := (mkF m 48 #[.val (.ref a1), .val (.int (Int32.ofNat kk)), .val (.long r), .second, .val (.int (Int32.ofNat i))] [(.int ((Int32.ofNat (o + i)) + (1 : Int32))), (.ref a1), (.int (Int32.ofNat (o + i))), (.ref t), (.long (r <<< ((8 : Int32) &&& 0x3f).toInt64))])) rfl rfl (hb hby d4_48)
      have Fw16 := FP'.same W16
      have N16 := Fr.snoc X16 NN g1
      have FPb' := Fw16
      rw [← own_one] at FPb'
      have A2' := own_A_other A1' W16 ne
      obtain ⟨cl', Ar', Sz', Hs'⟩ := id A2'
      have hin' := own_in (i := o + i) Sz' (by omega) (by omega)
      have hat' := own_at (i := o + i) Hs' (by omega) (by omega)
      have sg17 : ∀ t₀, Steps p.tables e below (T16.setTop (mkF m 26 #[.val (.ref a1), .val (.int (Int32.ofNat kk)), .val (.long ((r <<< ((8 : Int32) &&& 0x3f).toInt64) ||| (((0 : Int32) &&& (255 : Int32)).toInt64))), .second, .val (.int ((Int32.ofNat i) + (1 : Int32)))] [])) t₀ → Steps p.tables e below (T16.setTop (mkF m 51 #[.val (.ref a1), .val (.int (Int32.ofNat kk)), .val (.long r), .second, .val (.int (Int32.ofNat i))] [(.int (Int32.ofNat (o + i))), (.ref t), (.long (r <<< ((8 : Int32) &&& 0x3f).toInt64))])) t₀ := by
        intro t₀ kt
        show Steps p.tables e below (T16.setTop (mkF m 51 #[.val (.ref a1), .val (.int (Int32.ofNat kk)), .val (.long r), .second, .val (.int (Int32.ofNat i))] [(.int (Int32.ofNat (o + i))), (.ref t), (.long (r <<< ((8 : Int32) &&& 0x3f).toInt64))])) _
        refine X16.baloadBytes hx (j := (Int32.ofNat (o + i))) (v := (.int (0 : Int32))) (by rw [e16]; exact Ar'.1) (State.isArrayOf_alike hZ.alike Ar'.2.1) Ar'.2.2 hin' hat' (g := (mkF m 51 #[.val (.ref a1), .val (.int (Int32.ofNat kk)), .val (.long r), .second, .val (.int (Int32.ofNat i))] [(.int (Int32.ofNat (o + i))), (.ref t), (.long (r <<< ((8 : Int32) &&& 0x3f).toInt64))])) rfl rfl (hb hby d4_51) _ ?_
        show Steps p.tables e below (T16.setTop (mkF m 52 #[.val (.ref a1), .val (.int (Int32.ofNat kk)), .val (.long r), .second, .val (.int (Int32.ofNat i))] [(.int (0 : Int32)), (.long (r <<< ((8 : Int32) &&& 0x3f).toInt64))])) _
        refine XS.sipush X16.here hx rfl (hb hby d4_52) ?_
        show Steps p.tables e below (T16.setTop (mkF m 55 #[.val (.ref a1), .val (.int (Int32.ofNat kk)), .val (.long r), .second, .val (.int (Int32.ofNat i))] [(.int (255 : Int32)), (.int (0 : Int32)), (.long (r <<< ((8 : Int32) &&& 0x3f).toInt64))])) _
        refine XS.iand X16.here hx rfl (hb hby d4_55) rfl ?_
        show Steps p.tables e below (T16.setTop (mkF m 56 #[.val (.ref a1), .val (.int (Int32.ofNat kk)), .val (.long r), .second, .val (.int (Int32.ofNat i))] [(.int ((0 : Int32) &&& (255 : Int32))), (.long (r <<< ((8 : Int32) &&& 0x3f).toInt64))])) _
        refine XS.i2l X16.here hx rfl (hb hby d4_56) rfl ?_
        show Steps p.tables e below (T16.setTop (mkF m 57 #[.val (.ref a1), .val (.int (Int32.ofNat kk)), .val (.long r), .second, .val (.int (Int32.ofNat i))] [(.long (((0 : Int32) &&& (255 : Int32)).toInt64)), (.long (r <<< ((8 : Int32) &&& 0x3f).toInt64))])) _
        refine XS.lor X16.here hx rfl (hb hby d4_57) rfl ?_
        show Steps p.tables e below (T16.setTop (mkF m 58 #[.val (.ref a1), .val (.int (Int32.ofNat kk)), .val (.long r), .second, .val (.int (Int32.ofNat i))] [(.long ((r <<< ((8 : Int32) &&& 0x3f).toInt64) ||| (((0 : Int32) &&& (255 : Int32)).toInt64)))])) _
        refine XS.lstoreN X16.here hx rfl (hb hby d4_58) rfl (l' := #[.val (.ref a1), .val (.int (Int32.ofNat kk)), .val (.long ((r <<< ((8 : Int32) &&& 0x3f).toInt64) ||| (((0 : Int32) &&& (255 : Int32)).toInt64))), .second, .val (.int (Int32.ofNat i))]) rfl ?_
        show Steps p.tables e below (T16.setTop (mkF m 59 #[.val (.ref a1), .val (.int (Int32.ofNat kk)), .val (.long ((r <<< ((8 : Int32) &&& 0x3f).toInt64) ||| (((0 : Int32) &&& (255 : Int32)).toInt64))), .second, .val (.int (Int32.ofNat i))] [])) _
        refine XS.iinc X16.here hx rfl (hb hby d4_59) rfl (l' := #[.val (.ref a1), .val (.int (Int32.ofNat kk)), .val (.long ((r <<< ((8 : Int32) &&& 0x3f).toInt64) ||| (((0 : Int32) &&& (255 : Int32)).toInt64))), .second, .val (.int ((Int32.ofNat i) + (1 : Int32)))]) rfl ?_
        show Steps p.tables e below (T16.setTop (mkF m 62 #[.val (.ref a1), .val (.int (Int32.ofNat kk)), .val (.long ((r <<< ((8 : Int32) &&& 0x3f).toInt64) ||| (((0 : Int32) &&& (255 : Int32)).toInt64))), .second, .val (.int ((Int32.ofNat i) + (1 : Int32)))] [])) _
        refine XS.goto X16.here hx rfl (pc0 := 62) (pc' := 26) rfl (hb hby d4_62) (by decide) (by decide) ?_
        exact kt
      obtain ⟨T9, H9, L9, r9, X9, e9, N9, I9, st9⟩ := ih (i + 1) _ _ _ _ (by omega) X16 e16 N16 ⟨Nat.le_trans zz' (Keep.of_wr W16).1, E1'.wr W16, FB'.other W16 (Or.inr (slot_ne (Or.inr (hw _ (List.mem_of_getElem? (i := 12) rfl))) (Or.inl (hw _ (List.mem_of_getElem? (i := 14) rfl))) (by decide) (t := (.array .byte)) (t' := .int) (by decide) (by decide))), FE'.other W16 (Or.inr (slot_ne (Or.inr (hw _ (List.mem_of_getElem? (i := 16) rfl))) (Or.inl (hw _ (List.mem_of_getElem? (i := 14) rfl))) (by decide) (t := .int) (t' := .int) (by decide) (by decide))), FPb', A2'⟩
      rw [own_one] at st9
      exact ⟨T9, H9, L9, r9, X9, e9, N9, I9, fun t' kt => sg11 _ (st12 _ (sg13 _ (st14 _ (sg15 _ (st16 _ (sg17 _ ((st9 t' kt))))))))⟩
  obtain ⟨TL, HL, LL, rL, XL, eL, NL, IL, stL⟩ := loop (kk - 1) 1 _ _ _ _ (by omega) X8 e8 N8 II
  have sg18 : ∀ t₀, Steps p.tables e below (TL.setTop (mkF m 66 #[.val (.ref a1), .val (.int (Int32.ofNat kk)), .val (.long rL), .second, .val (.int (Int32.ofNat kk))] [(.long rL)])) t₀ → Steps p.tables e below (TL.setTop (mkF m 65 #[.val (.ref a1), .val (.int (Int32.ofNat kk)), .val (.long rL), .second, .val (.int (Int32.ofNat kk))] [])) t₀ := by
    intro t₀ kt
    show Steps p.tables e below (TL.setTop (mkF m 65 #[.val (.ref a1), .val (.int (Int32.ofNat kk)), .val (.long rL), .second, .val (.int (Int32.ofNat kk))] [])) _
    refine XS.lloadN XL.here hx rfl (hb hby d4_65) rfl ?_
    exact kt
  obtain ⟨fs, hr, hrun, hended, hW, hsame⟩ := XL.leave (v := some (.long rL)) (fun h => by rw [Bd.returns] at h; cases h)
  refine ⟨_, _, pre0 _ ?_, hrun, hended, _, _, rfl, ?_, ⟨_, rfl⟩, hW, hsame.mono (by decide) (by decide)⟩
  · exact sg1 _ (st2.trans (sg3 _ (st4 _ (sg5 _ (st6 _ (sg7 _ (st8 _ (sg9 _ (stL _ (sg18 _ ((XL.lreturnOut hx Bd.returns (hb hby d4_66) hr))))))))))))
  · show Q4 Z a1 t o ln kk h0 n0 _ TL.heap _
    rw [eL]
    exact ⟨rL, rfl, NL, IL⟩
def Q0 (Z : State) (p1 : Int32) (p2 : Int32) (p3 : Int32) (p4 : Int32) (h0 : Heap) (n0 : Nat) (v : Option Value) (h : Heap) (L : List Loc) : Prop := v = some (.int (1 : Int32)) ∧ Fr n0 L
set_option maxRecDepth 65536 in
set_option maxHeartbeats 40000000 in
theorem rm0 (l : Launch) (Z : State) (a0 : Array Value) (hw : ∀ d ∈ tables_1, d.before a0 Z = true) (ws : List Jvm.Cond) (p1 : Int32) (p2 : Int32) (p3 : Int32) (p4 : Int32) (h0 : Heap) (n0 : Nat) (Z0 : n0 ≤ h0.size) :
    MetFree l x (head1 (Jvm.Cond.code x code maxLocals ret :: ws) room_1) (fun a U => a = #[(.int p1), (.int p2), (.int p3), (.int p4)] ∧ Z.Warmed39 U.vm ∧ U.heap = h0) (fun _ _ _ _ _ => True) (fun _ U oo U' => ∃ v L, oo = .returned v ∧ Q0 Z p1 p2 p3 p4 h0 n0 v U'.heap L ∧ FrameEnd U oo U' L room_1.cells room_1.slots) := by
  refine MetFree.of_bodySF (plainFor_of_name pn_0) hisR ?_
  intro p e s m args below meth c s₁ Bd hml0 hP hK
  obtain ⟨rfl, hZ, hh⟩ := hP
  have hx := Bd.exec
  have hby := Bd.bytes
  have hml : c.maxLocals = 13 := hml0
  have hown : s.vm.findClass "com/example/annalist/annalist/store/InputAtEndPinLaw" = some m.cls := findClass_of_methodNamed Bd.named
  have hnm := (name_of_methodNamed Bd.named Bd.method).1
  have X0 : Stand p l e room_1 s m #[(.int p1), (.int p2), (.int p3), (.int p4)] below meth c s₁ [] 0 0 := Stand.of_body Bd
  have e0 : s₁.heap = h0 := by rw [← hh, Bd.state]; rfl
  have N0 := Fr.nil n0
  have pre0 : ∀ t₀, Steps p.tables e below (s₁.setTop (mkF m 0 #[.val (.int p1), .val (.int p2), .val (.int p3), .val (.int p4), .unset, .unset, .unset, .unset, .unset, .unset, .unset, .unset, .unset] [])) t₀ → Steps p.tables e below (s₁.setTop (entryFrame m #[(.int p1), (.int p2), (.int p3), (.int p4)] maxLocals)) t₀ := fun t₀ k => castTop (ef_0 m p1 p2 p3 p4) k
  have sa : ∀ t₀, Steps p.tables e below (s₁.setTop (mkF m 6 #[.val (.int p1), .val (.int p2), .val (.int p3), .val (.int p4), .val (.int (p1 &&& (7 : Int32))), .unset, .unset, .unset, .unset, .unset, .unset, .unset, .unset] [])) t₀ → Steps p.tables e below (s₁.setTop (mkF m 0 #[.val (.int p1), .val (.int p2), .val (.int p3), .val (.int p4), .unset, .unset, .unset, .unset, .unset, .unset, .unset, .unset, .unset] [])) t₀ := by
    intro t₀ kt
    show Steps p.tables e below (s₁.setTop (mkF m 0 #[.val (.int p1), .val (.int p2), .val (.int p3), .val (.int p4), .unset, .unset, .unset, .unset, .unset, .unset, .unset, .unset, .unset] [])) _
    refine XS.iloadN X0.here hx rfl (hb hby at_0) rfl ?_
    show Steps p.tables e below (s₁.setTop (mkF m 1 #[.val (.int p1), .val (.int p2), .val (.int p3), .val (.int p4), .unset, .unset, .unset, .unset, .unset, .unset, .unset, .unset, .unset] [(.int p1)])) _
    refine XS.bipush X0.here hx rfl (hb hby at_1) ?_
    show Steps p.tables e below (s₁.setTop (mkF m 3 #[.val (.int p1), .val (.int p2), .val (.int p3), .val (.int p4), .unset, .unset, .unset, .unset, .unset, .unset, .unset, .unset, .unset] [(.int (7 : Int32)), (.int p1)])) _
    refine XS.iand X0.here hx rfl (hb hby at_3) rfl ?_
    show Steps p.tables e below (s₁.setTop (mkF m 4 #[.val (.int p1), .val (.int p2), .val (.int p3), .val (.int p4), .unset, .unset, .unset, .unset, .unset, .unset, .unset, .unset, .unset] [(.int (p1 &&& (7 : Int32)))])) _
    refine XS.istore X0.here hx rfl (hb hby at_4) rfl (l' := #[.val (.int p1), .val (.int p2), .val (.int p3), .val (.int p4), .val (.int (p1 &&& (7 : Int32))), .unset, .unset, .unset, .unset, .unset, .unset, .unset, .unset]) rfl ?_
    exact kt
  obtain ⟨o, ho, eo⟩ := own_off p1
  rw [eo] at sa
  have sb : ∀ t₀, Steps p.tables e below (s₁.setTop (mkF m 15 #[.val (.int p1), .val (.int p2), .val (.int p3), .val (.int p4), .val (.int (Int32.ofNat o)), .val (.int ((p2 &&& (2147483647 : Int32)) % (9 : Int32))), .unset, .unset, .unset, .unset, .unset, .unset, .unset] [])) t₀ → Steps p.tables e below (s₁.setTop (mkF m 6 #[.val (.int p1), .val (.int p2), .val (.int p3), .val (.int p4), .val (.int (Int32.ofNat o)), .unset, .unset, .unset, .unset, .unset, .unset, .unset, .unset] [])) t₀ := by
    intro t₀ kt
    show Steps p.tables e below (s₁.setTop (mkF m 6 #[.val (.int p1), .val (.int p2), .val (.int p3), .val (.int p4), .val (.int (Int32.ofNat o)), .unset, .unset, .unset, .unset, .unset, .unset, .unset, .unset] [])) _
    refine XS.iloadN X0.here hx rfl (hb hby at_6) rfl ?_
    show Steps p.tables e below (s₁.setTop (mkF m 7 #[.val (.int p1), .val (.int p2), .val (.int p3), .val (.int p4), .val (.int (Int32.ofNat o)), .unset, .unset, .unset, .unset, .unset, .unset, .unset, .unset] [(.int p2)])) _
    refine X0.ldcI hx hown (mvT hZ (hw _ (List.mem_of_getElem? (i := 0) rfl))) rfl (hb hby at_7) ?_
    show Steps p.tables e below (s₁.setTop (mkF m 9 #[.val (.int p1), .val (.int p2), .val (.int p3), .val (.int p4), .val (.int (Int32.ofNat o)), .unset, .unset, .unset, .unset, .unset, .unset, .unset, .unset] [(.int (2147483647 : Int32)), (.int p2)])) _
    refine XS.iand X0.here hx rfl (hb hby at_9) rfl ?_
    show Steps p.tables e below (s₁.setTop (mkF m 10 #[.val (.int p1), .val (.int p2), .val (.int p3), .val (.int p4), .val (.int (Int32.ofNat o)), .unset, .unset, .unset, .unset, .unset, .unset, .unset, .unset] [(.int (p2 &&& (2147483647 : Int32)))])) _
    refine XS.bipush X0.here hx rfl (hb hby at_10) ?_
    show Steps p.tables e below (s₁.setTop (mkF m 12 #[.val (.int p1), .val (.int p2), .val (.int p3), .val (.int p4), .val (.int (Int32.ofNat o)), .unset, .unset, .unset, .unset, .unset, .unset, .unset, .unset] [(.int (9 : Int32)), (.int (p2 &&& (2147483647 : Int32)))])) _
    refine iremM X0 hx rfl (hb hby at_12) rfl (by decide) ?_
    show Steps p.tables e below (s₁.setTop (mkF m 13 #[.val (.int p1), .val (.int p2), .val (.int p3), .val (.int p4), .val (.int (Int32.ofNat o)), .unset, .unset, .unset, .unset, .unset, .unset, .unset, .unset] [(.int ((p2 &&& (2147483647 : Int32)) % (9 : Int32)))])) _
    refine XS.istore X0.here hx rfl (hb hby at_13) rfl (l' := #[.val (.int p1), .val (.int p2), .val (.int p3), .val (.int p4), .val (.int (Int32.ofNat o)), .val (.int ((p2 &&& (2147483647 : Int32)) % (9 : Int32))), .unset, .unset, .unset, .unset, .unset, .unset, .unset]) rfl ?_
    exact kt
  obtain ⟨ln, hl, el⟩ := own_len p2
  rw [el] at sb
  have sc : ∀ t₀, Steps p.tables e below (s₁.setTop (mkF m 26 #[.val (.int p1), .val (.int p2), .val (.int p3), .val (.int p4), .val (.int (Int32.ofNat o)), .val (.int (Int32.ofNat ln)), .val (.int ((p3 &&& (2147483647 : Int32)) % ((Int32.ofNat ln) + (1 : Int32)))), .unset, .unset, .unset, .unset, .unset, .unset] [])) t₀ → Steps p.tables e below (s₁.setTop (mkF m 15 #[.val (.int p1), .val (.int p2), .val (.int p3), .val (.int p4), .val (.int (Int32.ofNat o)), .val (.int (Int32.ofNat ln)), .unset, .unset, .unset, .unset, .unset, .unset, .unset] [])) t₀ := by
    intro t₀ kt
    show Steps p.tables e below (s₁.setTop (mkF m 15 #[.val (.int p1), .val (.int p2), .val (.int p3), .val (.int p4), .val (.int (Int32.ofNat o)), .val (.int (Int32.ofNat ln)), .unset, .unset, .unset, .unset, .unset, .unset, .unset] [])) _
    refine XS.iloadN X0.here hx rfl (hb hby at_15) rfl ?_
    show Steps p.tables e below (s₁.setTop (mkF m 16 #[.val (.int p1), .val (.int p2), .val (.int p3), .val (.int p4), .val (.int (Int32.ofNat o)), .val (.int (Int32.ofNat ln)), .unset, .unset, .unset, .unset, .unset, .unset, .unset] [(.int p3)])) _
    refine X0.ldcI hx hown (mvT hZ (hw _ (List.mem_of_getElem? (i := 0) rfl))) rfl (hb hby at_16) ?_
    show Steps p.tables e below (s₁.setTop (mkF m 18 #[.val (.int p1), .val (.int p2), .val (.int p3), .val (.int p4), .val (.int (Int32.ofNat o)), .val (.int (Int32.ofNat ln)), .unset, .unset, .unset, .unset, .unset, .unset, .unset] [(.int (2147483647 : Int32)), (.int p3)])) _
    refine XS.iand X0.here hx rfl (hb hby at_18) rfl ?_
    show Steps p.tables e below (s₁.setTop (mkF m 19 #[.val (.int p1), .val (.int p2), .val (.int p3), .val (.int p4), .val (.int (Int32.ofNat o)), .val (.int (Int32.ofNat ln)), .unset, .unset, .unset, .unset, .unset, .unset, .unset] [(.int (p3 &&& (2147483647 : Int32)))])) _
    refine XS.iload X0.here hx rfl (hb hby at_19) rfl ?_
    show Steps p.tables e below (s₁.setTop (mkF m 21 #[.val (.int p1), .val (.int p2), .val (.int p3), .val (.int p4), .val (.int (Int32.ofNat o)), .val (.int (Int32.ofNat ln)), .unset, .unset, .unset, .unset, .unset, .unset, .unset] [(.int (Int32.ofNat ln)), (.int (p3 &&& (2147483647 : Int32)))])) _
    refine XS.iconst X0.here hx rfl (hb hby at_21) ?_
    show Steps p.tables e below (s₁.setTop (mkF m 22 #[.val (.int p1), .val (.int p2), .val (.int p3), .val (.int p4), .val (.int (Int32.ofNat o)), .val (.int (Int32.ofNat ln)), .unset, .unset, .unset, .unset, .unset, .unset, .unset] [(.int (1 : Int32)), (.int (Int32.ofNat ln)), (.int (p3 &&& (2147483647 : Int32)))])) _
    refine XS.iadd X0.here hx rfl (hb hby at_22) rfl ?_
    show Steps p.tables e below (s₁.setTop (mkF m 23 #[.val (.int p1), .val (.int p2), .val (.int p3), .val (.int p4), .val (.int (Int32.ofNat o)), .val (.int (Int32.ofNat ln)), .unset, .unset, .unset, .unset, .unset, .unset, .unset] [(.int ((Int32.ofNat ln) + (1 : Int32))), (.int (p3 &&& (2147483647 : Int32)))])) _
    refine iremM X0 hx rfl (hb hby at_23) rfl (own_nz hl) ?_
    show Steps p.tables e below (s₁.setTop (mkF m 24 #[.val (.int p1), .val (.int p2), .val (.int p3), .val (.int p4), .val (.int (Int32.ofNat o)), .val (.int (Int32.ofNat ln)), .unset, .unset, .unset, .unset, .unset, .unset, .unset] [(.int ((p3 &&& (2147483647 : Int32)) % ((Int32.ofNat ln) + (1 : Int32))))])) _
    refine XS.istore X0.here hx rfl (hb hby at_24) rfl (l' := #[.val (.int p1), .val (.int p2), .val (.int p3), .val (.int p4), .val (.int (Int32.ofNat o)), .val (.int (Int32.ofNat ln)), .val (.int ((p3 &&& (2147483647 : Int32)) % ((Int32.ofNat ln) + (1 : Int32)))), .unset, .unset, .unset, .unset, .unset, .unset]) rfl ?_
    exact kt
  obtain ⟨kk, hk, ek⟩ := own_k p3 hl
  rw [ek] at sc
  obtain ⟨uv, hsj1, sj1⟩ : ∃ uv : Int32, (True) ∧ ∀ t₀, Steps p.tables e below (s₁.setTop (mkF m 39 #[.val (.int p1), .val (.int p2), .val (.int p3), .val (.int p4), .val (.int (Int32.ofNat o)), .val (.int (Int32.ofNat ln)), .val (.int (Int32.ofNat kk)), .val (.int uv), .unset, .unset, .unset, .unset, .unset] [])) t₀ → Steps p.tables e below (s₁.setTop (mkF m 26 #[.val (.int p1), .val (.int p2), .val (.int p3), .val (.int p4), .val (.int (Int32.ofNat o)), .val (.int (Int32.ofNat ln)), .val (.int (Int32.ofNat kk)), .unset, .unset, .unset, .unset, .unset, .unset] [])) t₀ := by
    by_cases hc29 : (p4 &&& (1 : Int32)) = (0 : Int32)
    · refine ⟨(0 : Int32), by trivial, fun t₀ kt => ?_⟩
      show Steps p.tables e below (s₁.setTop (mkF m 26 #[.val (.int p1), .val (.int p2), .val (.int p3), .val (.int p4), .val (.int (Int32.ofNat o)), .val (.int (Int32.ofNat ln)), .val (.int (Int32.ofNat kk)), .unset, .unset, .unset, .unset, .unset, .unset] [])) _
      refine XS.iloadN X0.here hx rfl (hb hby at_26) rfl ?_
      show Steps p.tables e below (s₁.setTop (mkF m 27 #[.val (.int p1), .val (.int p2), .val (.int p3), .val (.int p4), .val (.int (Int32.ofNat o)), .val (.int (Int32.ofNat ln)), .val (.int (Int32.ofNat kk)), .unset, .unset, .unset, .unset, .unset, .unset] [(.int p4)])) _
      refine XS.iconst X0.here hx rfl (hb hby at_27) ?_
      show Steps p.tables e below (s₁.setTop (mkF m 28 #[.val (.int p1), .val (.int p2), .val (.int p3), .val (.int p4), .val (.int (Int32.ofNat o)), .val (.int (Int32.ofNat ln)), .val (.int (Int32.ofNat kk)), .unset, .unset, .unset, .unset, .unset, .unset] [(.int (1 : Int32)), (.int p4)])) _
      refine XS.iand X0.here hx rfl (hb hby at_28) rfl ?_
      show Steps p.tables e below (s₁.setTop (mkF m 29 #[.val (.int p1), .val (.int p2), .val (.int p3), .val (.int p4), .val (.int (Int32.ofNat o)), .val (.int (Int32.ofNat ln)), .val (.int (Int32.ofNat kk)), .unset, .unset, .unset, .unset, .unset, .unset] [(.int (p4 &&& (1 : Int32)))])) _
      refine XS.ifYes X0.here hx rfl (pc0 := 29) (pc' := 36) rfl (hb hby at_29) rfl ((if0 _ _).trans (teq hc29).1) (by decide) (by decide) ?_
      show Steps p.tables e below (s₁.setTop (mkF m 36 #[.val (.int p1), .val (.int p2), .val (.int p3), .val (.int p4), .val (.int (Int32.ofNat o)), .val (.int (Int32.ofNat ln)), .val (.int (Int32.ofNat kk)), .unset, .unset, .unset, .unset, .unset, .unset] [])) _
      refine XS.iconst X0.here hx rfl (hb hby at_36) ?_
      show Steps p.tables e below (s₁.setTop (mkF m 37 #[.val (.int p1), .val (.int p2), .val (.int p3), .val (.int p4), .val (.int (Int32.ofNat o)), .val (.int (Int32.ofNat ln)), .val (.int (Int32.ofNat kk)), .unset, .unset, .unset, .unset, .unset, .unset] [(.int (0 : Int32))])) _
      refine XS.istore X0.here hx rfl (hb hby at_37) rfl (l' := #[.val (.int p1), .val (.int p2), .val (.int p3), .val (.int p4), .val (.int (Int32.ofNat o)), .val (.int (Int32.ofNat ln)), .val (.int (Int32.ofNat kk)), .val (.int (0 : Int32)), .unset, .unset, .unset, .unset, .unset]) rfl ?_
      exact kt
    · refine ⟨(1 : Int32), by trivial, fun t₀ kt => ?_⟩
      show Steps p.tables e below (s₁.setTop (mkF m 26 #[.val (.int p1), .val (.int p2), .val (.int p3), .val (.int p4), .val (.int (Int32.ofNat o)), .val (.int (Int32.ofNat ln)), .val (.int (Int32.ofNat kk)), .unset, .unset, .unset, .unset, .unset, .unset] [])) _
      refine XS.iloadN X0.here hx rfl (hb hby at_26) rfl ?_
      show Steps p.tables e below (s₁.setTop (mkF m 27 #[.val (.int p1), .val (.int p2), .val (.int p3), .val (.int p4), .val (.int (Int32.ofNat o)), .val (.int (Int32.ofNat ln)), .val (.int (Int32.ofNat kk)), .unset, .unset, .unset, .unset, .unset, .unset] [(.int p4)])) _
      refine XS.iconst X0.here hx rfl (hb hby at_27) ?_
      show Steps p.tables e below (s₁.setTop (mkF m 28 #[.val (.int p1), .val (.int p2), .val (.int p3), .val (.int p4), .val (.int (Int32.ofNat o)), .val (.int (Int32.ofNat ln)), .val (.int (Int32.ofNat kk)), .unset, .unset, .unset, .unset, .unset, .unset] [(.int (1 : Int32)), (.int p4)])) _
      refine XS.iand X0.here hx rfl (hb hby at_28) rfl ?_
      show Steps p.tables e below (s₁.setTop (mkF m 29 #[.val (.int p1), .val (.int p2), .val (.int p3), .val (.int p4), .val (.int (Int32.ofNat o)), .val (.int (Int32.ofNat ln)), .val (.int (Int32.ofNat kk)), .unset, .unset, .unset, .unset, .unset, .unset] [(.int (p4 &&& (1 : Int32)))])) _
      refine XS.ifNo X0.here hx rfl (hb hby at_29) rfl ((if0 _ _).trans (feq hc29).1) ?_
      show Steps p.tables e below (s₁.setTop (mkF m 32 #[.val (.int p1), .val (.int p2), .val (.int p3), .val (.int p4), .val (.int (Int32.ofNat o)), .val (.int (Int32.ofNat ln)), .val (.int (Int32.ofNat kk)), .unset, .unset, .unset, .unset, .unset, .unset] [])) _
      refine XS.iconst X0.here hx rfl (hb hby at_32) ?_
      show Steps p.tables e below (s₁.setTop (mkF m 33 #[.val (.int p1), .val (.int p2), .val (.int p3), .val (.int p4), .val (.int (Int32.ofNat o)), .val (.int (Int32.ofNat ln)), .val (.int (Int32.ofNat kk)), .unset, .unset, .unset, .unset, .unset, .unset] [(.int (1 : Int32))])) _
      refine XS.goto X0.here hx rfl (pc0 := 33) (pc' := 37) rfl (hb hby at_33) (by decide) (by decide) ?_
      show Steps p.tables e below (s₁.setTop (mkF m 37 #[.val (.int p1), .val (.int p2), .val (.int p3), .val (.int p4), .val (.int (Int32.ofNat o)), .val (.int (Int32.ofNat ln)), .val (.int (Int32.ofNat kk)), .unset, .unset, .unset, .unset, .unset, .unset] [(.int (1 : Int32))])) _
      refine XS.istore X0.here hx rfl (hb hby at_37) rfl (l' := #[.val (.int p1), .val (.int p2), .val (.int p3), .val (.int p4), .val (.int (Int32.ofNat o)), .val (.int (Int32.ofNat ln)), .val (.int (Int32.ofNat kk)), .val (.int (1 : Int32)), .unset, .unset, .unset, .unset, .unset]) rfl ?_
      exact kt
  have sg2 : ∀ t₀, Steps p.tables e below (s₁.setTop (mkF m 41 #[.val (.int p1), .val (.int p2), .val (.int p3), .val (.int p4), .val (.int (Int32.ofNat o)), .val (.int (Int32.ofNat ln)), .val (.int (Int32.ofNat kk)), .val (.int uv), .unset, .unset, .unset, .unset, .unset] [(.int (16 : Int32))])) t₀ → Steps p.tables e below (s₁.setTop (mkF m 39 #[.val (.int p1), .val (.int p2), .val (.int p3), .val (.int p4), .val (.int (Int32.ofNat o)), .val (.int (Int32.ofNat ln)), .val (.int (Int32.ofNat kk)), .val (.int uv), .unset, .unset, .unset, .unset, .unset] [])) t₀ := by
    intro t₀ kt
    show Steps p.tables e below (s₁.setTop (mkF m 39 #[.val (.int p1), .val (.int p2), .val (.int p3), .val (.int p4), .val (.int (Int32.ofNat o)), .val (.int (Int32.ofNat ln)), .val (.int (Int32.ofNat kk)), .val (.int uv), .unset, .unset, .unset, .unset, .unset] [])) _
    refine XS.bipush X0.here hx rfl (hb hby at_39) ?_
    exact kt
  obtain ⟨T3, h3, k3, X3, e3, E3, A3, st3⟩ := newP X0 hx hZ (hw _ (List.mem_of_getElem? (i := 1) rfl)) e0 (g := (mkF m 41 #[.val (.int p1), .val (.int p2), .val (.int p3), .val (.int p4), .val (.int (Int32.ofNat o)), .val (.int (Int32.ofNat ln)), .val (.int (Int32.ofNat kk)), .val (.int uv), .unset, .unset, .unset, .unset, .unset] [(.int (16 : Int32))])) rfl (hb hby at_41) rfl (by decide) (cap := 16) (by decide) (by decide) (by decide) (by decide)
  obtain ⟨b3, g3⟩ : ∃ z, z = h0.size := ⟨_, rfl⟩
  rw [← g3] at A3 st3
  have V3 := Arv.new A3 (by decide)
  have g_b3 : n0 ≤ b3 := Nat.le_trans Z0 (Nat.le_of_eq g3.symm)
  have z3 : n0 ≤ h3.size := Nat.le_trans Z0 E3.1
  have sg4 : ∀ t₀, Steps p.tables e below (T3.setTop (mkF m 45 #[.val (.int p1), .val (.int p2), .val (.int p3), .val (.int p4), .val (.int (Int32.ofNat o)), .val (.int (Int32.ofNat ln)), .val (.int (Int32.ofNat kk)), .val (.int uv), .val (.ref b3), .unset, .unset, .unset, .unset] [])) t₀ → Steps p.tables e below (T3.setTop (mkF m 43 #[.val (.int p1), .val (.int p2), .val (.int p3), .val (.int p4), .val (.int (Int32.ofNat o)), .val (.int (Int32.ofNat ln)), .val (.int (Int32.ofNat kk)), .val (.int uv), .unset, .unset, .unset, .unset, .unset] [(.ref b3)])) t₀ := by
    intro t₀ kt
    show Steps p.tables e below (T3.setTop (mkF m 43 #[.val (.int p1), .val (.int p2), .val (.int p3), .val (.int p4), .val (.int (Int32.ofNat o)), .val (.int (Int32.ofNat ln)), .val (.int (Int32.ofNat kk)), .val (.int uv), .unset, .unset, .unset, .unset, .unset] [(.ref b3)])) _
    refine XS.astore X3.here hx rfl (hb hby at_43) rfl rfl (l' := #[.val (.int p1), .val (.int p2), .val (.int p3), .val (.int p4), .val (.int (Int32.ofNat o)), .val (.int (Int32.ofNat ln)), .val (.int (Int32.ofNat kk)), .val (.int uv), .val (.ref b3), .unset, .unset, .unset, .unset]) rfl ?_
    exact kt
  obtain ⟨T5, h5, X5, e5, E5, A5, D5, -, st5⟩ := newO X3 hx hZ hown (hw _ (List.mem_of_getElem? (i := 2) rfl)) (hw _ (List.mem_of_getElem? (i := 3) rfl)) (hw _ (List.mem_of_getElem? (i := 4) rfl)) e3 (g := (mkF m 45 #[.val (.int p1), .val (.int p2), .val (.int p3), .val (.int p4), .val (.int (Int32.ofNat o)), .val (.int (Int32.ofNat ln)), .val (.int (Int32.ofNat kk)), .val (.int uv), .val (.ref b3), .unset, .unset, .unset, .unset] [])) rfl (hb hby at_45) (by decide) (by decide)
  obtain ⟨b5, g5⟩ : ∃ z, z = h3.size := ⟨_, rfl⟩
  rw [← g5] at A5 D5 st5
  have F_bytes_b5 : Fld Z h5 b5 "com/example/annalist/annalist/store/RecordCodec$Input" "bytes" "[B" .null := D5 (Or.inr (hw _ (List.mem_of_getElem? (i := 12) rfl))) (ty := (.array .byte)) (by decide)
  have F_position_b5 : Fld Z h5 b5 "com/example/annalist/annalist/store/RecordCodec$Input" "position" "I" (.int (0 : Int32)) := D5 (Or.inl (hw _ (List.mem_of_getElem? (i := 14) rfl))) (ty := .int) (by decide)
  have F_end_b5 : Fld Z h5 b5 "com/example/annalist/annalist/store/RecordCodec$Input" "end" "I" (.int (0 : Int32)) := D5 (Or.inr (hw _ (List.mem_of_getElem? (i := 16) rfl))) (ty := .int) (by decide)
  have g_b5 : n0 ≤ b5 := Nat.le_trans z3 (Nat.le_of_eq g5.symm)
  have z5 : n0 ≤ h5.size := Nat.le_trans z3 E5.1
  have sg6 : ∀ t₀, Steps p.tables e below (T5.setTop (mkF m 55 #[.val (.int p1), .val (.int p2), .val (.int p3), .val (.int p4), .val (.int (Int32.ofNat o)), .val (.int (Int32.ofNat ln)), .val (.int (Int32.ofNat kk)), .val (.int uv), .val (.ref b3), .unset, .unset, .unset, .unset] [(.int (Int32.ofNat ln)), (.int (Int32.ofNat o)), (.ref b3), (.ref b5), (.ref b5)])) t₀ → Steps p.tables e below (T5.setTop (mkF m 48 #[.val (.int p1), .val (.int p2), .val (.int p3), .val (.int p4), .val (.int (Int32.ofNat o)), .val (.int (Int32.ofNat ln)), .val (.int (Int32.ofNat kk)), .val (.int uv), .val (.ref b3), .unset, .unset, .unset, .unset] [(.ref b5)])) t₀ := by
    intro t₀ kt
    show Steps p.tables e below (T5.setTop (mkF m 48 #[.val (.int p1), .val (.int p2), .val (.int p3), .val (.int p4), .val (.int (Int32.ofNat o)), .val (.int (Int32.ofNat ln)), .val (.int (Int32.ofNat kk)), .val (.int uv), .val (.ref b3), .unset, .unset, .unset, .unset] [(.ref b5)])) _
    refine XS.dup X5.here hx rfl (hb hby at_48) rfl rfl ?_
    show Steps p.tables e below (T5.setTop (mkF m 49 #[.val (.int p1), .val (.int p2), .val (.int p3), .val (.int p4), .val (.int (Int32.ofNat o)), .val (.int (Int32.ofNat ln)), .val (.int (Int32.ofNat kk)), .val (.int uv), .val (.ref b3), .unset, .unset, .unset, .unset] [(.ref b5), (.ref b5)])) _
    refine XS.aload X5.here hx rfl (hb hby at_49) rfl rfl ?_
    show Steps p.tables e below (T5.setTop (mkF m 51 #[.val (.int p1), .val (.int p2), .val (.int p3), .val (.int p4), .val (.int (Int32.ofNat o)), .val (.int (Int32.ofNat ln)), .val (.int (Int32.ofNat kk)), .val (.int uv), .val (.ref b3), .unset, .unset, .unset, .unset] [(.ref b3), (.ref b5), (.ref b5)])) _
    refine XS.iload X5.here hx rfl (hb hby at_51) rfl ?_
    show Steps p.tables e below (T5.setTop (mkF m 53 #[.val (.int p1), .val (.int p2), .val (.int p3), .val (.int p4), .val (.int (Int32.ofNat o)), .val (.int (Int32.ofNat ln)), .val (.int (Int32.ofNat kk)), .val (.int uv), .val (.ref b3), .unset, .unset, .unset, .unset] [(.int (Int32.ofNat o)), (.ref b3), (.ref b5), (.ref b5)])) _
    refine XS.iload X5.here hx rfl (hb hby at_53) rfl ?_
    exact kt
  have AA : own_A Z h3 b3 16 .byte (fun _ => .int (0 : Int32)) := own_A_new V3 (by decide)
  have ne : b3 ≠ b5 := Nat.ne_of_lt (by rw [g5]; exact own_A_lt AA)
  obtain ⟨_, _, ⟨T7, L7, k7, n7⟩, -, X7, ⟨Lc7, hQ7, l7, y7, z7⟩, st7⟩ := X5.specialBack hx (y := (⟨"com/example/annalist/annalist/store/RecordCodec$Input", "<init>", "([BII)V"⟩ : MethodName)) rfl hown (mvT hZ (hw _ (List.mem_of_getElem? (i := 5) rfl))) (mvT hZ (hw _ (List.mem_of_getElem? (i := 6) rfl))) (mvT hZ (hw _ (List.mem_of_getElem? (i := 7) rfl))) (by decide) (backOf (W := 1) (rm1 l Z a0 hw [] b5 b3 o ln h5 n0 z5 A5 g_b5 ne F_bytes_b5 F_position_b5 F_end_b5 (own_A_ext AA E5)) hZ (hw _ (List.mem_of_getElem? (i := 7) rfl)) (hw _ (List.mem_of_getElem? (i := 4) rfl)) (by decide) (by decide)) (g := (mkF m 55 #[.val (.int p1), .val (.int p2), .val (.int p3), .val (.int p4), .val (.int (Int32.ofNat o)), .val (.int (Int32.ofNat ln)), .val (.int (Int32.ofNat kk)), .val (.int uv), .val (.ref b3), .unset, .unset, .unset, .unset] [(.int (Int32.ofNat ln)), (.int (Int32.ofNat o)), (.ref b3), (.ref b5), (.ref b5)])) rfl (by rw [hml]; rfl) (Steps.refl _) (a := b5) (argsL := [(.ref b3), (.int (Int32.ofNat o)), (.int (Int32.ofNat ln))]) (rest := [(.ref b5)]) (lenOf pd_7 rfl) rfl (by show 2 * 0 + _ ≤ _; exact Nat.le_of_eq rfl) (hb hby at_55) (fun _ _ => ⟨rfl, e5, (by decide : 2 + 0 ≤ _), (by decide : 19 + 0 ≤ _)⟩)
  dsimp only [Pt.U, Pt.locs, Pt.cells, Pt.slots] at X7 l7 y7 z7 st7 hQ7
  subst l7 y7 z7
  obtain ⟨rfl, N7q, I0⟩ := hQ7
  have N7 := Fr.app N0 N7q
  have sg8 : ∀ t₀, Steps p.tables e below (T7.setTop (mkF m 62 #[.val (.int p1), .val (.int p2), .val (.int p3), .val (.int p4), .val (.int (Int32.ofNat o)), .val (.int (Int32.ofNat ln)), .val (.int (Int32.ofNat kk)), .val (.int uv), .val (.ref b3), .val (.ref b5), .unset, .unset, .unset] [(.ref b5)])) t₀ → Steps p.tables e below (T7.setTop (mkF m 58 #[.val (.int p1), .val (.int p2), .val (.int p3), .val (.int p4), .val (.int (Int32.ofNat o)), .val (.int (Int32.ofNat ln)), .val (.int (Int32.ofNat kk)), .val (.int uv), .val (.ref b3), .unset, .unset, .unset, .unset] [(.ref b5)])) t₀ := by
    intro t₀ kt
    show Steps p.tables e below (T7.setTop (mkF m 58 #[.val (.int p1), .val (.int p2), .val (.int p3), .val (.int p4), .val (.int (Int32.ofNat o)), .val (.int (Int32.ofNat ln)), .val (.int (Int32.ofNat kk)), .val (.int uv), .val (.ref b3), .unset, .unset, .unset, .unset] [(.ref b5)])) _
    refine XS.astore X7.here hx rfl (hb hby at_58) rfl rfl (l' := #[.val (.int p1), .val (.int p2), .val (.int p3), .val (.int p4), .val (.int (Int32.ofNat o)), .val (.int (Int32.ofNat ln)), .val (.int (Int32.ofNat kk)), .val (.int uv), .val (.ref b3), .val (.ref b5), .unset, .unset, .unset]) rfl ?_
    show Steps p.tables e below (T7.setTop (mkF m 60 #[.val (.int p1), .val (.int p2), .val (.int p3), .val (.int p4), .val (.int (Int32.ofNat o)), .val (.int (Int32.ofNat ln)), .val (.int (Int32.ofNat kk)), .val (.int uv), .val (.ref b3), .val (.ref b5), .unset, .unset, .unset] [])) _
    refine XS.aload X7.here hx rfl (hb hby at_60) rfl rfl ?_
    exact kt
  have I0x := id I0
  obtain ⟨zzI0, EEI0, FBI0, FEI0, FPI0, AAI0⟩ := I0x
  obtain ⟨cq9, kq9, q9a, q9b, q9c⟩ := isOf hZ rfl EEI0
  obtain ⟨_, _, ⟨T9, L9, k9, n9⟩, -, X9, ⟨Lc9, hQ9, l9, y9, z9⟩, st9⟩ := X7.virtualBack hx (y := (⟨"com/example/annalist/annalist/store/RecordCodec$Input", "atEnd", "()Z"⟩ : MethodName)) (z := (⟨"com/example/annalist/annalist/store/RecordCodec$Input", "atEnd", "()Z"⟩ : MethodName)) hown (mvT hZ (hw _ (List.mem_of_getElem? (i := 17) rfl))) (mvT hZ (hw _ (List.mem_of_getElem? (i := 18) rfl))) (notFace_of_selects (args := #[]) (mvT hZ (hw _ (List.mem_of_getElem? (i := 20) rfl)))) (mvT hZ (hw _ (List.mem_of_getElem? (i := 20) rfl))) (mvT hZ (hw _ (List.mem_of_getElem? (i := 19) rfl))) (by decide) (backOf (W := 0) (rm3 l Z a0 hw [] b5 (Int32.ofNat o) (Int32.ofNat (o + ln)) T7.heap n0 zzI0 FPI0 FEI0) hZ (hw _ (List.mem_of_getElem? (i := 21) rfl)) (hw _ (List.mem_of_getElem? (i := 4) rfl)) (by decide) (by decide)) q9a q9c (g := (mkF m 62 #[.val (.int p1), .val (.int p2), .val (.int p3), .val (.int p4), .val (.int (Int32.ofNat o)), .val (.int (Int32.ofNat ln)), .val (.int (Int32.ofNat kk)), .val (.int uv), .val (.ref b3), .val (.ref b5), .unset, .unset, .unset] [(.ref b5)])) rfl (by rw [hml]; rfl) (Steps.refl _) (argsL := []) (rest := []) (lenOf pd_1 rfl) rfl (by show 2 * 0 + _ ≤ _; exact Nat.le_of_eq rfl) (hb hby at_62) (fun _ _ => ⟨rfl, rfl, (by decide : 2 + 0 ≤ _), (by decide : 19 + 0 ≤ _)⟩)
  dsimp only [Pt.U, Pt.locs, Pt.cells, Pt.slots] at X9 l9 y9 z9 st9 hQ9
  subst l9 y9 z9
  obtain ⟨rfl, N9q, hh9⟩ := hQ9
  have N9 := Fr.app N7 N9q
  have sg10 : ∀ t₀, Steps p.tables e below (T9.setTop (mkF m 67 #[.val (.int p1), .val (.int p2), .val (.int p3), .val (.int p4), .val (.int (Int32.ofNat o)), .val (.int (Int32.ofNat ln)), .val (.int (Int32.ofNat kk)), .val (.int uv), .val (.ref b3), .val (.ref b5), .unset, .unset, .unset] [(.int (Int32.ofNat ln)), (.int (own_e (Int32.ofNat o) (Int32.ofNat (o + ln))))])) t₀ → Steps p.tables e below (T9.setTop (mkF m 65 #[.val (.int p1), .val (.int p2), .val (.int p3), .val (.int p4), .val (.int (Int32.ofNat o)), .val (.int (Int32.ofNat ln)), .val (.int (Int32.ofNat kk)), .val (.int uv), .val (.ref b3), .val (.ref b5), .unset, .unset, .unset] [(.int (own_e (Int32.ofNat o) (Int32.ofNat (o + ln))))])) t₀ := by
    intro t₀ kt
    show Steps p.tables e below (T9.setTop (mkF m 65 #[.val (.int p1), .val (.int p2), .val (.int p3), .val (.int p4), .val (.int (Int32.ofNat o)), .val (.int (Int32.ofNat ln)), .val (.int (Int32.ofNat kk)), .val (.int uv), .val (.ref b3), .val (.ref b5), .unset, .unset, .unset] [(.int (own_e (Int32.ofNat o) (Int32.ofNat (o + ln))))])) _
    refine XS.iload X9.here hx rfl (hb hby at_65) rfl ?_
    exact kt
  obtain ⟨b1, hsj11, sj11⟩ : ∃ b1 : Int32, (b1 = own_e (Int32.ofNat ln) (Int32.ofNat 0)) ∧ ∀ t₀, Steps p.tables e below (T9.setTop (mkF m 75 #[.val (.int p1), .val (.int p2), .val (.int p3), .val (.int p4), .val (.int (Int32.ofNat o)), .val (.int (Int32.ofNat ln)), .val (.int (Int32.ofNat kk)), .val (.int uv), .val (.ref b3), .val (.ref b5), .unset, .unset, .unset] [(.int b1), (.int (own_e (Int32.ofNat o) (Int32.ofNat (o + ln))))])) t₀ → Steps p.tables e below (T9.setTop (mkF m 67 #[.val (.int p1), .val (.int p2), .val (.int p3), .val (.int p4), .val (.int (Int32.ofNat o)), .val (.int (Int32.ofNat ln)), .val (.int (Int32.ofNat kk)), .val (.int uv), .val (.ref b3), .val (.ref b5), .unset, .unset, .unset] [(.int (Int32.ofNat ln)), (.int (own_e (Int32.ofNat o) (Int32.ofNat (o + ln))))])) t₀ := by
    by_cases hc67 : (Int32.ofNat ln) = (0 : Int32)
    · refine ⟨(1 : Int32), by first | exact own_ep hc67 | exact own_en hc67, fun t₀ kt => ?_⟩
      show Steps p.tables e below (T9.setTop (mkF m 67 #[.val (.int p1), .val (.int p2), .val (.int p3), .val (.int p4), .val (.int (Int32.ofNat o)), .val (.int (Int32.ofNat ln)), .val (.int (Int32.ofNat kk)), .val (.int uv), .val (.ref b3), .val (.ref b5), .unset, .unset, .unset] [(.int (Int32.ofNat ln)), (.int (own_e (Int32.ofNat o) (Int32.ofNat (o + ln))))])) _
      refine XS.ifNo X9.here hx rfl (hb hby at_67) rfl ((if0 _ _).trans (teq hc67).2) ?_
      show Steps p.tables e below (T9.setTop (mkF m 70 #[.val (.int p1), .val (.int p2), .val (.int p3), .val (.int p4), .val (.int (Int32.ofNat o)), .val (.int (Int32.ofNat ln)), .val (.int (Int32.ofNat kk)), .val (.int uv), .val (.ref b3), .val (.ref b5), .unset, .unset, .unset] [(.int (own_e (Int32.ofNat o) (Int32.ofNat (o + ln))))])) _
      refine XS.iconst X9.here hx rfl (hb hby at_70) ?_
      show Steps p.tables e below (T9.setTop (mkF m 71 #[.val (.int p1), .val (.int p2), .val (.int p3), .val (.int p4), .val (.int (Int32.ofNat o)), .val (.int (Int32.ofNat ln)), .val (.int (Int32.ofNat kk)), .val (.int uv), .val (.ref b3), .val (.ref b5), .unset, .unset, .unset] [(.int (1 : Int32)), (.int (own_e (Int32.ofNat o) (Int32.ofNat (o + ln))))])) _
      refine XS.goto X9.here hx rfl (pc0 := 71) (pc' := 75) rfl (hb hby at_71) (by decide) (by decide) ?_
      exact kt
    · refine ⟨(0 : Int32), by first | exact own_ep hc67 | exact own_en hc67, fun t₀ kt => ?_⟩
      show Steps p.tables e below (T9.setTop (mkF m 67 #[.val (.int p1), .val (.int p2), .val (.int p3), .val (.int p4), .val (.int (Int32.ofNat o)), .val (.int (Int32.ofNat ln)), .val (.int (Int32.ofNat kk)), .val (.int uv), .val (.ref b3), .val (.ref b5), .unset, .unset, .unset] [(.int (Int32.ofNat ln)), (.int (own_e (Int32.ofNat o) (Int32.ofNat (o + ln))))])) _
      refine XS.ifYes X9.here hx rfl (pc0 := 67) (pc' := 74) rfl (hb hby at_67) rfl ((if0 _ _).trans (feq hc67).2) (by decide) (by decide) ?_
      show Steps p.tables e below (T9.setTop (mkF m 74 #[.val (.int p1), .val (.int p2), .val (.int p3), .val (.int p4), .val (.int (Int32.ofNat o)), .val (.int (Int32.ofNat ln)), .val (.int (Int32.ofNat kk)), .val (.int uv), .val (.ref b3), .val (.ref b5), .unset, .unset, .unset] [(.int (own_e (Int32.ofNat o) (Int32.ofNat (o + ln))))])) _
      refine XS.iconst X9.here hx rfl (hb hby at_74) ?_
      exact kt
  have sg12 : ∀ t₀, Steps p.tables e below (T9.setTop (mkF m 85 #[.val (.int p1), .val (.int p2), .val (.int p3), .val (.int p4), .val (.int (Int32.ofNat o)), .val (.int (Int32.ofNat ln)), .val (.int (Int32.ofNat kk)), .val (.int uv), .val (.ref b3), .val (.ref b5), .val (.int (1 : Int32)), .unset, .unset] [])) t₀ → Steps p.tables e below (T9.setTop (mkF m 75 #[.val (.int p1), .val (.int p2), .val (.int p3), .val (.int p4), .val (.int (Int32.ofNat o)), .val (.int (Int32.ofNat ln)), .val (.int (Int32.ofNat kk)), .val (.int uv), .val (.ref b3), .val (.ref b5), .unset, .unset, .unset] [(.int b1), (.int (own_e (Int32.ofNat o) (Int32.ofNat (o + ln))))])) t₀ := by
    intro t₀ kt
    show Steps p.tables e below (T9.setTop (mkF m 75 #[.val (.int p1), .val (.int p2), .val (.int p3), .val (.int p4), .val (.int (Int32.ofNat o)), .val (.int (Int32.ofNat ln)), .val (.int (Int32.ofNat kk)), .val (.int uv), .val (.ref b3), .val (.ref b5), .unset, .unset, .unset] [(.int b1), (.int (own_e (Int32.ofNat o) (Int32.ofNat (o + ln))))])) _
    refine XS.icmpNo X9.here hx rfl (hb hby at_75) rfl (teq ((own_same (by omega) (by omega) (by omega) (by omega) (by omega)).trans hsj11.symm)).2 ?_
    show Steps p.tables e below (T9.setTop (mkF m 78 #[.val (.int p1), .val (.int p2), .val (.int p3), .val (.int p4), .val (.int (Int32.ofNat o)), .val (.int (Int32.ofNat ln)), .val (.int (Int32.ofNat kk)), .val (.int uv), .val (.ref b3), .val (.ref b5), .unset, .unset, .unset] [])) _
    refine XS.iconst X9.here hx rfl (hb hby at_78) ?_
    show Steps p.tables e below (T9.setTop (mkF m 79 #[.val (.int p1), .val (.int p2), .val (.int p3), .val (.int p4), .val (.int (Int32.ofNat o)), .val (.int (Int32.ofNat ln)), .val (.int (Int32.ofNat kk)), .val (.int uv), .val (.ref b3), .val (.ref b5), .unset, .unset, .unset] [(.int (1 : Int32))])) _
    refine XS.goto X9.here hx rfl (pc0 := 79) (pc' := 83) rfl (hb hby at_79) (by decide) (by decide) ?_
    show Steps p.tables e below (T9.setTop (mkF m 83 #[.val (.int p1), .val (.int p2), .val (.int p3), .val (.int p4), .val (.int (Int32.ofNat o)), .val (.int (Int32.ofNat ln)), .val (.int (Int32.ofNat kk)), .val (.int uv), .val (.ref b3), .val (.ref b5), .unset, .unset, .unset] [(.int (1 : Int32))])) _
    refine XS.istore X9.here hx rfl (hb hby at_83) rfl (l' := #[.val (.int p1), .val (.int p2), .val (.int p3), .val (.int p4), .val (.int (Int32.ofNat o)), .val (.int (Int32.ofNat ln)), .val (.int (Int32.ofNat kk)), .val (.int uv), .val (.ref b3), .val (.ref b5), .val (.int (1 : Int32)), .unset, .unset]) rfl ?_
    exact kt
  have sg13 : ∀ t₀, Steps p.tables e below (T9.setTop (mkF m 87 #[.val (.int p1), .val (.int p2), .val (.int p3), .val (.int p4), .val (.int (Int32.ofNat o)), .val (.int (Int32.ofNat ln)), .val (.int (Int32.ofNat kk)), .val (.int uv), .val (.ref b3), .val (.ref b5), .val (.int (1 : Int32)), .unset, .unset] [(.int uv)])) t₀ → Steps p.tables e below (T9.setTop (mkF m 85 #[.val (.int p1), .val (.int p2), .val (.int p3), .val (.int p4), .val (.int (Int32.ofNat o)), .val (.int (Int32.ofNat ln)), .val (.int (Int32.ofNat kk)), .val (.int uv), .val (.ref b3), .val (.ref b5), .val (.int (1 : Int32)), .unset, .unset] [])) t₀ := by
    intro t₀ kt
    show Steps p.tables e below (T9.setTop (mkF m 85 #[.val (.int p1), .val (.int p2), .val (.int p3), .val (.int p4), .val (.int (Int32.ofNat o)), .val (.int (Int32.ofNat ln)), .val (.int (Int32.ofNat kk)), .val (.int uv), .val (.ref b3), .val (.ref b5), .val (.int (1 : Int32)), .unset, .unset] [])) _
    refine XS.iload X9.here hx rfl (hb hby at_85) rfl ?_
    exact kt
  by_cases hu : uv = (0 : Int32)
  · have sg14 : ∀ t₀, Steps p.tables e below (T9.setTop (mkF m 107 #[.val (.int p1), .val (.int p2), .val (.int p3), .val (.int p4), .val (.int (Int32.ofNat o)), .val (.int (Int32.ofNat ln)), .val (.int (Int32.ofNat kk)), .val (.int uv), .val (.ref b3), .val (.ref b5), .val (.int (1 : Int32)), .unset, .unset] [])) t₀ → Steps p.tables e below (T9.setTop (mkF m 87 #[.val (.int p1), .val (.int p2), .val (.int p3), .val (.int p4), .val (.int (Int32.ofNat o)), .val (.int (Int32.ofNat ln)), .val (.int (Int32.ofNat kk)), .val (.int uv), .val (.ref b3), .val (.ref b5), .val (.int (1 : Int32)), .unset, .unset] [(.int uv)])) t₀ := by
      intro t₀ kt
      show Steps p.tables e below (T9.setTop (mkF m 87 #[.val (.int p1), .val (.int p2), .val (.int p3), .val (.int p4), .val (.int (Int32.ofNat o)), .val (.int (Int32.ofNat ln)), .val (.int (Int32.ofNat kk)), .val (.int uv), .val (.ref b3), .val (.ref b5), .val (.int (1 : Int32)), .unset, .unset] [(.int uv)])) _
      refine XS.ifYes X9.here hx rfl (pc0 := 87) (pc' := 107) rfl (hb hby at_87) rfl ((if0 _ _).trans (teq hu).1) (by decide) (by decide) ?_
      exact kt
    have sg15 : ∀ t₀, Steps p.tables e below (T9.setTop (mkF m 112 #[.val (.int p1), .val (.int p2), .val (.int p3), .val (.int p4), .val (.int (Int32.ofNat o)), .val (.int (Int32.ofNat ln)), .val (.int (Int32.ofNat kk)), .val (.int uv), .val (.ref b3), .val (.ref b5), .val (.int (1 : Int32)), .unset, .unset] [(.long ((Int32.ofNat kk).toInt64)), (.ref b5)])) t₀ → Steps p.tables e below (T9.setTop (mkF m 107 #[.val (.int p1), .val (.int p2), .val (.int p3), .val (.int p4), .val (.int (Int32.ofNat o)), .val (.int (Int32.ofNat ln)), .val (.int (Int32.ofNat kk)), .val (.int uv), .val (.ref b3), .val (.ref b5), .val (.int (1 : Int32)), .unset, .unset] [])) t₀ := by
      intro t₀ kt
      show Steps p.tables e below (T9.setTop (mkF m 107 #[.val (.int p1), .val (.int p2), .val (.int p3), .val (.int p4), .val (.int (Int32.ofNat o)), .val (.int (Int32.ofNat ln)), .val (.int (Int32.ofNat kk)), .val (.int uv), .val (.ref b3), .val (.ref b5), .val (.int (1 : Int32)), .unset, .unset] [])) _
      refine XS.aload X9.here hx rfl (hb hby at_107) rfl rfl ?_
      show Steps p.tables e below (T9.setTop (mkF m 109 #[.val (.int p1), .val (.int p2), .val (.int p3), .val (.int p4), .val (.int (Int32.ofNat o)), .val (.int (Int32.ofNat ln)), .val (.int (Int32.ofNat kk)), .val (.int uv), .val (.ref b3), .val (.ref b5), .val (.int (1 : Int32)), .unset, .unset] [(.ref b5)])) _
      refine XS.iload X9.here hx rfl (hb hby at_109) rfl ?_
      show Steps p.tables e below (T9.setTop (mkF m 111 #[.val (.int p1), .val (.int p2), .val (.int p3), .val (.int p4), .val (.int (Int32.ofNat o)), .val (.int (Int32.ofNat ln)), .val (.int (Int32.ofNat kk)), .val (.int uv), .val (.ref b3), .val (.ref b5), .val (.int (1 : Int32)), .unset, .unset] [(.int (Int32.ofNat kk)), (.ref b5)])) _
      refine XS.i2l X9.here hx rfl (hb hby at_111) rfl ?_
      exact kt
    obtain ⟨cq16, kq16, q16a, q16b, q16c⟩ := isOf hZ hh9 EEI0
    obtain ⟨_, _, ⟨T16, L16, k16, n16⟩, -, X16, ⟨Lc16, hQ16, l16, y16, z16⟩, st16⟩ := X9.virtualBack hx (y := (⟨"com/example/annalist/annalist/store/RecordCodec$Input", "skip", "(J)V"⟩ : MethodName)) (z := (⟨"com/example/annalist/annalist/store/RecordCodec$Input", "skip", "(J)V"⟩ : MethodName)) hown (mvT hZ (hw _ (List.mem_of_getElem? (i := 31) rfl))) (mvT hZ (hw _ (List.mem_of_getElem? (i := 32) rfl))) (notFace_of_selects (args := #[]) (mvT hZ (hw _ (List.mem_of_getElem? (i := 34) rfl)))) (mvT hZ (hw _ (List.mem_of_getElem? (i := 34) rfl))) (mvT hZ (hw _ (List.mem_of_getElem? (i := 33) rfl))) (by decide) (backOf (W := 0) (rm6 l Z a0 hw [] b5 ((Int32.ofNat kk).toInt64) b3 o (o + ln) kk T7.heap n0 zzI0 g_b5 ne I0 (own_l (by omega)) (by omega) (by omega)) hZ (hw _ (List.mem_of_getElem? (i := 35) rfl)) (hw _ (List.mem_of_getElem? (i := 4) rfl)) (by decide) (by decide)) q16a q16c (g := (mkF m 112 #[.val (.int p1), .val (.int p2), .val (.int p3), .val (.int p4), .val (.int (Int32.ofNat o)), .val (.int (Int32.ofNat ln)), .val (.int (Int32.ofNat kk)), .val (.int uv), .val (.ref b3), .val (.ref b5), .val (.int (1 : Int32)), .unset, .unset] [(.long ((Int32.ofNat kk).toInt64)), (.ref b5)])) rfl (by rw [hml]; rfl) (Steps.refl _) (argsL := [(.long ((Int32.ofNat kk).toInt64))]) (rest := []) (lenOf pd_6 rfl) rfl (by show 2 * 0 + _ ≤ _; exact Nat.le_of_eq rfl) (hb hby at_112) (fun _ _ => ⟨rfl, hh9, (by decide : 2 + 0 ≤ _), (by decide : 19 + 0 ≤ _)⟩)
    dsimp only [Pt.U, Pt.locs, Pt.cells, Pt.slots] at X16 l16 y16 z16 st16 hQ16
    subst l16 y16 z16
    obtain ⟨rfl, N16q, I1⟩ := hQ16
    have N16 := Fr.app N9 N16q
    have sg17 : ∀ t₀, Steps p.tables e below (T16.setTop (mkF m 117 #[.val (.int p1), .val (.int p2), .val (.int p3), .val (.int p4), .val (.int (Int32.ofNat o)), .val (.int (Int32.ofNat ln)), .val (.int (Int32.ofNat kk)), .val (.int uv), .val (.ref b3), .val (.ref b5), .val (.int (1 : Int32)), .unset, .unset] [(.ref b5)])) t₀ → Steps p.tables e below (T16.setTop (mkF m 115 #[.val (.int p1), .val (.int p2), .val (.int p3), .val (.int p4), .val (.int (Int32.ofNat o)), .val (.int (Int32.ofNat ln)), .val (.int (Int32.ofNat kk)), .val (.int uv), .val (.ref b3), .val (.ref b5), .val (.int (1 : Int32)), .unset, .unset] [])) t₀ := by
      intro t₀ kt
      show Steps p.tables e below (T16.setTop (mkF m 115 #[.val (.int p1), .val (.int p2), .val (.int p3), .val (.int p4), .val (.int (Int32.ofNat o)), .val (.int (Int32.ofNat ln)), .val (.int (Int32.ofNat kk)), .val (.int uv), .val (.ref b3), .val (.ref b5), .val (.int (1 : Int32)), .unset, .unset] [])) _
      refine XS.aload X16.here hx rfl (hb hby at_115) rfl rfl ?_
      exact kt
    have I1x := id I1
    obtain ⟨zzI1, EEI1, FBI1, FEI1, FPI1, AAI1⟩ := I1x
    obtain ⟨cq18, kq18, q18a, q18b, q18c⟩ := isOf hZ rfl EEI1
    obtain ⟨_, _, ⟨T18, L18, k18, n18⟩, -, X18, ⟨Lc18, hQ18, l18, y18, z18⟩, st18⟩ := X16.virtualBack hx (y := (⟨"com/example/annalist/annalist/store/RecordCodec$Input", "atEnd", "()Z"⟩ : MethodName)) (z := (⟨"com/example/annalist/annalist/store/RecordCodec$Input", "atEnd", "()Z"⟩ : MethodName)) hown (mvT hZ (hw _ (List.mem_of_getElem? (i := 17) rfl))) (mvT hZ (hw _ (List.mem_of_getElem? (i := 18) rfl))) (notFace_of_selects (args := #[]) (mvT hZ (hw _ (List.mem_of_getElem? (i := 20) rfl)))) (mvT hZ (hw _ (List.mem_of_getElem? (i := 20) rfl))) (mvT hZ (hw _ (List.mem_of_getElem? (i := 19) rfl))) (by decide) (backOf (W := 0) (rm3 l Z a0 hw [] b5 (Int32.ofNat (o + kk)) (Int32.ofNat (o + ln)) T16.heap n0 zzI1 FPI1 FEI1) hZ (hw _ (List.mem_of_getElem? (i := 21) rfl)) (hw _ (List.mem_of_getElem? (i := 4) rfl)) (by decide) (by decide)) q18a q18c (g := (mkF m 117 #[.val (.int p1), .val (.int p2), .val (.int p3), .val (.int p4), .val (.int (Int32.ofNat o)), .val (.int (Int32.ofNat ln)), .val (.int (Int32.ofNat kk)), .val (.int uv), .val (.ref b3), .val (.ref b5), .val (.int (1 : Int32)), .unset, .unset] [(.ref b5)])) rfl (by rw [hml]; rfl) (Steps.refl _) (argsL := []) (rest := []) (lenOf pd_1 rfl) rfl (by show 2 * 0 + _ ≤ _; exact Nat.le_of_eq rfl) (hb hby at_117) (fun _ _ => ⟨rfl, rfl, (by decide : 2 + 0 ≤ _), (by decide : 19 + 0 ≤ _)⟩)
    dsimp only [Pt.U, Pt.locs, Pt.cells, Pt.slots] at X18 l18 y18 z18 st18 hQ18
    subst l18 y18 z18
    obtain ⟨rfl, N18q, hh18⟩ := hQ18
    have N18 := Fr.app N16 N18q
    obtain ⟨b2, hsj19, sj19⟩ : ∃ b2 : Int32, (b2 = own_e (Int32.ofNat kk) (Int32.ofNat ln)) ∧ ∀ t₀, Steps p.tables e below (T18.setTop (mkF m 132 #[.val (.int p1), .val (.int p2), .val (.int p3), .val (.int p4), .val (.int (Int32.ofNat o)), .val (.int (Int32.ofNat ln)), .val (.int (Int32.ofNat kk)), .val (.int uv), .val (.ref b3), .val (.ref b5), .val (.int (1 : Int32)), .unset, .unset] [(.int b2), (.int (own_e (Int32.ofNat (o + kk)) (Int32.ofNat (o + ln))))])) t₀ → Steps p.tables e below (T18.setTop (mkF m 120 #[.val (.int p1), .val (.int p2), .val (.int p3), .val (.int p4), .val (.int (Int32.ofNat o)), .val (.int (Int32.ofNat ln)), .val (.int (Int32.ofNat kk)), .val (.int uv), .val (.ref b3), .val (.ref b5), .val (.int (1 : Int32)), .unset, .unset] [(.int (own_e (Int32.ofNat (o + kk)) (Int32.ofNat (o + ln))))])) t₀ := by
      by_cases hc124 : (Int32.ofNat kk) = (Int32.ofNat ln)
      · refine ⟨(1 : Int32), by first | exact own_ep hc124 | exact own_en hc124, fun t₀ kt => ?_⟩
        show Steps p.tables e below (T18.setTop (mkF m 120 #[.val (.int p1), .val (.int p2), .val (.int p3), .val (.int p4), .val (.int (Int32.ofNat o)), .val (.int (Int32.ofNat ln)), .val (.int (Int32.ofNat kk)), .val (.int uv), .val (.ref b3), .val (.ref b5), .val (.int (1 : Int32)), .unset, .unset] [(.int (own_e (Int32.ofNat (o + kk)) (Int32.ofNat (o + ln))))])) _
        refine XS.iload X18.here hx rfl (hb hby at_120) rfl ?_
        show Steps p.tables e below (T18.setTop (mkF m 122 #[.val (.int p1), .val (.int p2), .val (.int p3), .val (.int p4), .val (.int (Int32.ofNat o)), .val (.int (Int32.ofNat ln)), .val (.int (Int32.ofNat kk)), .val (.int uv), .val (.ref b3), .val (.ref b5), .val (.int (1 : Int32)), .unset, .unset] [(.int (Int32.ofNat kk)), (.int (own_e (Int32.ofNat (o + kk)) (Int32.ofNat (o + ln))))])) _
        refine XS.iload X18.here hx rfl (hb hby at_122) rfl ?_
        show Steps p.tables e below (T18.setTop (mkF m 124 #[.val (.int p1), .val (.int p2), .val (.int p3), .val (.int p4), .val (.int (Int32.ofNat o)), .val (.int (Int32.ofNat ln)), .val (.int (Int32.ofNat kk)), .val (.int uv), .val (.ref b3), .val (.ref b5), .val (.int (1 : Int32)), .unset, .unset] [(.int (Int32.ofNat ln)), (.int (Int32.ofNat kk)), (.int (own_e (Int32.ofNat (o + kk)) (Int32.ofNat (o + ln))))])) _
        refine XS.icmpNo X18.here hx rfl (hb hby at_124) rfl (teq hc124).2 ?_
        show Steps p.tables e below (T18.setTop (mkF m 127 #[.val (.int p1), .val (.int p2), .val (.int p3), .val (.int p4), .val (.int (Int32.ofNat o)), .val (.int (Int32.ofNat ln)), .val (.int (Int32.ofNat kk)), .val (.int uv), .val (.ref b3), .val (.ref b5), .val (.int (1 : Int32)), .unset, .unset] [(.int (own_e (Int32.ofNat (o + kk)) (Int32.ofNat (o + ln))))])) _
        refine XS.iconst X18.here hx rfl (hb hby at_127) ?_
        show Steps p.tables e below (T18.setTop (mkF m 128 #[.val (.int p1), .val (.int p2), .val (.int p3), .val (.int p4), .val (.int (Int32.ofNat o)), .val (.int (Int32.ofNat ln)), .val (.int (Int32.ofNat kk)), .val (.int uv), .val (.ref b3), .val (.ref b5), .val (.int (1 : Int32)), .unset, .unset] [(.int (1 : Int32)), (.int (own_e (Int32.ofNat (o + kk)) (Int32.ofNat (o + ln))))])) _
        refine XS.goto X18.here hx rfl (pc0 := 128) (pc' := 132) rfl (hb hby at_128) (by decide) (by decide) ?_
        exact kt
      · refine ⟨(0 : Int32), by first | exact own_ep hc124 | exact own_en hc124, fun t₀ kt => ?_⟩
        show Steps p.tables e below (T18.setTop (mkF m 120 #[.val (.int p1), .val (.int p2), .val (.int p3), .val (.int p4), .val (.int (Int32.ofNat o)), .val (.int (Int32.ofNat ln)), .val (.int (Int32.ofNat kk)), .val (.int uv), .val (.ref b3), .val (.ref b5), .val (.int (1 : Int32)), .unset, .unset] [(.int (own_e (Int32.ofNat (o + kk)) (Int32.ofNat (o + ln))))])) _
        refine XS.iload X18.here hx rfl (hb hby at_120) rfl ?_
        show Steps p.tables e below (T18.setTop (mkF m 122 #[.val (.int p1), .val (.int p2), .val (.int p3), .val (.int p4), .val (.int (Int32.ofNat o)), .val (.int (Int32.ofNat ln)), .val (.int (Int32.ofNat kk)), .val (.int uv), .val (.ref b3), .val (.ref b5), .val (.int (1 : Int32)), .unset, .unset] [(.int (Int32.ofNat kk)), (.int (own_e (Int32.ofNat (o + kk)) (Int32.ofNat (o + ln))))])) _
        refine XS.iload X18.here hx rfl (hb hby at_122) rfl ?_
        show Steps p.tables e below (T18.setTop (mkF m 124 #[.val (.int p1), .val (.int p2), .val (.int p3), .val (.int p4), .val (.int (Int32.ofNat o)), .val (.int (Int32.ofNat ln)), .val (.int (Int32.ofNat kk)), .val (.int uv), .val (.ref b3), .val (.ref b5), .val (.int (1 : Int32)), .unset, .unset] [(.int (Int32.ofNat ln)), (.int (Int32.ofNat kk)), (.int (own_e (Int32.ofNat (o + kk)) (Int32.ofNat (o + ln))))])) _
        refine XS.icmpYes X18.here hx rfl (pc0 := 124) (pc' := 131) rfl (hb hby at_124) rfl (feq hc124).2 (by decide) (by decide) ?_
        show Steps p.tables e below (T18.setTop (mkF m 131 #[.val (.int p1), .val (.int p2), .val (.int p3), .val (.int p4), .val (.int (Int32.ofNat o)), .val (.int (Int32.ofNat ln)), .val (.int (Int32.ofNat kk)), .val (.int uv), .val (.ref b3), .val (.ref b5), .val (.int (1 : Int32)), .unset, .unset] [(.int (own_e (Int32.ofNat (o + kk)) (Int32.ofNat (o + ln))))])) _
        refine XS.iconst X18.here hx rfl (hb hby at_131) ?_
        exact kt
    have sg20 : ∀ t₀, Steps p.tables e below (T18.setTop (mkF m 142 #[.val (.int p1), .val (.int p2), .val (.int p3), .val (.int p4), .val (.int (Int32.ofNat o)), .val (.int (Int32.ofNat ln)), .val (.int (Int32.ofNat kk)), .val (.int uv), .val (.ref b3), .val (.ref b5), .val (.int (1 : Int32)), .val (.int (1 : Int32)), .unset] [])) t₀ → Steps p.tables e below (T18.setTop (mkF m 132 #[.val (.int p1), .val (.int p2), .val (.int p3), .val (.int p4), .val (.int (Int32.ofNat o)), .val (.int (Int32.ofNat ln)), .val (.int (Int32.ofNat kk)), .val (.int uv), .val (.ref b3), .val (.ref b5), .val (.int (1 : Int32)), .unset, .unset] [(.int b2), (.int (own_e (Int32.ofNat (o + kk)) (Int32.ofNat (o + ln))))])) t₀ := by
      intro t₀ kt
      show Steps p.tables e below (T18.setTop (mkF m 132 #[.val (.int p1), .val (.int p2), .val (.int p3), .val (.int p4), .val (.int (Int32.ofNat o)), .val (.int (Int32.ofNat ln)), .val (.int (Int32.ofNat kk)), .val (.int uv), .val (.ref b3), .val (.ref b5), .val (.int (1 : Int32)), .unset, .unset] [(.int b2), (.int (own_e (Int32.ofNat (o + kk)) (Int32.ofNat (o + ln))))])) _
      refine XS.icmpNo X18.here hx rfl (hb hby at_132) rfl (teq ((own_same (by omega) (by omega) (by omega) (by omega) (by omega)).trans hsj19.symm)).2 ?_
      show Steps p.tables e below (T18.setTop (mkF m 135 #[.val (.int p1), .val (.int p2), .val (.int p3), .val (.int p4), .val (.int (Int32.ofNat o)), .val (.int (Int32.ofNat ln)), .val (.int (Int32.ofNat kk)), .val (.int uv), .val (.ref b3), .val (.ref b5), .val (.int (1 : Int32)), .unset, .unset] [])) _
      refine XS.iconst X18.here hx rfl (hb hby at_135) ?_
      show Steps p.tables e below (T18.setTop (mkF m 136 #[.val (.int p1), .val (.int p2), .val (.int p3), .val (.int p4), .val (.int (Int32.ofNat o)), .val (.int (Int32.ofNat ln)), .val (.int (Int32.ofNat kk)), .val (.int uv), .val (.ref b3), .val (.ref b5), .val (.int (1 : Int32)), .unset, .unset] [(.int (1 : Int32))])) _
      refine XS.goto X18.here hx rfl (pc0 := 136) (pc' := 140) rfl (hb hby at_136) (by decide) (by decide) ?_
      show Steps p.tables e below (T18.setTop (mkF m 140 #[.val (.int p1), .val (.int p2), .val (.int p3), .val (.int p4), .val (.int (Int32.ofNat o)), .val (.int (Int32.ofNat ln)), .val (.int (Int32.ofNat kk)), .val (.int uv), .val (.ref b3), .val (.ref b5), .val (.int (1 : Int32)), .unset, .unset] [(.int (1 : Int32))])) _
      refine XS.istore X18.here hx rfl (hb hby at_140) rfl (l' := #[.val (.int p1), .val (.int p2), .val (.int p3), .val (.int p4), .val (.int (Int32.ofNat o)), .val (.int (Int32.ofNat ln)), .val (.int (Int32.ofNat kk)), .val (.int uv), .val (.ref b3), .val (.ref b5), .val (.int (1 : Int32)), .val (.int (1 : Int32)), .unset]) rfl ?_
      exact kt
    have sg21 : ∀ t₀, Steps p.tables e below (T18.setTop (mkF m 150 #[.val (.int p1), .val (.int p2), .val (.int p3), .val (.int p4), .val (.int (Int32.ofNat o)), .val (.int (Int32.ofNat ln)), .val (.int (Int32.ofNat kk)), .val (.int uv), .val (.ref b3), .val (.ref b5), .val (.int (1 : Int32)), .val (.int (1 : Int32)), .unset] [(.long (((Int32.ofNat ln) - (Int32.ofNat kk)).toInt64)), (.ref b5)])) t₀ → Steps p.tables e below (T18.setTop (mkF m 142 #[.val (.int p1), .val (.int p2), .val (.int p3), .val (.int p4), .val (.int (Int32.ofNat o)), .val (.int (Int32.ofNat ln)), .val (.int (Int32.ofNat kk)), .val (.int uv), .val (.ref b3), .val (.ref b5), .val (.int (1 : Int32)), .val (.int (1 : Int32)), .unset] [])) t₀ := by
      intro t₀ kt
      show Steps p.tables e below (T18.setTop (mkF m 142 #[.val (.int p1), .val (.int p2), .val (.int p3), .val (.int p4), .val (.int (Int32.ofNat o)), .val (.int (Int32.ofNat ln)), .val (.int (Int32.ofNat kk)), .val (.int uv), .val (.ref b3), .val (.ref b5), .val (.int (1 : Int32)), .val (.int (1 : Int32)), .unset] [])) _
      refine XS.aload X18.here hx rfl (hb hby at_142) rfl rfl ?_
      show Steps p.tables e below (T18.setTop (mkF m 144 #[.val (.int p1), .val (.int p2), .val (.int p3), .val (.int p4), .val (.int (Int32.ofNat o)), .val (.int (Int32.ofNat ln)), .val (.int (Int32.ofNat kk)), .val (.int uv), .val (.ref b3), .val (.ref b5), .val (.int (1 : Int32)), .val (.int (1 : Int32)), .unset] [(.ref b5)])) _
      refine XS.iload X18.here hx rfl (hb hby at_144) rfl ?_
      show Steps p.tables e below (T18.setTop (mkF m 146 #[.val (.int p1), .val (.int p2), .val (.int p3), .val (.int p4), .val (.int (Int32.ofNat o)), .val (.int (Int32.ofNat ln)), .val (.int (Int32.ofNat kk)), .val (.int uv), .val (.ref b3), .val (.ref b5), .val (.int (1 : Int32)), .val (.int (1 : Int32)), .unset] [(.int (Int32.ofNat ln)), (.ref b5)])) _
      refine XS.iload X18.here hx rfl (hb hby at_146) rfl ?_
      show Steps p.tables e below (T18.setTop (mkF m 148 #[.val (.int p1), .val (.int p2), .val (.int p3), .val (.int p4), .val (.int (Int32.ofNat o)), .val (.int (Int32.ofNat ln)), .val (.int (Int32.ofNat kk)), .val (.int uv), .val (.ref b3), .val (.ref b5), .val (.int (1 : Int32)), .val (.int (1 : Int32)), .unset] [(.int (Int32.ofNat kk)), (.int (Int32.ofNat ln)), (.ref b5)])) _
      refine XS.isub X18.here hx rfl (hb hby at_148) rfl ?_
      show Steps p.tables e below (T18.setTop (mkF m 149 #[.val (.int p1), .val (.int p2), .val (.int p3), .val (.int p4), .val (.int (Int32.ofNat o)), .val (.int (Int32.ofNat ln)), .val (.int (Int32.ofNat kk)), .val (.int uv), .val (.ref b3), .val (.ref b5), .val (.int (1 : Int32)), .val (.int (1 : Int32)), .unset] [(.int ((Int32.ofNat ln) - (Int32.ofNat kk))), (.ref b5)])) _
      refine XS.i2l X18.here hx rfl (hb hby at_149) rfl ?_
      exact kt
    obtain ⟨cq22, kq22, q22a, q22b, q22c⟩ := isOf hZ hh18 EEI1
    obtain ⟨_, _, ⟨T22, L22, k22, n22⟩, -, X22, ⟨Lc22, hQ22, l22, y22, z22⟩, st22⟩ := X18.virtualBack hx (y := (⟨"com/example/annalist/annalist/store/RecordCodec$Input", "skip", "(J)V"⟩ : MethodName)) (z := (⟨"com/example/annalist/annalist/store/RecordCodec$Input", "skip", "(J)V"⟩ : MethodName)) hown (mvT hZ (hw _ (List.mem_of_getElem? (i := 31) rfl))) (mvT hZ (hw _ (List.mem_of_getElem? (i := 32) rfl))) (notFace_of_selects (args := #[]) (mvT hZ (hw _ (List.mem_of_getElem? (i := 34) rfl)))) (mvT hZ (hw _ (List.mem_of_getElem? (i := 34) rfl))) (mvT hZ (hw _ (List.mem_of_getElem? (i := 33) rfl))) (by decide) (backOf (W := 0) (rm6 l Z a0 hw [] b5 (((Int32.ofNat ln) - (Int32.ofNat kk)).toInt64) b3 (o + kk) (o + ln) (ln - kk) T16.heap n0 zzI1 g_b5 ne I1 (by rw [own_sub (by omega) (by omega), own_l (by omega)]) (by omega) (by omega)) hZ (hw _ (List.mem_of_getElem? (i := 35) rfl)) (hw _ (List.mem_of_getElem? (i := 4) rfl)) (by decide) (by decide)) q22a q22c (g := (mkF m 150 #[.val (.int p1), .val (.int p2), .val (.int p3), .val (.int p4), .val (.int (Int32.ofNat o)), .val (.int (Int32.ofNat ln)), .val (.int (Int32.ofNat kk)), .val (.int uv), .val (.ref b3), .val (.ref b5), .val (.int (1 : Int32)), .val (.int (1 : Int32)), .unset] [(.long (((Int32.ofNat ln) - (Int32.ofNat kk)).toInt64)), (.ref b5)])) rfl (by rw [hml]; rfl) (Steps.refl _) (argsL := [(.long (((Int32.ofNat ln) - (Int32.ofNat kk)).toInt64))]) (rest := []) (lenOf pd_6 rfl) rfl (by show 2 * 0 + _ ≤ _; exact Nat.le_of_eq rfl) (hb hby at_150) (fun _ _ => ⟨rfl, hh18, (by decide : 2 + 0 ≤ _), (by decide : 19 + 0 ≤ _)⟩)
    dsimp only [Pt.U, Pt.locs, Pt.cells, Pt.slots] at X22 l22 y22 z22 st22 hQ22
    subst l22 y22 z22
    obtain ⟨rfl, N22q, I2'⟩ := hQ22
    have N22 := Fr.app N18 N22q
    have I2 : own_I Z T22.heap n0 b5 b3 (o + ln) (o + ln) := by have z := I2'; rw [show o + kk + (ln - kk) = o + ln by omega] at z; exact z
    have sg23 : ∀ t₀, Steps p.tables e below (T22.setTop (mkF m 155 #[.val (.int p1), .val (.int p2), .val (.int p3), .val (.int p4), .val (.int (Int32.ofNat o)), .val (.int (Int32.ofNat ln)), .val (.int (Int32.ofNat kk)), .val (.int uv), .val (.ref b3), .val (.ref b5), .val (.int (1 : Int32)), .val (.int (1 : Int32)), .unset] [(.ref b5)])) t₀ → Steps p.tables e below (T22.setTop (mkF m 153 #[.val (.int p1), .val (.int p2), .val (.int p3), .val (.int p4), .val (.int (Int32.ofNat o)), .val (.int (Int32.ofNat ln)), .val (.int (Int32.ofNat kk)), .val (.int uv), .val (.ref b3), .val (.ref b5), .val (.int (1 : Int32)), .val (.int (1 : Int32)), .unset] [])) t₀ := by
      intro t₀ kt
      show Steps p.tables e below (T22.setTop (mkF m 153 #[.val (.int p1), .val (.int p2), .val (.int p3), .val (.int p4), .val (.int (Int32.ofNat o)), .val (.int (Int32.ofNat ln)), .val (.int (Int32.ofNat kk)), .val (.int uv), .val (.ref b3), .val (.ref b5), .val (.int (1 : Int32)), .val (.int (1 : Int32)), .unset] [])) _
      refine XS.aload X22.here hx rfl (hb hby at_153) rfl rfl ?_
      exact kt
    have I2x := id I2
    obtain ⟨zzI2, EEI2, FBI2, FEI2, FPI2, AAI2⟩ := I2x
    obtain ⟨cq24, kq24, q24a, q24b, q24c⟩ := isOf hZ rfl EEI2
    obtain ⟨_, _, ⟨T24, L24, k24, n24⟩, -, X24, ⟨Lc24, hQ24, l24, y24, z24⟩, st24⟩ := X22.virtualBack hx (y := (⟨"com/example/annalist/annalist/store/RecordCodec$Input", "atEnd", "()Z"⟩ : MethodName)) (z := (⟨"com/example/annalist/annalist/store/RecordCodec$Input", "atEnd", "()Z"⟩ : MethodName)) hown (mvT hZ (hw _ (List.mem_of_getElem? (i := 17) rfl))) (mvT hZ (hw _ (List.mem_of_getElem? (i := 18) rfl))) (notFace_of_selects (args := #[]) (mvT hZ (hw _ (List.mem_of_getElem? (i := 20) rfl)))) (mvT hZ (hw _ (List.mem_of_getElem? (i := 20) rfl))) (mvT hZ (hw _ (List.mem_of_getElem? (i := 19) rfl))) (by decide) (backOf (W := 0) (rm3 l Z a0 hw [] b5 (Int32.ofNat (o + ln)) (Int32.ofNat (o + ln)) T22.heap n0 zzI2 FPI2 FEI2) hZ (hw _ (List.mem_of_getElem? (i := 21) rfl)) (hw _ (List.mem_of_getElem? (i := 4) rfl)) (by decide) (by decide)) q24a q24c (g := (mkF m 155 #[.val (.int p1), .val (.int p2), .val (.int p3), .val (.int p4), .val (.int (Int32.ofNat o)), .val (.int (Int32.ofNat ln)), .val (.int (Int32.ofNat kk)), .val (.int uv), .val (.ref b3), .val (.ref b5), .val (.int (1 : Int32)), .val (.int (1 : Int32)), .unset] [(.ref b5)])) rfl (by rw [hml]; rfl) (Steps.refl _) (argsL := []) (rest := []) (lenOf pd_1 rfl) rfl (by show 2 * 0 + _ ≤ _; exact Nat.le_of_eq rfl) (hb hby at_155) (fun _ _ => ⟨rfl, rfl, (by decide : 2 + 0 ≤ _), (by decide : 19 + 0 ≤ _)⟩)
    dsimp only [Pt.U, Pt.locs, Pt.cells, Pt.slots] at X24 l24 y24 z24 st24 hQ24
    subst l24 y24 z24
    obtain ⟨rfl, N24q, hh24⟩ := hQ24
    have N24 := Fr.app N22 N24q
    have sg25 : ∀ t₀, Steps p.tables e below (T24.setTop (mkF m 180 #[.val (.int p1), .val (.int p2), .val (.int p3), .val (.int p4), .val (.int (Int32.ofNat o)), .val (.int (Int32.ofNat ln)), .val (.int (Int32.ofNat kk)), .val (.int uv), .val (.ref b3), .val (.ref b5), .val (.int (1 : Int32)), .val (.int (1 : Int32)), .val (.int (own_e (Int32.ofNat (o + ln)) (Int32.ofNat (o + ln))))] [(.int (1 : Int32))])) t₀ → Steps p.tables e below (T24.setTop (mkF m 158 #[.val (.int p1), .val (.int p2), .val (.int p3), .val (.int p4), .val (.int (Int32.ofNat o)), .val (.int (Int32.ofNat ln)), .val (.int (Int32.ofNat kk)), .val (.int uv), .val (.ref b3), .val (.ref b5), .val (.int (1 : Int32)), .val (.int (1 : Int32)), .unset] [(.int (own_e (Int32.ofNat (o + ln)) (Int32.ofNat (o + ln))))])) t₀ := by
      intro t₀ kt
      show Steps p.tables e below (T24.setTop (mkF m 158 #[.val (.int p1), .val (.int p2), .val (.int p3), .val (.int p4), .val (.int (Int32.ofNat o)), .val (.int (Int32.ofNat ln)), .val (.int (Int32.ofNat kk)), .val (.int uv), .val (.ref b3), .val (.ref b5), .val (.int (1 : Int32)), .val (.int (1 : Int32)), .unset] [(.int (own_e (Int32.ofNat (o + ln)) (Int32.ofNat (o + ln))))])) _
      refine XS.istore X24.here hx rfl (hb hby at_158) rfl (l' := #[.val (.int p1), .val (.int p2), .val (.int p3), .val (.int p4), .val (.int (Int32.ofNat o)), .val (.int (Int32.ofNat ln)), .val (.int (Int32.ofNat kk)), .val (.int uv), .val (.ref b3), .val (.ref b5), .val (.int (1 : Int32)), .val (.int (1 : Int32)), .val (.int (own_e (Int32.ofNat (o + ln)) (Int32.ofNat (o + ln))))]) rfl ?_
      show Steps p.tables e below (T24.setTop (mkF m 160 #[.val (.int p1), .val (.int p2), .val (.int p3), .val (.int p4), .val (.int (Int32.ofNat o)), .val (.int (Int32.ofNat ln)), .val (.int (Int32.ofNat kk)), .val (.int uv), .val (.ref b3), .val (.ref b5), .val (.int (1 : Int32)), .val (.int (1 : Int32)), .val (.int (own_e (Int32.ofNat (o + ln)) (Int32.ofNat (o + ln))))] [])) _
      refine XS.iload X24.here hx rfl (hb hby at_160) rfl ?_
      show Steps p.tables e below (T24.setTop (mkF m 162 #[.val (.int p1), .val (.int p2), .val (.int p3), .val (.int p4), .val (.int (Int32.ofNat o)), .val (.int (Int32.ofNat ln)), .val (.int (Int32.ofNat kk)), .val (.int uv), .val (.ref b3), .val (.ref b5), .val (.int (1 : Int32)), .val (.int (1 : Int32)), .val (.int (own_e (Int32.ofNat (o + ln)) (Int32.ofNat (o + ln))))] [(.int (1 : Int32))])) _
      refine XS.ifNo X24.here hx rfl (hb hby at_162) rfl ((if0 _ _).trans (feq (by decide : ¬ ((1 : Int32) = (0 : Int32)))).1) ?_
      show Steps p.tables e below (T24.setTop (mkF m 165 #[.val (.int p1), .val (.int p2), .val (.int p3), .val (.int p4), .val (.int (Int32.ofNat o)), .val (.int (Int32.ofNat ln)), .val (.int (Int32.ofNat kk)), .val (.int uv), .val (.ref b3), .val (.ref b5), .val (.int (1 : Int32)), .val (.int (1 : Int32)), .val (.int (own_e (Int32.ofNat (o + ln)) (Int32.ofNat (o + ln))))] [])) _
      refine XS.iload X24.here hx rfl (hb hby at_165) rfl ?_
      show Steps p.tables e below (T24.setTop (mkF m 167 #[.val (.int p1), .val (.int p2), .val (.int p3), .val (.int p4), .val (.int (Int32.ofNat o)), .val (.int (Int32.ofNat ln)), .val (.int (Int32.ofNat kk)), .val (.int uv), .val (.ref b3), .val (.ref b5), .val (.int (1 : Int32)), .val (.int (1 : Int32)), .val (.int (own_e (Int32.ofNat (o + ln)) (Int32.ofNat (o + ln))))] [(.int (1 : Int32))])) _
      refine XS.ifNo X24.here hx rfl (hb hby at_167) rfl ((if0 _ _).trans (feq (by decide : ¬ ((1 : Int32) = (0 : Int32)))).1) ?_
      show Steps p.tables e below (T24.setTop (mkF m 170 #[.val (.int p1), .val (.int p2), .val (.int p3), .val (.int p4), .val (.int (Int32.ofNat o)), .val (.int (Int32.ofNat ln)), .val (.int (Int32.ofNat kk)), .val (.int uv), .val (.ref b3), .val (.ref b5), .val (.int (1 : Int32)), .val (.int (1 : Int32)), .val (.int (own_e (Int32.ofNat (o + ln)) (Int32.ofNat (o + ln))))] [])) _
      refine XS.iload X24.here hx rfl (hb hby at_170) rfl ?_
      show Steps p.tables e below (T24.setTop (mkF m 172 #[.val (.int p1), .val (.int p2), .val (.int p3), .val (.int p4), .val (.int (Int32.ofNat o)), .val (.int (Int32.ofNat ln)), .val (.int (Int32.ofNat kk)), .val (.int uv), .val (.ref b3), .val (.ref b5), .val (.int (1 : Int32)), .val (.int (1 : Int32)), .val (.int (own_e (Int32.ofNat (o + ln)) (Int32.ofNat (o + ln))))] [(.int (own_e (Int32.ofNat (o + ln)) (Int32.ofNat (o + ln))))])) _
      refine XS.ifNo X24.here hx rfl (hb hby at_172) rfl ((if0 _ _).trans (feq (by rw [own_e1]; decide : ¬ (own_e (Int32.ofNat (o + ln)) (Int32.ofNat (o + ln))) = (0 : Int32))).1) ?_
      show Steps p.tables e below (T24.setTop (mkF m 175 #[.val (.int p1), .val (.int p2), .val (.int p3), .val (.int p4), .val (.int (Int32.ofNat o)), .val (.int (Int32.ofNat ln)), .val (.int (Int32.ofNat kk)), .val (.int uv), .val (.ref b3), .val (.ref b5), .val (.int (1 : Int32)), .val (.int (1 : Int32)), .val (.int (own_e (Int32.ofNat (o + ln)) (Int32.ofNat (o + ln))))] [])) _
      refine XS.iconst X24.here hx rfl (hb hby at_175) ?_
      show Steps p.tables e below (T24.setTop (mkF m 176 #[.val (.int p1), .val (.int p2), .val (.int p3), .val (.int p4), .val (.int (Int32.ofNat o)), .val (.int (Int32.ofNat ln)), .val (.int (Int32.ofNat kk)), .val (.int uv), .val (.ref b3), .val (.ref b5), .val (.int (1 : Int32)), .val (.int (1 : Int32)), .val (.int (own_e (Int32.ofNat (o + ln)) (Int32.ofNat (o + ln))))] [(.int (1 : Int32))])) _
      refine XS.goto X24.here hx rfl (pc0 := 176) (pc' := 180) rfl (hb hby at_176) (by decide) (by decide) ?_
      exact kt
    obtain ⟨fs, hr, hrun, hended, hW, hsame⟩ := X24.leave (v := some (.int (1 : Int32))) (fun h => by rw [Bd.returns] at h; cases h)
    refine ⟨_, _, pre0 _ ?_, hrun, hended, _, _, rfl, ?_, ⟨_, rfl⟩, hW, hsame.mono (by decide) (by decide)⟩
    · exact sa _ (sb _ (sc _ (sj1 _ (sg2 _ (st3 _ (sg4 _ (st5 _ (sg6 _ (st7.trans (sg8 _ (st9.trans (sg10 _ (sj11 _ (sg12 _ (sg13 _ (sg14 _ (sg15 _ (st16.trans (sg17 _ (st18.trans (sj19 _ (sg20 _ (sg21 _ (st22.trans (sg23 _ (st24.trans (sg25 _ ((retN X24 hx (t := .boolean) Bd.returns (by simp) (hb hby at_180) hr)))))))))))))))))))))))))))))
    · show Q0 Z p1 p2 p3 p4 h0 n0 _ T24.heap _
      rw [hh24]
      exact ⟨rfl, N24⟩
  · have sg26 : ∀ t₀, Steps p.tables e below (T9.setTop (mkF m 93 #[.val (.int p1), .val (.int p2), .val (.int p3), .val (.int p4), .val (.int (Int32.ofNat o)), .val (.int (Int32.ofNat ln)), .val (.int (Int32.ofNat kk)), .val (.int uv), .val (.ref b3), .val (.ref b5), .val (.int (1 : Int32)), .unset, .unset] [(.int (1 : Int32)), (.int (Int32.ofNat kk))])) t₀ → Steps p.tables e below (T9.setTop (mkF m 87 #[.val (.int p1), .val (.int p2), .val (.int p3), .val (.int p4), .val (.int (Int32.ofNat o)), .val (.int (Int32.ofNat ln)), .val (.int (Int32.ofNat kk)), .val (.int uv), .val (.ref b3), .val (.ref b5), .val (.int (1 : Int32)), .unset, .unset] [(.int uv)])) t₀ := by
      intro t₀ kt
      show Steps p.tables e below (T9.setTop (mkF m 87 #[.val (.int p1), .val (.int p2), .val (.int p3), .val (.int p4), .val (.int (Int32.ofNat o)), .val (.int (Int32.ofNat ln)), .val (.int (Int32.ofNat kk)), .val (.int uv), .val (.ref b3), .val (.ref b5), .val (.int (1 : Int32)), .unset, .unset] [(.int uv)])) _
      refine XS.ifNo X9.here hx rfl (hb hby at_87) rfl ((if0 _ _).trans (feq hu).1) ?_
      show Steps p.tables e below (T9.setTop (mkF m 90 #[.val (.int p1), .val (.int p2), .val (.int p3), .val (.int p4), .val (.int (Int32.ofNat o)), .val (.int (Int32.ofNat ln)), .val (.int (Int32.ofNat kk)), .val (.int uv), .val (.ref b3), .val (.ref b5), .val (.int (1 : Int32)), .unset, .unset] [])) _
      refine XS.iload X9.here hx rfl (hb hby at_90) rfl ?_
      show Steps p.tables e below (T9.setTop (mkF m 92 #[.val (.int p1), .val (.int p2), .val (.int p3), .val (.int p4), .val (.int (Int32.ofNat o)), .val (.int (Int32.ofNat ln)), .val (.int (Int32.ofNat kk)), .val (.int uv), .val (.ref b3), .val (.ref b5), .val (.int (1 : Int32)), .unset, .unset] [(.int (Int32.ofNat kk))])) _
      refine XS.iconst X9.here hx rfl (hb hby at_92) ?_
      exact kt
    by_cases hk1 : (Int32.ofNat kk) < (1 : Int32)
    · have sg27 : ∀ t₀, Steps p.tables e below (T9.setTop (mkF m 107 #[.val (.int p1), .val (.int p2), .val (.int p3), .val (.int p4), .val (.int (Int32.ofNat o)), .val (.int (Int32.ofNat ln)), .val (.int (Int32.ofNat kk)), .val (.int uv), .val (.ref b3), .val (.ref b5), .val (.int (1 : Int32)), .unset, .unset] [])) t₀ → Steps p.tables e below (T9.setTop (mkF m 93 #[.val (.int p1), .val (.int p2), .val (.int p3), .val (.int p4), .val (.int (Int32.ofNat o)), .val (.int (Int32.ofNat ln)), .val (.int (Int32.ofNat kk)), .val (.int uv), .val (.ref b3), .val (.ref b5), .val (.int (1 : Int32)), .unset, .unset] [(.int (1 : Int32)), (.int (Int32.ofNat kk))])) t₀ := by
        intro t₀ kt
        show Steps p.tables e below (T9.setTop (mkF m 93 #[.val (.int p1), .val (.int p2), .val (.int p3), .val (.int p4), .val (.int (Int32.ofNat o)), .val (.int (Int32.ofNat ln)), .val (.int (Int32.ofNat kk)), .val (.int uv), .val (.ref b3), .val (.ref b5), .val (.int (1 : Int32)), .unset, .unset] [(.int (1 : Int32)), (.int (Int32.ofNat kk))])) _
        refine XS.icmpYes X9.here hx rfl (pc0 := 93) (pc' := 107) rfl (hb hby at_93) rfl (tlt hk1).1 (by decide) (by decide) ?_
        exact kt
      have sg28 : ∀ t₀, Steps p.tables e below (T9.setTop (mkF m 112 #[.val (.int p1), .val (.int p2), .val (.int p3), .val (.int p4), .val (.int (Int32.ofNat o)), .val (.int (Int32.ofNat ln)), .val (.int (Int32.ofNat kk)), .val (.int uv), .val (.ref b3), .val (.ref b5), .val (.int (1 : Int32)), .unset, .unset] [(.long ((Int32.ofNat kk).toInt64)), (.ref b5)])) t₀ → Steps p.tables e below (T9.setTop (mkF m 107 #[.val (.int p1), .val (.int p2), .val (.int p3), .val (.int p4), .val (.int (Int32.ofNat o)), .val (.int (Int32.ofNat ln)), .val (.int (Int32.ofNat kk)), .val (.int uv), .val (.ref b3), .val (.ref b5), .val (.int (1 : Int32)), .unset, .unset] [])) t₀ := by
        intro t₀ kt
        show Steps p.tables e below (T9.setTop (mkF m 107 #[.val (.int p1), .val (.int p2), .val (.int p3), .val (.int p4), .val (.int (Int32.ofNat o)), .val (.int (Int32.ofNat ln)), .val (.int (Int32.ofNat kk)), .val (.int uv), .val (.ref b3), .val (.ref b5), .val (.int (1 : Int32)), .unset, .unset] [])) _
        refine XS.aload X9.here hx rfl (hb hby at_107) rfl rfl ?_
        show Steps p.tables e below (T9.setTop (mkF m 109 #[.val (.int p1), .val (.int p2), .val (.int p3), .val (.int p4), .val (.int (Int32.ofNat o)), .val (.int (Int32.ofNat ln)), .val (.int (Int32.ofNat kk)), .val (.int uv), .val (.ref b3), .val (.ref b5), .val (.int (1 : Int32)), .unset, .unset] [(.ref b5)])) _
        refine XS.iload X9.here hx rfl (hb hby at_109) rfl ?_
        show Steps p.tables e below (T9.setTop (mkF m 111 #[.val (.int p1), .val (.int p2), .val (.int p3), .val (.int p4), .val (.int (Int32.ofNat o)), .val (.int (Int32.ofNat ln)), .val (.int (Int32.ofNat kk)), .val (.int uv), .val (.ref b3), .val (.ref b5), .val (.int (1 : Int32)), .unset, .unset] [(.int (Int32.ofNat kk)), (.ref b5)])) _
        refine XS.i2l X9.here hx rfl (hb hby at_111) rfl ?_
        exact kt
      obtain ⟨cq29, kq29, q29a, q29b, q29c⟩ := isOf hZ hh9 EEI0
      obtain ⟨_, _, ⟨T29, L29, k29, n29⟩, -, X29, ⟨Lc29, hQ29, l29, y29, z29⟩, st29⟩ := X9.virtualBack hx (y := (⟨"com/example/annalist/annalist/store/RecordCodec$Input", "skip", "(J)V"⟩ : MethodName)) (z := (⟨"com/example/annalist/annalist/store/RecordCodec$Input", "skip", "(J)V"⟩ : MethodName)) hown (mvT hZ (hw _ (List.mem_of_getElem? (i := 31) rfl))) (mvT hZ (hw _ (List.mem_of_getElem? (i := 32) rfl))) (notFace_of_selects (args := #[]) (mvT hZ (hw _ (List.mem_of_getElem? (i := 34) rfl)))) (mvT hZ (hw _ (List.mem_of_getElem? (i := 34) rfl))) (mvT hZ (hw _ (List.mem_of_getElem? (i := 33) rfl))) (by decide) (backOf (W := 0) (rm6 l Z a0 hw [] b5 ((Int32.ofNat kk).toInt64) b3 o (o + ln) kk T7.heap n0 zzI0 g_b5 ne I0 (own_l (by omega)) (by omega) (by omega)) hZ (hw _ (List.mem_of_getElem? (i := 35) rfl)) (hw _ (List.mem_of_getElem? (i := 4) rfl)) (by decide) (by decide)) q29a q29c (g := (mkF m 112 #[.val (.int p1), .val (.int p2), .val (.int p3), .val (.int p4), .val (.int (Int32.ofNat o)), .val (.int (Int32.ofNat ln)), .val (.int (Int32.ofNat kk)), .val (.int uv), .val (.ref b3), .val (.ref b5), .val (.int (1 : Int32)), .unset, .unset] [(.long ((Int32.ofNat kk).toInt64)), (.ref b5)])) rfl (by rw [hml]; rfl) (Steps.refl _) (argsL := [(.long ((Int32.ofNat kk).toInt64))]) (rest := []) (lenOf pd_6 rfl) rfl (by show 2 * 0 + _ ≤ _; exact Nat.le_of_eq rfl) (hb hby at_112) (fun _ _ => ⟨rfl, hh9, (by decide : 2 + 0 ≤ _), (by decide : 19 + 0 ≤ _)⟩)
      dsimp only [Pt.U, Pt.locs, Pt.cells, Pt.slots] at X29 l29 y29 z29 st29 hQ29
      subst l29 y29 z29
      obtain ⟨rfl, N29q, I1⟩ := hQ29
      have N29 := Fr.app N9 N29q
      have sg30 : ∀ t₀, Steps p.tables e below (T29.setTop (mkF m 117 #[.val (.int p1), .val (.int p2), .val (.int p3), .val (.int p4), .val (.int (Int32.ofNat o)), .val (.int (Int32.ofNat ln)), .val (.int (Int32.ofNat kk)), .val (.int uv), .val (.ref b3), .val (.ref b5), .val (.int (1 : Int32)), .unset, .unset] [(.ref b5)])) t₀ → Steps p.tables e below (T29.setTop (mkF m 115 #[.val (.int p1), .val (.int p2), .val (.int p3), .val (.int p4), .val (.int (Int32.ofNat o)), .val (.int (Int32.ofNat ln)), .val (.int (Int32.ofNat kk)), .val (.int uv), .val (.ref b3), .val (.ref b5), .val (.int (1 : Int32)), .unset, .unset] [])) t₀ := by
        intro t₀ kt
        show Steps p.tables e below (T29.setTop (mkF m 115 #[.val (.int p1), .val (.int p2), .val (.int p3), .val (.int p4), .val (.int (Int32.ofNat o)), .val (.int (Int32.ofNat ln)), .val (.int (Int32.ofNat kk)), .val (.int uv), .val (.ref b3), .val (.ref b5), .val (.int (1 : Int32)), .unset, .unset] [])) _
        refine XS.aload X29.here hx rfl (hb hby at_115) rfl rfl ?_
        exact kt
      have I1x := id I1
      obtain ⟨zzI1, EEI1, FBI1, FEI1, FPI1, AAI1⟩ := I1x
      obtain ⟨cq31, kq31, q31a, q31b, q31c⟩ := isOf hZ rfl EEI1
      obtain ⟨_, _, ⟨T31, L31, k31, n31⟩, -, X31, ⟨Lc31, hQ31, l31, y31, z31⟩, st31⟩ := X29.virtualBack hx (y := (⟨"com/example/annalist/annalist/store/RecordCodec$Input", "atEnd", "()Z"⟩ : MethodName)) (z := (⟨"com/example/annalist/annalist/store/RecordCodec$Input", "atEnd", "()Z"⟩ : MethodName)) hown (mvT hZ (hw _ (List.mem_of_getElem? (i := 17) rfl))) (mvT hZ (hw _ (List.mem_of_getElem? (i := 18) rfl))) (notFace_of_selects (args := #[]) (mvT hZ (hw _ (List.mem_of_getElem? (i := 20) rfl)))) (mvT hZ (hw _ (List.mem_of_getElem? (i := 20) rfl))) (mvT hZ (hw _ (List.mem_of_getElem? (i := 19) rfl))) (by decide) (backOf (W := 0) (rm3 l Z a0 hw [] b5 (Int32.ofNat (o + kk)) (Int32.ofNat (o + ln)) T29.heap n0 zzI1 FPI1 FEI1) hZ (hw _ (List.mem_of_getElem? (i := 21) rfl)) (hw _ (List.mem_of_getElem? (i := 4) rfl)) (by decide) (by decide)) q31a q31c (g := (mkF m 117 #[.val (.int p1), .val (.int p2), .val (.int p3), .val (.int p4), .val (.int (Int32.ofNat o)), .val (.int (Int32.ofNat ln)), .val (.int (Int32.ofNat kk)), .val (.int uv), .val (.ref b3), .val (.ref b5), .val (.int (1 : Int32)), .unset, .unset] [(.ref b5)])) rfl (by rw [hml]; rfl) (Steps.refl _) (argsL := []) (rest := []) (lenOf pd_1 rfl) rfl (by show 2 * 0 + _ ≤ _; exact Nat.le_of_eq rfl) (hb hby at_117) (fun _ _ => ⟨rfl, rfl, (by decide : 2 + 0 ≤ _), (by decide : 19 + 0 ≤ _)⟩)
      dsimp only [Pt.U, Pt.locs, Pt.cells, Pt.slots] at X31 l31 y31 z31 st31 hQ31
      subst l31 y31 z31
      obtain ⟨rfl, N31q, hh31⟩ := hQ31
      have N31 := Fr.app N29 N31q
      obtain ⟨b2, hsj32, sj32⟩ : ∃ b2 : Int32, (b2 = own_e (Int32.ofNat kk) (Int32.ofNat ln)) ∧ ∀ t₀, Steps p.tables e below (T31.setTop (mkF m 132 #[.val (.int p1), .val (.int p2), .val (.int p3), .val (.int p4), .val (.int (Int32.ofNat o)), .val (.int (Int32.ofNat ln)), .val (.int (Int32.ofNat kk)), .val (.int uv), .val (.ref b3), .val (.ref b5), .val (.int (1 : Int32)), .unset, .unset] [(.int b2), (.int (own_e (Int32.ofNat (o + kk)) (Int32.ofNat (o + ln))))])) t₀ → Steps p.tables e below (T31.setTop (mkF m 120 #[.val (.int p1), .val (.int p2), .val (.int p3), .val (.int p4), .val (.int (Int32.ofNat o)), .val (.int (Int32.ofNat ln)), .val (.int (Int32.ofNat kk)), .val (.int uv), .val (.ref b3), .val (.ref b5), .val (.int (1 : Int32)), .unset, .unset] [(.int (own_e (Int32.ofNat (o + kk)) (Int32.ofNat (o + ln))))])) t₀ := by
        by_cases hc124 : (Int32.ofNat kk) = (Int32.ofNat ln)
        · refine ⟨(1 : Int32), by first | exact own_ep hc124 | exact own_en hc124, fun t₀ kt => ?_⟩
          show Steps p.tables e below (T31.setTop (mkF m 120 #[.val (.int p1), .val (.int p2), .val (.int p3), .val (.int p4), .val (.int (Int32.ofNat o)), .val (.int (Int32.ofNat ln)), .val (.int (Int32.ofNat kk)), .val (.int uv), .val (.ref b3), .val (.ref b5), .val (.int (1 : Int32)), .unset, .unset] [(.int (own_e (Int32.ofNat (o + kk)) (Int32.ofNat (o + ln))))])) _
          refine XS.iload X31.here hx rfl (hb hby at_120) rfl ?_
          show Steps p.tables e below (T31.setTop (mkF m 122 #[.val (.int p1), .val (.int p2), .val (.int p3), .val (.int p4), .val (.int (Int32.ofNat o)), .val (.int (Int32.ofNat ln)), .val (.int (Int32.ofNat kk)), .val (.int uv), .val (.ref b3), .val (.ref b5), .val (.int (1 : Int32)), .unset, .unset] [(.int (Int32.ofNat kk)), (.int (own_e (Int32.ofNat (o + kk)) (Int32.ofNat (o + ln))))])) _
          refine XS.iload X31.here hx rfl (hb hby at_122) rfl ?_
          show Steps p.tables e below (T31.setTop (mkF m 124 #[.val (.int p1), .val (.int p2), .val (.int p3), .val (.int p4), .val (.int (Int32.ofNat o)), .val (.int (Int32.ofNat ln)), .val (.int (Int32.ofNat kk)), .val (.int uv), .val (.ref b3), .val (.ref b5), .val (.int (1 : Int32)), .unset, .unset] [(.int (Int32.ofNat ln)), (.int (Int32.ofNat kk)), (.int (own_e (Int32.ofNat (o + kk)) (Int32.ofNat (o + ln))))])) _
          refine XS.icmpNo X31.here hx rfl (hb hby at_124) rfl (teq hc124).2 ?_
          show Steps p.tables e below (T31.setTop (mkF m 127 #[.val (.int p1), .val (.int p2), .val (.int p3), .val (.int p4), .val (.int (Int32.ofNat o)), .val (.int (Int32.ofNat ln)), .val (.int (Int32.ofNat kk)), .val (.int uv), .val (.ref b3), .val (.ref b5), .val (.int (1 : Int32)), .unset, .unset] [(.int (own_e (Int32.ofNat (o + kk)) (Int32.ofNat (o + ln))))])) _
          refine XS.iconst X31.here hx rfl (hb hby at_127) ?_
          show Steps p.tables e below (T31.setTop (mkF m 128 #[.val (.int p1), .val (.int p2), .val (.int p3), .val (.int p4), .val (.int (Int32.ofNat o)), .val (.int (Int32.ofNat ln)), .val (.int (Int32.ofNat kk)), .val (.int uv), .val (.ref b3), .val (.ref b5), .val (.int (1 : Int32)), .unset, .unset] [(.int (1 : Int32)), (.int (own_e (Int32.ofNat (o + kk)) (Int32.ofNat (o + ln))))])) _
          refine XS.goto X31.here hx rfl (pc0 := 128) (pc' := 132) rfl (hb hby at_128) (by decide) (by decide) ?_
          exact kt
        · refine ⟨(0 : Int32), by first | exact own_ep hc124 | exact own_en hc124, fun t₀ kt => ?_⟩
          show Steps p.tables e below (T31.setTop (mkF m 120 #[.val (.int p1), .val (.int p2), .val (.int p3), .val (.int p4), .val (.int (Int32.ofNat o)), .val (.int (Int32.ofNat ln)), .val (.int (Int32.ofNat kk)), .val (.int uv), .val (.ref b3), .val (.ref b5), .val (.int (1 : Int32)), .unset, .unset] [(.int (own_e (Int32.ofNat (o + kk)) (Int32.ofNat (o + ln))))])) _
          refine XS.iload X31.here hx rfl (hb hby at_120) rfl ?_
          show Steps p.tables e below (T31.setTop (mkF m 122 #[.val (.int p1), .val (.int p2), .val (.int p3), .val (.int p4), .val (.int (Int32.ofNat o)), .val (.int (Int32.ofNat ln)), .val (.int (Int32.ofNat kk)), .val (.int uv), .val (.ref b3), .val (.ref b5), .val (.int (1 : Int32)), .unset, .unset] [(.int (Int32.ofNat kk)), (.int (own_e (Int32.ofNat (o + kk)) (Int32.ofNat (o + ln))))])) _
          refine XS.iload X31.here hx rfl (hb hby at_122) rfl ?_
          show Steps p.tables e below (T31.setTop (mkF m 124 #[.val (.int p1), .val (.int p2), .val (.int p3), .val (.int p4), .val (.int (Int32.ofNat o)), .val (.int (Int32.ofNat ln)), .val (.int (Int32.ofNat kk)), .val (.int uv), .val (.ref b3), .val (.ref b5), .val (.int (1 : Int32)), .unset, .unset] [(.int (Int32.ofNat ln)), (.int (Int32.ofNat kk)), (.int (own_e (Int32.ofNat (o + kk)) (Int32.ofNat (o + ln))))])) _
          refine XS.icmpYes X31.here hx rfl (pc0 := 124) (pc' := 131) rfl (hb hby at_124) rfl (feq hc124).2 (by decide) (by decide) ?_
          show Steps p.tables e below (T31.setTop (mkF m 131 #[.val (.int p1), .val (.int p2), .val (.int p3), .val (.int p4), .val (.int (Int32.ofNat o)), .val (.int (Int32.ofNat ln)), .val (.int (Int32.ofNat kk)), .val (.int uv), .val (.ref b3), .val (.ref b5), .val (.int (1 : Int32)), .unset, .unset] [(.int (own_e (Int32.ofNat (o + kk)) (Int32.ofNat (o + ln))))])) _
          refine XS.iconst X31.here hx rfl (hb hby at_131) ?_
          exact kt
      have sg33 : ∀ t₀, Steps p.tables e below (T31.setTop (mkF m 142 #[.val (.int p1), .val (.int p2), .val (.int p3), .val (.int p4), .val (.int (Int32.ofNat o)), .val (.int (Int32.ofNat ln)), .val (.int (Int32.ofNat kk)), .val (.int uv), .val (.ref b3), .val (.ref b5), .val (.int (1 : Int32)), .val (.int (1 : Int32)), .unset] [])) t₀ → Steps p.tables e below (T31.setTop (mkF m 132 #[.val (.int p1), .val (.int p2), .val (.int p3), .val (.int p4), .val (.int (Int32.ofNat o)), .val (.int (Int32.ofNat ln)), .val (.int (Int32.ofNat kk)), .val (.int uv), .val (.ref b3), .val (.ref b5), .val (.int (1 : Int32)), .unset, .unset] [(.int b2), (.int (own_e (Int32.ofNat (o + kk)) (Int32.ofNat (o + ln))))])) t₀ := by
        intro t₀ kt
        show Steps p.tables e below (T31.setTop (mkF m 132 #[.val (.int p1), .val (.int p2), .val (.int p3), .val (.int p4), .val (.int (Int32.ofNat o)), .val (.int (Int32.ofNat ln)), .val (.int (Int32.ofNat kk)), .val (.int uv), .val (.ref b3), .val (.ref b5), .val (.int (1 : Int32)), .unset, .unset] [(.int b2), (.int (own_e (Int32.ofNat (o + kk)) (Int32.ofNat (o + ln))))])) _
        refine XS.icmpNo X31.here hx rfl (hb hby at_132) rfl (teq ((own_same (by omega) (by omega) (by omega) (by omega) (by omega)).trans hsj32.symm)).2 ?_
        show Steps p.tables e below (T31.setTop (mkF m 135 #[.val (.int p1), .val (.int p2), .val (.int p3), .val (.int p4), .val (.int (Int32.ofNat o)), .val (.int (Int32.ofNat ln)), .val (.int (Int32.ofNat kk)), .val (.int uv), .val (.ref b3), .val (.ref b5), .val (.int (1 : Int32)), .unset, .unset] [])) _
        refine XS.iconst X31.here hx rfl (hb hby at_135) ?_
        show Steps p.tables e below (T31.setTop (mkF m 136 #[.val (.int p1), .val (.int p2), .val (.int p3), .val (.int p4), .val (.int (Int32.ofNat o)), .val (.int (Int32.ofNat ln)), .val (.int (Int32.ofNat kk)), .val (.int uv), .val (.ref b3), .val (.ref b5), .val (.int (1 : Int32)), .unset, .unset] [(.int (1 : Int32))])) _
        refine XS.goto X31.here hx rfl (pc0 := 136) (pc' := 140) rfl (hb hby at_136) (by decide) (by decide) ?_
        show Steps p.tables e below (T31.setTop (mkF m 140 #[.val (.int p1), .val (.int p2), .val (.int p3), .val (.int p4), .val (.int (Int32.ofNat o)), .val (.int (Int32.ofNat ln)), .val (.int (Int32.ofNat kk)), .val (.int uv), .val (.ref b3), .val (.ref b5), .val (.int (1 : Int32)), .unset, .unset] [(.int (1 : Int32))])) _
        refine XS.istore X31.here hx rfl (hb hby at_140) rfl (l' := #[.val (.int p1), .val (.int p2), .val (.int p3), .val (.int p4), .val (.int (Int32.ofNat o)), .val (.int (Int32.ofNat ln)), .val (.int (Int32.ofNat kk)), .val (.int uv), .val (.ref b3), .val (.ref b5), .val (.int (1 : Int32)), .val (.int (1 : Int32)), .unset]) rfl ?_
        exact kt
      have sg34 : ∀ t₀, Steps p.tables e below (T31.setTop (mkF m 150 #[.val (.int p1), .val (.int p2), .val (.int p3), .val (.int p4), .val (.int (Int32.ofNat o)), .val (.int (Int32.ofNat ln)), .val (.int (Int32.ofNat kk)), .val (.int uv), .val (.ref b3), .val (.ref b5), .val (.int (1 : Int32)), .val (.int (1 : Int32)), .unset] [(.long (((Int32.ofNat ln) - (Int32.ofNat kk)).toInt64)), (.ref b5)])) t₀ → Steps p.tables e below (T31.setTop (mkF m 142 #[.val (.int p1), .val (.int p2), .val (.int p3), .val (.int p4), .val (.int (Int32.ofNat o)), .val (.int (Int32.ofNat ln)), .val (.int (Int32.ofNat kk)), .val (.int uv), .val (.ref b3), .val (.ref b5), .val (.int (1 : Int32)), .val (.int (1 : Int32)), .unset] [])) t₀ := by
        intro t₀ kt
        show Steps p.tables e below (T31.setTop (mkF m 142 #[.val (.int p1), .val (.int p2), .val (.int p3), .val (.int p4), .val (.int (Int32.ofNat o)), .val (.int (Int32.ofNat ln)), .val (.int (Int32.ofNat kk)), .val (.int uv), .val (.ref b3), .val (.ref b5), .val (.int (1 : Int32)), .val (.int (1 : Int32)), .unset] [])) _
        refine XS.aload X31.here hx rfl (hb hby at_142) rfl rfl ?_
        show Steps p.tables e below (T31.setTop (mkF m 144 #[.val (.int p1), .val (.int p2), .val (.int p3), .val (.int p4), .val (.int (Int32.ofNat o)), .val (.int (Int32.ofNat ln)), .val (.int (Int32.ofNat kk)), .val (.int uv), .val (.ref b3), .val (.ref b5), .val (.int (1 : Int32)), .val (.int (1 : Int32)), .unset] [(.ref b5)])) _
        refine XS.iload X31.here hx rfl (hb hby at_144) rfl ?_
        show Steps p.tables e below (T31.setTop (mkF m 146 #[.val (.int p1), .val (.int p2), .val (.int p3), .val (.int p4), .val (.int (Int32.ofNat o)), .val (.int (Int32.ofNat ln)), .val (.int (Int32.ofNat kk)), .val (.int uv), .val (.ref b3), .val (.ref b5), .val (.int (1 : Int32)), .val (.int (1 : Int32)), .unset] [(.int (Int32.ofNat ln)), (.ref b5)])) _
        refine XS.iload X31.here hx rfl (hb hby at_146) rfl ?_
        show Steps p.tables e below (T31.setTop (mkF m 148 #[.val (.int p1), .val (.int p2), .val (.int p3), .val (.int p4), .val (.int (Int32.ofNat o)), .val (.int (Int32.ofNat ln)), .val (.int (Int32.ofNat kk)), .val (.int uv), .val (.ref b3), .val (.ref b5), .val (.int (1 : Int32)), .val (.int (1 : Int32)), .unset] [(.int (Int32.ofNat kk)), (.int (Int32.ofNat ln)), (.ref b5)])) _
        refine XS.isub X31.here hx rfl (hb hby at_148) rfl ?_
        show Steps p.tables e below (T31.setTop (mkF m 149 #[.val (.int p1), .val (.int p2), .val (.int p3), .val (.int p4), .val (.int (Int32.ofNat o)), .val (.int (Int32.ofNat ln)), .val (.int (Int32.ofNat kk)), .val (.int uv), .val (.ref b3), .val (.ref b5), .val (.int (1 : Int32)), .val (.int (1 : Int32)), .unset] [(.int ((Int32.ofNat ln) - (Int32.ofNat kk))), (.ref b5)])) _
        refine XS.i2l X31.here hx rfl (hb hby at_149) rfl ?_
        exact kt
      obtain ⟨cq35, kq35, q35a, q35b, q35c⟩ := isOf hZ hh31 EEI1
      obtain ⟨_, _, ⟨T35, L35, k35, n35⟩, -, X35, ⟨Lc35, hQ35, l35, y35, z35⟩, st35⟩ := X31.virtualBack hx (y := (⟨"com/example/annalist/annalist/store/RecordCodec$Input", "skip", "(J)V"⟩ : MethodName)) (z := (⟨"com/example/annalist/annalist/store/RecordCodec$Input", "skip", "(J)V"⟩ : MethodName)) hown (mvT hZ (hw _ (List.mem_of_getElem? (i := 31) rfl))) (mvT hZ (hw _ (List.mem_of_getElem? (i := 32) rfl))) (notFace_of_selects (args := #[]) (mvT hZ (hw _ (List.mem_of_getElem? (i := 34) rfl)))) (mvT hZ (hw _ (List.mem_of_getElem? (i := 34) rfl))) (mvT hZ (hw _ (List.mem_of_getElem? (i := 33) rfl))) (by decide) (backOf (W := 0) (rm6 l Z a0 hw [] b5 (((Int32.ofNat ln) - (Int32.ofNat kk)).toInt64) b3 (o + kk) (o + ln) (ln - kk) T29.heap n0 zzI1 g_b5 ne I1 (by rw [own_sub (by omega) (by omega), own_l (by omega)]) (by omega) (by omega)) hZ (hw _ (List.mem_of_getElem? (i := 35) rfl)) (hw _ (List.mem_of_getElem? (i := 4) rfl)) (by decide) (by decide)) q35a q35c (g := (mkF m 150 #[.val (.int p1), .val (.int p2), .val (.int p3), .val (.int p4), .val (.int (Int32.ofNat o)), .val (.int (Int32.ofNat ln)), .val (.int (Int32.ofNat kk)), .val (.int uv), .val (.ref b3), .val (.ref b5), .val (.int (1 : Int32)), .val (.int (1 : Int32)), .unset] [(.long (((Int32.ofNat ln) - (Int32.ofNat kk)).toInt64)), (.ref b5)])) rfl (by rw [hml]; rfl) (Steps.refl _) (argsL := [(.long (((Int32.ofNat ln) - (Int32.ofNat kk)).toInt64))]) (rest := []) (lenOf pd_6 rfl) rfl (by show 2 * 0 + _ ≤ _; exact Nat.le_of_eq rfl) (hb hby at_150) (fun _ _ => ⟨rfl, hh31, (by decide : 2 + 0 ≤ _), (by decide : 19 + 0 ≤ _)⟩)
      dsimp only [Pt.U, Pt.locs, Pt.cells, Pt.slots] at X35 l35 y35 z35 st35 hQ35
      subst l35 y35 z35
      obtain ⟨rfl, N35q, I2'⟩ := hQ35
      have N35 := Fr.app N31 N35q
      have I2 : own_I Z T35.heap n0 b5 b3 (o + ln) (o + ln) := by have z := I2'; rw [show o + kk + (ln - kk) = o + ln by omega] at z; exact z
      have sg36 : ∀ t₀, Steps p.tables e below (T35.setTop (mkF m 155 #[.val (.int p1), .val (.int p2), .val (.int p3), .val (.int p4), .val (.int (Int32.ofNat o)), .val (.int (Int32.ofNat ln)), .val (.int (Int32.ofNat kk)), .val (.int uv), .val (.ref b3), .val (.ref b5), .val (.int (1 : Int32)), .val (.int (1 : Int32)), .unset] [(.ref b5)])) t₀ → Steps p.tables e below (T35.setTop (mkF m 153 #[.val (.int p1), .val (.int p2), .val (.int p3), .val (.int p4), .val (.int (Int32.ofNat o)), .val (.int (Int32.ofNat ln)), .val (.int (Int32.ofNat kk)), .val (.int uv), .val (.ref b3), .val (.ref b5), .val (.int (1 : Int32)), .val (.int (1 : Int32)), .unset] [])) t₀ := by
        intro t₀ kt
        show Steps p.tables e below (T35.setTop (mkF m 153 #[.val (.int p1), .val (.int p2), .val (.int p3), .val (.int p4), .val (.int (Int32.ofNat o)), .val (.int (Int32.ofNat ln)), .val (.int (Int32.ofNat kk)), .val (.int uv), .val (.ref b3), .val (.ref b5), .val (.int (1 : Int32)), .val (.int (1 : Int32)), .unset] [])) _
        refine XS.aload X35.here hx rfl (hb hby at_153) rfl rfl ?_
        exact kt
      have I2x := id I2
      obtain ⟨zzI2, EEI2, FBI2, FEI2, FPI2, AAI2⟩ := I2x
      obtain ⟨cq37, kq37, q37a, q37b, q37c⟩ := isOf hZ rfl EEI2
      obtain ⟨_, _, ⟨T37, L37, k37, n37⟩, -, X37, ⟨Lc37, hQ37, l37, y37, z37⟩, st37⟩ := X35.virtualBack hx (y := (⟨"com/example/annalist/annalist/store/RecordCodec$Input", "atEnd", "()Z"⟩ : MethodName)) (z := (⟨"com/example/annalist/annalist/store/RecordCodec$Input", "atEnd", "()Z"⟩ : MethodName)) hown (mvT hZ (hw _ (List.mem_of_getElem? (i := 17) rfl))) (mvT hZ (hw _ (List.mem_of_getElem? (i := 18) rfl))) (notFace_of_selects (args := #[]) (mvT hZ (hw _ (List.mem_of_getElem? (i := 20) rfl)))) (mvT hZ (hw _ (List.mem_of_getElem? (i := 20) rfl))) (mvT hZ (hw _ (List.mem_of_getElem? (i := 19) rfl))) (by decide) (backOf (W := 0) (rm3 l Z a0 hw [] b5 (Int32.ofNat (o + ln)) (Int32.ofNat (o + ln)) T35.heap n0 zzI2 FPI2 FEI2) hZ (hw _ (List.mem_of_getElem? (i := 21) rfl)) (hw _ (List.mem_of_getElem? (i := 4) rfl)) (by decide) (by decide)) q37a q37c (g := (mkF m 155 #[.val (.int p1), .val (.int p2), .val (.int p3), .val (.int p4), .val (.int (Int32.ofNat o)), .val (.int (Int32.ofNat ln)), .val (.int (Int32.ofNat kk)), .val (.int uv), .val (.ref b3), .val (.ref b5), .val (.int (1 : Int32)), .val (.int (1 : Int32)), .unset] [(.ref b5)])) rfl (by rw [hml]; rfl) (Steps.refl _) (argsL := []) (rest := []) (lenOf pd_1 rfl) rfl (by show 2 * 0 + _ ≤ _; exact Nat.le_of_eq rfl) (hb hby at_155) (fun _ _ => ⟨rfl, rfl, (by decide : 2 + 0 ≤ _), (by decide : 19 + 0 ≤ _)⟩)
      dsimp only [Pt.U, Pt.locs, Pt.cells, Pt.slots] at X37 l37 y37 z37 st37 hQ37
      subst l37 y37 z37
      obtain ⟨rfl, N37q, hh37⟩ := hQ37
      have N37 := Fr.app N35 N37q
      have sg38 : ∀ t₀, Steps p.tables e below (T37.setTop (mkF m 180 #[.val (.int p1), .val (.int p2), .val (.int p3), .val (.int p4), .val (.int (Int32.ofNat o)), .val (.int (Int32.ofNat ln)), .val (.int (Int32.ofNat kk)), .val (.int uv), .val (.ref b3), .val (.ref b5), .val (.int (1 : Int32)), .val (.int (1 : Int32)), .val (.int (own_e (Int32.ofNat (o + ln)) (Int32.ofNat (o + ln))))] [(.int (1 : Int32))])) t₀ → Steps p.tables e below (T37.setTop (mkF m 158 #[.val (.int p1), .val (.int p2), .val (.int p3), .val (.int p4), .val (.int (Int32.ofNat o)), .val (.int (Int32.ofNat ln)), .val (.int (Int32.ofNat kk)), .val (.int uv), .val (.ref b3), .val (.ref b5), .val (.int (1 : Int32)), .val (.int (1 : Int32)), .unset] [(.int (own_e (Int32.ofNat (o + ln)) (Int32.ofNat (o + ln))))])) t₀ := by
        intro t₀ kt
        show Steps p.tables e below (T37.setTop (mkF m 158 #[.val (.int p1), .val (.int p2), .val (.int p3), .val (.int p4), .val (.int (Int32.ofNat o)), .val (.int (Int32.ofNat ln)), .val (.int (Int32.ofNat kk)), .val (.int uv), .val (.ref b3), .val (.ref b5), .val (.int (1 : Int32)), .val (.int (1 : Int32)), .unset] [(.int (own_e (Int32.ofNat (o + ln)) (Int32.ofNat (o + ln))))])) _
        refine XS.istore X37.here hx rfl (hb hby at_158) rfl (l' := #[.val (.int p1), .val (.int p2), .val (.int p3), .val (.int p4), .val (.int (Int32.ofNat o)), .val (.int (Int32.ofNat ln)), .val (.int (Int32.ofNat kk)), .val (.int uv), .val (.ref b3), .val (.ref b5), .val (.int (1 : Int32)), .val (.int (1 : Int32)), .val (.int (own_e (Int32.ofNat (o + ln)) (Int32.ofNat (o + ln))))]) rfl ?_
        show Steps p.tables e below (T37.setTop (mkF m 160 #[.val (.int p1), .val (.int p2), .val (.int p3), .val (.int p4), .val (.int (Int32.ofNat o)), .val (.int (Int32.ofNat ln)), .val (.int (Int32.ofNat kk)), .val (.int uv), .val (.ref b3), .val (.ref b5), .val (.int (1 : Int32)), .val (.int (1 : Int32)), .val (.int (own_e (Int32.ofNat (o + ln)) (Int32.ofNat (o + ln))))] [])) _
        refine XS.iload X37.here hx rfl (hb hby at_160) rfl ?_
        show Steps p.tables e below (T37.setTop (mkF m 162 #[.val (.int p1), .val (.int p2), .val (.int p3), .val (.int p4), .val (.int (Int32.ofNat o)), .val (.int (Int32.ofNat ln)), .val (.int (Int32.ofNat kk)), .val (.int uv), .val (.ref b3), .val (.ref b5), .val (.int (1 : Int32)), .val (.int (1 : Int32)), .val (.int (own_e (Int32.ofNat (o + ln)) (Int32.ofNat (o + ln))))] [(.int (1 : Int32))])) _
        refine XS.ifNo X37.here hx rfl (hb hby at_162) rfl ((if0 _ _).trans (feq (by decide : ¬ ((1 : Int32) = (0 : Int32)))).1) ?_
        show Steps p.tables e below (T37.setTop (mkF m 165 #[.val (.int p1), .val (.int p2), .val (.int p3), .val (.int p4), .val (.int (Int32.ofNat o)), .val (.int (Int32.ofNat ln)), .val (.int (Int32.ofNat kk)), .val (.int uv), .val (.ref b3), .val (.ref b5), .val (.int (1 : Int32)), .val (.int (1 : Int32)), .val (.int (own_e (Int32.ofNat (o + ln)) (Int32.ofNat (o + ln))))] [])) _
        refine XS.iload X37.here hx rfl (hb hby at_165) rfl ?_
        show Steps p.tables e below (T37.setTop (mkF m 167 #[.val (.int p1), .val (.int p2), .val (.int p3), .val (.int p4), .val (.int (Int32.ofNat o)), .val (.int (Int32.ofNat ln)), .val (.int (Int32.ofNat kk)), .val (.int uv), .val (.ref b3), .val (.ref b5), .val (.int (1 : Int32)), .val (.int (1 : Int32)), .val (.int (own_e (Int32.ofNat (o + ln)) (Int32.ofNat (o + ln))))] [(.int (1 : Int32))])) _
        refine XS.ifNo X37.here hx rfl (hb hby at_167) rfl ((if0 _ _).trans (feq (by decide : ¬ ((1 : Int32) = (0 : Int32)))).1) ?_
        show Steps p.tables e below (T37.setTop (mkF m 170 #[.val (.int p1), .val (.int p2), .val (.int p3), .val (.int p4), .val (.int (Int32.ofNat o)), .val (.int (Int32.ofNat ln)), .val (.int (Int32.ofNat kk)), .val (.int uv), .val (.ref b3), .val (.ref b5), .val (.int (1 : Int32)), .val (.int (1 : Int32)), .val (.int (own_e (Int32.ofNat (o + ln)) (Int32.ofNat (o + ln))))] [])) _
        refine XS.iload X37.here hx rfl (hb hby at_170) rfl ?_
        show Steps p.tables e below (T37.setTop (mkF m 172 #[.val (.int p1), .val (.int p2), .val (.int p3), .val (.int p4), .val (.int (Int32.ofNat o)), .val (.int (Int32.ofNat ln)), .val (.int (Int32.ofNat kk)), .val (.int uv), .val (.ref b3), .val (.ref b5), .val (.int (1 : Int32)), .val (.int (1 : Int32)), .val (.int (own_e (Int32.ofNat (o + ln)) (Int32.ofNat (o + ln))))] [(.int (own_e (Int32.ofNat (o + ln)) (Int32.ofNat (o + ln))))])) _
        refine XS.ifNo X37.here hx rfl (hb hby at_172) rfl ((if0 _ _).trans (feq (by rw [own_e1]; decide : ¬ (own_e (Int32.ofNat (o + ln)) (Int32.ofNat (o + ln))) = (0 : Int32))).1) ?_
        show Steps p.tables e below (T37.setTop (mkF m 175 #[.val (.int p1), .val (.int p2), .val (.int p3), .val (.int p4), .val (.int (Int32.ofNat o)), .val (.int (Int32.ofNat ln)), .val (.int (Int32.ofNat kk)), .val (.int uv), .val (.ref b3), .val (.ref b5), .val (.int (1 : Int32)), .val (.int (1 : Int32)), .val (.int (own_e (Int32.ofNat (o + ln)) (Int32.ofNat (o + ln))))] [])) _
        refine XS.iconst X37.here hx rfl (hb hby at_175) ?_
        show Steps p.tables e below (T37.setTop (mkF m 176 #[.val (.int p1), .val (.int p2), .val (.int p3), .val (.int p4), .val (.int (Int32.ofNat o)), .val (.int (Int32.ofNat ln)), .val (.int (Int32.ofNat kk)), .val (.int uv), .val (.ref b3), .val (.ref b5), .val (.int (1 : Int32)), .val (.int (1 : Int32)), .val (.int (own_e (Int32.ofNat (o + ln)) (Int32.ofNat (o + ln))))] [(.int (1 : Int32))])) _
        refine XS.goto X37.here hx rfl (pc0 := 176) (pc' := 180) rfl (hb hby at_176) (by decide) (by decide) ?_
        exact kt
      obtain ⟨fs, hr, hrun, hended, hW, hsame⟩ := X37.leave (v := some (.int (1 : Int32))) (fun h => by rw [Bd.returns] at h; cases h)
      refine ⟨_, _, pre0 _ ?_, hrun, hended, _, _, rfl, ?_, ⟨_, rfl⟩, hW, hsame.mono (by decide) (by decide)⟩
      · exact sa _ (sb _ (sc _ (sj1 _ (sg2 _ (st3 _ (sg4 _ (st5 _ (sg6 _ (st7.trans (sg8 _ (st9.trans (sg10 _ (sj11 _ (sg12 _ (sg13 _ (sg26 _ (sg27 _ (sg28 _ (st29.trans (sg30 _ (st31.trans (sj32 _ (sg33 _ (sg34 _ (st35.trans (sg36 _ (st37.trans (sg38 _ ((retN X37 hx (t := .boolean) Bd.returns (by simp) (hb hby at_180) hr))))))))))))))))))))))))))))))
      · show Q0 Z p1 p2 p3 p4 h0 n0 _ T37.heap _
        rw [hh37]
        exact ⟨rfl, N37⟩
    · have sg39 : ∀ t₀, Steps p.tables e below (T9.setTop (mkF m 100 #[.val (.int p1), .val (.int p2), .val (.int p3), .val (.int p4), .val (.int (Int32.ofNat o)), .val (.int (Int32.ofNat ln)), .val (.int (Int32.ofNat kk)), .val (.int uv), .val (.ref b3), .val (.ref b5), .val (.int (1 : Int32)), .unset, .unset] [(.int (Int32.ofNat kk)), (.ref b5)])) t₀ → Steps p.tables e below (T9.setTop (mkF m 93 #[.val (.int p1), .val (.int p2), .val (.int p3), .val (.int p4), .val (.int (Int32.ofNat o)), .val (.int (Int32.ofNat ln)), .val (.int (Int32.ofNat kk)), .val (.int uv), .val (.ref b3), .val (.ref b5), .val (.int (1 : Int32)), .unset, .unset] [(.int (1 : Int32)), (.int (Int32.ofNat kk))])) t₀ := by
        intro t₀ kt
        show Steps p.tables e below (T9.setTop (mkF m 93 #[.val (.int p1), .val (.int p2), .val (.int p3), .val (.int p4), .val (.int (Int32.ofNat o)), .val (.int (Int32.ofNat ln)), .val (.int (Int32.ofNat kk)), .val (.int uv), .val (.ref b3), .val (.ref b5), .val (.int (1 : Int32)), .unset, .unset] [(.int (1 : Int32)), (.int (Int32.ofNat kk))])) _
        refine XS.icmpNo X9.here hx rfl (hb hby at_93) rfl (flt hk1).1 ?_
        show Steps p.tables e below (T9.setTop (mkF m 96 #[.val (.int p1), .val (.int p2), .val (.int p3), .val (.int p4), .val (.int (Int32.ofNat o)), .val (.int (Int32.ofNat ln)), .val (.int (Int32.ofNat kk)), .val (.int uv), .val (.ref b3), .val (.ref b5), .val (.int (1 : Int32)), .unset, .unset] [])) _
        refine XS.aload X9.here hx rfl (hb hby at_96) rfl rfl ?_
        show Steps p.tables e below (T9.setTop (mkF m 98 #[.val (.int p1), .val (.int p2), .val (.int p3), .val (.int p4), .val (.int (Int32.ofNat o)), .val (.int (Int32.ofNat ln)), .val (.int (Int32.ofNat kk)), .val (.int uv), .val (.ref b3), .val (.ref b5), .val (.int (1 : Int32)), .unset, .unset] [(.ref b5)])) _
        refine XS.iload X9.here hx rfl (hb hby at_98) rfl ?_
        exact kt
      have hk2 : 1 ≤ kk := by
        rw [Int32.lt_iff_toInt_lt, own_int (by omega)] at hk1
        have h : (1 : Int32).toInt = 1 := rfl
        omega
      obtain ⟨cq40, kq40, q40a, q40b, q40c⟩ := isOf hZ hh9 EEI0
      obtain ⟨_, _, ⟨T40, L40, k40, n40⟩, -, X40, ⟨Lc40, hQ40, l40, y40, z40⟩, st40⟩ := X9.virtualBack hx (y := (⟨"com/example/annalist/annalist/store/RecordCodec$Input", "fixed", "(I)J"⟩ : MethodName)) (z := (⟨"com/example/annalist/annalist/store/RecordCodec$Input", "fixed", "(I)J"⟩ : MethodName)) hown (mvT hZ (hw _ (List.mem_of_getElem? (i := 22) rfl))) (mvT hZ (hw _ (List.mem_of_getElem? (i := 23) rfl))) (notFace_of_selects (args := #[]) (mvT hZ (hw _ (List.mem_of_getElem? (i := 25) rfl)))) (mvT hZ (hw _ (List.mem_of_getElem? (i := 25) rfl))) (mvT hZ (hw _ (List.mem_of_getElem? (i := 24) rfl))) (by decide) (backOf (W := 0) (rm4 l Z a0 hw [] b5 b3 o ln kk T7.heap n0 zzI0 g_b5 ne I0 hk2 hk (by omega)) hZ (hw _ (List.mem_of_getElem? (i := 26) rfl)) (hw _ (List.mem_of_getElem? (i := 4) rfl)) (by decide) (by decide)) q40a q40c (g := (mkF m 100 #[.val (.int p1), .val (.int p2), .val (.int p3), .val (.int p4), .val (.int (Int32.ofNat o)), .val (.int (Int32.ofNat ln)), .val (.int (Int32.ofNat kk)), .val (.int uv), .val (.ref b3), .val (.ref b5), .val (.int (1 : Int32)), .unset, .unset] [(.int (Int32.ofNat kk)), (.ref b5)])) rfl (by rw [hml]; rfl) (Steps.refl _) (argsL := [(.int (Int32.ofNat kk))]) (rest := []) (lenOf pd_2 rfl) rfl (by show 2 * 0 + _ ≤ _; exact Nat.le_of_eq rfl) (hb hby at_100) (fun _ _ => ⟨rfl, hh9, (by decide : 2 + 0 ≤ _), (by decide : 19 + 0 ≤ _)⟩)
      dsimp only [Pt.U, Pt.locs, Pt.cells, Pt.slots] at X40 l40 y40 z40 st40 hQ40
      subst l40 y40 z40
      obtain ⟨rr, rfl, N40q, I1⟩ := hQ40
      have N40 := Fr.app N9 N40q
      have sg41 : ∀ t₀, Steps p.tables e below (T40.setTop (mkF m 115 #[.val (.int p1), .val (.int p2), .val (.int p3), .val (.int p4), .val (.int (Int32.ofNat o)), .val (.int (Int32.ofNat ln)), .val (.int (Int32.ofNat kk)), .val (.int uv), .val (.ref b3), .val (.ref b5), .val (.int (1 : Int32)), .unset, .unset] [])) t₀ → Steps p.tables e below (T40.setTop (mkF m 103 #[.val (.int p1), .val (.int p2), .val (.int p3), .val (.int p4), .val (.int (Int32.ofNat o)), .val (.int (Int32.ofNat ln)), .val (.int (Int32.ofNat kk)), .val (.int uv), .val (.ref b3), .val (.ref b5), .val (.int (1 : Int32)), .unset, .unset] [(.long rr)])) t₀ := by
        intro t₀ kt
        show Steps p.tables e below (T40.setTop (mkF m 103 #[.val (.int p1), .val (.int p2), .val (.int p3), .val (.int p4), .val (.int (Int32.ofNat o)), .val (.int (Int32.ofNat ln)), .val (.int (Int32.ofNat kk)), .val (.int uv), .val (.ref b3), .val (.ref b5), .val (.int (1 : Int32)), .unset, .unset] [(.long rr)])) _
        jvm_step X40.here [X40.here.top, hx, (hb hby at_103), Value.category]
        show Steps p.tables e below (T40.setTop (mkF m 104 #[.val (.int p1), .val (.int p2), .val (.int p3), .val (.int p4), .val (.int (Int32.ofNat o)), .val (.int (Int32.ofNat ln)), .val (.int (Int32.ofNat kk)), .val (.int uv), .val (.ref b3), .val (.ref b5), .val (.int (1 : Int32)), .unset, .unset] [])) _
        refine XS.goto X40.here hx rfl (pc0 := 104) (pc' := 115) rfl (hb hby at_104) (by decide) (by decide) ?_
        exact kt
      have sg42 : ∀ t₀, Steps p.tables e below (T40.setTop (mkF m 117 #[.val (.int p1), .val (.int p2), .val (.int p3), .val (.int p4), .val (.int (Int32.ofNat o)), .val (.int (Int32.ofNat ln)), .val (.int (Int32.ofNat kk)), .val (.int uv), .val (.ref b3), .val (.ref b5), .val (.int (1 : Int32)), .unset, .unset] [(.ref b5)])) t₀ → Steps p.tables e below (T40.setTop (mkF m 115 #[.val (.int p1), .val (.int p2), .val (.int p3), .val (.int p4), .val (.int (Int32.ofNat o)), .val (.int (Int32.ofNat ln)), .val (.int (Int32.ofNat kk)), .val (.int uv), .val (.ref b3), .val (.ref b5), .val (.int (1 : Int32)), .unset, .unset] [])) t₀ := by
        intro t₀ kt
        show Steps p.tables e below (T40.setTop (mkF m 115 #[.val (.int p1), .val (.int p2), .val (.int p3), .val (.int p4), .val (.int (Int32.ofNat o)), .val (.int (Int32.ofNat ln)), .val (.int (Int32.ofNat kk)), .val (.int uv), .val (.ref b3), .val (.ref b5), .val (.int (1 : Int32)), .unset, .unset] [])) _
        refine XS.aload X40.here hx rfl (hb hby at_115) rfl rfl ?_
        exact kt
      have I1x := id I1
      obtain ⟨zzI1, EEI1, FBI1, FEI1, FPI1, AAI1⟩ := I1x
      obtain ⟨cq43, kq43, q43a, q43b, q43c⟩ := isOf hZ rfl EEI1
      obtain ⟨_, _, ⟨T43, L43, k43, n43⟩, -, X43, ⟨Lc43, hQ43, l43, y43, z43⟩, st43⟩ := X40.virtualBack hx (y := (⟨"com/example/annalist/annalist/store/RecordCodec$Input", "atEnd", "()Z"⟩ : MethodName)) (z := (⟨"com/example/annalist/annalist/store/RecordCodec$Input", "atEnd", "()Z"⟩ : MethodName)) hown (mvT hZ (hw _ (List.mem_of_getElem? (i := 17) rfl))) (mvT hZ (hw _ (List.mem_of_getElem? (i := 18) rfl))) (notFace_of_selects (args := #[]) (mvT hZ (hw _ (List.mem_of_getElem? (i := 20) rfl)))) (mvT hZ (hw _ (List.mem_of_getElem? (i := 20) rfl))) (mvT hZ (hw _ (List.mem_of_getElem? (i := 19) rfl))) (by decide) (backOf (W := 0) (rm3 l Z a0 hw [] b5 (Int32.ofNat (o + kk)) (Int32.ofNat (o + ln)) T40.heap n0 zzI1 FPI1 FEI1) hZ (hw _ (List.mem_of_getElem? (i := 21) rfl)) (hw _ (List.mem_of_getElem? (i := 4) rfl)) (by decide) (by decide)) q43a q43c (g := (mkF m 117 #[.val (.int p1), .val (.int p2), .val (.int p3), .val (.int p4), .val (.int (Int32.ofNat o)), .val (.int (Int32.ofNat ln)), .val (.int (Int32.ofNat kk)), .val (.int uv), .val (.ref b3), .val (.ref b5), .val (.int (1 : Int32)), .unset, .unset] [(.ref b5)])) rfl (by rw [hml]; rfl) (Steps.refl _) (argsL := []) (rest := []) (lenOf pd_1 rfl) rfl (by show 2 * 0 + _ ≤ _; exact Nat.le_of_eq rfl) (hb hby at_117) (fun _ _ => ⟨rfl, rfl, (by decide : 2 + 0 ≤ _), (by decide : 19 + 0 ≤ _)⟩)
      dsimp only [Pt.U, Pt.locs, Pt.cells, Pt.slots] at X43 l43 y43 z43 st43 hQ43
      subst l43 y43 z43
      obtain ⟨rfl, N43q, hh43⟩ := hQ43
      have N43 := Fr.app N40 N43q
      obtain ⟨b2, hsj44, sj44⟩ : ∃ b2 : Int32, (b2 = own_e (Int32.ofNat kk) (Int32.ofNat ln)) ∧ ∀ t₀, Steps p.tables e below (T43.setTop (mkF m 132 #[.val (.int p1), .val (.int p2), .val (.int p3), .val (.int p4), .val (.int (Int32.ofNat o)), .val (.int (Int32.ofNat ln)), .val (.int (Int32.ofNat kk)), .val (.int uv), .val (.ref b3), .val (.ref b5), .val (.int (1 : Int32)), .unset, .unset] [(.int b2), (.int (own_e (Int32.ofNat (o + kk)) (Int32.ofNat (o + ln))))])) t₀ → Steps p.tables e below (T43.setTop (mkF m 120 #[.val (.int p1), .val (.int p2), .val (.int p3), .val (.int p4), .val (.int (Int32.ofNat o)), .val (.int (Int32.ofNat ln)), .val (.int (Int32.ofNat kk)), .val (.int uv), .val (.ref b3), .val (.ref b5), .val (.int (1 : Int32)), .unset, .unset] [(.int (own_e (Int32.ofNat (o + kk)) (Int32.ofNat (o + ln))))])) t₀ := by
        by_cases hc124 : (Int32.ofNat kk) = (Int32.ofNat ln)
        · refine ⟨(1 : Int32), by first | exact own_ep hc124 | exact own_en hc124, fun t₀ kt => ?_⟩
          show Steps p.tables e below (T43.setTop (mkF m 120 #[.val (.int p1), .val (.int p2), .val (.int p3), .val (.int p4), .val (.int (Int32.ofNat o)), .val (.int (Int32.ofNat ln)), .val (.int (Int32.ofNat kk)), .val (.int uv), .val (.ref b3), .val (.ref b5), .val (.int (1 : Int32)), .unset, .unset] [(.int (own_e (Int32.ofNat (o + kk)) (Int32.ofNat (o + ln))))])) _
          refine XS.iload X43.here hx rfl (hb hby at_120) rfl ?_
          show Steps p.tables e below (T43.setTop (mkF m 122 #[.val (.int p1), .val (.int p2), .val (.int p3), .val (.int p4), .val (.int (Int32.ofNat o)), .val (.int (Int32.ofNat ln)), .val (.int (Int32.ofNat kk)), .val (.int uv), .val (.ref b3), .val (.ref b5), .val (.int (1 : Int32)), .unset, .unset] [(.int (Int32.ofNat kk)), (.int (own_e (Int32.ofNat (o + kk)) (Int32.ofNat (o + ln))))])) _
          refine XS.iload X43.here hx rfl (hb hby at_122) rfl ?_
          show Steps p.tables e below (T43.setTop (mkF m 124 #[.val (.int p1), .val (.int p2), .val (.int p3), .val (.int p4), .val (.int (Int32.ofNat o)), .val (.int (Int32.ofNat ln)), .val (.int (Int32.ofNat kk)), .val (.int uv), .val (.ref b3), .val (.ref b5), .val (.int (1 : Int32)), .unset, .unset] [(.int (Int32.ofNat ln)), (.int (Int32.ofNat kk)), (.int (own_e (Int32.ofNat (o + kk)) (Int32.ofNat (o + ln))))])) _
          refine XS.icmpNo X43.here hx rfl (hb hby at_124) rfl (teq hc124).2 ?_
          show Steps p.tables e below (T43.setTop (mkF m 127 #[.val (.int p1), .val (.int p2), .val (.int p3), .val (.int p4), .val (.int (Int32.ofNat o)), .val (.int (Int32.ofNat ln)), .val (.int (Int32.ofNat kk)), .val (.int uv), .val (.ref b3), .val (.ref b5), .val (.int (1 : Int32)), .unset, .unset] [(.int (own_e (Int32.ofNat (o + kk)) (Int32.ofNat (o + ln))))])) _
          refine XS.iconst X43.here hx rfl (hb hby at_127) ?_
          show Steps p.tables e below (T43.setTop (mkF m 128 #[.val (.int p1), .val (.int p2), .val (.int p3), .val (.int p4), .val (.int (Int32.ofNat o)), .val (.int (Int32.ofNat ln)), .val (.int (Int32.ofNat kk)), .val (.int uv), .val (.ref b3), .val (.ref b5), .val (.int (1 : Int32)), .unset, .unset] [(.int (1 : Int32)), (.int (own_e (Int32.ofNat (o + kk)) (Int32.ofNat (o + ln))))])) _
          refine XS.goto X43.here hx rfl (pc0 := 128) (pc' := 132) rfl (hb hby at_128) (by decide) (by decide) ?_
          exact kt
        · refine ⟨(0 : Int32), by first | exact own_ep hc124 | exact own_en hc124, fun t₀ kt => ?_⟩
          show Steps p.tables e below (T43.setTop (mkF m 120 #[.val (.int p1), .val (.int p2), .val (.int p3), .val (.int p4), .val (.int (Int32.ofNat o)), .val (.int (Int32.ofNat ln)), .val (.int (Int32.ofNat kk)), .val (.int uv), .val (.ref b3), .val (.ref b5), .val (.int (1 : Int32)), .unset, .unset] [(.int (own_e (Int32.ofNat (o + kk)) (Int32.ofNat (o + ln))))])) _
          refine XS.iload X43.here hx rfl (hb hby at_120) rfl ?_
          show Steps p.tables e below (T43.setTop (mkF m 122 #[.val (.int p1), .val (.int p2), .val (.int p3), .val (.int p4), .val (.int (Int32.ofNat o)), .val (.int (Int32.ofNat ln)), .val (.int (Int32.ofNat kk)), .val (.int uv), .val (.ref b3), .val (.ref b5), .val (.int (1 : Int32)), .unset, .unset] [(.int (Int32.ofNat kk)), (.int (own_e (Int32.ofNat (o + kk)) (Int32.ofNat (o + ln))))])) _
          refine XS.iload X43.here hx rfl (hb hby at_122) rfl ?_
          show Steps p.tables e below (T43.setTop (mkF m 124 #[.val (.int p1), .val (.int p2), .val (.int p3), .val (.int p4), .val (.int (Int32.ofNat o)), .val (.int (Int32.ofNat ln)), .val (.int (Int32.ofNat kk)), .val (.int uv), .val (.ref b3), .val (.ref b5), .val (.int (1 : Int32)), .unset, .unset] [(.int (Int32.ofNat ln)), (.int (Int32.ofNat kk)), (.int (own_e (Int32.ofNat (o + kk)) (Int32.ofNat (o + ln))))])) _
          refine XS.icmpYes X43.here hx rfl (pc0 := 124) (pc' := 131) rfl (hb hby at_124) rfl (feq hc124).2 (by decide) (by decide) ?_
          show Steps p.tables e below (T43.setTop (mkF m 131 #[.val (.int p1), .val (.int p2), .val (.int p3), .val (.int p4), .val (.int (Int32.ofNat o)), .val (.int (Int32.ofNat ln)), .val (.int (Int32.ofNat kk)), .val (.int uv), .val (.ref b3), .val (.ref b5), .val (.int (1 : Int32)), .unset, .unset] [(.int (own_e (Int32.ofNat (o + kk)) (Int32.ofNat (o + ln))))])) _
          refine XS.iconst X43.here hx rfl (hb hby at_131) ?_
          exact kt
      have sg45 : ∀ t₀, Steps p.tables e below (T43.setTop (mkF m 142 #[.val (.int p1), .val (.int p2), .val (.int p3), .val (.int p4), .val (.int (Int32.ofNat o)), .val (.int (Int32.ofNat ln)), .val (.int (Int32.ofNat kk)), .val (.int uv), .val (.ref b3), .val (.ref b5), .val (.int (1 : Int32)), .val (.int (1 : Int32)), .unset] [])) t₀ → Steps p.tables e below (T43.setTop (mkF m 132 #[.val (.int p1), .val (.int p2), .val (.int p3), .val (.int p4), .val (.int (Int32.ofNat o)), .val (.int (Int32.ofNat ln)), .val (.int (Int32.ofNat kk)), .val (.int uv), .val (.ref b3), .val (.ref b5), .val (.int (1 : Int32)), .unset, .unset] [(.int b2), (.int (own_e (Int32.ofNat (o + kk)) (Int32.ofNat (o + ln))))])) t₀ := by
        intro t₀ kt
        show Steps p.tables e below (T43.setTop (mkF m 132 #[.val (.int p1), .val (.int p2), .val (.int p3), .val (.int p4), .val (.int (Int32.ofNat o)), .val (.int (Int32.ofNat ln)), .val (.int (Int32.ofNat kk)), .val (.int uv), .val (.ref b3), .val (.ref b5), .val (.int (1 : Int32)), .unset, .unset] [(.int b2), (.int (own_e (Int32.ofNat (o + kk)) (Int32.ofNat (o + ln))))])) _
        refine XS.icmpNo X43.here hx rfl (hb hby at_132) rfl (teq ((own_same (by omega) (by omega) (by omega) (by omega) (by omega)).trans hsj44.symm)).2 ?_
        show Steps p.tables e below (T43.setTop (mkF m 135 #[.val (.int p1), .val (.int p2), .val (.int p3), .val (.int p4), .val (.int (Int32.ofNat o)), .val (.int (Int32.ofNat ln)), .val (.int (Int32.ofNat kk)), .val (.int uv), .val (.ref b3), .val (.ref b5), .val (.int (1 : Int32)), .unset, .unset] [])) _
        refine XS.iconst X43.here hx rfl (hb hby at_135) ?_
        show Steps p.tables e below (T43.setTop (mkF m 136 #[.val (.int p1), .val (.int p2), .val (.int p3), .val (.int p4), .val (.int (Int32.ofNat o)), .val (.int (Int32.ofNat ln)), .val (.int (Int32.ofNat kk)), .val (.int uv), .val (.ref b3), .val (.ref b5), .val (.int (1 : Int32)), .unset, .unset] [(.int (1 : Int32))])) _
        refine XS.goto X43.here hx rfl (pc0 := 136) (pc' := 140) rfl (hb hby at_136) (by decide) (by decide) ?_
        show Steps p.tables e below (T43.setTop (mkF m 140 #[.val (.int p1), .val (.int p2), .val (.int p3), .val (.int p4), .val (.int (Int32.ofNat o)), .val (.int (Int32.ofNat ln)), .val (.int (Int32.ofNat kk)), .val (.int uv), .val (.ref b3), .val (.ref b5), .val (.int (1 : Int32)), .unset, .unset] [(.int (1 : Int32))])) _
        refine XS.istore X43.here hx rfl (hb hby at_140) rfl (l' := #[.val (.int p1), .val (.int p2), .val (.int p3), .val (.int p4), .val (.int (Int32.ofNat o)), .val (.int (Int32.ofNat ln)), .val (.int (Int32.ofNat kk)), .val (.int uv), .val (.ref b3), .val (.ref b5), .val (.int (1 : Int32)), .val (.int (1 : Int32)), .unset]) rfl ?_
        exact kt
      have sg46 : ∀ t₀, Steps p.tables e below (T43.setTop (mkF m 150 #[.val (.int p1), .val (.int p2), .val (.int p3), .val (.int p4), .val (.int (Int32.ofNat o)), .val (.int (Int32.ofNat ln)), .val (.int (Int32.ofNat kk)), .val (.int uv), .val (.ref b3), .val (.ref b5), .val (.int (1 : Int32)), .val (.int (1 : Int32)), .unset] [(.long (((Int32.ofNat ln) - (Int32.ofNat kk)).toInt64)), (.ref b5)])) t₀ → Steps p.tables e below (T43.setTop (mkF m 142 #[.val (.int p1), .val (.int p2), .val (.int p3), .val (.int p4), .val (.int (Int32.ofNat o)), .val (.int (Int32.ofNat ln)), .val (.int (Int32.ofNat kk)), .val (.int uv), .val (.ref b3), .val (.ref b5), .val (.int (1 : Int32)), .val (.int (1 : Int32)), .unset] [])) t₀ := by
        intro t₀ kt
        show Steps p.tables e below (T43.setTop (mkF m 142 #[.val (.int p1), .val (.int p2), .val (.int p3), .val (.int p4), .val (.int (Int32.ofNat o)), .val (.int (Int32.ofNat ln)), .val (.int (Int32.ofNat kk)), .val (.int uv), .val (.ref b3), .val (.ref b5), .val (.int (1 : Int32)), .val (.int (1 : Int32)), .unset] [])) _
        refine XS.aload X43.here hx rfl (hb hby at_142) rfl rfl ?_
        show Steps p.tables e below (T43.setTop (mkF m 144 #[.val (.int p1), .val (.int p2), .val (.int p3), .val (.int p4), .val (.int (Int32.ofNat o)), .val (.int (Int32.ofNat ln)), .val (.int (Int32.ofNat kk)), .val (.int uv), .val (.ref b3), .val (.ref b5), .val (.int (1 : Int32)), .val (.int (1 : Int32)), .unset] [(.ref b5)])) _
        refine XS.iload X43.here hx rfl (hb hby at_144) rfl ?_
        show Steps p.tables e below (T43.setTop (mkF m 146 #[.val (.int p1), .val (.int p2), .val (.int p3), .val (.int p4), .val (.int (Int32.ofNat o)), .val (.int (Int32.ofNat ln)), .val (.int (Int32.ofNat kk)), .val (.int uv), .val (.ref b3), .val (.ref b5), .val (.int (1 : Int32)), .val (.int (1 : Int32)), .unset] [(.int (Int32.ofNat ln)), (.ref b5)])) _
        refine XS.iload X43.here hx rfl (hb hby at_146) rfl ?_
        show Steps p.tables e below (T43.setTop (mkF m 148 #[.val (.int p1), .val (.int p2), .val (.int p3), .val (.int p4), .val (.int (Int32.ofNat o)), .val (.int (Int32.ofNat ln)), .val (.int (Int32.ofNat kk)), .val (.int uv), .val (.ref b3), .val (.ref b5), .val (.int (1 : Int32)), .val (.int (1 : Int32)), .unset] [(.int (Int32.ofNat kk)), (.int (Int32.ofNat ln)), (.ref b5)])) _
        refine XS.isub X43.here hx rfl (hb hby at_148) rfl ?_
        show Steps p.tables e below (T43.setTop (mkF m 149 #[.val (.int p1), .val (.int p2), .val (.int p3), .val (.int p4), .val (.int (Int32.ofNat o)), .val (.int (Int32.ofNat ln)), .val (.int (Int32.ofNat kk)), .val (.int uv), .val (.ref b3), .val (.ref b5), .val (.int (1 : Int32)), .val (.int (1 : Int32)), .unset] [(.int ((Int32.ofNat ln) - (Int32.ofNat kk))), (.ref b5)])) _
        refine XS.i2l X43.here hx rfl (hb hby at_149) rfl ?_
        exact kt
      obtain ⟨cq47, kq47, q47a, q47b, q47c⟩ := isOf hZ hh43 EEI1
      obtain ⟨_, _, ⟨T47, L47, k47, n47⟩, -, X47, ⟨Lc47, hQ47, l47, y47, z47⟩, st47⟩ := X43.virtualBack hx (y := (⟨"com/example/annalist/annalist/store/RecordCodec$Input", "skip", "(J)V"⟩ : MethodName)) (z := (⟨"com/example/annalist/annalist/store/RecordCodec$Input", "skip", "(J)V"⟩ : MethodName)) hown (mvT hZ (hw _ (List.mem_of_getElem? (i := 31) rfl))) (mvT hZ (hw _ (List.mem_of_getElem? (i := 32) rfl))) (notFace_of_selects (args := #[]) (mvT hZ (hw _ (List.mem_of_getElem? (i := 34) rfl)))) (mvT hZ (hw _ (List.mem_of_getElem? (i := 34) rfl))) (mvT hZ (hw _ (List.mem_of_getElem? (i := 33) rfl))) (by decide) (backOf (W := 0) (rm6 l Z a0 hw [] b5 (((Int32.ofNat ln) - (Int32.ofNat kk)).toInt64) b3 (o + kk) (o + ln) (ln - kk) T40.heap n0 zzI1 g_b5 ne I1 (by rw [own_sub (by omega) (by omega), own_l (by omega)]) (by omega) (by omega)) hZ (hw _ (List.mem_of_getElem? (i := 35) rfl)) (hw _ (List.mem_of_getElem? (i := 4) rfl)) (by decide) (by decide)) q47a q47c (g := (mkF m 150 #[.val (.int p1), .val (.int p2), .val (.int p3), .val (.int p4), .val (.int (Int32.ofNat o)), .val (.int (Int32.ofNat ln)), .val (.int (Int32.ofNat kk)), .val (.int uv), .val (.ref b3), .val (.ref b5), .val (.int (1 : Int32)), .val (.int (1 : Int32)), .unset] [(.long (((Int32.ofNat ln) - (Int32.ofNat kk)).toInt64)), (.ref b5)])) rfl (by rw [hml]; rfl) (Steps.refl _) (argsL := [(.long (((Int32.ofNat ln) - (Int32.ofNat kk)).toInt64))]) (rest := []) (lenOf pd_6 rfl) rfl (by show 2 * 0 + _ ≤ _; exact Nat.le_of_eq rfl) (hb hby at_150) (fun _ _ => ⟨rfl, hh43, (by decide : 2 + 0 ≤ _), (by decide : 19 + 0 ≤ _)⟩)
      dsimp only [Pt.U, Pt.locs, Pt.cells, Pt.slots] at X47 l47 y47 z47 st47 hQ47
      subst l47 y47 z47
      obtain ⟨rfl, N47q, I2'⟩ := hQ47
      have N47 := Fr.app N43 N47q
      have I2 : own_I Z T47.heap n0 b5 b3 (o + ln) (o + ln) := by have z := I2'; rw [show o + kk + (ln - kk) = o + ln by omega] at z; exact z
      have sg48 : ∀ t₀, Steps p.tables e below (T47.setTop (mkF m 155 #[.val (.int p1), .val (.int p2), .val (.int p3), .val (.int p4), .val (.int (Int32.ofNat o)), .val (.int (Int32.ofNat ln)), .val (.int (Int32.ofNat kk)), .val (.int uv), .val (.ref b3), .val (.ref b5), .val (.int (1 : Int32)), .val (.int (1 : Int32)), .unset] [(.ref b5)])) t₀ → Steps p.tables e below (T47.setTop (mkF m 153 #[.val (.int p1), .val (.int p2), .val (.int p3), .val (.int p4), .val (.int (Int32.ofNat o)), .val (.int (Int32.ofNat ln)), .val (.int (Int32.ofNat kk)), .val (.int uv), .val (.ref b3), .val (.ref b5), .val (.int (1 : Int32)), .val (.int (1 : Int32)), .unset] [])) t₀ := by
        intro t₀ kt
        show Steps p.tables e below (T47.setTop (mkF m 153 #[.val (.int p1), .val (.int p2), .val (.int p3), .val (.int p4), .val (.int (Int32.ofNat o)), .val (.int (Int32.ofNat ln)), .val (.int (Int32.ofNat kk)), .val (.int uv), .val (.ref b3), .val (.ref b5), .val (.int (1 : Int32)), .val (.int (1 : Int32)), .unset] [])) _
        refine XS.aload X47.here hx rfl (hb hby at_153) rfl rfl ?_
        exact kt
      have I2x := id I2
      obtain ⟨zzI2, EEI2, FBI2, FEI2, FPI2, AAI2⟩ := I2x
      obtain ⟨cq49, kq49, q49a, q49b, q49c⟩ := isOf hZ rfl EEI2
      obtain ⟨_, _, ⟨T49, L49, k49, n49⟩, -, X49, ⟨Lc49, hQ49, l49, y49, z49⟩, st49⟩ := X47.virtualBack hx (y := (⟨"com/example/annalist/annalist/store/RecordCodec$Input", "atEnd", "()Z"⟩ : MethodName)) (z := (⟨"com/example/annalist/annalist/store/RecordCodec$Input", "atEnd", "()Z"⟩ : MethodName)) hown (mvT hZ (hw _ (List.mem_of_getElem? (i := 17) rfl))) (mvT hZ (hw _ (List.mem_of_getElem? (i := 18) rfl))) (notFace_of_selects (args := #[]) (mvT hZ (hw _ (List.mem_of_getElem? (i := 20) rfl)))) (mvT hZ (hw _ (List.mem_of_getElem? (i := 20) rfl))) (mvT hZ (hw _ (List.mem_of_getElem? (i := 19) rfl))) (by decide) (backOf (W := 0) (rm3 l Z a0 hw [] b5 (Int32.ofNat (o + ln)) (Int32.ofNat (o + ln)) T47.heap n0 zzI2 FPI2 FEI2) hZ (hw _ (List.mem_of_getElem? (i := 21) rfl)) (hw _ (List.mem_of_getElem? (i := 4) rfl)) (by decide) (by decide)) q49a q49c (g := (mkF m 155 #[.val (.int p1), .val (.int p2), .val (.int p3), .val (.int p4), .val (.int (Int32.ofNat o)), .val (.int (Int32.ofNat ln)), .val (.int (Int32.ofNat kk)), .val (.int uv), .val (.ref b3), .val (.ref b5), .val (.int (1 : Int32)), .val (.int (1 : Int32)), .unset] [(.ref b5)])) rfl (by rw [hml]; rfl) (Steps.refl _) (argsL := []) (rest := []) (lenOf pd_1 rfl) rfl (by show 2 * 0 + _ ≤ _; exact Nat.le_of_eq rfl) (hb hby at_155) (fun _ _ => ⟨rfl, rfl, (by decide : 2 + 0 ≤ _), (by decide : 19 + 0 ≤ _)⟩)
      dsimp only [Pt.U, Pt.locs, Pt.cells, Pt.slots] at X49 l49 y49 z49 st49 hQ49
      subst l49 y49 z49
      obtain ⟨rfl, N49q, hh49⟩ := hQ49
      have N49 := Fr.app N47 N49q
      have sg50 : ∀ t₀, Steps p.tables e below (T49.setTop (mkF m 180 #[.val (.int p1), .val (.int p2), .val (.int p3), .val (.int p4), .val (.int (Int32.ofNat o)), .val (.int (Int32.ofNat ln)), .val (.int (Int32.ofNat kk)), .val (.int uv), .val (.ref b3), .val (.ref b5), .val (.int (1 : Int32)), .val (.int (1 : Int32)), .val (.int (own_e (Int32.ofNat (o + ln)) (Int32.ofNat (o + ln))))] [(.int (1 : Int32))])) t₀ → Steps p.tables e below (T49.setTop (mkF m 158 #[.val (.int p1), .val (.int p2), .val (.int p3), .val (.int p4), .val (.int (Int32.ofNat o)), .val (.int (Int32.ofNat ln)), .val (.int (Int32.ofNat kk)), .val (.int uv), .val (.ref b3), .val (.ref b5), .val (.int (1 : Int32)), .val (.int (1 : Int32)), .unset] [(.int (own_e (Int32.ofNat (o + ln)) (Int32.ofNat (o + ln))))])) t₀ := by
        intro t₀ kt
        show Steps p.tables e below (T49.setTop (mkF m 158 #[.val (.int p1), .val (.int p2), .val (.int p3), .val (.int p4), .val (.int (Int32.ofNat o)), .val (.int (Int32.ofNat ln)), .val (.int (Int32.ofNat kk)), .val (.int uv), .val (.ref b3), .val (.ref b5), .val (.int (1 : Int32)), .val (.int (1 : Int32)), .unset] [(.int (own_e (Int32.ofNat (o + ln)) (Int32.ofNat (o + ln))))])) _
        refine XS.istore X49.here hx rfl (hb hby at_158) rfl (l' := #[.val (.int p1), .val (.int p2), .val (.int p3), .val (.int p4), .val (.int (Int32.ofNat o)), .val (.int (Int32.ofNat ln)), .val (.int (Int32.ofNat kk)), .val (.int uv), .val (.ref b3), .val (.ref b5), .val (.int (1 : Int32)), .val (.int (1 : Int32)), .val (.int (own_e (Int32.ofNat (o + ln)) (Int32.ofNat (o + ln))))]) rfl ?_
        show Steps p.tables e below (T49.setTop (mkF m 160 #[.val (.int p1), .val (.int p2), .val (.int p3), .val (.int p4), .val (.int (Int32.ofNat o)), .val (.int (Int32.ofNat ln)), .val (.int (Int32.ofNat kk)), .val (.int uv), .val (.ref b3), .val (.ref b5), .val (.int (1 : Int32)), .val (.int (1 : Int32)), .val (.int (own_e (Int32.ofNat (o + ln)) (Int32.ofNat (o + ln))))] [])) _
        refine XS.iload X49.here hx rfl (hb hby at_160) rfl ?_
        show Steps p.tables e below (T49.setTop (mkF m 162 #[.val (.int p1), .val (.int p2), .val (.int p3), .val (.int p4), .val (.int (Int32.ofNat o)), .val (.int (Int32.ofNat ln)), .val (.int (Int32.ofNat kk)), .val (.int uv), .val (.ref b3), .val (.ref b5), .val (.int (1 : Int32)), .val (.int (1 : Int32)), .val (.int (own_e (Int32.ofNat (o + ln)) (Int32.ofNat (o + ln))))] [(.int (1 : Int32))])) _
        refine XS.ifNo X49.here hx rfl (hb hby at_162) rfl ((if0 _ _).trans (feq (by decide : ¬ ((1 : Int32) = (0 : Int32)))).1) ?_
        show Steps p.tables e below (T49.setTop (mkF m 165 #[.val (.int p1), .val (.int p2), .val (.int p3), .val (.int p4), .val (.int (Int32.ofNat o)), .val (.int (Int32.ofNat ln)), .val (.int (Int32.ofNat kk)), .val (.int uv), .val (.ref b3), .val (.ref b5), .val (.int (1 : Int32)), .val (.int (1 : Int32)), .val (.int (own_e (Int32.ofNat (o + ln)) (Int32.ofNat (o + ln))))] [])) _
        refine XS.iload X49.here hx rfl (hb hby at_165) rfl ?_
        show Steps p.tables e below (T49.setTop (mkF m 167 #[.val (.int p1), .val (.int p2), .val (.int p3), .val (.int p4), .val (.int (Int32.ofNat o)), .val (.int (Int32.ofNat ln)), .val (.int (Int32.ofNat kk)), .val (.int uv), .val (.ref b3), .val (.ref b5), .val (.int (1 : Int32)), .val (.int (1 : Int32)), .val (.int (own_e (Int32.ofNat (o + ln)) (Int32.ofNat (o + ln))))] [(.int (1 : Int32))])) _
        refine XS.ifNo X49.here hx rfl (hb hby at_167) rfl ((if0 _ _).trans (feq (by decide : ¬ ((1 : Int32) = (0 : Int32)))).1) ?_
        show Steps p.tables e below (T49.setTop (mkF m 170 #[.val (.int p1), .val (.int p2), .val (.int p3), .val (.int p4), .val (.int (Int32.ofNat o)), .val (.int (Int32.ofNat ln)), .val (.int (Int32.ofNat kk)), .val (.int uv), .val (.ref b3), .val (.ref b5), .val (.int (1 : Int32)), .val (.int (1 : Int32)), .val (.int (own_e (Int32.ofNat (o + ln)) (Int32.ofNat (o + ln))))] [])) _
        refine XS.iload X49.here hx rfl (hb hby at_170) rfl ?_
        show Steps p.tables e below (T49.setTop (mkF m 172 #[.val (.int p1), .val (.int p2), .val (.int p3), .val (.int p4), .val (.int (Int32.ofNat o)), .val (.int (Int32.ofNat ln)), .val (.int (Int32.ofNat kk)), .val (.int uv), .val (.ref b3), .val (.ref b5), .val (.int (1 : Int32)), .val (.int (1 : Int32)), .val (.int (own_e (Int32.ofNat (o + ln)) (Int32.ofNat (o + ln))))] [(.int (own_e (Int32.ofNat (o + ln)) (Int32.ofNat (o + ln))))])) _
        refine XS.ifNo X49.here hx rfl (hb hby at_172) rfl ((if0 _ _).trans (feq (by rw [own_e1]; decide : ¬ (own_e (Int32.ofNat (o + ln)) (Int32.ofNat (o + ln))) = (0 : Int32))).1) ?_
        show Steps p.tables e below (T49.setTop (mkF m 175 #[.val (.int p1), .val (.int p2), .val (.int p3), .val (.int p4), .val (.int (Int32.ofNat o)), .val (.int (Int32.ofNat ln)), .val (.int (Int32.ofNat kk)), .val (.int uv), .val (.ref b3), .val (.ref b5), .val (.int (1 : Int32)), .val (.int (1 : Int32)), .val (.int (own_e (Int32.ofNat (o + ln)) (Int32.ofNat (o + ln))))] [])) _
        refine XS.iconst X49.here hx rfl (hb hby at_175) ?_
        show Steps p.tables e below (T49.setTop (mkF m 176 #[.val (.int p1), .val (.int p2), .val (.int p3), .val (.int p4), .val (.int (Int32.ofNat o)), .val (.int (Int32.ofNat ln)), .val (.int (Int32.ofNat kk)), .val (.int uv), .val (.ref b3), .val (.ref b5), .val (.int (1 : Int32)), .val (.int (1 : Int32)), .val (.int (own_e (Int32.ofNat (o + ln)) (Int32.ofNat (o + ln))))] [(.int (1 : Int32))])) _
        refine XS.goto X49.here hx rfl (pc0 := 176) (pc' := 180) rfl (hb hby at_176) (by decide) (by decide) ?_
        exact kt
      obtain ⟨fs, hr, hrun, hended, hW, hsame⟩ := X49.leave (v := some (.int (1 : Int32))) (fun h => by rw [Bd.returns] at h; cases h)
      refine ⟨_, _, pre0 _ ?_, hrun, hended, _, _, rfl, ?_, ⟨_, rfl⟩, hW, hsame.mono (by decide) (by decide)⟩
      · exact sa _ (sb _ (sc _ (sj1 _ (sg2 _ (st3 _ (sg4 _ (st5 _ (sg6 _ (st7.trans (sg8 _ (st9.trans (sg10 _ (sj11 _ (sg12 _ (sg13 _ (sg26 _ (sg39 _ (st40.trans (sg41 _ (sg42 _ (st43.trans (sj44 _ (sg45 _ (sg46 _ (st47.trans (sg48 _ (st49.trans (sg50 _ ((retN X49 hx (t := .boolean) Bd.returns (by simp) (hb hby at_180) hr))))))))))))))))))))))))))))))
      · show Q0 Z p1 p2 p3 p4 h0 n0 _ T49.heap _
        rw [hh49]
        exact ⟨rfl, N49⟩
set_option maxRecDepth 65536 in
set_option maxHeartbeats 40000000 in
theorem comes_1 {Post : Tables → Env → Array Value → State → Outcome → State → Prop} (hpost : ∀ tb e args s v u, (limb_1_1.after args s (.returned v) u = true ∧ limb_1_2.after args s (.returned v) u = true ∧ True) → FrameEnd s (.returned v) u (Jvm.fieldLocs frame_1_writes args s ++ Jvm.arrayLocs frame_1_arrays args s ++ Jvm.staticLocs frame_1_statics s) 16 128 → Post tb e args s (.returned v) u) :
    ArmFor flags0 classFile x code maxLocals ret World_1 tables_1 room_1 Calls_1 rest_1 Pre_1 Post := by
  intro l hfl _ _ p e ha hc hk s m args below hf hA hF happ hP
  obtain ⟨hcalls, hrest, hpre⟩ := hP
  obtain ⟨-, -, -, hnamed, -, -, -, hat⟩ := (Spec.applies_iff hf).mp happ
  obtain ⟨hg, hn⟩ := and_e (Cond.before_iff.mp (show (Jvm.Cond.and given_1 narrow_1).before args s = true from hpre))
  obtain ⟨hg0, hr0⟩ := and_e hg
  obtain ⟨ha0, hr1⟩ := and_e hr0
  obtain ⟨ha1, hr2⟩ := and_e hr1
  obtain ⟨ha2, hr3⟩ := and_e hr2
  obtain ⟨w0, w1, w2, w3, rfl⟩ : ∃ w0 w1 w2 w3 : Value, args = #[w0, w1, w2, w3] := by
    have hs : args.size = 4 := by simpa [Cond.value, given_1] using hg0
    obtain ⟨L⟩ := args
    match L, hs with
    | [w0, w1, w2, w3], _ => exact ⟨w0, w1, w2, w3, rfl⟩
  have hw := fun d (hd : d ∈ tables_1) => atoms_spec (ws := Jvm.Cond.code x code maxLocals ret :: tables_1) hat d (List.mem_cons_of_mem _ hd)
  obtain ⟨i0, ei0⟩ := is_v ha0
  obtain rfl : w0 = (.int i0) := Option.some.inj ei0
  obtain ⟨i1, ei1⟩ := is_v ha1
  obtain rfl : w1 = (.int i1) := Option.some.inj ei1
  obtain ⟨i2, ei2⟩ := is_v ha2
  obtain rfl : w2 = (.int i2) := Option.some.inj ei2
  obtain ⟨i3, ei3⟩ := is_v hr3
  obtain rfl : w3 = (.int i3) := Option.some.inj ei3
  obtain ⟨n, o, h1, h2, h3, _, L, rfl, ⟨rfl, N⟩, hq⟩ := rm0 l s _ hw tables_1 i0 i1 i2 i3 s.heap s.heap.size (Nat.le_refl _) p e ha hc hk s m _ below hf ((Spec.applies_iff_loose hf).mp happ).1 ⟨rfl, State.Warmed39.refl s, rfl⟩ trivial
  refine ⟨n, _, h1, h2, h3, hpost _ _ _ _ _ _ ⟨Cond.after_iff.mpr rfl, Cond.after_iff.mpr (eq_i res_at (Term.int_eval (1)) rfl), trivial⟩ ⟨hq.1, hq.2.1, (hq.2.2.sift fun y hy => Or.inr (N y hy)).mono (by decide) (by decide)⟩⟩
theorem main_1_1 : Claimed_1_1 := comes_1 fun _ _ _ _ _ _ h hF => ⟨h.1, hF⟩
theorem main_1_2 : Claimed_1_2 := comes_1 fun _ _ _ _ _ _ h hF => ⟨h.2.1, hF⟩
end Jvm.Pilot.@@N@@
namespace Jvm.Pilot.@@N@@
open Jvm Jvm.ClassFile Sem Op Lib Jvm.Free Jvm.Stand Jvm.Pilot.@@N@@.Jvm.D
/-! MADE BY PROGRAM (witnessworld.py) out of the Statement's table words and the real class files: 9 classes; the members and pool entries that the words name. The judged class is class 1, her method 1. -/
namespace start1
open Jvm.ClassFile
def u (s : String) : CpInfo := .utf8 (stringToUtf16 s)
/-- a pool by its gaps: so many unusable entries, then the entry; so many at the end -/
def gap : Nat → List CpInfo → List CpInfo
  | 0, r => r
  | n + 1, r => .unusable :: gap n r
def poolList (es : List (Nat × CpInfo)) (last : Nat) : List CpInfo := es.foldr (fun e r => gap e.1 (e.2 :: r)) (gap last [])
def pool (es : List (Nat × CpInfo)) (last : Nat) : Array CpInfo := ⟨poolList es last⟩
def fileOf (pool : Array CpInfo) (this : Nat) (attrs : Array Attribute := #[]) (ms : Array MethodInfo := #[]) (fl : Nat := 33) (sup : Nat := 0) (ifs : Array Nat := #[]) (fds : Array FieldInfo := #[]) : ClassFile where
  minorVersion := 0
  majorVersion := 65
  constantPool := pool
  accessFlags := fl
  thisClass := this
  superClass := sup
  interfaces := ifs
  fields := fds
  methods := ms
  attributes := attrs
def plain (name : String) (sup : Option ClassId) : Class where
  name := name
  kind := .ordinary
  loader := none
  accessFlags := 33
  super := sup
  interfaces := #[]
  cf := none
  fields := #[]
  methods := #[]
  instanceTypes := #[]
  staticTypes := #[]
  resolved := #[]
  callSites := []
  init := .initialized
  statics := none
  mirror := none

def pool0 : Array CpInfo := pool [(5, u "<init>"), (0, u "()V"), (1, .class_ 10), (1, u "java/lang/Object")] 113

def k0c0 : Code := { maxStack := 0, maxLocals := 1, code := object_method_1_code, exceptionTable := #[], attributes := #[] }
def k0m0 : Method := { name := "<init>", desc := "()V", sig := { parameters := [], returnType := none }, accessFlags := 1, code := some k0c0 }
/-- java/lang/Object -/
def k0 : Class := { plain "java/lang/Object" none with
  accessFlags := 33
  interfaces := #[]
  cf := some (fileOf pool0 8 #[] #[{ accessFlags := 1, nameIndex := 5, descriptorIndex := 6, attributes := #[] }] 33 0 #[] #[])
  fields := #[]
  methods := #[k0m0]
  instanceTypes := #[]
  staticTypes := #[]
  resolved := Array.replicate 124 none
  statics := none }

def pool1 : Array CpInfo := pool [(2, .class_ 4), (1, u "java/lang/Object"), (0, u "<init>"), (0, u "()V"), (0, .integer 2147483647), (0, .class_ 9), (0, u "com/example/annalist/annalist/store/RecordCodec$Input"), (0, .methodref 8 11), (0, .nameAndType 5 12), (0, u "([BII)V"), (0, .methodref 8 14), (0, .nameAndType 15 16), (0, u "atEnd"), (0, u "()Z"), (0, .methodref 8 18), (0, .nameAndType 19 20), (0, u "fixed"), (0, u "(I)J"), (0, .methodref 8 22), (0, .nameAndType 23 24), (0, u "skip"), (0, u "(J)V"), (0, .class_ 26), (0, u "com/example/annalist/annalist/store/InputAtEndPinLaw"), (2, u "law"), (0, u "(IIII)Z")] 12

def k1m0 : Method := { name := "<init>", desc := "()V", sig := { parameters := [], returnType := none }, accessFlags := 1, code := none }
def k1c1 : Code := { maxStack := 5, maxLocals := 13, code := code, exceptionTable := #[], attributes := #[] }
def k1m1 : Method := { name := "law", desc := "(IIII)Z", sig := { parameters := [.int, .int, .int, .int], returnType := some .boolean }, accessFlags := 9, code := some k1c1 }
/-- com/example/annalist/annalist/store/InputAtEndPinLaw -/
def k1 : Class := { plain "com/example/annalist/annalist/store/InputAtEndPinLaw" (some 0) with
  accessFlags := 49
  interfaces := #[]
  cf := some (fileOf pool1 25 #[] #[{ accessFlags := 1, nameIndex := 5, descriptorIndex := 6, attributes := #[] }, { accessFlags := 9, nameIndex := 29, descriptorIndex := 30, attributes := #[] }] 49 2 #[] #[])
  fields := #[]
  methods := #[k1m0, k1m1]
  instanceTypes := #[]
  staticTypes := #[]
  resolved := Array.replicate 43 none
  statics := none }

def pool2 : Array CpInfo := pool [(2, .class_ 4), (1, u "com/example/annalist/annalist/store/RecordCodec$Input"), (0, u "<init>"), (0, u "([BII)V"), (0, .methodref 8 9), (0, .class_ 10), (0, .nameAndType 5 11), (0, u "java/lang/Object"), (0, u "()V"), (0, .fieldref 2 13), (0, .nameAndType 14 15), (0, u "bytes"), (0, u "[B"), (0, .fieldref 2 17), (0, .nameAndType 18 19), (0, u "position"), (0, u "I"), (0, .fieldref 2 21), (0, .nameAndType 22 19), (0, u "end"), (0, .methodref 2 24), (0, .nameAndType 25 26), (0, u "need"), (0, u "(I)V"), (9, .methodref 2 37), (0, .nameAndType 38 39), (0, u "field"), (0, u "(J)I"), (16, u "fixed"), (0, u "(I)J"), (6, u "skip"), (0, u "(J)V"), (0, u "atEnd"), (0, u "()Z"), (7, .class_ 76), (0, u "com/example/annalist/annalist/store/RecordCodec")] 3

def k2c0 : Code := { maxStack := 3, maxLocals := 4, code := prog_92_method_2_code, exceptionTable := #[], attributes := #[] }
def k2m0 : Method := { name := "<init>", desc := "([BII)V", sig := { parameters := [(.array .byte), .int, .int], returnType := none }, accessFlags := 0, code := some k2c0 }
def k2c1 : Code := { maxStack := 7, maxLocals := 5, code := prog_92_method_3_code, exceptionTable := #[], attributes := #[] }
def k2m1 : Method := { name := "fixed", desc := "(I)J", sig := { parameters := [.int], returnType := some .long }, accessFlags := 0, code := some k2c1 }
def k2c2 : Code := { maxStack := 5, maxLocals := 3, code := prog_92_method_6_code, exceptionTable := #[], attributes := #[] }
def k2m2 : Method := { name := "skip", desc := "(J)V", sig := { parameters := [.long], returnType := none }, accessFlags := 0, code := some k2c2 }
def k2c3 : Code := { maxStack := 4, maxLocals := 3, code := prog_92_method_7_code, exceptionTable := #[], attributes := #[] }
def k2m3 : Method := { name := "field", desc := "(J)I", sig := { parameters := [.long], returnType := some .int }, accessFlags := 2, code := some k2c3 }
def k2c4 : Code := { maxStack := 2, maxLocals := 1, code := prog_92_method_8_code, exceptionTable := #[], attributes := #[] }
def k2m4 : Method := { name := "atEnd", desc := "()Z", sig := { parameters := [], returnType := some .boolean }, accessFlags := 0, code := some k2c4 }
def k2c5 : Code := { maxStack := 3, maxLocals := 2, code := prog_92_method_12_code, exceptionTable := #[], attributes := #[] }
def k2m5 : Method := { name := "need", desc := "(I)V", sig := { parameters := [.int], returnType := none }, accessFlags := 2, code := some k2c5 }
/-- com/example/annalist/annalist/store/RecordCodec$Input -/
def k2 : Class := { plain "com/example/annalist/annalist/store/RecordCodec$Input" (some 0) with
  accessFlags := 48
  interfaces := #[]
  cf := some (fileOf pool2 2 #[.nestHost 75] #[{ accessFlags := 0, nameIndex := 5, descriptorIndex := 6, attributes := #[] }, { accessFlags := 0, nameIndex := 56, descriptorIndex := 57, attributes := #[] }, { accessFlags := 0, nameIndex := 64, descriptorIndex := 65, attributes := #[] }, { accessFlags := 2, nameIndex := 38, descriptorIndex := 39, attributes := #[] }, { accessFlags := 0, nameIndex := 66, descriptorIndex := 67, attributes := #[] }, { accessFlags := 2, nameIndex := 25, descriptorIndex := 26, attributes := #[] }] 48 8 #[] #[{ accessFlags := 18, nameIndex := 14, descriptorIndex := 15, attributes := #[] }, { accessFlags := 18, nameIndex := 22, descriptorIndex := 19, attributes := #[] }, { accessFlags := 2, nameIndex := 18, descriptorIndex := 19, attributes := #[] }])
  fields := #[{ name := "bytes", type := (.array .byte), accessFlags := 18, slot := 0, constantValue := 0 }, { name := "end", type := .int, accessFlags := 18, slot := 1, constantValue := 0 }, { name := "position", type := .int, accessFlags := 2, slot := 2, constantValue := 0 }]
  methods := #[k2m0, k2m1, k2m2, k2m3, k2m4, k2m5]
  instanceTypes := #[(.array .byte), .int, .int]
  staticTypes := #[]
  resolved := Array.replicate 80 none
  statics := none }

def pool3 : Array CpInfo := pool [(1, u "java/lang/Cloneable"), (0, .class_ 1), (0, u "java/lang/Object"), (0, .class_ 3)] 3

/-- java/lang/Cloneable -/
def k3 : Class := { plain "java/lang/Cloneable" (some 0) with
  accessFlags := 1537
  interfaces := #[]
  cf := some (fileOf pool3 2 #[] #[] 1537 4 #[] #[])
  fields := #[]
  methods := #[]
  instanceTypes := #[]
  staticTypes := #[]
  resolved := Array.replicate 8 none
  statics := none }

def pool4 : Array CpInfo := pool [(1, u "java/io/Serializable"), (0, .class_ 1), (0, u "java/lang/Object"), (0, .class_ 3)] 3

/-- java/io/Serializable -/
def k4 : Class := { plain "java/io/Serializable" (some 0) with
  accessFlags := 1537
  interfaces := #[]
  cf := some (fileOf pool4 2 #[] #[] 1537 4 #[] #[])
  fields := #[]
  methods := #[]
  instanceTypes := #[]
  staticTypes := #[]
  resolved := Array.replicate 8 none
  statics := none }

/-- the primitive byte -/
def k5 : Class := { plain "byte" none with kind := .primitive 'B', accessFlags := 0x411 }
/-- [B -/
def k6 : Class := { plain "[B" (some 0) with kind := .array 5 .byte, interfaces := #[3, 4], accessFlags := 1041 }

/-- the primitive int -/
def k7 : Class := { plain "int" none with kind := .primitive 'I', accessFlags := 0x411 }
/-- [I -/
def k8 : Class := { plain "[I" (some 0) with kind := .array 7 .int, interfaces := #[3, 4], accessFlags := 1041 }

def heap : Heap := #[]
def classes : Array Class := #[k0, k1, k2, k3, k4, k5, k6, k7, k8]
def interned : List (Array UInt16 × Addr) := []
def slotsUsed : Nat := 0
def theMethod : MethodId := ⟨1, 1⟩
def args0 : Array Value := #[.int 3, .int 2, .int 1, .int 9]
def aboutOver (below : List Frame) : State where
  vm := { classes := classes, interned := interned.toArray }
  heap := heap
  slotsUsed := slotsUsed
  threads := #[{ frames := .invoking theMethod args0 :: below }]
def below0 : List Frame := [.native { method := ⟨0, 0⟩, args := #[] }]
def about1 : State := aboutOver below0
def p0 : Program := .bare "" "" ""
def e0 : Env := launch0.env 0 0 0
theorem w_frames : about1.frames = Frame.invoking theMethod args0 :: below0 := rfl
set_option maxRecDepth 65536 in
theorem w_args : argsFit about1.vm theMethod args0 = true := by decide +kernel
set_option maxRecDepth 65536 in
theorem w_heap : heapFits about1 = true := by decide +kernel
set_option maxRecDepth 65536 in
theorem w_runnable : about1.curStatus? = some .runnable := by decide +kernel
set_option maxRecDepth 65536 in
theorem w_alone : about1.alone = true := by decide +kernel
set_option maxRecDepth 65536 in
theorem w_named : about1.methodNamed? x = some theMethod := by decide +kernel
set_option maxRecDepth 65536 in
theorem w_hears : about1.hears theMethod below0 = true := by decide +kernel
set_option maxRecDepth 65536 in
theorem w_ripe : about1.ripe theMethod args0 below0 = true := by decide +kernel
theorem w_running : about1.status = .running := rfl
set_option maxRecDepth 65536 in
theorem w_room : about1.hasRoom e0.platform room_1 = true :=
  launch0.hasRoom_least _ room_1 (by decide +kernel) (by decide +kernel) (by decide +kernel) (by decide +kernel) (by decide +kernel) (by decide +kernel)
theorem allAtoms_all (ts : List Jvm.Cond) (a : Array Jvm.Value) (st : Jvm.State) : (allAtoms ts).before a st = ts.all (fun c => c.before a st) := by
  induction ts with
  | nil => rfl
  | cons c t ih =>
    show (Jvm.Cond.and c (allAtoms t)).before a st = _
    rw [Jvm.Cond.before_and, ih, List.all_cons]
def words1 : List Jvm.Cond := Jvm.Cond.code x code maxLocals ret :: tables_1
/-- a 'code' word, met by the world's own term for the bytes: nothing is compared byte by byte -/
theorem code_word {y : MethodName} {bytes : ByteArray} {mx : Nat} {rt : Option FieldType} {a : Array Value} {s : State} {m : MethodId} {meth : Method} {c : Code} (h1 : s.methodNamed? y = some m) (h2 : s.vm.method? m = some meth) (h3 : meth.code = some c) (h4 : c.code = bytes)
    (h5 : (c.maxLocals == mx && c.exceptionTable.isEmpty && decide (c.maxStack ≤ mostOperands) && decide (meth.sig.returnType = rt) && !meth.locks && decide (parseMethodDescriptor y.desc = some meth.sig)) = true) : (Jvm.Cond.code y bytes mx rt).before a s = true := by
  simp only [Bool.and_eq_true, beq_iff_eq, Bool.not_eq_true', decide_eq_true_eq] at h5
  obtain ⟨⟨⟨⟨⟨g1, g2⟩, g3⟩, g4⟩, g5⟩, g6⟩ := h5
  simp [Cond.before, Cond.holds, Cond.value, h1, h2, h3, h4, g1, g2, g3, g4, g5, g6]
def isCode : Jvm.Cond → Bool
  | .code _ _ _ _ => true
  | _ => false
theorem all_split {L : List Jvm.Cond} {P : Jvm.Cond → Bool} (h1 : L.all (fun c => isCode c || P c) = true) (h2 : ∀ c ∈ L.filter isCode, P c = true) : L.all P = true := by
  refine List.all_eq_true.mpr fun c hc => ?_
  have h := List.all_eq_true.mp h1 c hc
  rcases Bool.eq_false_or_eq_true (isCode c) with hi | hi
  · exact h2 c (List.mem_filter.mpr ⟨hc, hi⟩)
  · simpa [hi] using h
set_option maxRecDepth 65536 in
theorem w_c0 : (Jvm.Cond.code x code maxLocals ret).before args0 about1 = true := code_word (m := ⟨1, 1⟩) (meth := k1m1) (c := k1c1) (by decide +kernel) rfl rfl rfl (by decide +kernel)
set_option maxRecDepth 65536 in
theorem w_c1 : (Jvm.Cond.code ({ cls := "com/example/annalist/annalist/store/RecordCodec$Input", name := "<init>", desc := "([BII)V" } : Jvm.MethodName) prog_92_method_2_code (4 : Nat) (Option.none : Option Jvm.ClassFile.FieldType)).before args0 about1 = true := code_word (m := ⟨2, 0⟩) (meth := k2m0) (c := k2c0) (by decide +kernel) rfl rfl rfl (by decide +kernel)
set_option maxRecDepth 65536 in
theorem w_c2 : (Jvm.Cond.code ({ cls := "java/lang/Object", name := "<init>", desc := "()V" } : Jvm.MethodName) object_method_1_code (1 : Nat) (Option.none : Option Jvm.ClassFile.FieldType)).before args0 about1 = true := code_word (m := ⟨0, 0⟩) (meth := k0m0) (c := k0c0) (by decide +kernel) rfl rfl rfl (by decide +kernel)
set_option maxRecDepth 65536 in
theorem w_c3 : (Jvm.Cond.code ({ cls := "com/example/annalist/annalist/store/RecordCodec$Input", name := "atEnd", desc := "()Z" } : Jvm.MethodName) prog_92_method_8_code (1 : Nat) (Option.some Jvm.ClassFile.FieldType.boolean)).before args0 about1 = true := code_word (m := ⟨2, 4⟩) (meth := k2m4) (c := k2c4) (by decide +kernel) rfl rfl rfl (by decide +kernel)
set_option maxRecDepth 65536 in
theorem w_c4 : (Jvm.Cond.code ({ cls := "com/example/annalist/annalist/store/RecordCodec$Input", name := "fixed", desc := "(I)J" } : Jvm.MethodName) prog_92_method_3_code (5 : Nat) (Option.some Jvm.ClassFile.FieldType.long)).before args0 about1 = true := code_word (m := ⟨2, 1⟩) (meth := k2m1) (c := k2c1) (by decide +kernel) rfl rfl rfl (by decide +kernel)
set_option maxRecDepth 65536 in
theorem w_c5 : (Jvm.Cond.code ({ cls := "com/example/annalist/annalist/store/RecordCodec$Input", name := "need", desc := "(I)V" } : Jvm.MethodName) prog_92_method_12_code (2 : Nat) (Option.none : Option Jvm.ClassFile.FieldType)).before args0 about1 = true := code_word (m := ⟨2, 5⟩) (meth := k2m5) (c := k2c5) (by decide +kernel) rfl rfl rfl (by decide +kernel)
set_option maxRecDepth 65536 in
theorem w_c6 : (Jvm.Cond.code ({ cls := "com/example/annalist/annalist/store/RecordCodec$Input", name := "skip", desc := "(J)V" } : Jvm.MethodName) prog_92_method_6_code (3 : Nat) (Option.none : Option Jvm.ClassFile.FieldType)).before args0 about1 = true := code_word (m := ⟨2, 2⟩) (meth := k2m2) (c := k2c2) (by decide +kernel) rfl rfl rfl (by decide +kernel)
set_option maxRecDepth 65536 in
theorem w_c7 : (Jvm.Cond.code ({ cls := "com/example/annalist/annalist/store/RecordCodec$Input", name := "field", desc := "(J)I" } : Jvm.MethodName) prog_92_method_7_code (3 : Nat) (Option.some Jvm.ClassFile.FieldType.int)).before args0 about1 = true := code_word (m := ⟨2, 3⟩) (meth := k2m3) (c := k2c3) (by decide +kernel) rfl rfl rfl (by decide +kernel)
def codes1 : List Jvm.Cond := [Jvm.Cond.code x code maxLocals ret, Jvm.Cond.code ({ cls := "com/example/annalist/annalist/store/RecordCodec$Input", name := "<init>", desc := "([BII)V" } : Jvm.MethodName) prog_92_method_2_code (4 : Nat) (Option.none : Option Jvm.ClassFile.FieldType), Jvm.Cond.code ({ cls := "java/lang/Object", name := "<init>", desc := "()V" } : Jvm.MethodName) object_method_1_code (1 : Nat) (Option.none : Option Jvm.ClassFile.FieldType), Jvm.Cond.code ({ cls := "com/example/annalist/annalist/store/RecordCodec$Input", name := "atEnd", desc := "()Z" } : Jvm.MethodName) prog_92_method_8_code (1 : Nat) (Option.some Jvm.ClassFile.FieldType.boolean), Jvm.Cond.code ({ cls := "com/example/annalist/annalist/store/RecordCodec$Input", name := "fixed", desc := "(I)J" } : Jvm.MethodName) prog_92_method_3_code (5 : Nat) (Option.some Jvm.ClassFile.FieldType.long), Jvm.Cond.code ({ cls := "com/example/annalist/annalist/store/RecordCodec$Input", name := "need", desc := "(I)V" } : Jvm.MethodName) prog_92_method_12_code (2 : Nat) (Option.none : Option Jvm.ClassFile.FieldType), Jvm.Cond.code ({ cls := "com/example/annalist/annalist/store/RecordCodec$Input", name := "skip", desc := "(J)V" } : Jvm.MethodName) prog_92_method_6_code (3 : Nat) (Option.none : Option Jvm.ClassFile.FieldType), Jvm.Cond.code ({ cls := "com/example/annalist/annalist/store/RecordCodec$Input", name := "field", desc := "(J)I" } : Jvm.MethodName) prog_92_method_7_code (3 : Nat) (Option.some Jvm.ClassFile.FieldType.int)]
set_option maxRecDepth 65536 in
theorem codes_eq : words1.filter isCode = codes1 := rfl
theorem w_codes : ∀ c ∈ words1.filter isCode, c.before args0 about1 = true := by
  rw [codes_eq]
  intro c hc
  simp only [codes1, List.mem_cons, List.not_mem_nil, or_false] at hc
  rcases hc with rfl | rfl | rfl | rfl | rfl | rfl | rfl | rfl
  · exact w_c0
  · exact w_c1
  · exact w_c2
  · exact w_c3
  · exact w_c4
  · exact w_c5
  · exact w_c6
  · exact w_c7
set_option maxRecDepth 65536 in
theorem w_t1 : (words1.take 24).all (fun c => isCode c || c.before args0 about1) = true := by decide +kernel
set_option maxRecDepth 65536 in
theorem w_t2 : (words1.drop 24).all (fun c => isCode c || c.before args0 about1) = true := by decide +kernel
theorem w_tables : (allAtoms (Jvm.Cond.code x code maxLocals ret :: tables_1)).before args0 about1 = true := by
  rw [allAtoms_all]
  show words1.all (fun c => c.before args0 about1) = true
  refine all_split ?_ w_codes
  rw [← List.take_append_drop 24 words1, List.all_append, w_t1, w_t2]
  rfl
set_option maxRecDepth 65536 in
theorem w_case : (Jvm.Cond.and given_1 narrow_1).before args0 about1 = true := by decide +kernel
theorem w_applies : (headSpec (Jvm.Cond.code x code maxLocals ret :: tables_1) room_1).applies x e0.platform about1 = true :=
  (Spec.applies_iff w_frames).mpr ⟨w_running, w_runnable, w_alone, w_named, w_hears, w_ripe, w_room, w_tables⟩
theorem atStart : AtStart classFile x code maxLocals ret World_1 tables_1 room_1 Calls_1 rest_1 Pre_1 launch0 p0 e0 about1 theMethod args0 below0 :=
  ⟨lists_1, trivial, launch0.admits_env _ _ _, launch0.least_env, fairChoices_fair.cas, fairChoices_fair.clock, w_frames, w_args, w_heap, w_applies, trivial, trivial, w_case⟩
end start1
theorem witness_1 : WitnessClaimed_1 := ⟨start1.p0, start1.e0, start1.about1, start1.theMethod, start1.args0, start1.below0, start1.atStart⟩
end Jvm.Pilot.@@N@@
