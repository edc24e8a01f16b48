import JvmDerived
import JvmDerived.Pilot.@@N@@Statement
import JvmDerived.Pilot.@@N@@Code
set_option linter.unusedVariables false
set_option linter.unusedSimpArgs false
namespace Jvm.RoadKit
open Sem ClassFile Op Lib Jvm.Stand Jvm.Free Jvm.LawKit
section New
variable {p : Program} {l : Launch} {e : Env} {R : Room} {s : State} {m : MethodId} {args : Array Value} {below : List Frame} {meth : Method} {c : Code} {T : State} {locs : List Loc} {cells slots : Nat}
theorem retI (X : Stand p l e R s m args below meth c T locs cells slots) (hx : p.tables.exec = Jvm.exec) {pc : Nat} {Ls : Array Slot} {z : Int32} {rest : List Value} (hret : meth.sig.returnType = some .int) (hd : decode c.code pc = .ok (.ireturn, 1)) {fs : List Frame}
    (hl : ∀ (f : JFrame) (acts : List Action), f.method = m → f.locked = none → f.entered = [] → (doReturn e (T.setTop f) acts (some (.int z))).1 = T.setFrames fs) : Steps p.tables e below (T.setTop (mkF m pc Ls (.int z :: rest))) (T.setFrames fs) := by
  have hm' : T.vm.method? m = some meth := X.method'
  have hn : narrow .int (.int z) = .int z := rfl
  show Steps p.tables e below (T.setTop { method := m, pc := pc, locals := Ls, stack := _ :: rest, locked := none }) _
  jvm_step X.here [X.here.top, hx, hd, hm', hret, hn]
  first | (intro acts; rw [hl _ acts rfl rfl rfl]) | rw [hl _ _ rfl rfl rfl]
  exact Steps.refl _
end New
end Jvm.RoadKit
namespace Jvm.Pilot.@@N@@
open Jvm Jvm.ClassFile Sem Op Lib Jvm.Free Jvm.Stand Jvm.LawKit Jvm.RoadKit Bundle Jvm.Pilot.@@N@@.Jvm.D
theorem ef_1 (m : MethodId) (x0 : Int32) (x1 : Int32) : entryFrame m #[(.int x0), (.int x1)] 2 = mkF m 0 #[.val (.int x0), .val (.int x1)] [] := by first | (simp [entryFrame, mkF, argsToLocals, Value.category]; done) | rfl
theorem d1_0 : decode jdk_29_method_65_code 0 = .ok (.iload_n 0, 1) := by decide +kernel
theorem d1_1 : decode jdk_29_method_65_code 1 = .ok (.iload_n 1, 1) := by decide +kernel
theorem d1_2 : decode jdk_29_method_65_code 2 = .ok (.if_icmp .lt 7, 3) := by decide +kernel
theorem d1_9 : decode jdk_29_method_65_code 9 = .ok (.iload_n 1, 1) := by decide +kernel
theorem d1_10 : decode jdk_29_method_65_code 10 = .ok (.ireturn, 1) := by decide +kernel
theorem d1_5 : decode jdk_29_method_65_code 5 = .ok (.iload_n 0, 1) := by decide +kernel
theorem d1_6 : decode jdk_29_method_65_code 6 = .ok (.goto 4, 3) := by decide +kernel
theorem pn_2 : plainName "com/example/pulq/pulq/client/TopicStatus" = true := by first | (simp [plainName, overriddenIn]; done) | decide +kernel
theorem ef_2 (m : MethodId) (x0 : Addr) (x1 : Int32) (x2 : Int32) (x3 : Addr) (x4 : Addr) : entryFrame m #[(.ref x0), (.int x1), (.int x2), (.ref x3), (.ref x4)] 5 = mkF m 0 #[.val (.ref x0), .val (.int x1), .val (.int x2), .val (.ref x3), .val (.ref x4)] [] := by first | (simp [entryFrame, mkF, argsToLocals, Value.category]; done) | rfl
theorem d2_0 : decode prog_13_method_1_code 0 = .ok (.aload_n 0, 1) := by decide +kernel
theorem d2_1 : decode prog_13_method_1_code 1 = .ok (.invokespecial 1, 3) := by decide +kernel
theorem d2_4 : decode prog_13_method_1_code 4 = .ok (.aload_n 3, 1) := by decide +kernel
theorem d2_5 : decode prog_13_method_1_code 5 = .ok (.arraylength, 1) := by decide +kernel
theorem d2_6 : decode prog_13_method_1_code 6 = .ok (.aload 4, 2) := by decide +kernel
theorem d2_8 : decode prog_13_method_1_code 8 = .ok (.arraylength, 1) := by decide +kernel
theorem d2_9 : decode prog_13_method_1_code 9 = .ok (.if_icmp .eq 21, 3) := by decide +kernel
theorem d2_30 : decode prog_13_method_1_code 30 = .ok (.aload_n 0, 1) := by decide +kernel
theorem d2_31 : decode prog_13_method_1_code 31 = .ok (.iload_n 1, 1) := by decide +kernel
theorem d2_32 : decode prog_13_method_1_code 32 = .ok (.putfield 16, 3) := by decide +kernel
theorem d2_35 : decode prog_13_method_1_code 35 = .ok (.aload_n 0, 1) := by decide +kernel
theorem d2_36 : decode prog_13_method_1_code 36 = .ok (.iload_n 2, 1) := by decide +kernel
theorem d2_37 : decode prog_13_method_1_code 37 = .ok (.putfield 22, 3) := by decide +kernel
theorem d2_40 : decode prog_13_method_1_code 40 = .ok (.aload_n 0, 1) := by decide +kernel
theorem d2_41 : decode prog_13_method_1_code 41 = .ok (.aload_n 3, 1) := by decide +kernel
theorem d2_42 : decode prog_13_method_1_code 42 = .ok (.invokevirtual 25, 3) := by decide +kernel
theorem d2_45 : decode prog_13_method_1_code 45 = .ok (.checkcast 26, 3) := by decide +kernel
theorem d2_48 : decode prog_13_method_1_code 48 = .ok (.putfield 31, 3) := by decide +kernel
theorem d2_51 : decode prog_13_method_1_code 51 = .ok (.aload_n 0, 1) := by decide +kernel
theorem d2_52 : decode prog_13_method_1_code 52 = .ok (.aload 4, 2) := by decide +kernel
theorem d2_54 : decode prog_13_method_1_code 54 = .ok (.invokevirtual 25, 3) := by decide +kernel
theorem d2_57 : decode prog_13_method_1_code 57 = .ok (.checkcast 26, 3) := by decide +kernel
theorem d2_60 : decode prog_13_method_1_code 60 = .ok (.putfield 34, 3) := by decide +kernel
theorem d2_63 : decode prog_13_method_1_code 63 = .ok (.return_, 1) := by decide +kernel
theorem pn_4 : plainName "com/example/pulq/pulq/client/TopicStatus" = true := by first | (simp [plainName, overriddenIn]; done) | decide +kernel
theorem ef_4 (m : MethodId) (x0 : Addr) : entryFrame m #[(.ref x0)] 4 = mkF m 0 #[.val (.ref x0), .unset, .unset, .unset] [] := by first | (simp [entryFrame, mkF, argsToLocals, Value.category]; done) | rfl
theorem d4_0 : decode prog_13_method_7_code 0 = .ok (.lconst 0, 1) := by decide +kernel
theorem d4_1 : decode prog_13_method_7_code 1 = .ok (.lstore_n 1, 1) := by decide +kernel
theorem d4_2 : decode prog_13_method_7_code 2 = .ok (.iconst 0, 1) := by decide +kernel
theorem d4_3 : decode prog_13_method_7_code 3 = .ok (.istore_n 3, 1) := by decide +kernel
theorem d4_4 : decode prog_13_method_7_code 4 = .ok (.iload_n 3, 1) := by decide +kernel
theorem d4_5 : decode prog_13_method_7_code 5 = .ok (.aload_n 0, 1) := by decide +kernel
theorem d4_6 : decode prog_13_method_7_code 6 = .ok (.getfield 31, 3) := by decide +kernel
theorem d4_9 : decode prog_13_method_7_code 9 = .ok (.arraylength, 1) := by decide +kernel
theorem d4_10 : decode prog_13_method_7_code 10 = .ok (.if_icmp .ge 25, 3) := by decide +kernel
theorem d4_13 : decode prog_13_method_7_code 13 = .ok (.lload_n 1, 1) := by decide +kernel
theorem d4_14 : decode prog_13_method_7_code 14 = .ok (.aload_n 0, 1) := by decide +kernel
theorem d4_15 : decode prog_13_method_7_code 15 = .ok (.getfield 34, 3) := by decide +kernel
theorem d4_18 : decode prog_13_method_7_code 18 = .ok (.iload_n 3, 1) := by decide +kernel
theorem d4_19 : decode prog_13_method_7_code 19 = .ok (.laload, 1) := by decide +kernel
theorem d4_20 : decode prog_13_method_7_code 20 = .ok (.aload_n 0, 1) := by decide +kernel
theorem d4_21 : decode prog_13_method_7_code 21 = .ok (.getfield 31, 3) := by decide +kernel
theorem d4_24 : decode prog_13_method_7_code 24 = .ok (.iload_n 3, 1) := by decide +kernel
theorem d4_25 : decode prog_13_method_7_code 25 = .ok (.laload, 1) := by decide +kernel
theorem d4_26 : decode prog_13_method_7_code 26 = .ok (.lsub, 1) := by decide +kernel
theorem d4_27 : decode prog_13_method_7_code 27 = .ok (.ladd, 1) := by decide +kernel
theorem d4_28 : decode prog_13_method_7_code 28 = .ok (.lstore_n 1, 1) := by decide +kernel
theorem d4_29 : decode prog_13_method_7_code 29 = .ok (.iinc 3 1, 3) := by decide +kernel
theorem d4_32 : decode prog_13_method_7_code 32 = .ok (.goto (-28), 3) := by decide +kernel
theorem d4_35 : decode prog_13_method_7_code 35 = .ok (.lload_n 1, 1) := by decide +kernel
theorem d4_36 : decode prog_13_method_7_code 36 = .ok (.lreturn, 1) := by decide +kernel
theorem pn_0 : plainName "com/example/pulq/pulq/client/TopicStatusGetMessageCountPinLaw" = true := by first | (simp [plainName, overriddenIn]; done) | decide +kernel
theorem ef_0 (m : MethodId) (x0 : Int32) (x1 : Int64) (x2 : Int64) (x3 : Int64) (x4 : Int64) (x5 : Int64) : entryFrame m #[(.int x0), (.long x1), (.long x2), (.long x3), (.long x4), (.long x5)] maxLocals = mkF m 0 #[.val (.int x0), .val (.long x1), .second, .val (.long x2), .second, .val (.long x3), .second, .val (.long x4), .second, .val (.long x5), .second, .unset, .unset, .unset, .unset, .unset, .unset, .unset, .unset] [] := by first | (simp [entryFrame, mkF, argsToLocals, Value.category, maxLocals]; done) | rfl
theorem pd_2 : parseMethodDescriptor "(II)I" = some ⟨[.int, .int], some .int⟩ := by decide +kernel
theorem pd_3 : parseMethodDescriptor "(II[J[J)V" = some ⟨[.int, .int, (.array .long), (.array .long)], none⟩ := by decide +kernel
theorem pd_0 : parseMethodDescriptor "()J" = some ⟨[], some .long⟩ := by decide +kernel
theorem own_lt {i n : Nat} (h : i < n) (hn : n ≤ 4096) : Int32.ofNat i < Int32.ofNat n := by
  rw [Int32.lt_iff_toInt_lt, Int32.toInt_ofNat_of_lt (by omega), Int32.toInt_ofNat_of_lt (by omega)]
  omega
theorem own_nn {n : Nat} (hn : n ≤ 4096) : ¬ Int32.ofNat n < 0 := by
  rw [Int32.lt_iff_toInt_lt, Int32.toInt_ofNat_of_lt (by omega), show (0 : Int32).toInt = 0 from rfl]
  omega
theorem own_n32 {n : Nat} (hn : n ≤ 4096) : (Int32.ofNat n).toNatClampNeg = n := by
  rw [Int32.toNatClampNeg, Int32.toInt_ofNat_of_lt (by omega)]; rfl
theorem own_one (i : Nat) : Int32.ofNat (i + 1) = Int32.ofNat i + (1 : Int32) := Int32.ofNat_add i 1
def own_A (Z : State) (h : Heap) (t : Addr) (n : Nat) (ty : FieldType) (f : Nat → Value) : Prop := ∃ cl : Cell, Arr Z h t cl ty ∧ cl.slots.size = n ∧ ∀ j, j < n → cl.slots[j]? = some (f j)
theorem own_A_ext {Z : State} {h h' : Heap} {t : Addr} {n : Nat} {ty : FieldType} {f : Nat → Value} (A : own_A Z h t n ty f) (E : Ext h h') : own_A Z h' t n ty f := by obtain ⟨cl, B, r⟩ := A; exact ⟨cl, B.ext E, r⟩
theorem own_A_other {Z : State} {h h' : Heap} {t a : Addr} {n sl : Nat} {v : Value} {ty : FieldType} {f : Nat → Value} (A : own_A Z h t n ty f) (W : Wr h h' a sl v) (q : t ≠ a) : own_A Z h' t n ty f := by obtain ⟨cl, B, r⟩ := A; exact ⟨cl, B.other W q, r⟩
theorem own_A_keep {Z : State} {h h' : Heap} {t : Addr} {n : Nat} {ty : FieldType} {f : Nat → Value} {ws : List Addr} (A : own_A Z h t n ty f) (K : Keep h h' ws) (q : t ∉ ws) : own_A Z h' t n ty f := by obtain ⟨cl, B, r⟩ := A; exact ⟨cl, ⟨K.2.1 t cl B.1 q, B.2⟩, r⟩
theorem own_A_lt {Z : State} {h : Heap} {t : Addr} {n : Nat} {ty : FieldType} {f : Nat → Value} (A : own_A Z h t n ty f) : t < h.size := by obtain ⟨cl, B, -⟩ := A; exact B.lt
theorem own_A_set {Z : State} {h h' : Heap} {t : Addr} {n : Nat} {ty : FieldType} {f : Nat → Value} {v : Value} {sl : Nat} (A : own_A Z h t n ty f) (W : Wr h h' t sl v) (k : Nat) (hk : sl = k) (hn : k < n) : own_A Z h' t n ty (fun i => if i = k then v else f i) := by
  subst hk
  obtain ⟨cl, B, S, H⟩ := A
  refine ⟨_, B.same W, by rw [sz_set]; exact S, fun i hi => ?_⟩
  show (cl.slots.setIfInBounds sl v)[i]? = some (if i = sl then v else f i)
  rw [Array.getElem?_setIfInBounds]
  by_cases q : sl = i
  · rw [if_pos q, if_pos (by rw [S]; exact hn), if_pos q.symm]
  · rw [if_neg q, if_neg (fun z => q z.symm)]; exact H i hi
theorem own_nar (x : Int32) : nar .byte (x.toInt8.toInt32) = x.toInt8.toInt32 := by show x.toInt8.toInt32.toInt8.toInt32 = _; simp
theorem own_setB {Z : State} {h h' : Heap} {t : Addr} {n : Nat} {g : Nat → Int32} {x : Int32} {sl : Nat} (A : own_A Z h t n .byte (fun i => .int (g i))) (W : Wr h h' t sl (.int (nar .byte (x.toInt8.toInt32)))) (k : Nat) (hk : sl = k) (hn : k < n) : own_A Z h' t n .byte (fun i => .int (if i = k then x.toInt8.toInt32 else g i)) := by
  obtain ⟨c3, B3, S3, H3⟩ := own_A_set A W k hk hn
  refine ⟨c3, B3, S3, fun i hi => ?_⟩
  rw [H3 i hi]
  dsimp only
  by_cases qq : i = k
  · rw [if_pos qq, if_pos qq, own_nar]
  · rw [if_neg qq, if_neg qq]
theorem own_setL {Z : State} {h h' : Heap} {t : Addr} {n : Nat} {g : Nat → Int64} {x : Int64} {sl : Nat} (A : own_A Z h t n .long (fun i => .long (g i))) (W : Wr h h' t sl (.long x)) (k : Nat) (hk : sl = k) (hn : k < n) : own_A Z h' t n .long (fun i => .long (if i = k then x else g i)) := by
  obtain ⟨c3, B3, S3, H3⟩ := own_A_set A W k hk hn
  refine ⟨c3, B3, S3, fun i hi => ?_⟩
  rw [H3 i hi]
  dsimp only
  by_cases qq : i = k
  · rw [if_pos qq, if_pos qq]
  · rw [if_neg qq, if_neg qq]
theorem own_fitL {Z : State} {h : Heap} {t : Addr} {cl : Cell} {n : Nat} {g : Nat → Int64} (B : Arr Z h t cl .long) (S : cl.slots.size = n) (H : ∀ j, j < n → cl.slots[j]? = some (.long (g j))) : FitC Z cl :=
  fitC_of B fun i hi v hv => by rw [H i (by rw [← S]; exact hi)] at hv; cases hv; rfl
theorem own_A_new {Z : State} {h : Heap} {t : Addr} {k : ClassId} {ty : FieldType} {z : Int32} {n : Nat} (V : Arv Z h t k ty z [] (defaultValue ty)) (hz : z.toNatClampNeg = n) : own_A Z h t n ty (fun _ => defaultValue ty) := by
  obtain ⟨cl, B, -, S, -, H, -⟩ := V
  exact ⟨cl, B, by rw [S, hz], fun j hj => by rw [H j (by rw [S, hz]; exact hj)]; rfl⟩
theorem own_in {cl : Cell} {n i : Nat} (S : cl.slots.size = n) (hi : i < n) (hn : n ≤ 4096) : ¬ (Int32.ofNat i < 0 ∨ cl.slots.size ≤ (Int32.ofNat i).toNatClampNeg) := by
  rw [S, own_n32 (by omega)]
  exact fun q => q.elim (own_nn (by omega)) (by omega)
theorem own_at {cl : Cell} {n i : Nat} {f : Nat → Value} (H : ∀ j, j < n → cl.slots[j]? = some (f j)) (hi : i < n) (hn : n ≤ 4096) : cl.slots[(Int32.ofNat i).toNatClampNeg]? = some (f i) := by
  rw [own_n32 (by omega)]; exact H i hi
def own_max (a b : Int32) : Int32 := if a < b then b else a
def own_s (f g : Nat → Int64) : Nat → Nat → Int64 → Int64
  | 0, _, S => S
  | k + 1, i, S => own_s f g k (i + 1) (S + (g i - f i))
theorem own_q (x y : Int32) : own_max (x &&& (3 : Int32)) (y &&& (3 : Int32)) = 0 ∨ own_max (x &&& (3 : Int32)) (y &&& (3 : Int32)) = 1 ∨ own_max (x &&& (3 : Int32)) (y &&& (3 : Int32)) = 2 ∨ own_max (x &&& (3 : Int32)) (y &&& (3 : Int32)) = 3 := by
  have h1 := c_mask x 3 2 (by decide) (by decide)
  have h2 := c_mask y 3 2 (by decide) (by decide)
  have h3 : own_max (x &&& (3 : Int32)) (y &&& (3 : Int32)) = (x &&& (3 : Int32)) ∨ own_max (x &&& (3 : Int32)) (y &&& (3 : Int32)) = (y &&& (3 : Int32)) := by
    unfold own_max
    split
    · exact Or.inr rfl
    · exact Or.inl rfl
  rcases h3 with h3 | h3 <;> rw [h3] <;> simp only [← Int32.toInt_inj, Int32.reduceToInt] <;> omega
def Q1 (Z : State) (p1 : Int32) (p2 : Int32) (h0 : Heap) (n0 : Nat) (v : Option Value) (h : Heap) (L : List Loc) : Prop := v = some (.int (own_max p1 p2)) ∧ Fr n0 L ∧ h = h0
set_option maxRecDepth 65536 in
set_option maxHeartbeats 40000000 in
theorem rm1 (l : Launch) (Z : State) (a0 : Array Value) (hw : ∀ d ∈ tables_1, d.before a0 Z = true) (ws : List Jvm.Cond) (p1 : Int32) (p2 : Int32) (h0 : Heap) (n0 : Nat) (Z0 : n0 ≤ h0.size) :
    MetFree l (⟨"java/lang/Math", "max", "(II)I"⟩ : MethodName) (head1 (Jvm.Cond.code (⟨"java/lang/Math", "max", "(II)I"⟩ : MethodName) jdk_29_method_65_code 2 (some .int) :: ws) ({ frames := 0, cells := 0, slots := 0, locals := 0 } : Room)) (fun a U => a = #[(.int p1), (.int p2)] ∧ Z.Warmed39 U.vm ∧ U.heap = h0) (fun _ _ _ _ _ => True) (fun _ U oo U' => ∃ v L, oo = .returned v ∧ Q1 Z p1 p2 h0 n0 v U'.heap L ∧ FrameEnd U oo U' L ({ frames := 0, cells := 0, slots := 0, locals := 0 } : Room).cells ({ frames := 0, cells := 0, slots := 0, locals := 0 } : Room).slots) := by
  refine MetFree.of_bodySF (Jvm.Free.JP.mathPlain rfl (by decide +kernel)) hisR ?_
  intro p e s m args below meth c s₁ Bd hml0 hP hK
  obtain ⟨rfl, hZ, hh⟩ := hP
  have hx := Bd.exec
  have hby := Bd.bytes
  have hml : c.maxLocals = 2 := hml0
  have hown : s.vm.findClass "java/lang/Math" = some m.cls := findClass_of_methodNamed Bd.named
  have hnm := (name_of_methodNamed Bd.named Bd.method).1
  have X0 : Stand p l e ({ frames := 0, cells := 0, slots := 0, locals := 0 } : Room) s m #[(.int p1), (.int p2)] below meth c s₁ [] 0 0 := Stand.of_body Bd
  have e0 : s₁.heap = h0 := by rw [← hh, Bd.state]; rfl
  have N0 := Fr.nil n0
  have pre0 : ∀ t₀, Steps p.tables e below (s₁.setTop (mkF m 0 #[.val (.int p1), .val (.int p2)] [])) t₀ → Steps p.tables e below (s₁.setTop (entryFrame m #[(.int p1), (.int p2)] 2)) t₀ := fun t₀ k => castTop (ef_1 m p1 p2) k
  have sg1 : ∀ t₀, Steps p.tables e below (s₁.setTop (mkF m 2 #[.val (.int p1), .val (.int p2)] [(.int p2), (.int p1)])) t₀ → Steps p.tables e below (s₁.setTop (mkF m 0 #[.val (.int p1), .val (.int p2)] [])) t₀ := by
    intro t₀ kt
    show Steps p.tables e below (s₁.setTop (mkF m 0 #[.val (.int p1), .val (.int p2)] [])) _
    refine XS.iloadN X0.here hx rfl (hb hby d1_0) rfl ?_
    show Steps p.tables e below (s₁.setTop (mkF m 1 #[.val (.int p1), .val (.int p2)] [(.int p1)])) _
    refine XS.iloadN X0.here hx rfl (hb hby d1_1) rfl ?_
    exact kt
  by_cases hb2 : p1 < p2
  · have sg2 : ∀ t₀, Steps p.tables e below (s₁.setTop (mkF m 10 #[.val (.int p1), .val (.int p2)] [(.int p2)])) t₀ → Steps p.tables e below (s₁.setTop (mkF m 2 #[.val (.int p1), .val (.int p2)] [(.int p2), (.int p1)])) t₀ := by
      intro t₀ kt
      show Steps p.tables e below (s₁.setTop (mkF m 2 #[.val (.int p1), .val (.int p2)] [(.int p2), (.int p1)])) _
      refine XS.icmpYes X0.here hx rfl (pc0 := 2) (pc' := 9) rfl (hb hby d1_2) rfl (tlt hb2).1 (by decide) (by decide) ?_
      show Steps p.tables e below (s₁.setTop (mkF m 9 #[.val (.int p1), .val (.int p2)] [])) _
      refine XS.iloadN X0.here hx rfl (hb hby d1_9) rfl ?_
      exact kt
    obtain ⟨fs, hr, hrun, hended, hW, hsame⟩ := X0.leave (v := some (.int p2)) (fun h => by rw [Bd.returns] at h; cases h)
    refine ⟨_, _, pre0 _ ?_, hrun, hended, _, _, rfl, ?_, ⟨_, rfl⟩, hW, hsame.mono (by decide) (by decide)⟩
    · exact sg1 _ (sg2 _ ((retI X0 hx Bd.returns (hb hby d1_10) hr)))
    · show Q1 Z p1 p2 h0 n0 _ s₁.heap _
      rw [e0]
      exact ⟨by rw [own_max, if_pos hb2], N0, rfl⟩
  · have sg3 : ∀ t₀, Steps p.tables e below (s₁.setTop (mkF m 10 #[.val (.int p1), .val (.int p2)] [(.int p1)])) t₀ → Steps p.tables e below (s₁.setTop (mkF m 2 #[.val (.int p1), .val (.int p2)] [(.int p2), (.int p1)])) t₀ := by
      intro t₀ kt
      show Steps p.tables e below (s₁.setTop (mkF m 2 #[.val (.int p1), .val (.int p2)] [(.int p2), (.int p1)])) _
      refine XS.icmpNo X0.here hx rfl (hb hby d1_2) rfl (flt hb2).1 ?_
      show Steps p.tables e below (s₁.setTop (mkF m 5 #[.val (.int p1), .val (.int p2)] [])) _
      refine XS.iloadN X0.here hx rfl (hb hby d1_5) rfl ?_
      show Steps p.tables e below (s₁.setTop (mkF m 6 #[.val (.int p1), .val (.int p2)] [(.int p1)])) _
      refine XS.goto X0.here hx rfl (pc0 := 6) (pc' := 10) rfl (hb hby d1_6) (by decide) (by decide) ?_
      exact kt
    obtain ⟨fs, hr, hrun, hended, hW, hsame⟩ := X0.leave (v := some (.int p1)) (fun h => by rw [Bd.returns] at h; cases h)
    refine ⟨_, _, pre0 _ ?_, hrun, hended, _, _, rfl, ?_, ⟨_, rfl⟩, hW, hsame.mono (by decide) (by decide)⟩
    · exact sg1 _ (sg3 _ ((retI X0 hx Bd.returns (hb hby d1_10) hr)))
    · show Q1 Z p1 p2 h0 n0 _ s₁.heap _
      rw [e0]
      exact ⟨by rw [own_max, if_neg hb2], N0, rfl⟩
def Q2 (Z : State) (a1 : Addr) (p2 : Int32) (p3 : Int32) (t1 : Addr) (t2 : Addr) (n : Nat) (f1 : Nat → Int64) (f2 : Nat → Int64) (h0 : Heap) (n0 : Nat) (v : Option Value) (h : Heap) (L : List Loc) : Prop := v = none ∧ Fr n0 L ∧ n0 ≤ h.size ∧ Exa Z h a1 "com/example/pulq/pulq/client/TopicStatus" ∧ ∃ u1 u2 : Addr, Fld Z h a1 "com/example/pulq/pulq/client/TopicStatus" "minOffsets" "[J" (.ref u1) ∧ Fld Z h a1 "com/example/pulq/pulq/client/TopicStatus" "maxOffsets" "[J" (.ref u2) ∧ own_A Z h u1 n .long (fun i => .long (f1 i)) ∧ own_A Z h u2 n .long (fun i => .long (f2 i))
set_option maxRecDepth 65536 in
set_option maxHeartbeats 40000000 in
theorem rm2 (l : Launch) (Z : State) (a0 : Array Value) (hw : ∀ d ∈ tables_1, d.before a0 Z = true) (ws : List Jvm.Cond) (a1 : Addr) (p2 : Int32) (p3 : Int32) (t1 : Addr) (t2 : Addr) (n : Nat) (f1 : Nat → Int64) (f2 : Nat → Int64) (h0 : Heap) (n0 : Nat) (Z0 : n0 ≤ h0.size) (hn : n ≤ 3) (E1 : Exa Z h0 a1 "com/example/pulq/pulq/client/TopicStatus") (g1 : n0 ≤ a1) (ne1 : t1 ≠ a1) (ne2 : t2 ≠ a1) (F1 : Fld Z h0 a1 "com/example/pulq/pulq/client/TopicStatus" "writeQueues" "I" (.int (0 : Int32))) (F2 : Fld Z h0 a1 "com/example/pulq/pulq/client/TopicStatus" "readQueues" "I" (.int (0 : Int32))) (F3 : Fld Z h0 a1 "com/example/pulq/pulq/client/TopicStatus" "minOffsets" "[J" .null) (F4 : Fld Z h0 a1 "com/example/pulq/pulq/client/TopicStatus" "maxOffsets" "[J" .null) (A1 : own_A Z h0 t1 n .long (fun i => .long (f1 i))) (A2 : own_A Z h0 t2 n .long (fun i => .long (f2 i))) (B1 : Exa Z h0 t1 "[J") (B2 : Exa Z h0 t2 "[J") :
    MetFree l (⟨"com/example/pulq/pulq/client/TopicStatus", "<init>", "(II[J[J)V"⟩ : MethodName) (head1 (Jvm.Cond.code (⟨"com/example/pulq/pulq/client/TopicStatus", "<init>", "(II[J[J)V"⟩ : MethodName) prog_13_method_1_code 5 none :: ws) ({ frames := 1, cells := 2, slots := 6, locals := 15 } : Room)) (fun a U => a = #[(.ref a1), (.int p2), (.int p3), (.ref t1), (.ref t2)] ∧ Z.Warmed39 U.vm ∧ U.heap = h0) (fun _ _ _ _ _ => True) (fun _ U oo U' => ∃ v L, oo = .returned v ∧ Q2 Z a1 p2 p3 t1 t2 n f1 f2 h0 n0 v U'.heap L ∧ FrameEnd U oo U' L ({ frames := 1, cells := 2, slots := 6, locals := 15 } : Room).cells ({ frames := 1, cells := 2, slots := 6, locals := 15 } : Room).slots) := by
  refine MetFree.of_bodySF (plainFor_of_name pn_2) hisR ?_
  intro p e s m args below meth c s₁ Bd hml0 hP hK
  obtain ⟨rfl, hZ, hh⟩ := hP
  have hx := Bd.exec
  have hby := Bd.bytes
  have hml : c.maxLocals = 5 := hml0
  have hown : s.vm.findClass "com/example/pulq/pulq/client/TopicStatus" = some m.cls := findClass_of_methodNamed Bd.named
  have hnm := (name_of_methodNamed Bd.named Bd.method).1
  have X0 : Stand p l e ({ frames := 1, cells := 2, slots := 6, locals := 15 } : Room) s m #[(.ref a1), (.int p2), (.int p3), (.ref t1), (.ref t2)] below meth c s₁ [] 0 0 := Stand.of_body Bd
  have e0 : s₁.heap = h0 := by rw [← hh, Bd.state]; rfl
  have N0 := Fr.nil n0
  have pre0 : ∀ t₀, Steps p.tables e below (s₁.setTop (mkF m 0 #[.val (.ref a1), .val (.int p2), .val (.int p3), .val (.ref t1), .val (.ref t2)] [])) t₀ → Steps p.tables e below (s₁.setTop (entryFrame m #[(.ref a1), (.int p2), (.int p3), (.ref t1), (.ref t2)] 5)) t₀ := fun t₀ k => castTop (ef_2 m a1 p2 p3 t1 t2) k
  obtain ⟨cl1, Ar1, Sz1, Hs1⟩ := id A1
  obtain ⟨cl2, Ar2, Sz2, Hs2⟩ := id A2
  have hl1 : cl1.slots.size.toInt32 = Int32.ofNat n := by rw [Sz1] <;> rfl
  have hl2 : cl2.slots.size.toInt32 = Int32.ofNat n := by rw [Sz2] <;> rfl
  have sg1 : ∀ t₀, Steps p.tables e below (s₁.setTop (mkF m 1 #[.val (.ref a1), .val (.int p2), .val (.int p3), .val (.ref t1), .val (.ref t2)] [(.ref a1)])) t₀ → Steps p.tables e below (s₁.setTop (mkF m 0 #[.val (.ref a1), .val (.int p2), .val (.int p3), .val (.ref t1), .val (.ref t2)] [])) t₀ := by
    intro t₀ kt
    show Steps p.tables e below (s₁.setTop (mkF m 0 #[.val (.ref a1), .val (.int p2), .val (.int p3), .val (.ref t1), .val (.ref t2)] [])) _
    refine XS.aloadN X0.here hx rfl (hb hby d2_0) rfl rfl ?_
    exact kt
  obtain ⟨T2, X2, e2, st2⟩ := initO X0 hx hZ hown (hw _ (List.mem_of_getElem? (i := 11) rfl)) (hw _ (List.mem_of_getElem? (i := 12) rfl)) (hw _ (List.mem_of_getElem? (i := 13) rfl)) e0 (g := (mkF m 1 #[.val (.ref a1), .val (.int p2), .val (.int p3), .val (.ref t1), .val (.ref t2)] [(.ref a1)])) rfl (by rw [hml]; rfl) rfl (hb hby d2_1) (by decide) (W := 0) (by show 2 * 0 + _ ≤ _; exact Nat.le_of_eq rfl) (by decide)
  have sg3 : ∀ t₀, Steps p.tables e below (T2.setTop (mkF m 32 #[.val (.ref a1), .val (.int p2), .val (.int p3), .val (.ref t1), .val (.ref t2)] [(.int p2), (.ref a1)])) t₀ → Steps p.tables e below (T2.setTop (mkF m 4 #[.val (.ref a1), .val (.int p2), .val (.int p3), .val (.ref t1), .val (.ref t2)] [])) t₀ := by
    intro t₀ kt
    show Steps p.tables e below (T2.setTop (mkF m 4 #[.val (.ref a1), .val (.int p2), .val (.int p3), .val (.ref t1), .val (.ref t2)] [])) _
    refine XS.aloadN X2.here hx rfl (hb hby d2_4) rfl rfl ?_
    show Steps p.tables e below (T2.setTop (mkF m 5 #[.val (.ref a1), .val (.int p2), .val (.int p3), .val (.ref t1), .val (.ref t2)] [(.ref t1)])) _
    refine X2.arraylength hx (by rw [e2]; exact Ar1.1) (State.isArrayOf_alike hZ.alike Ar1.2.1) (g := (mkF m 5 #[.val (.ref a1), .val (.int p2), .val (.int p3), .val (.ref t1), .val (.ref t2)] [(.ref t1)])) rfl rfl (hb hby d2_5) _ ?_
    rw [hl1]
    show Steps p.tables e below (T2.setTop (mkF m 6 #[.val (.ref a1), .val (.int p2), .val (.int p3), .val (.ref t1), .val (.ref t2)] [(.int (Int32.ofNat n))])) _
    refine XS.aload X2.here hx rfl (hb hby d2_6) rfl rfl ?_
    show Steps p.tables e below (T2.setTop (mkF m 8 #[.val (.ref a1), .val (.int p2), .val (.int p3), .val (.ref t1), .val (.ref t2)] [(.ref t2), (.int (Int32.ofNat n))])) _
    refine X2.arraylength hx (by rw [e2]; exact Ar2.1) (State.isArrayOf_alike hZ.alike Ar2.2.1) (g := (mkF m 8 #[.val (.ref a1), .val (.int p2), .val (.int p3), .val (.ref t1), .val (.ref t2)] [(.ref t2), (.int (Int32.ofNat n))])) rfl rfl (hb hby d2_8) _ ?_
    rw [hl2]
    show Steps p.tables e below (T2.setTop (mkF m 9 #[.val (.ref a1), .val (.int p2), .val (.int p3), .val (.ref t1), .val (.ref t2)] [(.int (Int32.ofNat n)), (.int (Int32.ofNat n))])) _
    refine XS.icmpYes X2.here hx rfl (pc0 := 9) (pc' := 30) rfl (hb hby d2_9) rfl (teq rfl).1 (by decide) (by decide) ?_
    show Steps p.tables e below (T2.setTop (mkF m 30 #[.val (.ref a1), .val (.int p2), .val (.int p3), .val (.ref t1), .val (.ref t2)] [])) _
    refine XS.aloadN X2.here hx rfl (hb hby d2_30) rfl rfl ?_
    show Steps p.tables e below (T2.setTop (mkF m 31 #[.val (.ref a1), .val (.int p2), .val (.int p3), .val (.ref t1), .val (.ref t2)] [(.ref a1)])) _
    refine XS.iloadN X2.here hx rfl (hb hby d2_31) rfl ?_
    exact kt
  obtain ⟨T4, h4, X4, e4, W4, st4⟩ := putF X2 hx hZ hown (host := "") (Or.inl (hw _ (List.mem_of_getElem? (i := 14) rfl))) Via.refl e2 F1 E1 (Or.inr ⟨(hw _ (List.mem_of_getElem? (i := 15) rfl)), rfl, hnm⟩) (hw _ (List.mem_of_getElem? (i := 6) rfl)) (ty := .int) (by decide) rfl rfl (g := (mkF m 32 #[.val (.ref a1), .val (.int p2), .val (.int p3), .val (.ref t1), .val (.ref t2)] [(.int p2), (.ref a1)])) rfl rfl (hb hby d2_32)
  have Fw4 := F1.same W4
  have N4 := Fr.snoc X4 N0 g1
  have F2b := F2.other W4 (Or.inr (slot_ne (Or.inr (hw _ (List.mem_of_getElem? (i := 17) rfl))) (Or.inr (hw _ (List.mem_of_getElem? (i := 15) rfl))) (by decide) (t := .int) (t' := .int) (by decide) (by decide)))
  have F3b := F3.other W4 (Or.inr (slot_ne (Or.inr (hw _ (List.mem_of_getElem? (i := 28) rfl))) (Or.inr (hw _ (List.mem_of_getElem? (i := 15) rfl))) (by decide) (t := (.array .long)) (t' := .int) (by decide) (by decide)))
  have F4b := F4.other W4 (Or.inr (slot_ne (Or.inr (hw _ (List.mem_of_getElem? (i := 30) rfl))) (Or.inr (hw _ (List.mem_of_getElem? (i := 15) rfl))) (by decide) (t := (.array .long)) (t' := .int) (by decide) (by decide)))
  have E2 := E1.wr W4
  have A1b := own_A_other A1 W4 ne1
  have A2b := own_A_other A2 W4 ne2
  have B1b := B1.wr W4
  have B2b := B2.wr W4
  have z1 : n0 ≤ h4.size := Nat.le_trans Z0 (Keep.of_wr W4).1
  have sg5 : ∀ t₀, Steps p.tables e below (T4.setTop (mkF m 37 #[.val (.ref a1), .val (.int p2), .val (.int p3), .val (.ref t1), .val (.ref t2)] [(.int p3), (.ref a1)])) t₀ → Steps p.tables e below (T4.setTop (mkF m 35 #[.val (.ref a1), .val (.int p2), .val (.int p3), .val (.ref t1), .val (.ref t2)] [])) t₀ := by
    intro t₀ kt
    show Steps p.tables e below (T4.setTop (mkF m 35 #[.val (.ref a1), .val (.int p2), .val (.int p3), .val (.ref t1), .val (.ref t2)] [])) _
    refine XS.aloadN X4.here hx rfl (hb hby d2_35) rfl rfl ?_
    show Steps p.tables e below (T4.setTop (mkF m 36 #[.val (.ref a1), .val (.int p2), .val (.int p3), .val (.ref t1), .val (.ref t2)] [(.ref a1)])) _
    refine XS.iloadN X4.here hx rfl (hb hby d2_36) rfl ?_
    exact kt
  obtain ⟨T6, h6, X6, e6, W6, st6⟩ := putF X4 hx hZ hown (host := "") (Or.inl (hw _ (List.mem_of_getElem? (i := 16) rfl))) Via.refl e4 F2b E2 (Or.inr ⟨(hw _ (List.mem_of_getElem? (i := 17) rfl)), rfl, hnm⟩) (hw _ (List.mem_of_getElem? (i := 6) rfl)) (ty := .int) (by decide) rfl rfl (g := (mkF m 37 #[.val (.ref a1), .val (.int p2), .val (.int p3), .val (.ref t1), .val (.ref t2)] [(.int p3), (.ref a1)])) rfl rfl (hb hby d2_37)
  have Fw6 := F2b.same W6
  have N6 := Fr.snoc X6 N4 g1
  have F3c := F3b.other W6 (Or.inr (slot_ne (Or.inr (hw _ (List.mem_of_getElem? (i := 28) rfl))) (Or.inr (hw _ (List.mem_of_getElem? (i := 17) rfl))) (by decide) (t := (.array .long)) (t' := .int) (by decide) (by decide)))
  have F4c := F4b.other W6 (Or.inr (slot_ne (Or.inr (hw _ (List.mem_of_getElem? (i := 30) rfl))) (Or.inr (hw _ (List.mem_of_getElem? (i := 17) rfl))) (by decide) (t := (.array .long)) (t' := .int) (by decide) (by decide)))
  have E3 := E2.wr W6
  have A1c := own_A_other A1b W6 ne1
  have A2c := own_A_other A2b W6 ne2
  have B1c := B1b.wr W6
  have B2c := B2b.wr W6
  have z2 : n0 ≤ h6.size := Nat.le_trans z1 (Keep.of_wr W6).1
  have sg7 : ∀ t₀, Steps p.tables e below (T6.setTop (mkF m 42 #[.val (.ref a1), .val (.int p2), .val (.int p3), .val (.ref t1), .val (.ref t2)] [(.ref t1), (.ref a1)])) t₀ → Steps p.tables e below (T6.setTop (mkF m 40 #[.val (.ref a1), .val (.int p2), .val (.int p3), .val (.ref t1), .val (.ref t2)] [])) t₀ := by
    intro t₀ kt
    show Steps p.tables e below (T6.setTop (mkF m 40 #[.val (.ref a1), .val (.int p2), .val (.int p3), .val (.ref t1), .val (.ref t2)] [])) _
    refine XS.aloadN X6.here hx rfl (hb hby d2_40) rfl rfl ?_
    show Steps p.tables e below (T6.setTop (mkF m 41 #[.val (.ref a1), .val (.int p2), .val (.int p3), .val (.ref t1), .val (.ref t2)] [(.ref a1)])) _
    refine XS.aloadN X6.here hx rfl (hb hby d2_41) rfl rfl ?_
    exact kt
  obtain ⟨cl3, Ar3, Sz3, Hs3⟩ := id A1c
  obtain ⟨T8, h8, X8, e8, E8, A8, B8, st8⟩ := cloneA X6 hx hZ hown (hw _ (List.mem_of_getElem? (i := 18) rfl)) (hw _ (List.mem_of_getElem? (i := 19) rfl)) (hw _ (List.mem_of_getElem? (i := 23) rfl)) (hw _ (List.mem_of_getElem? (i := 21) rfl)) (hw _ (List.mem_of_getElem? (i := 22) rfl)) (hw _ (List.mem_of_getElem? (i := 24) rfl)) e6 Ar3 B1c (own_fitL Ar3 Sz3 Hs3) (g := (mkF m 42 #[.val (.ref a1), .val (.int p2), .val (.int p3), .val (.ref t1), .val (.ref t2)] [(.ref t1), (.ref a1)])) rfl (by rw [hml]; rfl) rfl (hb hby d2_42) (by decide) (W := 1) (cap := 3) (by show 2 * 0 + _ ≤ _; exact Nat.le_of_eq rfl) (by decide) (by rw [Sz3]; exact hn) (by decide) (by decide)
  obtain ⟨b8, g8⟩ : ∃ z, z = h6.size := ⟨_, rfl⟩
  rw [← g8] at A8 B8 st8
  have U1 : own_A Z h8 b8 n .long (fun i => .long (f1 i)) := ⟨_, A8, Sz3, Hs3⟩
  have neu1 : b8 ≠ a1 := Nat.ne_of_gt (by rw [g8]; exact E3.lt)
  have F3d := F3c.ext E8
  have F4d := F4c.ext E8
  have E4 := E3.ext E8
  have A2d := own_A_ext A2c E8
  have B2d := B2c.ext E8
  have z3 : n0 ≤ h8.size := Nat.le_trans z2 E8.1
  obtain ⟨T9, X9, e9, st9⟩ := castY X8 hx hZ hown (hw _ (List.mem_of_getElem? (i := 25) rfl)) e8 (Ins.self B8) (g := (mkF m 45 #[.val (.ref a1), .val (.int p2), .val (.int p3), .val (.ref t1), .val (.ref t2)] [(.ref b8), (.ref a1)])) rfl rfl (hb hby d2_45)
  obtain ⟨T10, h10, X10, e10, W10, st10⟩ := putF X9 hx hZ hown (host := "") (Or.inl (hw _ (List.mem_of_getElem? (i := 27) rfl))) Via.refl e9 F3d E4 (Or.inr ⟨(hw _ (List.mem_of_getElem? (i := 28) rfl)), rfl, hnm⟩) (hw _ (List.mem_of_getElem? (i := 6) rfl)) (ty := (.array .long)) (by decide) rfl rfl (g := (mkF m 48 #[.val (.ref a1), .val (.int p2), .val (.int p3), .val (.ref t1), .val (.ref t2)] [(.ref b8), (.ref a1)])) rfl rfl (hb hby d2_48)
  have Fw10 := F3d.same W10
  have N10 := Fr.snoc X10 N6 g1
  have U1b := own_A_other U1 W10 neu1
  have F4e := F4d.other W10 (Or.inr (slot_ne (Or.inr (hw _ (List.mem_of_getElem? (i := 30) rfl))) (Or.inr (hw _ (List.mem_of_getElem? (i := 28) rfl))) (by decide) (t := (.array .long)) (t' := (.array .long)) (by decide) (by decide)))
  have E5 := E4.wr W10
  have A2e := own_A_other A2d W10 ne2
  have B2e := B2d.wr W10
  have z4 : n0 ≤ h10.size := Nat.le_trans z3 (Keep.of_wr W10).1
  have sg11 : ∀ t₀, Steps p.tables e below (T10.setTop (mkF m 54 #[.val (.ref a1), .val (.int p2), .val (.int p3), .val (.ref t1), .val (.ref t2)] [(.ref t2), (.ref a1)])) t₀ → Steps p.tables e below (T10.setTop (mkF m 51 #[.val (.ref a1), .val (.int p2), .val (.int p3), .val (.ref t1), .val (.ref t2)] [])) t₀ := by
    intro t₀ kt
    show Steps p.tables e below (T10.setTop (mkF m 51 #[.val (.ref a1), .val (.int p2), .val (.int p3), .val (.ref t1), .val (.ref t2)] [])) _
    refine XS.aloadN X10.here hx rfl (hb hby d2_51) rfl rfl ?_
    show Steps p.tables e below (T10.setTop (mkF m 52 #[.val (.ref a1), .val (.int p2), .val (.int p3), .val (.ref t1), .val (.ref t2)] [(.ref a1)])) _
    refine XS.aload X10.here hx rfl (hb hby d2_52) rfl rfl ?_
    exact kt
  obtain ⟨cl4, Ar4, Sz4, Hs4⟩ := id A2e
  obtain ⟨T12, h12, X12, e12, E12, A12, B12, st12⟩ := cloneA X10 hx hZ hown (hw _ (List.mem_of_getElem? (i := 18) rfl)) (hw _ (List.mem_of_getElem? (i := 19) rfl)) (hw _ (List.mem_of_getElem? (i := 23) rfl)) (hw _ (List.mem_of_getElem? (i := 21) rfl)) (hw _ (List.mem_of_getElem? (i := 22) rfl)) (hw _ (List.mem_of_getElem? (i := 24) rfl)) e10 Ar4 B2e (own_fitL Ar4 Sz4 Hs4) (g := (mkF m 54 #[.val (.ref a1), .val (.int p2), .val (.int p3), .val (.ref t1), .val (.ref t2)] [(.ref t2), (.ref a1)])) rfl (by rw [hml]; rfl) rfl (hb hby d2_54) (by decide) (W := 1) (cap := 3) (by show 2 * 0 + _ ≤ _; exact Nat.le_of_eq rfl) (by decide) (by rw [Sz4]; exact hn) (by decide) (by decide)
  obtain ⟨b12, g12⟩ : ∃ z, z = h10.size := ⟨_, rfl⟩
  rw [← g12] at A12 B12 st12
  have U2 : own_A Z h12 b12 n .long (fun i => .long (f2 i)) := ⟨_, A12, Sz4, Hs4⟩
  have neu2 : b12 ≠ a1 := Nat.ne_of_gt (by rw [g12]; exact E5.lt)
  obtain ⟨T13, X13, e13, st13⟩ := castY X12 hx hZ hown (hw _ (List.mem_of_getElem? (i := 25) rfl)) e12 (Ins.self B12) (g := (mkF m 57 #[.val (.ref a1), .val (.int p2), .val (.int p3), .val (.ref t1), .val (.ref t2)] [(.ref b12), (.ref a1)])) rfl rfl (hb hby d2_57)
  obtain ⟨T14, h14, X14, e14, W14, st14⟩ := putF X13 hx hZ hown (host := "") (Or.inl (hw _ (List.mem_of_getElem? (i := 29) rfl))) Via.refl e13 (F4e.ext E12) (E5.ext E12) (Or.inr ⟨(hw _ (List.mem_of_getElem? (i := 30) rfl)), rfl, hnm⟩) (hw _ (List.mem_of_getElem? (i := 6) rfl)) (ty := (.array .long)) (by decide) rfl rfl (g := (mkF m 60 #[.val (.ref a1), .val (.int p2), .val (.int p3), .val (.ref t1), .val (.ref t2)] [(.ref b12), (.ref a1)])) rfl rfl (hb hby d2_60)
  have Fw14 := (F4e.ext E12).same W14
  have N14 := Fr.snoc X14 N10 g1
  obtain ⟨fs, hr, hrun, hended, hW, hsame⟩ := X14.leave (v := none) (fun _ => rfl)
  refine ⟨_, _, pre0 _ ?_, hrun, hended, _, _, rfl, ?_, ⟨_, rfl⟩, hW, hsame.mono (by decide) (by decide)⟩
  · exact sg1 _ (st2 _ (sg3 _ (st4 _ (sg5 _ (st6 _ (sg7 _ (st8 _ (st9 _ (st10 _ (sg11 _ (st12 _ (st13 _ (st14 _ ((X14.returnOut hx Bd.returns (hb hby d2_63) hr)))))))))))))))
  · show Q2 Z a1 p2 p3 t1 t2 n f1 f2 h0 n0 _ T14.heap _
    rw [e14]
    exact ⟨rfl, N14, Nat.le_trans (Nat.le_trans z4 E12.1) (Keep.of_wr W14).1, (E5.ext E12).wr W14, b8, b12, (Fw10.ext E12).other W14 (Or.inr (slot_ne (Or.inr (hw _ (List.mem_of_getElem? (i := 28) rfl))) (Or.inr (hw _ (List.mem_of_getElem? (i := 30) rfl))) (by decide) (t := (.array .long)) (t' := (.array .long)) (by decide) (by decide))), Fw14, own_A_other (own_A_ext U1b E12) W14 neu1, own_A_other U2 W14 neu2⟩
def Q4 (Z : State) (a1 : Addr) (u1 : Addr) (u2 : Addr) (n : Nat) (f1 : Nat → Int64) (f2 : Nat → Int64) (h0 : Heap) (n0 : Nat) (v : Option Value) (h : Heap) (L : List Loc) : Prop := v = some (.long (own_s f1 f2 n 0 0)) ∧ Fr n0 L ∧ h = h0
set_option maxRecDepth 65536 in
set_option maxHeartbeats 40000000 in
theorem rm4 (l : Launch) (Z : State) (a0 : Array Value) (hw : ∀ d ∈ tables_1, d.before a0 Z = true) (ws : List Jvm.Cond) (a1 : Addr) (u1 : Addr) (u2 : Addr) (n : Nat) (f1 : Nat → Int64) (f2 : Nat → Int64) (h0 : Heap) (n0 : Nat) (Z0 : n0 ≤ h0.size) (hn : n ≤ 3) (F1 : Fld Z h0 a1 "com/example/pulq/pulq/client/TopicStatus" "minOffsets" "[J" (.ref u1)) (F2 : Fld Z h0 a1 "com/example/pulq/pulq/client/TopicStatus" "maxOffsets" "[J" (.ref u2)) (A1 : own_A Z h0 u1 n .long (fun i => .long (f1 i))) (A2 : own_A Z h0 u2 n .long (fun i => .long (f2 i))) :
    MetFree l (⟨"com/example/pulq/pulq/client/TopicStatus", "getMessageCount", "()J"⟩ : MethodName) (head1 (Jvm.Cond.code (⟨"com/example/pulq/pulq/client/TopicStatus", "getMessageCount", "()J"⟩ : MethodName) prog_13_method_7_code 4 (some .long) :: ws) ({ frames := 0, cells := 0, slots := 0, locals := 0 } : Room)) (fun a U => a = #[(.ref a1)] ∧ Z.Warmed39 U.vm ∧ U.heap = h0) (fun _ _ _ _ _ => True) (fun _ U oo U' => ∃ v L, oo = .returned v ∧ Q4 Z a1 u1 u2 n f1 f2 h0 n0 v U'.heap L ∧ FrameEnd U oo U' L ({ frames := 0, cells := 0, slots := 0, locals := 0 } : Room).cells ({ frames := 0, cells := 0, slots := 0, locals := 0 } : Room).slots) := by
  refine MetFree.of_bodySF (plainFor_of_name pn_4) hisR ?_
  intro p e s m args below meth c s₁ Bd hml0 hP hK
  obtain ⟨rfl, hZ, hh⟩ := hP
  have hx := Bd.exec
  have hby := Bd.bytes
  have hml : c.maxLocals = 4 := hml0
  have hown : s.vm.findClass "com/example/pulq/pulq/client/TopicStatus" = some m.cls := findClass_of_methodNamed Bd.named
  have hnm := (name_of_methodNamed Bd.named Bd.method).1
  have X0 : Stand p l e ({ frames := 0, cells := 0, slots := 0, locals := 0 } : Room) s m #[(.ref a1)] below meth c s₁ [] 0 0 := Stand.of_body Bd
  have e0 : s₁.heap = h0 := by rw [← hh, Bd.state]; rfl
  have N0 := Fr.nil n0
  have pre0 : ∀ t₀, Steps p.tables e below (s₁.setTop (mkF m 0 #[.val (.ref a1), .unset, .unset, .unset] [])) t₀ → Steps p.tables e below (s₁.setTop (entryFrame m #[(.ref a1)] 4)) t₀ := fun t₀ k => castTop (ef_4 m a1) k
  obtain ⟨cl1, Ar1, Sz1, Hs1⟩ := A1
  obtain ⟨cl2, Ar2, Sz2, Hs2⟩ := A2
  have hl1 : cl1.slots.size.toInt32 = Int32.ofNat n := by rw [Sz1] <;> rfl
  have sg1 : ∀ t₀, Steps p.tables e below (s₁.setTop (mkF m 4 #[.val (.ref a1), .val (.long (0 : Int64)), .second, .val (.int (0 : Int32))] [])) t₀ → Steps p.tables e below (s₁.setTop (mkF m 0 #[.val (.ref a1), .unset, .unset, .unset] [])) t₀ := by
    intro t₀ kt
    show Steps p.tables e below (s₁.setTop (mkF m 0 #[.val (.ref a1), .unset, .unset, .unset] [])) _
    refine XS.lconst X0.here hx rfl (hb hby d4_0) ?_
    show Steps p.tables e below (s₁.setTop (mkF m 1 #[.val (.ref a1), .unset, .unset, .unset] [(.long (0 : Int64))])) _
    refine XS.lstoreN X0.here hx rfl (hb hby d4_1) rfl (l' := #[.val (.ref a1), .val (.long (0 : Int64)), .second, .unset]) rfl ?_
    show Steps p.tables e below (s₁.setTop (mkF m 2 #[.val (.ref a1), .val (.long (0 : Int64)), .second, .unset] [])) _
    refine XS.iconst X0.here hx rfl (hb hby d4_2) ?_
    show Steps p.tables e below (s₁.setTop (mkF m 3 #[.val (.ref a1), .val (.long (0 : Int64)), .second, .unset] [(.int (0 : Int32))])) _
    refine XS.istoreN X0.here hx rfl (hb hby d4_3) rfl (l' := #[.val (.ref a1), .val (.long (0 : Int64)), .second, .val (.int (0 : Int32))]) rfl ?_
    exact kt
  have loop : ∀ (k i : Nat) (S : Int64) (T0 : State), i + k = n → Stand p l e ({ frames := 0, cells := 0, slots := 0, locals := 0 } : Room) s m #[(.ref a1)] below meth c T0 [] 0 0 → T0.heap = h0 → ∃ T' : State, Stand p l e ({ frames := 0, cells := 0, slots := 0, locals := 0 } : Room) s m #[(.ref a1)] below meth c T' [] 0 0 ∧ T'.heap = h0 ∧ ∀ t', Steps p.tables e below (T'.setTop (mkF m 35 #[.val (.ref a1), .val (.long (own_s f1 f2 k i S)), .second, .val (.int (Int32.ofNat n))] [])) t' → Steps p.tables e below (T0.setTop (mkF m 4 #[.val (.ref a1), .val (.long S), .second, .val (.int (Int32.ofNat i))] [])) t' := by
    intro k
    induction k with
    | zero =>
      intro i S T0 hi XX e0'
      obtain rfl : i = n := by omega
      have sg2 : ∀ t₀, Steps p.tables e below (T0.setTop (mkF m 6 #[.val (.ref a1), .val (.long S), .second, .val (.int (Int32.ofNat i))] [(.ref a1), (.int (Int32.ofNat i))])) t₀ → Steps p.tables e below (T0.setTop (mkF m 4 #[.val (.ref a1), .val (.long S), .second, .val (.int (Int32.ofNat i))] [])) t₀ := by
        intro t₀ kt
        show Steps p.tables e below (T0.setTop (mkF m 4 #[.val (.ref a1), .val (.long S), .second, .val (.int (Int32.ofNat i))] [])) _
        refine XS.iloadN XX.here hx rfl (hb hby d4_4) rfl ?_
        show Steps p.tables e below (T0.setTop (mkF m 5 #[.val (.ref a1), .val (.long S), .second, .val (.int (Int32.ofNat i))] [(.int (Int32.ofNat i))])) _
        refine XS.aloadN XX.here hx rfl (hb hby d4_5) rfl rfl ?_
        exact kt
      obtain ⟨T3, X3, e3, st3⟩ := getF XX hx hZ hown (host := "") (Or.inl (hw _ (List.mem_of_getElem? (i := 27) rfl))) Via.refl e0' F1 (g := (mkF m 6 #[.val (.ref a1), .val (.long S), .second, .val (.int (Int32.ofNat i))] [(.ref a1), (.int (Int32.ofNat i))])) rfl rfl (hb hby d4_6)
      have sg4 : ∀ t₀, Steps p.tables e below (T3.setTop (mkF m 35 #[.val (.ref a1), .val (.long S), .second, .val (.int (Int32.ofNat i))] [])) t₀ → Steps p.tables e below (T3.setTop (mkF m 9 #[.val (.ref a1), .val (.long S), .second, .val (.int (Int32.ofNat i))] [(.ref u1), (.int (Int32.ofNat i))])) t₀ := by
        intro t₀ kt
        show Steps p.tables e below (T3.setTop (mkF m 9 #[.val (.ref a1), .val (.long S), .second, .val (.int (Int32.ofNat i))] [(.ref u1), (.int (Int32.ofNat i))])) _
        refine X3.arraylength hx (by rw [e3]; exact Ar1.1) (State.isArrayOf_alike hZ.alike Ar1.2.1) (g := (mkF m 9 #[.val (.ref a1), .val (.long S), .second, .val (.int (Int32.ofNat i))] [(.ref u1), (.int (Int32.ofNat i))])) rfl rfl (hb hby d4_9) _ ?_
        rw [hl1]
        show Steps p.tables e below (T3.setTop (mkF m 10 #[.val (.ref a1), .val (.long S), .second, .val (.int (Int32.ofNat i))] [(.int (Int32.ofNat i)), (.int (Int32.ofNat i))])) _
        refine XS.icmpYes X3.here hx rfl (pc0 := 10) (pc' := 35) rfl (hb hby d4_10) rfl (flt (Int32.lt_irrefl : ¬ (Int32.ofNat i < Int32.ofNat i))).2.1 (by decide) (by decide) ?_
        exact kt
      exact ⟨_, X3, e3, fun t' kt => sg2 _ (st3 _ (sg4 _ (kt)))⟩
    | succ k ih =>
      intro i S T0 hi XX e0'
      have hin1 := own_in (i := i) Sz1 (by omega) (by omega)
      have hat1 := own_at (i := i) Hs1 (by omega) (by omega)
      have hin2 := own_in (i := i) Sz2 (by omega) (by omega)
      have hat2 := own_at (i := i) Hs2 (by omega) (by omega)
      have sg5 : ∀ t₀, Steps p.tables e below (T0.setTop (mkF m 6 #[.val (.ref a1), .val (.long S), .second, .val (.int (Int32.ofNat i))] [(.ref a1), (.int (Int32.ofNat i))])) t₀ → Steps p.tables e below (T0.setTop (mkF m 4 #[.val (.ref a1), .val (.long S), .second, .val (.int (Int32.ofNat i))] [])) t₀ := by
        intro t₀ kt
        show Steps p.tables e below (T0.setTop (mkF m 4 #[.val (.ref a1), .val (.long S), .second, .val (.int (Int32.ofNat i))] [])) _
        refine XS.iloadN XX.here hx rfl (hb hby d4_4) rfl ?_
        show Steps p.tables e below (T0.setTop (mkF m 5 #[.val (.ref a1), .val (.long S), .second, .val (.int (Int32.ofNat i))] [(.int (Int32.ofNat i))])) _
        refine XS.aloadN XX.here hx rfl (hb hby d4_5) rfl rfl ?_
        exact kt
      obtain ⟨T6, X6, e6, st6⟩ := getF XX hx hZ hown (host := "") (Or.inl (hw _ (List.mem_of_getElem? (i := 27) rfl))) Via.refl e0' F1 (g := (mkF m 6 #[.val (.ref a1), .val (.long S), .second, .val (.int (Int32.ofNat i))] [(.ref a1), (.int (Int32.ofNat i))])) rfl rfl (hb hby d4_6)
      have sg7 : ∀ t₀, Steps p.tables e below (T6.setTop (mkF m 15 #[.val (.ref a1), .val (.long S), .second, .val (.int (Int32.ofNat i))] [(.ref a1), (.long S)])) t₀ → Steps p.tables e below (T6.setTop (mkF m 9 #[.val (.ref a1), .val (.long S), .second, .val (.int (Int32.ofNat i))] [(.ref u1), (.int (Int32.ofNat i))])) t₀ := by
        intro t₀ kt
        show Steps p.tables e below (T6.setTop (mkF m 9 #[.val (.ref a1), .val (.long S), .second, .val (.int (Int32.ofNat i))] [(.ref u1), (.int (Int32.ofNat i))])) _
        refine X6.arraylength hx (by rw [e6]; exact Ar1.1) (State.isArrayOf_alike hZ.alike Ar1.2.1) (g := (mkF m 9 #[.val (.ref a1), .val (.long S), .second, .val (.int (Int32.ofNat i))] [(.ref u1), (.int (Int32.ofNat i))])) rfl rfl (hb hby d4_9) _ ?_
        rw [hl1]
        show Steps p.tables e below (T6.setTop (mkF m 10 #[.val (.ref a1), .val (.long S), .second, .val (.int (Int32.ofNat i))] [(.int (Int32.ofNat n)), (.int (Int32.ofNat i))])) _
        refine XS.icmpNo X6.here hx rfl (hb hby d4_10) rfl (tlt (own_lt (i := i) (n := n) (by omega) (by omega))).2.1 ?_
        show Steps p.tables e below (T6.setTop (mkF m 13 #[.val (.ref a1), .val (.long S), .second, .val (.int (Int32.ofNat i))] [])) _
        refine XS.lloadN X6.here hx rfl (hb hby d4_13) rfl ?_
        show Steps p.tables e below (T6.setTop (mkF m 14 #[.val (.ref a1), .val (.long S), .second, .val (.int (Int32.ofNat i))] [(.long S)])) _
        refine XS.aloadN X6.here hx rfl (hb hby d4_14) rfl rfl ?_
        exact kt
      obtain ⟨T8, X8, e8, st8⟩ := getF X6 hx hZ hown (host := "") (Or.inl (hw _ (List.mem_of_getElem? (i := 29) rfl))) Via.refl e6 F2 (g := (mkF m 15 #[.val (.ref a1), .val (.long S), .second, .val (.int (Int32.ofNat i))] [(.ref a1), (.long S)])) rfl rfl (hb hby d4_15)
      have sg9 : ∀ t₀, Steps p.tables e below (T8.setTop (mkF m 21 #[.val (.ref a1), .val (.long S), .second, .val (.int (Int32.ofNat i))] [(.ref a1), (.long (f2 i)), (.long S)])) t₀ → Steps p.tables e below (T8.setTop (mkF m 18 #[.val (.ref a1), .val (.long S), .second, .val (.int (Int32.ofNat i))] [(.ref u2), (.long S)])) t₀ := by
        intro t₀ kt
        show Steps p.tables e below (T8.setTop (mkF m 18 #[.val (.ref a1), .val (.long S), .second, .val (.int (Int32.ofNat i))] [(.ref u2), (.long S)])) _
        refine XS.iloadN X8.here hx rfl (hb hby d4_18) rfl ?_
        show Steps p.tables e below (T8.setTop (mkF m 19 #[.val (.ref a1), .val (.long S), .second, .val (.int (Int32.ofNat i))] [(.int (Int32.ofNat i)), (.ref u2), (.long S)])) _
        refine X8.laload hx (j := (Int32.ofNat i)) (v := (.long (f2 i))) (by rw [e8]; exact Ar2.1) (State.isArrayOf_alike hZ.alike Ar2.2.1) Ar2.2.2 hin2 hat2 (g := (mkF m 19 #[.val (.ref a1), .val (.long S), .second, .val (.int (Int32.ofNat i))] [(.int (Int32.ofNat i)), (.ref u2), (.long S)])) rfl rfl (hb hby d4_19) _ ?_
        show Steps p.tables e below (T8.setTop (mkF m 20 #[.val (.ref a1), .val (.long S), .second, .val (.int (Int32.ofNat i))] [(.long (f2 i)), (.long S)])) _
        refine XS.aloadN X8.here hx rfl (hb hby d4_20) rfl rfl ?_
        exact kt
      obtain ⟨T10, X10, e10, st10⟩ := getF X8 hx hZ hown (host := "") (Or.inl (hw _ (List.mem_of_getElem? (i := 27) rfl))) Via.refl e8 F1 (g := (mkF m 21 #[.val (.ref a1), .val (.long S), .second, .val (.int (Int32.ofNat i))] [(.ref a1), (.long (f2 i)), (.long S)])) rfl rfl (hb hby d4_21)
      have sg11 : ∀ t₀, Steps p.tables e below (T10.setTop (mkF m 4 #[.val (.ref a1), .val (.long (S + ((f2 i) - (f1 i)))), .second, .val (.int ((Int32.ofNat i) + (1 : Int32)))] [])) t₀ → Steps p.tables e below (T10.setTop (mkF m 24 #[.val (.ref a1), .val (.long S), .second, .val (.int (Int32.ofNat i))] [(.ref u1), (.long (f2 i)), (.long S)])) t₀ := by
        intro t₀ kt
        show Steps p.tables e below (T10.setTop (mkF m 24 #[.val (.ref a1), .val (.long S), .second, .val (.int (Int32.ofNat i))] [(.ref u1), (.long (f2 i)), (.long S)])) _
        refine XS.iloadN X10.here hx rfl (hb hby d4_24) rfl ?_
        show Steps p.tables e below (T10.setTop (mkF m 25 #[.val (.ref a1), .val (.long S), .second, .val (.int (Int32.ofNat i))] [(.int (Int32.ofNat i)), (.ref u1), (.long (f2 i)), (.long S)])) _
        refine X10.laload hx (j := (Int32.ofNat i)) (v := (.long (f1 i))) (by rw [e10]; exact Ar1.1) (State.isArrayOf_alike hZ.alike Ar1.2.1) Ar1.2.2 hin1 hat1 (g := (mkF m 25 #[.val (.ref a1), .val (.long S), .second, .val (.int (Int32.ofNat i))] [(.int (Int32.ofNat i)), (.ref u1), (.long (f2 i)), (.long S)])) rfl rfl (hb hby d4_25) _ ?_
        show Steps p.tables e below (T10.setTop (mkF m 26 #[.val (.ref a1), .val (.long S), .second, .val (.int (Int32.ofNat i))] [(.long (f1 i)), (.long (f2 i)), (.long S)])) _
        refine XS.lsub X10.here hx rfl (hb hby d4_26) rfl ?_
        show Steps p.tables e below (T10.setTop (mkF m 27 #[.val (.ref a1), .val (.long S), .second, .val (.int (Int32.ofNat i))] [(.long ((f2 i) - (f1 i))), (.long S)])) _
        refine XS.ladd X10.here hx rfl (hb hby d4_27) rfl ?_
        show Steps p.tables e below (T10.setTop (mkF m 28 #[.val (.ref a1), .val (.long S), .second, .val (.int (Int32.ofNat i))] [(.long (S + ((f2 i) - (f1 i))))])) _
        refine XS.lstoreN X10.here hx rfl (hb hby d4_28) rfl (l' := #[.val (.ref a1), .val (.long (S + ((f2 i) - (f1 i)))), .second, .val (.int (Int32.ofNat i))]) rfl ?_
        show Steps p.tables e below (T10.setTop (mkF m 29 #[.val (.ref a1), .val (.long (S + ((f2 i) - (f1 i)))), .second, .val (.int (Int32.ofNat i))] [])) _
        refine XS.iinc X10.here hx rfl (hb hby d4_29) rfl (l' := #[.val (.ref a1), .val (.long (S + ((f2 i) - (f1 i)))), .second, .val (.int ((Int32.ofNat i) + (1 : Int32)))]) rfl ?_
        show Steps p.tables e below (T10.setTop (mkF m 32 #[.val (.ref a1), .val (.long (S + ((f2 i) - (f1 i)))), .second, .val (.int ((Int32.ofNat i) + (1 : Int32)))] [])) _
        refine XS.goto X10.here hx rfl (pc0 := 32) (pc' := 4) rfl (hb hby d4_32) (by decide) (by decide) ?_
        exact kt
      obtain ⟨T9, X9, e9, st9⟩ := ih (i + 1) _ _ (by omega) X10 e10
      rw [own_one] at st9
      exact ⟨T9, X9, e9, fun t' kt => sg5 _ (st6 _ (sg7 _ (st8 _ (sg9 _ (st10 _ (sg11 _ ((st9 t' kt))))))))⟩
  obtain ⟨TL, XL, eL, stL⟩ := loop n 0 0 s₁ (by omega) X0 e0
  have sg12 : ∀ t₀, Steps p.tables e below (TL.setTop (mkF m 36 #[.val (.ref a1), .val (.long (own_s f1 f2 n 0 0)), .second, .val (.int (Int32.ofNat n))] [(.long (own_s f1 f2 n 0 0))])) t₀ → Steps p.tables e below (TL.setTop (mkF m 35 #[.val (.ref a1), .val (.long (own_s f1 f2 n 0 0)), .second, .val (.int (Int32.ofNat n))] [])) t₀ := by
    intro t₀ kt
    show Steps p.tables e below (TL.setTop (mkF m 35 #[.val (.ref a1), .val (.long (own_s f1 f2 n 0 0)), .second, .val (.int (Int32.ofNat n))] [])) _
    refine XS.lloadN XL.here hx rfl (hb hby d4_35) rfl ?_
    exact kt
  obtain ⟨fs, hr, hrun, hended, hW, hsame⟩ := XL.leave (v := some (.long (own_s f1 f2 n 0 0))) (fun h => by rw [Bd.returns] at h; cases h)
  refine ⟨_, _, pre0 _ ?_, hrun, hended, _, _, rfl, ?_, ⟨_, rfl⟩, hW, hsame.mono (by decide) (by decide)⟩
  · exact sg1 _ (stL _ (sg12 _ ((XL.lreturnOut hx Bd.returns (hb hby d4_36) hr))))
  · show Q4 Z a1 u1 u2 n f1 f2 h0 n0 _ TL.heap _
    rw [eL]
    exact ⟨rfl, N0, rfl⟩
def Q0 (Z : State) (p1 : Int32) (q2 : Int64) (q3 : Int64) (q4 : Int64) (q5 : Int64) (q6 : Int64) (h0 : Heap) (n0 : Nat) (v : Option Value) (h : Heap) (L : List Loc) : Prop := v = some (.int (1 : Int32)) ∧ Fr n0 L
set_option maxRecDepth 65536 in
set_option maxHeartbeats 40000000 in
theorem rm0 (l : Launch) (Z : State) (a0 : Array Value) (hw : ∀ d ∈ tables_1, d.before a0 Z = true) (ws : List Jvm.Cond) (p1 : Int32) (q2 : Int64) (q3 : Int64) (q4 : Int64) (q5 : Int64) (q6 : Int64) (h0 : Heap) (n0 : Nat) (Z0 : n0 ≤ h0.size) :
    MetFree l x (head1 (Jvm.Cond.code x code maxLocals ret :: ws) room_1) (fun a U => a = #[(.int p1), (.long q2), (.long q3), (.long q4), (.long q5), (.long q6)] ∧ Z.Warmed39 U.vm ∧ U.heap = h0) (fun _ _ _ _ _ => True) (fun _ U oo U' => ∃ v L, oo = .returned v ∧ Q0 Z p1 q2 q3 q4 q5 q6 h0 n0 v U'.heap L ∧ FrameEnd U oo U' L room_1.cells room_1.slots) := by
  refine MetFree.of_bodySF (plainFor_of_name pn_0) hisR ?_
  intro p e s m args below meth c s₁ Bd hml0 hP hK
  obtain ⟨rfl, hZ, hh⟩ := hP
  have hx := Bd.exec
  have hby := Bd.bytes
  have hml : c.maxLocals = 19 := hml0
  have hown : s.vm.findClass "com/example/pulq/pulq/client/TopicStatusGetMessageCountPinLaw" = some m.cls := findClass_of_methodNamed Bd.named
  have hnm := (name_of_methodNamed Bd.named Bd.method).1
  have X0 : Stand p l e room_1 s m #[(.int p1), (.long q2), (.long q3), (.long q4), (.long q5), (.long q6)] below meth c s₁ [] 0 0 := Stand.of_body Bd
  have e0 : s₁.heap = h0 := by rw [← hh, Bd.state]; rfl
  have N0 := Fr.nil n0
  have pre0 : ∀ t₀, Steps p.tables e below (s₁.setTop (mkF m 0 #[.val (.int p1), .val (.long q2), .second, .val (.long q3), .second, .val (.long q4), .second, .val (.long q5), .second, .val (.long q6), .second, .unset, .unset, .unset, .unset, .unset, .unset, .unset, .unset] [])) t₀ → Steps p.tables e below (s₁.setTop (entryFrame m #[(.int p1), (.long q2), (.long q3), (.long q4), (.long q5), (.long q6)] maxLocals)) t₀ := fun t₀ k => castTop (ef_0 m p1 q2 q3 q4 q5 q6) k
  have sg1 : ∀ t₀, Steps p.tables e below (s₁.setTop (mkF m 16 #[.val (.int p1), .val (.long q2), .second, .val (.long q3), .second, .val (.long q4), .second, .val (.long q5), .second, .val (.long q6), .second, .val (.int (p1 &&& (3 : Int32))), .val (.int (((p1.toUInt32 >>> ((2 : Int32) &&& 31).toUInt32).toInt32) &&& (3 : Int32))), .unset, .unset, .unset, .unset, .unset, .unset] [(.int (((p1.toUInt32 >>> ((2 : Int32) &&& 31).toUInt32).toInt32) &&& (3 : Int32))), (.int (p1 &&& (3 : Int32)))])) t₀ → Steps p.tables e below (s₁.setTop (mkF m 0 #[.val (.int p1), .val (.long q2), .second, .val (.long q3), .second, .val (.long q4), .second, .val (.long q5), .second, .val (.long q6), .second, .unset, .unset, .unset, .unset, .unset, .unset, .unset, .unset] [])) t₀ := by
    intro t₀ kt
    show Steps p.tables e below (s₁.setTop (mkF m 0 #[.val (.int p1), .val (.long q2), .second, .val (.long q3), .second, .val (.long q4), .second, .val (.long q5), .second, .val (.long q6), .second, .unset, .unset, .unset, .unset, .unset, .unset, .unset, .unset] [])) _
    refine XS.iloadN X0.here hx rfl (hb hby at_0) rfl ?_
    show Steps p.tables e below (s₁.setTop (mkF m 1 #[.val (.int p1), .val (.long q2), .second, .val (.long q3), .second, .val (.long q4), .second, .val (.long q5), .second, .val (.long q6), .second, .unset, .unset, .unset, .unset, .unset, .unset, .unset, .unset] [(.int p1)])) _
    refine XS.iconst X0.here hx rfl (hb hby at_1) ?_
    show Steps p.tables e below (s₁.setTop (mkF m 2 #[.val (.int p1), .val (.long q2), .second, .val (.long q3), .second, .val (.long q4), .second, .val (.long q5), .second, .val (.long q6), .second, .unset, .unset, .unset, .unset, .unset, .unset, .unset, .unset] [(.int (3 : Int32)), (.int p1)])) _
    refine XS.iand X0.here hx rfl (hb hby at_2) rfl ?_
    show Steps p.tables e below (s₁.setTop (mkF m 3 #[.val (.int p1), .val (.long q2), .second, .val (.long q3), .second, .val (.long q4), .second, .val (.long q5), .second, .val (.long q6), .second, .unset, .unset, .unset, .unset, .unset, .unset, .unset, .unset] [(.int (p1 &&& (3 : Int32)))])) _
    refine XS.istore X0.here hx rfl (hb hby at_3) rfl (l' := #[.val (.int p1), .val (.long q2), .second, .val (.long q3), .second, .val (.long q4), .second, .val (.long q5), .second, .val (.long q6), .second, .val (.int (p1 &&& (3 : Int32))), .unset, .unset, .unset, .unset, .unset, .unset, .unset]) rfl ?_
    show Steps p.tables e below (s₁.setTop (mkF m 5 #[.val (.int p1), .val (.long q2), .second, .val (.long q3), .second, .val (.long q4), .second, .val (.long q5), .second, .val (.long q6), .second, .val (.int (p1 &&& (3 : Int32))), .unset, .unset, .unset, .unset, .unset, .unset, .unset] [])) _
    refine XS.iloadN X0.here hx rfl (hb hby at_5) rfl ?_
    show Steps p.tables e below (s₁.setTop (mkF m 6 #[.val (.int p1), .val (.long q2), .second, .val (.long q3), .second, .val (.long q4), .second, .val (.long q5), .second, .val (.long q6), .second, .val (.int (p1 &&& (3 : Int32))), .unset, .unset, .unset, .unset, .unset, .unset, .unset] [(.int p1)])) _
    refine XS.iconst X0.here hx rfl (hb hby at_6) ?_
    show Steps p.tables e below (s₁.setTop (mkF m 7 #[.val (.int p1), .val (.long q2), .second, .val (.long q3), .second, .val (.long q4), .second, .val (.long q5), .second, .val (.long q6), .second, .val (.int (p1 &&& (3 : Int32))), .unset, .unset, .unset, .unset, .unset, .unset, .unset] [(.int (2 : Int32)), (.int p1)])) _
    refine XS.iushr X0.here hx rfl (hb hby at_7) rfl ?_
    show Steps p.tables e below (s₁.setTop (mkF m 8 #[.val (.int p1), .val (.long q2), .second, .val (.long q3), .second, .val (.long q4), .second, .val (.long q5), .second, .val (.long q6), .second, .val (.int (p1 &&& (3 : Int32))), .unset, .unset, .unset, .unset, .unset, .unset, .unset] [(.int ((p1.toUInt32 >>> ((2 : Int32) &&& 31).toUInt32).toInt32))])) _
    refine XS.iconst X0.here hx rfl (hb hby at_8) ?_
    show Steps p.tables e below (s₁.setTop (mkF m 9 #[.val (.int p1), .val (.long q2), .second, .val (.long q3), .second, .val (.long q4), .second, .val (.long q5), .second, .val (.long q6), .second, .val (.int (p1 &&& (3 : Int32))), .unset, .unset, .unset, .unset, .unset, .unset, .unset] [(.int (3 : Int32)), (.int ((p1.toUInt32 >>> ((2 : Int32) &&& 31).toUInt32).toInt32))])) _
    refine XS.iand X0.here hx rfl (hb hby at_9) rfl ?_
    show Steps p.tables e below (s₁.setTop (mkF m 10 #[.val (.int p1), .val (.long q2), .second, .val (.long q3), .second, .val (.long q4), .second, .val (.long q5), .second, .val (.long q6), .second, .val (.int (p1 &&& (3 : Int32))), .unset, .unset, .unset, .unset, .unset, .unset, .unset] [(.int (((p1.toUInt32 >>> ((2 : Int32) &&& 31).toUInt32).toInt32) &&& (3 : Int32)))])) _
    refine XS.istore X0.here hx rfl (hb hby at_10) rfl (l' := #[.val (.int p1), .val (.long q2), .second, .val (.long q3), .second, .val (.long q4), .second, .val (.long q5), .second, .val (.long q6), .second, .val (.int (p1 &&& (3 : Int32))), .val (.int (((p1.toUInt32 >>> ((2 : Int32) &&& 31).toUInt32).toInt32) &&& (3 : Int32))), .unset, .unset, .unset, .unset, .unset, .unset]) rfl ?_
    show Steps p.tables e below (s₁.setTop (mkF m 12 #[.val (.int p1), .val (.long q2), .second, .val (.long q3), .second, .val (.long q4), .second, .val (.long q5), .second, .val (.long q6), .second, .val (.int (p1 &&& (3 : Int32))), .val (.int (((p1.toUInt32 >>> ((2 : Int32) &&& 31).toUInt32).toInt32) &&& (3 : Int32))), .unset, .unset, .unset, .unset, .unset, .unset] [])) _
    refine XS.iload X0.here hx rfl (hb hby at_12) rfl ?_
    show Steps p.tables e below (s₁.setTop (mkF m 14 #[.val (.int p1), .val (.long q2), .second, .val (.long q3), .second, .val (.long q4), .second, .val (.long q5), .second, .val (.long q6), .second, .val (.int (p1 &&& (3 : Int32))), .val (.int (((p1.toUInt32 >>> ((2 : Int32) &&& 31).toUInt32).toInt32) &&& (3 : Int32))), .unset, .unset, .unset, .unset, .unset, .unset] [(.int (p1 &&& (3 : Int32)))])) _
    refine XS.iload X0.here hx rfl (hb hby at_14) rfl ?_
    exact kt
  obtain ⟨_, _, ⟨T2, L2, k2, n2⟩, -, X2, ⟨Lc2, hQ2, l2, y2, z2⟩, st2⟩ := Jvm.LawKit.callS X0 hx (y := (⟨"java/lang/Math", "max", "(II)I"⟩ : MethodName)) hown (mvT hZ (hw _ (List.mem_of_getElem? (i := 0) rfl))) (mvT hZ (hw _ (List.mem_of_getElem? (i := 1) rfl))) (mvT hZ (hw _ (List.mem_of_getElem? (i := 2) rfl))) (mvT hZ (hw _ (List.mem_of_getElem? (i := 3) rfl))) (by decide) (backOf (W := 0) (rm1 l Z a0 hw [] (p1 &&& (3 : Int32)) (((p1.toUInt32 >>> ((2 : Int32) &&& 31).toUInt32).toInt32) &&& (3 : Int32)) h0 n0 Z0) hZ (hw _ (List.mem_of_getElem? (i := 3) rfl)) (hw _ (List.mem_of_getElem? (i := 2) rfl)) (by decide) (by decide)) (g := (mkF m 16 #[.val (.int p1), .val (.long q2), .second, .val (.long q3), .second, .val (.long q4), .second, .val (.long q5), .second, .val (.long q6), .second, .val (.int (p1 &&& (3 : Int32))), .val (.int (((p1.toUInt32 >>> ((2 : Int32) &&& 31).toUInt32).toInt32) &&& (3 : Int32))), .unset, .unset, .unset, .unset, .unset, .unset] [(.int (((p1.toUInt32 >>> ((2 : Int32) &&& 31).toUInt32).toInt32) &&& (3 : Int32))), (.int (p1 &&& (3 : Int32)))])) rfl (by rw [hml]; rfl) (argsL := [(.int (p1 &&& (3 : Int32))), (.int (((p1.toUInt32 >>> ((2 : Int32) &&& 31).toUInt32).toInt32) &&& (3 : Int32)))]) (rest := []) (lenOf pd_2 rfl) rfl (by show 2 * 0 + _ ≤ _; exact Nat.le_of_eq rfl) (hb hby at_16) (fun _ _ => ⟨rfl, e0, (by decide : 0 + 0 ≤ _), (by decide : 0 + 0 ≤ _)⟩)
  dsimp only [Pt.U, Pt.locs, Pt.cells, Pt.slots] at X2 l2 y2 z2 st2 hQ2
  subst l2 y2 z2
  obtain ⟨rfl, N2q, hh2⟩ := hQ2
  have N2 := Fr.app N0 N2q
  have hq := own_q p1 ((p1.toUInt32 >>> ((2 : Int32) &&& 31).toUInt32).toInt32)
  obtain ⟨q, eq⟩ : ∃ q, q = own_max (p1 &&& (3 : Int32)) (((p1.toUInt32 >>> ((2 : Int32) &&& 31).toUInt32).toInt32) &&& (3 : Int32)) := ⟨_, rfl⟩
  rw [← eq] at hq st2
  clear eq
  rcases hq with rfl | rfl | rfl | rfl
  · have sg3 : ∀ t₀, Steps p.tables e below (T2.setTop (mkF m 23 #[.val (.int p1), .val (.long q2), .second, .val (.long q3), .second, .val (.long q4), .second, .val (.long q5), .second, .val (.long q6), .second, .val (.int (p1 &&& (3 : Int32))), .val (.int (((p1.toUInt32 >>> ((2 : Int32) &&& 31).toUInt32).toInt32) &&& (3 : Int32))), .val (.int (0 : Int32)), .unset, .unset, .unset, .unset, .unset] [(.int (0 : Int32))])) t₀ → Steps p.tables e below (T2.setTop (mkF m 19 #[.val (.int p1), .val (.long q2), .second, .val (.long q3), .second, .val (.long q4), .second, .val (.long q5), .second, .val (.long q6), .second, .val (.int (p1 &&& (3 : Int32))), .val (.int (((p1.toUInt32 >>> ((2 : Int32) &&& 31).toUInt32).toInt32) &&& (3 : Int32))), .unset, .unset, .unset, .unset, .unset, .unset] [(.int (0 : Int32))])) t₀ := by
      intro t₀ kt
      show Steps p.tables e below (T2.setTop (mkF m 19 #[.val (.int p1), .val (.long q2), .second, .val (.long q3), .second, .val (.long q4), .second, .val (.long q5), .second, .val (.long q6), .second, .val (.int (p1 &&& (3 : Int32))), .val (.int (((p1.toUInt32 >>> ((2 : Int32) &&& 31).toUInt32).toInt32) &&& (3 : Int32))), .unset, .unset, .unset, .unset, .unset, .unset] [(.int (0 : Int32))])) _
      refine XS.istore X2.here hx rfl (hb hby at_19) rfl (l' := #[.val (.int p1), .val (.long q2), .second, .val (.long q3), .second, .val (.long q4), .second, .val (.long q5), .second, .val (.long q6), .second, .val (.int (p1 &&& (3 : Int32))), .val (.int (((p1.toUInt32 >>> ((2 : Int32) &&& 31).toUInt32).toInt32) &&& (3 : Int32))), .val (.int (0 : Int32)), .unset, .unset, .unset, .unset, .unset]) rfl ?_
      show Steps p.tables e below (T2.setTop (mkF m 21 #[.val (.int p1), .val (.long q2), .second, .val (.long q3), .second, .val (.long q4), .second, .val (.long q5), .second, .val (.long q6), .second, .val (.int (p1 &&& (3 : Int32))), .val (.int (((p1.toUInt32 >>> ((2 : Int32) &&& 31).toUInt32).toInt32) &&& (3 : Int32))), .val (.int (0 : Int32)), .unset, .unset, .unset, .unset, .unset] [])) _
      refine XS.iload X2.here hx rfl (hb hby at_21) rfl ?_
      exact kt
    obtain ⟨T4, h4, k4, X4, e4, E4, A4, B4, st4⟩ := newPE X2 hx hZ (hw _ (List.mem_of_getElem? (i := 4) rfl)) hh2 (g := (mkF m 23 #[.val (.int p1), .val (.long q2), .second, .val (.long q3), .second, .val (.long q4), .second, .val (.long q5), .second, .val (.long q6), .second, .val (.int (p1 &&& (3 : Int32))), .val (.int (((p1.toUInt32 >>> ((2 : Int32) &&& 31).toUInt32).toInt32) &&& (3 : Int32))), .val (.int (0 : Int32)), .unset, .unset, .unset, .unset, .unset] [(.int (0 : Int32))])) rfl (hb hby at_23) rfl (by decide) (cap := 0) (by decide) (by decide) (by decide) (by decide) (ad := "[J") (by decide +kernel)
    obtain ⟨b4, g4⟩ : ∃ z, z = h0.size := ⟨_, rfl⟩
    rw [← g4] at A4 st4 B4
    have V4 := Arv.new A4 (by decide)
    have g_b4 : n0 ≤ b4 := Nat.le_trans Z0 (Nat.le_of_eq g4.symm)
    have z4 : n0 ≤ h4.size := Nat.le_trans Z0 E4.1
    have sg5 : ∀ t₀, Steps p.tables e below (T4.setTop (mkF m 29 #[.val (.int p1), .val (.long q2), .second, .val (.long q3), .second, .val (.long q4), .second, .val (.long q5), .second, .val (.long q6), .second, .val (.int (p1 &&& (3 : Int32))), .val (.int (((p1.toUInt32 >>> ((2 : Int32) &&& 31).toUInt32).toInt32) &&& (3 : Int32))), .val (.int (0 : Int32)), .val (.ref b4), .unset, .unset, .unset, .unset] [(.int (0 : Int32))])) t₀ → Steps p.tables e below (T4.setTop (mkF m 25 #[.val (.int p1), .val (.long q2), .second, .val (.long q3), .second, .val (.long q4), .second, .val (.long q5), .second, .val (.long q6), .second, .val (.int (p1 &&& (3 : Int32))), .val (.int (((p1.toUInt32 >>> ((2 : Int32) &&& 31).toUInt32).toInt32) &&& (3 : Int32))), .val (.int (0 : Int32)), .unset, .unset, .unset, .unset, .unset] [(.ref b4)])) t₀ := by
      intro t₀ kt
      show Steps p.tables e below (T4.setTop (mkF m 25 #[.val (.int p1), .val (.long q2), .second, .val (.long q3), .second, .val (.long q4), .second, .val (.long q5), .second, .val (.long q6), .second, .val (.int (p1 &&& (3 : Int32))), .val (.int (((p1.toUInt32 >>> ((2 : Int32) &&& 31).toUInt32).toInt32) &&& (3 : Int32))), .val (.int (0 : Int32)), .unset, .unset, .unset, .unset, .unset] [(.ref b4)])) _
      refine XS.astore X4.here hx rfl (hb hby at_25) rfl rfl (l' := #[.val (.int p1), .val (.long q2), .second, .val (.long q3), .second, .val (.long q4), .second, .val (.long q5), .second, .val (.long q6), .second, .val (.int (p1 &&& (3 : Int32))), .val (.int (((p1.toUInt32 >>> ((2 : Int32) &&& 31).toUInt32).toInt32) &&& (3 : Int32))), .val (.int (0 : Int32)), .val (.ref b4), .unset, .unset, .unset, .unset]) rfl ?_
      show Steps p.tables e below (T4.setTop (mkF m 27 #[.val (.int p1), .val (.long q2), .second, .val (.long q3), .second, .val (.long q4), .second, .val (.long q5), .second, .val (.long q6), .second, .val (.int (p1 &&& (3 : Int32))), .val (.int (((p1.toUInt32 >>> ((2 : Int32) &&& 31).toUInt32).toInt32) &&& (3 : Int32))), .val (.int (0 : Int32)), .val (.ref b4), .unset, .unset, .unset, .unset] [])) _
      refine XS.iload X4.here hx rfl (hb hby at_27) rfl ?_
      exact kt
    obtain ⟨T6, h6, k6, X6, e6, E6, A6, B6, st6⟩ := newPE X4 hx hZ (hw _ (List.mem_of_getElem? (i := 4) rfl)) e4 (g := (mkF m 29 #[.val (.int p1), .val (.long q2), .second, .val (.long q3), .second, .val (.long q4), .second, .val (.long q5), .second, .val (.long q6), .second, .val (.int (p1 &&& (3 : Int32))), .val (.int (((p1.toUInt32 >>> ((2 : Int32) &&& 31).toUInt32).toInt32) &&& (3 : Int32))), .val (.int (0 : Int32)), .val (.ref b4), .unset, .unset, .unset, .unset] [(.int (0 : Int32))])) rfl (hb hby at_29) rfl (by decide) (cap := 0) (by decide) (by decide) (by decide) (by decide) (ad := "[J") (by decide +kernel)
    obtain ⟨b6, g6⟩ : ∃ z, z = h4.size := ⟨_, rfl⟩
    rw [← g6] at A6 st6 B6
    have V6 := Arv.new A6 (by decide)
    have g_b6 : n0 ≤ b6 := Nat.le_trans z4 (Nat.le_of_eq g6.symm)
    have z6 : n0 ≤ h6.size := Nat.le_trans z4 E6.1
    have P1_0 : own_A Z h6 b4 0 .long (fun _ => .long (0 : Int64)) := own_A_ext (own_A_new V4 (by decide)) E6
    have P2_0 : own_A Z h6 b6 0 .long (fun _ => .long (0 : Int64)) := own_A_new V6 (by decide)
    have R1_0 := B4.ext E6
    have R2_0 := B6
    have ne12 : b4 ≠ b6 := Nat.ne_of_lt (by rw [g6]; exact B4.lt)
    have y0 := z6
    have sg7 : ∀ t₀, Steps p.tables e below (T6.setTop (mkF m 36 #[.val (.int p1), .val (.long q2), .second, .val (.long q3), .second, .val (.long q4), .second, .val (.long q5), .second, .val (.long q6), .second, .val (.int (p1 &&& (3 : Int32))), .val (.int (((p1.toUInt32 >>> ((2 : Int32) &&& 31).toUInt32).toInt32) &&& (3 : Int32))), .val (.int (0 : Int32)), .val (.ref b4), .val (.ref b6), .val (.long (0 : Int64)), .second, .unset] [])) t₀ → Steps p.tables e below (T6.setTop (mkF m 31 #[.val (.int p1), .val (.long q2), .second, .val (.long q3), .second, .val (.long q4), .second, .val (.long q5), .second, .val (.long q6), .second, .val (.int (p1 &&& (3 : Int32))), .val (.int (((p1.toUInt32 >>> ((2 : Int32) &&& 31).toUInt32).toInt32) &&& (3 : Int32))), .val (.int (0 : Int32)), .val (.ref b4), .unset, .unset, .unset, .unset] [(.ref b6)])) t₀ := by
      intro t₀ kt
      show Steps p.tables e below (T6.setTop (mkF m 31 #[.val (.int p1), .val (.long q2), .second, .val (.long q3), .second, .val (.long q4), .second, .val (.long q5), .second, .val (.long q6), .second, .val (.int (p1 &&& (3 : Int32))), .val (.int (((p1.toUInt32 >>> ((2 : Int32) &&& 31).toUInt32).toInt32) &&& (3 : Int32))), .val (.int (0 : Int32)), .val (.ref b4), .unset, .unset, .unset, .unset] [(.ref b6)])) _
      refine XS.astore X6.here hx rfl (hb hby at_31) rfl rfl (l' := #[.val (.int p1), .val (.long q2), .second, .val (.long q3), .second, .val (.long q4), .second, .val (.long q5), .second, .val (.long q6), .second, .val (.int (p1 &&& (3 : Int32))), .val (.int (((p1.toUInt32 >>> ((2 : Int32) &&& 31).toUInt32).toInt32) &&& (3 : Int32))), .val (.int (0 : Int32)), .val (.ref b4), .val (.ref b6), .unset, .unset, .unset]) rfl ?_
      show Steps p.tables e below (T6.setTop (mkF m 33 #[.val (.int p1), .val (.long q2), .second, .val (.long q3), .second, .val (.long q4), .second, .val (.long q5), .second, .val (.long q6), .second, .val (.int (p1 &&& (3 : Int32))), .val (.int (((p1.toUInt32 >>> ((2 : Int32) &&& 31).toUInt32).toInt32) &&& (3 : Int32))), .val (.int (0 : Int32)), .val (.ref b4), .val (.ref b6), .unset, .unset, .unset] [])) _
      refine XS.lconst X6.here hx rfl (hb hby at_33) ?_
      show Steps p.tables e below (T6.setTop (mkF m 34 #[.val (.int p1), .val (.long q2), .second, .val (.long q3), .second, .val (.long q4), .second, .val (.long q5), .second, .val (.long q6), .second, .val (.int (p1 &&& (3 : Int32))), .val (.int (((p1.toUInt32 >>> ((2 : Int32) &&& 31).toUInt32).toInt32) &&& (3 : Int32))), .val (.int (0 : Int32)), .val (.ref b4), .val (.ref b6), .unset, .unset, .unset] [(.long (0 : Int64))])) _
      refine XS.lstore X6.here hx rfl (hb hby at_34) rfl (l' := #[.val (.int p1), .val (.long q2), .second, .val (.long q3), .second, .val (.long q4), .second, .val (.long q5), .second, .val (.long q6), .second, .val (.int (p1 &&& (3 : Int32))), .val (.int (((p1.toUInt32 >>> ((2 : Int32) &&& 31).toUInt32).toInt32) &&& (3 : Int32))), .val (.int (0 : Int32)), .val (.ref b4), .val (.ref b6), .val (.long (0 : Int64)), .second, .unset]) rfl ?_
      exact kt
    have sg8 : ∀ t₀, Steps p.tables e below (T6.setTop (mkF m 113 #[.val (.int p1), .val (.long q2), .second, .val (.long q3), .second, .val (.long q4), .second, .val (.long q5), .second, .val (.long q6), .second, .val (.int (p1 &&& (3 : Int32))), .val (.int (((p1.toUInt32 >>> ((2 : Int32) &&& 31).toUInt32).toInt32) &&& (3 : Int32))), .val (.int (0 : Int32)), .val (.ref b4), .val (.ref b6), .val (.long (0 : Int64)), .second, .unset] [])) t₀ → Steps p.tables e below (T6.setTop (mkF m 36 #[.val (.int p1), .val (.long q2), .second, .val (.long q3), .second, .val (.long q4), .second, .val (.long q5), .second, .val (.long q6), .second, .val (.int (p1 &&& (3 : Int32))), .val (.int (((p1.toUInt32 >>> ((2 : Int32) &&& 31).toUInt32).toInt32) &&& (3 : Int32))), .val (.int (0 : Int32)), .val (.ref b4), .val (.ref b6), .val (.long (0 : Int64)), .second, .unset] [])) t₀ := by
      intro t₀ kt
      show Steps p.tables e below (T6.setTop (mkF m 36 #[.val (.int p1), .val (.long q2), .second, .val (.long q3), .second, .val (.long q4), .second, .val (.long q5), .second, .val (.long q6), .second, .val (.int (p1 &&& (3 : Int32))), .val (.int (((p1.toUInt32 >>> ((2 : Int32) &&& 31).toUInt32).toInt32) &&& (3 : Int32))), .val (.int (0 : Int32)), .val (.ref b4), .val (.ref b6), .val (.long (0 : Int64)), .second, .unset] [])) _
      refine XS.iload X6.here hx rfl (hb hby at_36) rfl ?_
      show Steps p.tables e below (T6.setTop (mkF m 38 #[.val (.int p1), .val (.long q2), .second, .val (.long q3), .second, .val (.long q4), .second, .val (.long q5), .second, .val (.long q6), .second, .val (.int (p1 &&& (3 : Int32))), .val (.int (((p1.toUInt32 >>> ((2 : Int32) &&& 31).toUInt32).toInt32) &&& (3 : Int32))), .val (.int (0 : Int32)), .val (.ref b4), .val (.ref b6), .val (.long (0 : Int64)), .second, .unset] [(.int (0 : Int32))])) _
      refine XS.ifYes X6.here hx rfl (pc0 := 38) (pc' := 59) rfl (hb hby at_38) rfl ((if0 _ _).trans (flt (by decide : ¬ ((0 : Int32) < (0 : Int32)))).2.2.2) (by decide) (by decide) ?_
      show Steps p.tables e below (T6.setTop (mkF m 59 #[.val (.int p1), .val (.long q2), .second, .val (.long q3), .second, .val (.long q4), .second, .val (.long q5), .second, .val (.long q6), .second, .val (.int (p1 &&& (3 : Int32))), .val (.int (((p1.toUInt32 >>> ((2 : Int32) &&& 31).toUInt32).toInt32) &&& (3 : Int32))), .val (.int (0 : Int32)), .val (.ref b4), .val (.ref b6), .val (.long (0 : Int64)), .second, .unset] [])) _
      refine XS.iload X6.here hx rfl (hb hby at_59) rfl ?_
      show Steps p.tables e below (T6.setTop (mkF m 61 #[.val (.int p1), .val (.long q2), .second, .val (.long q3), .second, .val (.long q4), .second, .val (.long q5), .second, .val (.long q6), .second, .val (.int (p1 &&& (3 : Int32))), .val (.int (((p1.toUInt32 >>> ((2 : Int32) &&& 31).toUInt32).toInt32) &&& (3 : Int32))), .val (.int (0 : Int32)), .val (.ref b4), .val (.ref b6), .val (.long (0 : Int64)), .second, .unset] [(.int (0 : Int32))])) _
      refine XS.iconst X6.here hx rfl (hb hby at_61) ?_
      show Steps p.tables e below (T6.setTop (mkF m 62 #[.val (.int p1), .val (.long q2), .second, .val (.long q3), .second, .val (.long q4), .second, .val (.long q5), .second, .val (.long q6), .second, .val (.int (p1 &&& (3 : Int32))), .val (.int (((p1.toUInt32 >>> ((2 : Int32) &&& 31).toUInt32).toInt32) &&& (3 : Int32))), .val (.int (0 : Int32)), .val (.ref b4), .val (.ref b6), .val (.long (0 : Int64)), .second, .unset] [(.int (1 : Int32)), (.int (0 : Int32))])) _
      refine XS.icmpYes X6.here hx rfl (pc0 := 62) (pc' := 87) rfl (hb hby at_62) rfl (flt (by decide : ¬ ((1 : Int32) < (0 : Int32)))).2.2.2 (by decide) (by decide) ?_
      show Steps p.tables e below (T6.setTop (mkF m 87 #[.val (.int p1), .val (.long q2), .second, .val (.long q3), .second, .val (.long q4), .second, .val (.long q5), .second, .val (.long q6), .second, .val (.int (p1 &&& (3 : Int32))), .val (.int (((p1.toUInt32 >>> ((2 : Int32) &&& 31).toUInt32).toInt32) &&& (3 : Int32))), .val (.int (0 : Int32)), .val (.ref b4), .val (.ref b6), .val (.long (0 : Int64)), .second, .unset] [])) _
      refine XS.iload X6.here hx rfl (hb hby at_87) rfl ?_
      show Steps p.tables e below (T6.setTop (mkF m 89 #[.val (.int p1), .val (.long q2), .second, .val (.long q3), .second, .val (.long q4), .second, .val (.long q5), .second, .val (.long q6), .second, .val (.int (p1 &&& (3 : Int32))), .val (.int (((p1.toUInt32 >>> ((2 : Int32) &&& 31).toUInt32).toInt32) &&& (3 : Int32))), .val (.int (0 : Int32)), .val (.ref b4), .val (.ref b6), .val (.long (0 : Int64)), .second, .unset] [(.int (0 : Int32))])) _
      refine XS.iconst X6.here hx rfl (hb hby at_89) ?_
      show Steps p.tables e below (T6.setTop (mkF m 90 #[.val (.int p1), .val (.long q2), .second, .val (.long q3), .second, .val (.long q4), .second, .val (.long q5), .second, .val (.long q6), .second, .val (.int (p1 &&& (3 : Int32))), .val (.int (((p1.toUInt32 >>> ((2 : Int32) &&& 31).toUInt32).toInt32) &&& (3 : Int32))), .val (.int (0 : Int32)), .val (.ref b4), .val (.ref b6), .val (.long (0 : Int64)), .second, .unset] [(.int (2 : Int32)), (.int (0 : Int32))])) _
      refine XS.icmpYes X6.here hx rfl (pc0 := 90) (pc' := 113) rfl (hb hby at_90) rfl (flt (by decide : ¬ ((2 : Int32) < (0 : Int32)))).2.2.2 (by decide) (by decide) ?_
      exact kt
    obtain ⟨T9, h9, X9, e9, E9, A9, D9, -, st9⟩ := newO X6 hx hZ hown (hw _ (List.mem_of_getElem? (i := 5) rfl)) (hw _ (List.mem_of_getElem? (i := 6) rfl)) (hw _ (List.mem_of_getElem? (i := 7) rfl)) e6 (g := (mkF m 113 #[.val (.int p1), .val (.long q2), .second, .val (.long q3), .second, .val (.long q4), .second, .val (.long q5), .second, .val (.long q6), .second, .val (.int (p1 &&& (3 : Int32))), .val (.int (((p1.toUInt32 >>> ((2 : Int32) &&& 31).toUInt32).toInt32) &&& (3 : Int32))), .val (.int (0 : Int32)), .val (.ref b4), .val (.ref b6), .val (.long (0 : Int64)), .second, .unset] [])) rfl (hb hby at_113) (by decide) (by decide)
    obtain ⟨b9, g9⟩ : ∃ z, z = h6.size := ⟨_, rfl⟩
    rw [← g9] at A9 D9 st9
    have F_writeQueues_b9 : Fld Z h9 b9 "com/example/pulq/pulq/client/TopicStatus" "writeQueues" "I" (.int (0 : Int32)) := D9 (Or.inr (hw _ (List.mem_of_getElem? (i := 15) rfl))) (ty := .int) (by decide)
    have F_readQueues_b9 : Fld Z h9 b9 "com/example/pulq/pulq/client/TopicStatus" "readQueues" "I" (.int (0 : Int32)) := D9 (Or.inr (hw _ (List.mem_of_getElem? (i := 17) rfl))) (ty := .int) (by decide)
    have F_minOffsets_b9 : Fld Z h9 b9 "com/example/pulq/pulq/client/TopicStatus" "minOffsets" "[J" .null := D9 (Or.inr (hw _ (List.mem_of_getElem? (i := 28) rfl))) (ty := (.array .long)) (by decide)
    have F_maxOffsets_b9 : Fld Z h9 b9 "com/example/pulq/pulq/client/TopicStatus" "maxOffsets" "[J" .null := D9 (Or.inr (hw _ (List.mem_of_getElem? (i := 30) rfl))) (ty := (.array .long)) (by decide)
    have g_b9 : n0 ≤ b9 := Nat.le_trans y0 (Nat.le_of_eq g9.symm)
    have z9 : n0 ≤ h9.size := Nat.le_trans y0 E9.1
    have sg10 : ∀ t₀, Steps p.tables e below (T9.setTop (mkF m 125 #[.val (.int p1), .val (.long q2), .second, .val (.long q3), .second, .val (.long q4), .second, .val (.long q5), .second, .val (.long q6), .second, .val (.int (p1 &&& (3 : Int32))), .val (.int (((p1.toUInt32 >>> ((2 : Int32) &&& 31).toUInt32).toInt32) &&& (3 : Int32))), .val (.int (0 : Int32)), .val (.ref b4), .val (.ref b6), .val (.long (0 : Int64)), .second, .unset] [(.ref b6), (.ref b4), (.int (((p1.toUInt32 >>> ((2 : Int32) &&& 31).toUInt32).toInt32) &&& (3 : Int32))), (.int (p1 &&& (3 : Int32))), (.ref b9), (.ref b9)])) t₀ → Steps p.tables e below (T9.setTop (mkF m 116 #[.val (.int p1), .val (.long q2), .second, .val (.long q3), .second, .val (.long q4), .second, .val (.long q5), .second, .val (.long q6), .second, .val (.int (p1 &&& (3 : Int32))), .val (.int (((p1.toUInt32 >>> ((2 : Int32) &&& 31).toUInt32).toInt32) &&& (3 : Int32))), .val (.int (0 : Int32)), .val (.ref b4), .val (.ref b6), .val (.long (0 : Int64)), .second, .unset] [(.ref b9)])) t₀ := by
      intro t₀ kt
      show Steps p.tables e below (T9.setTop (mkF m 116 #[.val (.int p1), .val (.long q2), .second, .val (.long q3), .second, .val (.long q4), .second, .val (.long q5), .second, .val (.long q6), .second, .val (.int (p1 &&& (3 : Int32))), .val (.int (((p1.toUInt32 >>> ((2 : Int32) &&& 31).toUInt32).toInt32) &&& (3 : Int32))), .val (.int (0 : Int32)), .val (.ref b4), .val (.ref b6), .val (.long (0 : Int64)), .second, .unset] [(.ref b9)])) _
      refine XS.dup X9.here hx rfl (hb hby at_116) rfl rfl ?_
      show Steps p.tables e below (T9.setTop (mkF m 117 #[.val (.int p1), .val (.long q2), .second, .val (.long q3), .second, .val (.long q4), .second, .val (.long q5), .second, .val (.long q6), .second, .val (.int (p1 &&& (3 : Int32))), .val (.int (((p1.toUInt32 >>> ((2 : Int32) &&& 31).toUInt32).toInt32) &&& (3 : Int32))), .val (.int (0 : Int32)), .val (.ref b4), .val (.ref b6), .val (.long (0 : Int64)), .second, .unset] [(.ref b9), (.ref b9)])) _
      refine XS.iload X9.here hx rfl (hb hby at_117) rfl ?_
      show Steps p.tables e below (T9.setTop (mkF m 119 #[.val (.int p1), .val (.long q2), .second, .val (.long q3), .second, .val (.long q4), .second, .val (.long q5), .second, .val (.long q6), .second, .val (.int (p1 &&& (3 : Int32))), .val (.int (((p1.toUInt32 >>> ((2 : Int32) &&& 31).toUInt32).toInt32) &&& (3 : Int32))), .val (.int (0 : Int32)), .val (.ref b4), .val (.ref b6), .val (.long (0 : Int64)), .second, .unset] [(.int (p1 &&& (3 : Int32))), (.ref b9), (.ref b9)])) _
      refine XS.iload X9.here hx rfl (hb hby at_119) rfl ?_
      show Steps p.tables e below (T9.setTop (mkF m 121 #[.val (.int p1), .val (.long q2), .second, .val (.long q3), .second, .val (.long q4), .second, .val (.long q5), .second, .val (.long q6), .second, .val (.int (p1 &&& (3 : Int32))), .val (.int (((p1.toUInt32 >>> ((2 : Int32) &&& 31).toUInt32).toInt32) &&& (3 : Int32))), .val (.int (0 : Int32)), .val (.ref b4), .val (.ref b6), .val (.long (0 : Int64)), .second, .unset] [(.int (((p1.toUInt32 >>> ((2 : Int32) &&& 31).toUInt32).toInt32) &&& (3 : Int32))), (.int (p1 &&& (3 : Int32))), (.ref b9), (.ref b9)])) _
      refine XS.aload X9.here hx rfl (hb hby at_121) rfl rfl ?_
      show Steps p.tables e below (T9.setTop (mkF m 123 #[.val (.int p1), .val (.long q2), .second, .val (.long q3), .second, .val (.long q4), .second, .val (.long q5), .second, .val (.long q6), .second, .val (.int (p1 &&& (3 : Int32))), .val (.int (((p1.toUInt32 >>> ((2 : Int32) &&& 31).toUInt32).toInt32) &&& (3 : Int32))), .val (.int (0 : Int32)), .val (.ref b4), .val (.ref b6), .val (.long (0 : Int64)), .second, .unset] [(.ref b4), (.int (((p1.toUInt32 >>> ((2 : Int32) &&& 31).toUInt32).toInt32) &&& (3 : Int32))), (.int (p1 &&& (3 : Int32))), (.ref b9), (.ref b9)])) _
      refine XS.aload X9.here hx rfl (hb hby at_123) rfl rfl ?_
      exact kt
    have ne1 : b4 ≠ b9 := Nat.ne_of_lt (by rw [g9]; exact R1_0.lt)
    have ne2 : b6 ≠ b9 := Nat.ne_of_lt (by rw [g9]; exact R2_0.lt)
    obtain ⟨_, _, ⟨T11, L11, k11, n11⟩, -, X11, ⟨Lc11, hQ11, l11, y11, z11⟩, st11⟩ := X9.specialBack hx (y := (⟨"com/example/pulq/pulq/client/TopicStatus", "<init>", "(II[J[J)V"⟩ : MethodName)) rfl hown (mvT hZ (hw _ (List.mem_of_getElem? (i := 8) rfl))) (mvT hZ (hw _ (List.mem_of_getElem? (i := 9) rfl))) (mvT hZ (hw _ (List.mem_of_getElem? (i := 10) rfl))) (by decide) (backOf (W := 1) (rm2 l Z a0 hw [] b9 (p1 &&& (3 : Int32)) (((p1.toUInt32 >>> ((2 : Int32) &&& 31).toUInt32).toInt32) &&& (3 : Int32)) b4 b6 0 (fun _ => (0 : Int64)) (fun _ => (0 : Int64)) h9 n0 z9 (by decide) A9 g_b9 ne1 ne2 F_writeQueues_b9 F_readQueues_b9 F_minOffsets_b9 F_maxOffsets_b9 (own_A_ext P1_0 E9) (own_A_ext P2_0 E9) (R1_0.ext E9) (R2_0.ext E9)) hZ (hw _ (List.mem_of_getElem? (i := 10) rfl)) (hw _ (List.mem_of_getElem? (i := 7) rfl)) (by decide) (by decide)) (g := (mkF m 125 #[.val (.int p1), .val (.long q2), .second, .val (.long q3), .second, .val (.long q4), .second, .val (.long q5), .second, .val (.long q6), .second, .val (.int (p1 &&& (3 : Int32))), .val (.int (((p1.toUInt32 >>> ((2 : Int32) &&& 31).toUInt32).toInt32) &&& (3 : Int32))), .val (.int (0 : Int32)), .val (.ref b4), .val (.ref b6), .val (.long (0 : Int64)), .second, .unset] [(.ref b6), (.ref b4), (.int (((p1.toUInt32 >>> ((2 : Int32) &&& 31).toUInt32).toInt32) &&& (3 : Int32))), (.int (p1 &&& (3 : Int32))), (.ref b9), (.ref b9)])) rfl (by rw [hml]; rfl) (Steps.refl _) (a := b9) (argsL := [(.int (p1 &&& (3 : Int32))), (.int (((p1.toUInt32 >>> ((2 : Int32) &&& 31).toUInt32).toInt32) &&& (3 : Int32))), (.ref b4), (.ref b6)]) (rest := [(.ref b9)]) (lenOf pd_3 rfl) rfl (by show 2 * 0 + _ ≤ _; exact Nat.le_of_eq rfl) (hb hby at_125) (fun _ _ => ⟨rfl, e9, (by decide : 3 + 2 ≤ _), (by decide : 4 + 6 ≤ _)⟩)
    dsimp only [Pt.U, Pt.locs, Pt.cells, Pt.slots] at X11 l11 y11 z11 st11 hQ11
    subst l11 y11 z11
    obtain ⟨rfl, N11q, zz, EE, u1, u2, FM, FX, AM, AX⟩ := hQ11
    have N11 := Fr.app N2 N11q
    have sg12 : ∀ t₀, Steps p.tables e below (T11.setTop (mkF m 132 #[.val (.int p1), .val (.long q2), .second, .val (.long q3), .second, .val (.long q4), .second, .val (.long q5), .second, .val (.long q6), .second, .val (.int (p1 &&& (3 : Int32))), .val (.int (((p1.toUInt32 >>> ((2 : Int32) &&& 31).toUInt32).toInt32) &&& (3 : Int32))), .val (.int (0 : Int32)), .val (.ref b4), .val (.ref b6), .val (.long (0 : Int64)), .second, .val (.ref b9)] [(.ref b9)])) t₀ → Steps p.tables e below (T11.setTop (mkF m 128 #[.val (.int p1), .val (.long q2), .second, .val (.long q3), .second, .val (.long q4), .second, .val (.long q5), .second, .val (.long q6), .second, .val (.int (p1 &&& (3 : Int32))), .val (.int (((p1.toUInt32 >>> ((2 : Int32) &&& 31).toUInt32).toInt32) &&& (3 : Int32))), .val (.int (0 : Int32)), .val (.ref b4), .val (.ref b6), .val (.long (0 : Int64)), .second, .unset] [(.ref b9)])) t₀ := by
      intro t₀ kt
      show Steps p.tables e below (T11.setTop (mkF m 128 #[.val (.int p1), .val (.long q2), .second, .val (.long q3), .second, .val (.long q4), .second, .val (.long q5), .second, .val (.long q6), .second, .val (.int (p1 &&& (3 : Int32))), .val (.int (((p1.toUInt32 >>> ((2 : Int32) &&& 31).toUInt32).toInt32) &&& (3 : Int32))), .val (.int (0 : Int32)), .val (.ref b4), .val (.ref b6), .val (.long (0 : Int64)), .second, .unset] [(.ref b9)])) _
      refine XS.astore X11.here hx rfl (hb hby at_128) rfl rfl (l' := #[.val (.int p1), .val (.long q2), .second, .val (.long q3), .second, .val (.long q4), .second, .val (.long q5), .second, .val (.long q6), .second, .val (.int (p1 &&& (3 : Int32))), .val (.int (((p1.toUInt32 >>> ((2 : Int32) &&& 31).toUInt32).toInt32) &&& (3 : Int32))), .val (.int (0 : Int32)), .val (.ref b4), .val (.ref b6), .val (.long (0 : Int64)), .second, .val (.ref b9)]) rfl ?_
      show Steps p.tables e below (T11.setTop (mkF m 130 #[.val (.int p1), .val (.long q2), .second, .val (.long q3), .second, .val (.long q4), .second, .val (.long q5), .second, .val (.long q6), .second, .val (.int (p1 &&& (3 : Int32))), .val (.int (((p1.toUInt32 >>> ((2 : Int32) &&& 31).toUInt32).toInt32) &&& (3 : Int32))), .val (.int (0 : Int32)), .val (.ref b4), .val (.ref b6), .val (.long (0 : Int64)), .second, .val (.ref b9)] [])) _
      refine XS.aload X11.here hx rfl (hb hby at_130) rfl rfl ?_
      exact kt
    obtain ⟨cq13, kq13, q13a, q13b, q13c⟩ := isOf hZ rfl EE
    obtain ⟨_, _, ⟨T13, L13, k13, n13⟩, -, X13, ⟨Lc13, hQ13, l13, y13, z13⟩, st13⟩ := X11.virtualBack hx (y := (⟨"com/example/pulq/pulq/client/TopicStatus", "getMessageCount", "()J"⟩ : MethodName)) (z := (⟨"com/example/pulq/pulq/client/TopicStatus", "getMessageCount", "()J"⟩ : MethodName)) hown (mvT hZ (hw _ (List.mem_of_getElem? (i := 31) rfl))) (mvT hZ (hw _ (List.mem_of_getElem? (i := 32) rfl))) (notFace_of_selects (args := #[]) (mvT hZ (hw _ (List.mem_of_getElem? (i := 34) rfl)))) (mvT hZ (hw _ (List.mem_of_getElem? (i := 34) rfl))) (mvT hZ (hw _ (List.mem_of_getElem? (i := 33) rfl))) (by decide) (backOf (W := 0) (rm4 l Z a0 hw [] b9 u1 u2 0 (fun _ => (0 : Int64)) (fun _ => (0 : Int64)) T11.heap n0 zz (by decide) FM FX AM AX) hZ (hw _ (List.mem_of_getElem? (i := 35) rfl)) (hw _ (List.mem_of_getElem? (i := 7) rfl)) (by decide) (by decide)) q13a q13c (g := (mkF m 132 #[.val (.int p1), .val (.long q2), .second, .val (.long q3), .second, .val (.long q4), .second, .val (.long q5), .second, .val (.long q6), .second, .val (.int (p1 &&& (3 : Int32))), .val (.int (((p1.toUInt32 >>> ((2 : Int32) &&& 31).toUInt32).toInt32) &&& (3 : Int32))), .val (.int (0 : Int32)), .val (.ref b4), .val (.ref b6), .val (.long (0 : Int64)), .second, .val (.ref b9)] [(.ref b9)])) rfl (by rw [hml]; rfl) (Steps.refl _) (argsL := []) (rest := []) (lenOf pd_0 rfl) rfl (by show 2 * 0 + _ ≤ _; exact Nat.le_of_eq rfl) (hb hby at_132) (fun _ _ => ⟨rfl, rfl, (by decide : 5 + 0 ≤ _), (by decide : 10 + 0 ≤ _)⟩)
    dsimp only [Pt.U, Pt.locs, Pt.cells, Pt.slots] at X13 l13 y13 z13 st13 hQ13
    subst l13 y13 z13
    obtain ⟨rfl, N13q, hh13⟩ := hQ13
    have N13 := Fr.app N11 N13q
    have hE : own_s (fun _ => (0 : Int64)) (fun _ => (0 : Int64)) 0 0 0 = (0 : Int64) := by first | rfl | simp [own_s]
    have sg14 : ∀ t₀, Steps p.tables e below (T13.setTop (mkF m 146 #[.val (.int p1), .val (.long q2), .second, .val (.long q3), .second, .val (.long q4), .second, .val (.long q5), .second, .val (.long q6), .second, .val (.int (p1 &&& (3 : Int32))), .val (.int (((p1.toUInt32 >>> ((2 : Int32) &&& 31).toUInt32).toInt32) &&& (3 : Int32))), .val (.int (0 : Int32)), .val (.ref b4), .val (.ref b6), .val (.long (0 : Int64)), .second, .val (.ref b9)] [(.int (1 : Int32))])) t₀ → Steps p.tables e below (T13.setTop (mkF m 135 #[.val (.int p1), .val (.long q2), .second, .val (.long q3), .second, .val (.long q4), .second, .val (.long q5), .second, .val (.long q6), .second, .val (.int (p1 &&& (3 : Int32))), .val (.int (((p1.toUInt32 >>> ((2 : Int32) &&& 31).toUInt32).toInt32) &&& (3 : Int32))), .val (.int (0 : Int32)), .val (.ref b4), .val (.ref b6), .val (.long (0 : Int64)), .second, .val (.ref b9)] [(.long (own_s (fun _ => (0 : Int64)) (fun _ => (0 : Int64)) 0 0 0))])) t₀ := by
      intro t₀ kt
      show Steps p.tables e below (T13.setTop (mkF m 135 #[.val (.int p1), .val (.long q2), .second, .val (.long q3), .second, .val (.long q4), .second, .val (.long q5), .second, .val (.long q6), .second, .val (.int (p1 &&& (3 : Int32))), .val (.int (((p1.toUInt32 >>> ((2 : Int32) &&& 31).toUInt32).toInt32) &&& (3 : Int32))), .val (.int (0 : Int32)), .val (.ref b4), .val (.ref b6), .val (.long (0 : Int64)), .second, .val (.ref b9)] [(.long (own_s (fun _ => (0 : Int64)) (fun _ => (0 : Int64)) 0 0 0))])) _
      refine XS.lload X13.here hx rfl (hb hby at_135) rfl ?_
      show Steps p.tables e below (T13.setTop (mkF m 137 #[.val (.int p1), .val (.long q2), .second, .val (.long q3), .second, .val (.long q4), .second, .val (.long q5), .second, .val (.long q6), .second, .val (.int (p1 &&& (3 : Int32))), .val (.int (((p1.toUInt32 >>> ((2 : Int32) &&& 31).toUInt32).toInt32) &&& (3 : Int32))), .val (.int (0 : Int32)), .val (.ref b4), .val (.ref b6), .val (.long (0 : Int64)), .second, .val (.ref b9)] [(.long (0 : Int64)), (.long (own_s (fun _ => (0 : Int64)) (fun _ => (0 : Int64)) 0 0 0))])) _
      refine XS.lcmp X13.here hx rfl (hb hby at_137) rfl ?_
      show Steps p.tables e below (T13.setTop (mkF m 138 #[.val (.int p1), .val (.long q2), .second, .val (.long q3), .second, .val (.long q4), .second, .val (.long q5), .second, .val (.long q6), .second, .val (.int (p1 &&& (3 : Int32))), .val (.int (((p1.toUInt32 >>> ((2 : Int32) &&& 31).toUInt32).toInt32) &&& (3 : Int32))), .val (.int (0 : Int32)), .val (.ref b4), .val (.ref b6), .val (.long (0 : Int64)), .second, .val (.ref b9)] [(.int (lcmpW (own_s (fun _ => (0 : Int64)) (fun _ => (0 : Int64)) 0 0 0) (0 : Int64)))])) _
      refine XS.ifNo X13.here hx rfl (hb hby at_138) rfl ((if0 _ _).trans (teq ((lw_eq _ _).mpr hE)).2) ?_
      show Steps p.tables e below (T13.setTop (mkF m 141 #[.val (.int p1), .val (.long q2), .second, .val (.long q3), .second, .val (.long q4), .second, .val (.long q5), .second, .val (.long q6), .second, .val (.int (p1 &&& (3 : Int32))), .val (.int (((p1.toUInt32 >>> ((2 : Int32) &&& 31).toUInt32).toInt32) &&& (3 : Int32))), .val (.int (0 : Int32)), .val (.ref b4), .val (.ref b6), .val (.long (0 : Int64)), .second, .val (.ref b9)] [])) _
      refine XS.iconst X13.here hx rfl (hb hby at_141) ?_
      show Steps p.tables e below (T13.setTop (mkF m 142 #[.val (.int p1), .val (.long q2), .second, .val (.long q3), .second, .val (.long q4), .second, .val (.long q5), .second, .val (.long q6), .second, .val (.int (p1 &&& (3 : Int32))), .val (.int (((p1.toUInt32 >>> ((2 : Int32) &&& 31).toUInt32).toInt32) &&& (3 : Int32))), .val (.int (0 : Int32)), .val (.ref b4), .val (.ref b6), .val (.long (0 : Int64)), .second, .val (.ref b9)] [(.int (1 : Int32))])) _
      refine XS.goto X13.here hx rfl (pc0 := 142) (pc' := 146) rfl (hb hby at_142) (by decide) (by decide) ?_
      exact kt
    obtain ⟨fs, hr, hrun, hended, hW, hsame⟩ := X13.leave (v := some (.int (1 : Int32))) (fun h => by rw [Bd.returns] at h; cases h)
    refine ⟨_, _, pre0 _ ?_, hrun, hended, _, _, rfl, ?_, ⟨_, rfl⟩, hW, hsame.mono (by decide) (by decide)⟩
    · exact sg1 _ (st2 _ (sg3 _ (st4 _ (sg5 _ (st6 _ (sg7 _ (sg8 _ (st9 _ (sg10 _ (st11.trans (sg12 _ (st13.trans (sg14 _ ((retN X13 hx (t := .boolean) Bd.returns (by simp) (hb hby at_146) hr)))))))))))))))
    · show Q0 Z p1 q2 q3 q4 q5 q6 h0 n0 _ T13.heap _
      rw [hh13]
      exact ⟨rfl, N13⟩
  · have sg15 : ∀ t₀, Steps p.tables e below (T2.setTop (mkF m 23 #[.val (.int p1), .val (.long q2), .second, .val (.long q3), .second, .val (.long q4), .second, .val (.long q5), .second, .val (.long q6), .second, .val (.int (p1 &&& (3 : Int32))), .val (.int (((p1.toUInt32 >>> ((2 : Int32) &&& 31).toUInt32).toInt32) &&& (3 : Int32))), .val (.int (1 : Int32)), .unset, .unset, .unset, .unset, .unset] [(.int (1 : Int32))])) t₀ → Steps p.tables e below (T2.setTop (mkF m 19 #[.val (.int p1), .val (.long q2), .second, .val (.long q3), .second, .val (.long q4), .second, .val (.long q5), .second, .val (.long q6), .second, .val (.int (p1 &&& (3 : Int32))), .val (.int (((p1.toUInt32 >>> ((2 : Int32) &&& 31).toUInt32).toInt32) &&& (3 : Int32))), .unset, .unset, .unset, .unset, .unset, .unset] [(.int (1 : Int32))])) t₀ := by
      intro t₀ kt
      show Steps p.tables e below (T2.setTop (mkF m 19 #[.val (.int p1), .val (.long q2), .second, .val (.long q3), .second, .val (.long q4), .second, .val (.long q5), .second, .val (.long q6), .second, .val (.int (p1 &&& (3 : Int32))), .val (.int (((p1.toUInt32 >>> ((2 : Int32) &&& 31).toUInt32).toInt32) &&& (3 : Int32))), .unset, .unset, .unset, .unset, .unset, .unset] [(.int (1 : Int32))])) _
      refine XS.istore X2.here hx rfl (hb hby at_19) rfl (l' := #[.val (.int p1), .val (.long q2), .second, .val (.long q3), .second, .val (.long q4), .second, .val (.long q5), .second, .val (.long q6), .second, .val (.int (p1 &&& (3 : Int32))), .val (.int (((p1.toUInt32 >>> ((2 : Int32) &&& 31).toUInt32).toInt32) &&& (3 : Int32))), .val (.int (1 : Int32)), .unset, .unset, .unset, .unset, .unset]) rfl ?_
      show Steps p.tables e below (T2.setTop (mkF m 21 #[.val (.int p1), .val (.long q2), .second, .val (.long q3), .second, .val (.long q4), .second, .val (.long q5), .second, .val (.long q6), .second, .val (.int (p1 &&& (3 : Int32))), .val (.int (((p1.toUInt32 >>> ((2 : Int32) &&& 31).toUInt32).toInt32) &&& (3 : Int32))), .val (.int (1 : Int32)), .unset, .unset, .unset, .unset, .unset] [])) _
      refine XS.iload X2.here hx rfl (hb hby at_21) rfl ?_
      exact kt
    obtain ⟨T16, h16, k16, X16, e16, E16, A16, B16, st16⟩ := newPE X2 hx hZ (hw _ (List.mem_of_getElem? (i := 4) rfl)) hh2 (g := (mkF m 23 #[.val (.int p1), .val (.long q2), .second, .val (.long q3), .second, .val (.long q4), .second, .val (.long q5), .second, .val (.long q6), .second, .val (.int (p1 &&& (3 : Int32))), .val (.int (((p1.toUInt32 >>> ((2 : Int32) &&& 31).toUInt32).toInt32) &&& (3 : Int32))), .val (.int (1 : Int32)), .unset, .unset, .unset, .unset, .unset] [(.int (1 : Int32))])) rfl (hb hby at_23) rfl (by decide) (cap := 1) (by decide) (by decide) (by decide) (by decide) (ad := "[J") (by decide +kernel)
    obtain ⟨b16, g16⟩ : ∃ z, z = h0.size := ⟨_, rfl⟩
    rw [← g16] at A16 st16 B16
    have V16 := Arv.new A16 (by decide)
    have g_b16 : n0 ≤ b16 := Nat.le_trans Z0 (Nat.le_of_eq g16.symm)
    have z16 : n0 ≤ h16.size := Nat.le_trans Z0 E16.1
    have sg17 : ∀ t₀, Steps p.tables e below (T16.setTop (mkF m 29 #[.val (.int p1), .val (.long q2), .second, .val (.long q3), .second, .val (.long q4), .second, .val (.long q5), .second, .val (.long q6), .second, .val (.int (p1 &&& (3 : Int32))), .val (.int (((p1.toUInt32 >>> ((2 : Int32) &&& 31).toUInt32).toInt32) &&& (3 : Int32))), .val (.int (1 : Int32)), .val (.ref b16), .unset, .unset, .unset, .unset] [(.int (1 : Int32))])) t₀ → Steps p.tables e below (T16.setTop (mkF m 25 #[.val (.int p1), .val (.long q2), .second, .val (.long q3), .second, .val (.long q4), .second, .val (.long q5), .second, .val (.long q6), .second, .val (.int (p1 &&& (3 : Int32))), .val (.int (((p1.toUInt32 >>> ((2 : Int32) &&& 31).toUInt32).toInt32) &&& (3 : Int32))), .val (.int (1 : Int32)), .unset, .unset, .unset, .unset, .unset] [(.ref b16)])) t₀ := by
      intro t₀ kt
      show Steps p.tables e below (T16.setTop (mkF m 25 #[.val (.int p1), .val (.long q2), .second, .val (.long q3), .second, .val (.long q4), .second, .val (.long q5), .second, .val (.long q6), .second, .val (.int (p1 &&& (3 : Int32))), .val (.int (((p1.toUInt32 >>> ((2 : Int32) &&& 31).toUInt32).toInt32) &&& (3 : Int32))), .val (.int (1 : Int32)), .unset, .unset, .unset, .unset, .unset] [(.ref b16)])) _
      refine XS.astore X16.here hx rfl (hb hby at_25) rfl rfl (l' := #[.val (.int p1), .val (.long q2), .second, .val (.long q3), .second, .val (.long q4), .second, .val (.long q5), .second, .val (.long q6), .second, .val (.int (p1 &&& (3 : Int32))), .val (.int (((p1.toUInt32 >>> ((2 : Int32) &&& 31).toUInt32).toInt32) &&& (3 : Int32))), .val (.int (1 : Int32)), .val (.ref b16), .unset, .unset, .unset, .unset]) rfl ?_
      show Steps p.tables e below (T16.setTop (mkF m 27 #[.val (.int p1), .val (.long q2), .second, .val (.long q3), .second, .val (.long q4), .second, .val (.long q5), .second, .val (.long q6), .second, .val (.int (p1 &&& (3 : Int32))), .val (.int (((p1.toUInt32 >>> ((2 : Int32) &&& 31).toUInt32).toInt32) &&& (3 : Int32))), .val (.int (1 : Int32)), .val (.ref b16), .unset, .unset, .unset, .unset] [])) _
      refine XS.iload X16.here hx rfl (hb hby at_27) rfl ?_
      exact kt
    obtain ⟨T18, h18, k18, X18, e18, E18, A18, B18, st18⟩ := newPE X16 hx hZ (hw _ (List.mem_of_getElem? (i := 4) rfl)) e16 (g := (mkF m 29 #[.val (.int p1), .val (.long q2), .second, .val (.long q3), .second, .val (.long q4), .second, .val (.long q5), .second, .val (.long q6), .second, .val (.int (p1 &&& (3 : Int32))), .val (.int (((p1.toUInt32 >>> ((2 : Int32) &&& 31).toUInt32).toInt32) &&& (3 : Int32))), .val (.int (1 : Int32)), .val (.ref b16), .unset, .unset, .unset, .unset] [(.int (1 : Int32))])) rfl (hb hby at_29) rfl (by decide) (cap := 1) (by decide) (by decide) (by decide) (by decide) (ad := "[J") (by decide +kernel)
    obtain ⟨b18, g18⟩ : ∃ z, z = h16.size := ⟨_, rfl⟩
    rw [← g18] at A18 st18 B18
    have V18 := Arv.new A18 (by decide)
    have g_b18 : n0 ≤ b18 := Nat.le_trans z16 (Nat.le_of_eq g18.symm)
    have z18 : n0 ≤ h18.size := Nat.le_trans z16 E18.1
    have P1_0 : own_A Z h18 b16 1 .long (fun _ => .long (0 : Int64)) := own_A_ext (own_A_new V16 (by decide)) E18
    have P2_0 : own_A Z h18 b18 1 .long (fun _ => .long (0 : Int64)) := own_A_new V18 (by decide)
    have R1_0 := B16.ext E18
    have R2_0 := B18
    have ne12 : b16 ≠ b18 := Nat.ne_of_lt (by rw [g18]; exact B16.lt)
    have y0 := z18
    have sg19 : ∀ t₀, Steps p.tables e below (T18.setTop (mkF m 36 #[.val (.int p1), .val (.long q2), .second, .val (.long q3), .second, .val (.long q4), .second, .val (.long q5), .second, .val (.long q6), .second, .val (.int (p1 &&& (3 : Int32))), .val (.int (((p1.toUInt32 >>> ((2 : Int32) &&& 31).toUInt32).toInt32) &&& (3 : Int32))), .val (.int (1 : Int32)), .val (.ref b16), .val (.ref b18), .val (.long (0 : Int64)), .second, .unset] [])) t₀ → Steps p.tables e below (T18.setTop (mkF m 31 #[.val (.int p1), .val (.long q2), .second, .val (.long q3), .second, .val (.long q4), .second, .val (.long q5), .second, .val (.long q6), .second, .val (.int (p1 &&& (3 : Int32))), .val (.int (((p1.toUInt32 >>> ((2 : Int32) &&& 31).toUInt32).toInt32) &&& (3 : Int32))), .val (.int (1 : Int32)), .val (.ref b16), .unset, .unset, .unset, .unset] [(.ref b18)])) t₀ := by
      intro t₀ kt
      show Steps p.tables e below (T18.setTop (mkF m 31 #[.val (.int p1), .val (.long q2), .second, .val (.long q3), .second, .val (.long q4), .second, .val (.long q5), .second, .val (.long q6), .second, .val (.int (p1 &&& (3 : Int32))), .val (.int (((p1.toUInt32 >>> ((2 : Int32) &&& 31).toUInt32).toInt32) &&& (3 : Int32))), .val (.int (1 : Int32)), .val (.ref b16), .unset, .unset, .unset, .unset] [(.ref b18)])) _
      refine XS.astore X18.here hx rfl (hb hby at_31) rfl rfl (l' := #[.val (.int p1), .val (.long q2), .second, .val (.long q3), .second, .val (.long q4), .second, .val (.long q5), .second, .val (.long q6), .second, .val (.int (p1 &&& (3 : Int32))), .val (.int (((p1.toUInt32 >>> ((2 : Int32) &&& 31).toUInt32).toInt32) &&& (3 : Int32))), .val (.int (1 : Int32)), .val (.ref b16), .val (.ref b18), .unset, .unset, .unset]) rfl ?_
      show Steps p.tables e below (T18.setTop (mkF m 33 #[.val (.int p1), .val (.long q2), .second, .val (.long q3), .second, .val (.long q4), .second, .val (.long q5), .second, .val (.long q6), .second, .val (.int (p1 &&& (3 : Int32))), .val (.int (((p1.toUInt32 >>> ((2 : Int32) &&& 31).toUInt32).toInt32) &&& (3 : Int32))), .val (.int (1 : Int32)), .val (.ref b16), .val (.ref b18), .unset, .unset, .unset] [])) _
      refine XS.lconst X18.here hx rfl (hb hby at_33) ?_
      show Steps p.tables e below (T18.setTop (mkF m 34 #[.val (.int p1), .val (.long q2), .second, .val (.long q3), .second, .val (.long q4), .second, .val (.long q5), .second, .val (.long q6), .second, .val (.int (p1 &&& (3 : Int32))), .val (.int (((p1.toUInt32 >>> ((2 : Int32) &&& 31).toUInt32).toInt32) &&& (3 : Int32))), .val (.int (1 : Int32)), .val (.ref b16), .val (.ref b18), .unset, .unset, .unset] [(.long (0 : Int64))])) _
      refine XS.lstore X18.here hx rfl (hb hby at_34) rfl (l' := #[.val (.int p1), .val (.long q2), .second, .val (.long q3), .second, .val (.long q4), .second, .val (.long q5), .second, .val (.long q6), .second, .val (.int (p1 &&& (3 : Int32))), .val (.int (((p1.toUInt32 >>> ((2 : Int32) &&& 31).toUInt32).toInt32) &&& (3 : Int32))), .val (.int (1 : Int32)), .val (.ref b16), .val (.ref b18), .val (.long (0 : Int64)), .second, .unset]) rfl ?_
      exact kt
    have sg20 : ∀ t₀, Steps p.tables e below (T18.setTop (mkF m 45 #[.val (.int p1), .val (.long q2), .second, .val (.long q3), .second, .val (.long q4), .second, .val (.long q5), .second, .val (.long q6), .second, .val (.int (p1 &&& (3 : Int32))), .val (.int (((p1.toUInt32 >>> ((2 : Int32) &&& 31).toUInt32).toInt32) &&& (3 : Int32))), .val (.int (1 : Int32)), .val (.ref b16), .val (.ref b18), .val (.long (0 : Int64)), .second, .unset] [(.long q2), (.int (0 : Int32)), (.ref b16)])) t₀ → Steps p.tables e below (T18.setTop (mkF m 36 #[.val (.int p1), .val (.long q2), .second, .val (.long q3), .second, .val (.long q4), .second, .val (.long q5), .second, .val (.long q6), .second, .val (.int (p1 &&& (3 : Int32))), .val (.int (((p1.toUInt32 >>> ((2 : Int32) &&& 31).toUInt32).toInt32) &&& (3 : Int32))), .val (.int (1 : Int32)), .val (.ref b16), .val (.ref b18), .val (.long (0 : Int64)), .second, .unset] [])) t₀ := by
      intro t₀ kt
      show Steps p.tables e below (T18.setTop (mkF m 36 #[.val (.int p1), .val (.long q2), .second, .val (.long q3), .second, .val (.long q4), .second, .val (.long q5), .second, .val (.long q6), .second, .val (.int (p1 &&& (3 : Int32))), .val (.int (((p1.toUInt32 >>> ((2 : Int32) &&& 31).toUInt32).toInt32) &&& (3 : Int32))), .val (.int (1 : Int32)), .val (.ref b16), .val (.ref b18), .val (.long (0 : Int64)), .second, .unset] [])) _
      refine XS.iload X18.here hx rfl (hb hby at_36) rfl ?_
      show Steps p.tables e below (T18.setTop (mkF m 38 #[.val (.int p1), .val (.long q2), .second, .val (.long q3), .second, .val (.long q4), .second, .val (.long q5), .second, .val (.long q6), .second, .val (.int (p1 &&& (3 : Int32))), .val (.int (((p1.toUInt32 >>> ((2 : Int32) &&& 31).toUInt32).toInt32) &&& (3 : Int32))), .val (.int (1 : Int32)), .val (.ref b16), .val (.ref b18), .val (.long (0 : Int64)), .second, .unset] [(.int (1 : Int32))])) _
      refine XS.ifNo X18.here hx rfl (hb hby at_38) rfl ((if0 _ _).trans (tlt (by decide : (0 : Int32) < (1 : Int32))).2.2.2) ?_
      show Steps p.tables e below (T18.setTop (mkF m 41 #[.val (.int p1), .val (.long q2), .second, .val (.long q3), .second, .val (.long q4), .second, .val (.long q5), .second, .val (.long q6), .second, .val (.int (p1 &&& (3 : Int32))), .val (.int (((p1.toUInt32 >>> ((2 : Int32) &&& 31).toUInt32).toInt32) &&& (3 : Int32))), .val (.int (1 : Int32)), .val (.ref b16), .val (.ref b18), .val (.long (0 : Int64)), .second, .unset] [])) _
      refine XS.aload X18.here hx rfl (hb hby at_41) rfl rfl ?_
      show Steps p.tables e below (T18.setTop (mkF m 43 #[.val (.int p1), .val (.long q2), .second, .val (.long q3), .second, .val (.long q4), .second, .val (.long q5), .second, .val (.long q6), .second, .val (.int (p1 &&& (3 : Int32))), .val (.int (((p1.toUInt32 >>> ((2 : Int32) &&& 31).toUInt32).toInt32) &&& (3 : Int32))), .val (.int (1 : Int32)), .val (.ref b16), .val (.ref b18), .val (.long (0 : Int64)), .second, .unset] [(.ref b16)])) _
      refine XS.iconst X18.here hx rfl (hb hby at_43) ?_
      show Steps p.tables e below (T18.setTop (mkF m 44 #[.val (.int p1), .val (.long q2), .second, .val (.long q3), .second, .val (.long q4), .second, .val (.long q5), .second, .val (.long q6), .second, .val (.int (p1 &&& (3 : Int32))), .val (.int (((p1.toUInt32 >>> ((2 : Int32) &&& 31).toUInt32).toInt32) &&& (3 : Int32))), .val (.int (1 : Int32)), .val (.ref b16), .val (.ref b18), .val (.long (0 : Int64)), .second, .unset] [(.int (0 : Int32)), (.ref b16)])) _
      refine XS.lloadN X18.here hx rfl (hb hby at_44) rfl ?_
      exact kt
    obtain ⟨ca0, Aa0, Sa0, Ha0⟩ := id P1_0
    have ia0 : ¬ ((0 : Int32) < 0 ∨ ca0.slots.size ≤ ((0 : Int32)).toNatClampNeg) := own_in (i := 0) Sa0 (by decide) (by decide)
    obtain ⟨T21, h21, X21, e21, W21, st21⟩ := stJ X18 hx hZ e18 Aa0 (j := (0 : Int32)) ia0 (g := (mkF m 45 #[.val (.int p1), .val (.long q2), .second, .val (.long q3), .second, .val (.long q4), .second, .val (.long q5), .second, .val (.long q6), .second, .val (.int (p1 &&& (3 : Int32))), .val (.int (((p1.toUInt32 >>> ((2 : Int32) &&& 31).toUInt32).toInt32) &&& (3 : Int32))), .val (.int (1 : Int32)), .val (.ref b16), .val (.ref b18), .val (.long (0 : Int64)), .second, .unset] [(.long q2), (.int (0 : Int32)), (.ref b16)])) rfl rfl (hb hby at_45)
    have N21 := Fr.snoc X21 N2 g_b16
    have P1_1 : own_A Z h21 b16 1 .long (fun i => .long ((fun i => if i = 0 then q2 else (fun _ => (0 : Int64)) i) i)) := own_setL P1_0 W21 0 (by decide) (by decide)
    have P2_1 := own_A_other P2_0 W21 ne12.symm
    have R1_1 := R1_0.wr W21
    have R2_1 := R2_0.wr W21
    have y1 : n0 ≤ h21.size := Nat.le_trans y0 (Keep.of_wr W21).1
    have sg22 : ∀ t₀, Steps p.tables e below (T21.setTop (mkF m 50 #[.val (.int p1), .val (.long q2), .second, .val (.long q3), .second, .val (.long q4), .second, .val (.long q5), .second, .val (.long q6), .second, .val (.int (p1 &&& (3 : Int32))), .val (.int (((p1.toUInt32 >>> ((2 : Int32) &&& 31).toUInt32).toInt32) &&& (3 : Int32))), .val (.int (1 : Int32)), .val (.ref b16), .val (.ref b18), .val (.long (0 : Int64)), .second, .unset] [(.long q3), (.int (0 : Int32)), (.ref b18)])) t₀ → Steps p.tables e below (T21.setTop (mkF m 46 #[.val (.int p1), .val (.long q2), .second, .val (.long q3), .second, .val (.long q4), .second, .val (.long q5), .second, .val (.long q6), .second, .val (.int (p1 &&& (3 : Int32))), .val (.int (((p1.toUInt32 >>> ((2 : Int32) &&& 31).toUInt32).toInt32) &&& (3 : Int32))), .val (.int (1 : Int32)), .val (.ref b16), .val (.ref b18), .val (.long (0 : Int64)), .second, .unset] [])) t₀ := by
      intro t₀ kt
      show Steps p.tables e below (T21.setTop (mkF m 46 #[.val (.int p1), .val (.long q2), .second, .val (.long q3), .second, .val (.long q4), .second, .val (.long q5), .second, .val (.long q6), .second, .val (.int (p1 &&& (3 : Int32))), .val (.int (((p1.toUInt32 >>> ((2 : Int32) &&& 31).toUInt32).toInt32) &&& (3 : Int32))), .val (.int (1 : Int32)), .val (.ref b16), .val (.ref b18), .val (.long (0 : Int64)), .second, .unset] [])) _
      refine XS.aload X21.here hx rfl (hb hby at_46) rfl rfl ?_
      show Steps p.tables e below (T21.setTop (mkF m 48 #[.val (.int p1), .val (.long q2), .second, .val (.long q3), .second, .val (.long q4), .second, .val (.long q5), .second, .val (.long q6), .second, .val (.int (p1 &&& (3 : Int32))), .val (.int (((p1.toUInt32 >>> ((2 : Int32) &&& 31).toUInt32).toInt32) &&& (3 : Int32))), .val (.int (1 : Int32)), .val (.ref b16), .val (.ref b18), .val (.long (0 : Int64)), .second, .unset] [(.ref b18)])) _
      refine XS.iconst X21.here hx rfl (hb hby at_48) ?_
      show Steps p.tables e below (T21.setTop (mkF m 49 #[.val (.int p1), .val (.long q2), .second, .val (.long q3), .second, .val (.long q4), .second, .val (.long q5), .second, .val (.long q6), .second, .val (.int (p1 &&& (3 : Int32))), .val (.int (((p1.toUInt32 >>> ((2 : Int32) &&& 31).toUInt32).toInt32) &&& (3 : Int32))), .val (.int (1 : Int32)), .val (.ref b16), .val (.ref b18), .val (.long (0 : Int64)), .second, .unset] [(.int (0 : Int32)), (.ref b18)])) _
      refine XS.lloadN X21.here hx rfl (hb hby at_49) rfl ?_
      exact kt
    obtain ⟨cb0, Ab0, Sb0, Hb0⟩ := id P2_1
    have ib0 : ¬ ((0 : Int32) < 0 ∨ cb0.slots.size ≤ ((0 : Int32)).toNatClampNeg) := own_in (i := 0) Sb0 (by decide) (by decide)
    obtain ⟨T23, h23, X23, e23, W23, st23⟩ := stJ X21 hx hZ e21 Ab0 (j := (0 : Int32)) ib0 (g := (mkF m 50 #[.val (.int p1), .val (.long q2), .second, .val (.long q3), .second, .val (.long q4), .second, .val (.long q5), .second, .val (.long q6), .second, .val (.int (p1 &&& (3 : Int32))), .val (.int (((p1.toUInt32 >>> ((2 : Int32) &&& 31).toUInt32).toInt32) &&& (3 : Int32))), .val (.int (1 : Int32)), .val (.ref b16), .val (.ref b18), .val (.long (0 : Int64)), .second, .unset] [(.long q3), (.int (0 : Int32)), (.ref b18)])) rfl rfl (hb hby at_50)
    have N23 := Fr.snoc X23 N21 g_b18
    have P2_2 : own_A Z h23 b18 1 .long (fun i => .long ((fun i => if i = 0 then q3 else (fun _ => (0 : Int64)) i) i)) := own_setL P2_1 W23 0 (by decide) (by decide)
    have P1_2 := own_A_other P1_1 W23 ne12
    have R1_2 := R1_1.wr W23
    have R2_2 := R2_1.wr W23
    have y2 : n0 ≤ h23.size := Nat.le_trans y1 (Keep.of_wr W23).1
    have sg24 : ∀ t₀, Steps p.tables e below (T23.setTop (mkF m 113 #[.val (.int p1), .val (.long q2), .second, .val (.long q3), .second, .val (.long q4), .second, .val (.long q5), .second, .val (.long q6), .second, .val (.int (p1 &&& (3 : Int32))), .val (.int (((p1.toUInt32 >>> ((2 : Int32) &&& 31).toUInt32).toInt32) &&& (3 : Int32))), .val (.int (1 : Int32)), .val (.ref b16), .val (.ref b18), .val (.long ((0 : Int64) + (q3 - q2))), .second, .unset] [])) t₀ → Steps p.tables e below (T23.setTop (mkF m 51 #[.val (.int p1), .val (.long q2), .second, .val (.long q3), .second, .val (.long q4), .second, .val (.long q5), .second, .val (.long q6), .second, .val (.int (p1 &&& (3 : Int32))), .val (.int (((p1.toUInt32 >>> ((2 : Int32) &&& 31).toUInt32).toInt32) &&& (3 : Int32))), .val (.int (1 : Int32)), .val (.ref b16), .val (.ref b18), .val (.long (0 : Int64)), .second, .unset] [])) t₀ := by
      intro t₀ kt
      show Steps p.tables e below (T23.setTop (mkF m 51 #[.val (.int p1), .val (.long q2), .second, .val (.long q3), .second, .val (.long q4), .second, .val (.long q5), .second, .val (.long q6), .second, .val (.int (p1 &&& (3 : Int32))), .val (.int (((p1.toUInt32 >>> ((2 : Int32) &&& 31).toUInt32).toInt32) &&& (3 : Int32))), .val (.int (1 : Int32)), .val (.ref b16), .val (.ref b18), .val (.long (0 : Int64)), .second, .unset] [])) _
      refine XS.lload X23.here hx rfl (hb hby at_51) rfl ?_
      show Steps p.tables e below (T23.setTop (mkF m 53 #[.val (.int p1), .val (.long q2), .second, .val (.long q3), .second, .val (.long q4), .second, .val (.long q5), .second, .val (.long q6), .second, .val (.int (p1 &&& (3 : Int32))), .val (.int (((p1.toUInt32 >>> ((2 : Int32) &&& 31).toUInt32).toInt32) &&& (3 : Int32))), .val (.int (1 : Int32)), .val (.ref b16), .val (.ref b18), .val (.long (0 : Int64)), .second, .unset] [(.long (0 : Int64))])) _
      refine XS.lloadN X23.here hx rfl (hb hby at_53) rfl ?_
      show Steps p.tables e below (T23.setTop (mkF m 54 #[.val (.int p1), .val (.long q2), .second, .val (.long q3), .second, .val (.long q4), .second, .val (.long q5), .second, .val (.long q6), .second, .val (.int (p1 &&& (3 : Int32))), .val (.int (((p1.toUInt32 >>> ((2 : Int32) &&& 31).toUInt32).toInt32) &&& (3 : Int32))), .val (.int (1 : Int32)), .val (.ref b16), .val (.ref b18), .val (.long (0 : Int64)), .second, .unset] [(.long q3), (.long (0 : Int64))])) _
      refine XS.lloadN X23.here hx rfl (hb hby at_54) rfl ?_
      show Steps p.tables e below (T23.setTop (mkF m 55 #[.val (.int p1), .val (.long q2), .second, .val (.long q3), .second, .val (.long q4), .second, .val (.long q5), .second, .val (.long q6), .second, .val (.int (p1 &&& (3 : Int32))), .val (.int (((p1.toUInt32 >>> ((2 : Int32) &&& 31).toUInt32).toInt32) &&& (3 : Int32))), .val (.int (1 : Int32)), .val (.ref b16), .val (.ref b18), .val (.long (0 : Int64)), .second, .unset] [(.long q2), (.long q3), (.long (0 : Int64))])) _
      refine XS.lsub X23.here hx rfl (hb hby at_55) rfl ?_
      show Steps p.tables e below (T23.setTop (mkF m 56 #[.val (.int p1), .val (.long q2), .second, .val (.long q3), .second, .val (.long q4), .second, .val (.long q5), .second, .val (.long q6), .second, .val (.int (p1 &&& (3 : Int32))), .val (.int (((p1.toUInt32 >>> ((2 : Int32) &&& 31).toUInt32).toInt32) &&& (3 : Int32))), .val (.int (1 : Int32)), .val (.ref b16), .val (.ref b18), .val (.long (0 : Int64)), .second, .unset] [(.long (q3 - q2)), (.long (0 : Int64))])) _
      refine XS.ladd X23.here hx rfl (hb hby at_56) rfl ?_
      show Steps p.tables e below (T23.setTop (mkF m 57 #[.val (.int p1), .val (.long q2), .second, .val (.long q3), .second, .val (.long q4), .second, .val (.long q5), .second, .val (.long q6), .second, .val (.int (p1 &&& (3 : Int32))), .val (.int (((p1.toUInt32 >>> ((2 : Int32) &&& 31).toUInt32).toInt32) &&& (3 : Int32))), .val (.int (1 : Int32)), .val (.ref b16), .val (.ref b18), .val (.long (0 : Int64)), .second, .unset] [(.long ((0 : Int64) + (q3 - q2)))])) _
      refine XS.lstore X23.here hx rfl (hb hby at_57) rfl (l' := #[.val (.int p1), .val (.long q2), .second, .val (.long q3), .second, .val (.long q4), .second, .val (.long q5), .second, .val (.long q6), .second, .val (.int (p1 &&& (3 : Int32))), .val (.int (((p1.toUInt32 >>> ((2 : Int32) &&& 31).toUInt32).toInt32) &&& (3 : Int32))), .val (.int (1 : Int32)), .val (.ref b16), .val (.ref b18), .val (.long ((0 : Int64) + (q3 - q2))), .second, .unset]) rfl ?_
      show Steps p.tables e below (T23.setTop (mkF m 59 #[.val (.int p1), .val (.long q2), .second, .val (.long q3), .second, .val (.long q4), .second, .val (.long q5), .second, .val (.long q6), .second, .val (.int (p1 &&& (3 : Int32))), .val (.int (((p1.toUInt32 >>> ((2 : Int32) &&& 31).toUInt32).toInt32) &&& (3 : Int32))), .val (.int (1 : Int32)), .val (.ref b16), .val (.ref b18), .val (.long ((0 : Int64) + (q3 - q2))), .second, .unset] [])) _
      refine XS.iload X23.here hx rfl (hb hby at_59) rfl ?_
      show Steps p.tables e below (T23.setTop (mkF m 61 #[.val (.int p1), .val (.long q2), .second, .val (.long q3), .second, .val (.long q4), .second, .val (.long q5), .second, .val (.long q6), .second, .val (.int (p1 &&& (3 : Int32))), .val (.int (((p1.toUInt32 >>> ((2 : Int32) &&& 31).toUInt32).toInt32) &&& (3 : Int32))), .val (.int (1 : Int32)), .val (.ref b16), .val (.ref b18), .val (.long ((0 : Int64) + (q3 - q2))), .second, .unset] [(.int (1 : Int32))])) _
      refine XS.iconst X23.here hx rfl (hb hby at_61) ?_
      show Steps p.tables e below (T23.setTop (mkF m 62 #[.val (.int p1), .val (.long q2), .second, .val (.long q3), .second, .val (.long q4), .second, .val (.long q5), .second, .val (.long q6), .second, .val (.int (p1 &&& (3 : Int32))), .val (.int (((p1.toUInt32 >>> ((2 : Int32) &&& 31).toUInt32).toInt32) &&& (3 : Int32))), .val (.int (1 : Int32)), .val (.ref b16), .val (.ref b18), .val (.long ((0 : Int64) + (q3 - q2))), .second, .unset] [(.int (1 : Int32)), (.int (1 : Int32))])) _
      refine XS.icmpYes X23.here hx rfl (pc0 := 62) (pc' := 87) rfl (hb hby at_62) rfl (flt (by decide : ¬ ((1 : Int32) < (1 : Int32)))).2.2.2 (by decide) (by decide) ?_
      show Steps p.tables e below (T23.setTop (mkF m 87 #[.val (.int p1), .val (.long q2), .second, .val (.long q3), .second, .val (.long q4), .second, .val (.long q5), .second, .val (.long q6), .second, .val (.int (p1 &&& (3 : Int32))), .val (.int (((p1.toUInt32 >>> ((2 : Int32) &&& 31).toUInt32).toInt32) &&& (3 : Int32))), .val (.int (1 : Int32)), .val (.ref b16), .val (.ref b18), .val (.long ((0 : Int64) + (q3 - q2))), .second, .unset] [])) _
      refine XS.iload X23.here hx rfl (hb hby at_87) rfl ?_
      show Steps p.tables e below (T23.setTop (mkF m 89 #[.val (.int p1), .val (.long q2), .second, .val (.long q3), .second, .val (.long q4), .second, .val (.long q5), .second, .val (.long q6), .second, .val (.int (p1 &&& (3 : Int32))), .val (.int (((p1.toUInt32 >>> ((2 : Int32) &&& 31).toUInt32).toInt32) &&& (3 : Int32))), .val (.int (1 : Int32)), .val (.ref b16), .val (.ref b18), .val (.long ((0 : Int64) + (q3 - q2))), .second, .unset] [(.int (1 : Int32))])) _
      refine XS.iconst X23.here hx rfl (hb hby at_89) ?_
      show Steps p.tables e below (T23.setTop (mkF m 90 #[.val (.int p1), .val (.long q2), .second, .val (.long q3), .second, .val (.long q4), .second, .val (.long q5), .second, .val (.long q6), .second, .val (.int (p1 &&& (3 : Int32))), .val (.int (((p1.toUInt32 >>> ((2 : Int32) &&& 31).toUInt32).toInt32) &&& (3 : Int32))), .val (.int (1 : Int32)), .val (.ref b16), .val (.ref b18), .val (.long ((0 : Int64) + (q3 - q2))), .second, .unset] [(.int (2 : Int32)), (.int (1 : Int32))])) _
      refine XS.icmpYes X23.here hx rfl (pc0 := 90) (pc' := 113) rfl (hb hby at_90) rfl (flt (by decide : ¬ ((2 : Int32) < (1 : Int32)))).2.2.2 (by decide) (by decide) ?_
      exact kt
    obtain ⟨T25, h25, X25, e25, E25, A25, D25, -, st25⟩ := newO X23 hx hZ hown (hw _ (List.mem_of_getElem? (i := 5) rfl)) (hw _ (List.mem_of_getElem? (i := 6) rfl)) (hw _ (List.mem_of_getElem? (i := 7) rfl)) e23 (g := (mkF m 113 #[.val (.int p1), .val (.long q2), .second, .val (.long q3), .second, .val (.long q4), .second, .val (.long q5), .second, .val (.long q6), .second, .val (.int (p1 &&& (3 : Int32))), .val (.int (((p1.toUInt32 >>> ((2 : Int32) &&& 31).toUInt32).toInt32) &&& (3 : Int32))), .val (.int (1 : Int32)), .val (.ref b16), .val (.ref b18), .val (.long ((0 : Int64) + (q3 - q2))), .second, .unset] [])) rfl (hb hby at_113) (by decide) (by decide)
    obtain ⟨b25, g25⟩ : ∃ z, z = h23.size := ⟨_, rfl⟩
    rw [← g25] at A25 D25 st25
    have F_writeQueues_b25 : Fld Z h25 b25 "com/example/pulq/pulq/client/TopicStatus" "writeQueues" "I" (.int (0 : Int32)) := D25 (Or.inr (hw _ (List.mem_of_getElem? (i := 15) rfl))) (ty := .int) (by decide)
    have F_readQueues_b25 : Fld Z h25 b25 "com/example/pulq/pulq/client/TopicStatus" "readQueues" "I" (.int (0 : Int32)) := D25 (Or.inr (hw _ (List.mem_of_getElem? (i := 17) rfl))) (ty := .int) (by decide)
    have F_minOffsets_b25 : Fld Z h25 b25 "com/example/pulq/pulq/client/TopicStatus" "minOffsets" "[J" .null := D25 (Or.inr (hw _ (List.mem_of_getElem? (i := 28) rfl))) (ty := (.array .long)) (by decide)
    have F_maxOffsets_b25 : Fld Z h25 b25 "com/example/pulq/pulq/client/TopicStatus" "maxOffsets" "[J" .null := D25 (Or.inr (hw _ (List.mem_of_getElem? (i := 30) rfl))) (ty := (.array .long)) (by decide)
    have g_b25 : n0 ≤ b25 := Nat.le_trans y2 (Nat.le_of_eq g25.symm)
    have z25 : n0 ≤ h25.size := Nat.le_trans y2 E25.1
    have sg26 : ∀ t₀, Steps p.tables e below (T25.setTop (mkF m 125 #[.val (.int p1), .val (.long q2), .second, .val (.long q3), .second, .val (.long q4), .second, .val (.long q5), .second, .val (.long q6), .second, .val (.int (p1 &&& (3 : Int32))), .val (.int (((p1.toUInt32 >>> ((2 : Int32) &&& 31).toUInt32).toInt32) &&& (3 : Int32))), .val (.int (1 : Int32)), .val (.ref b16), .val (.ref b18), .val (.long ((0 : Int64) + (q3 - q2))), .second, .unset] [(.ref b18), (.ref b16), (.int (((p1.toUInt32 >>> ((2 : Int32) &&& 31).toUInt32).toInt32) &&& (3 : Int32))), (.int (p1 &&& (3 : Int32))), (.ref b25), (.ref b25)])) t₀ → Steps p.tables e below (T25.setTop (mkF m 116 #[.val (.int p1), .val (.long q2), .second, .val (.long q3), .second, .val (.long q4), .second, .val (.long q5), .second, .val (.long q6), .second, .val (.int (p1 &&& (3 : Int32))), .val (.int (((p1.toUInt32 >>> ((2 : Int32) &&& 31).toUInt32).toInt32) &&& (3 : Int32))), .val (.int (1 : Int32)), .val (.ref b16), .val (.ref b18), .val (.long ((0 : Int64) + (q3 - q2))), .second, .unset] [(.ref b25)])) t₀ := by
      intro t₀ kt
      show Steps p.tables e below (T25.setTop (mkF m 116 #[.val (.int p1), .val (.long q2), .second, .val (.long q3), .second, .val (.long q4), .second, .val (.long q5), .second, .val (.long q6), .second, .val (.int (p1 &&& (3 : Int32))), .val (.int (((p1.toUInt32 >>> ((2 : Int32) &&& 31).toUInt32).toInt32) &&& (3 : Int32))), .val (.int (1 : Int32)), .val (.ref b16), .val (.ref b18), .val (.long ((0 : Int64) + (q3 - q2))), .second, .unset] [(.ref b25)])) _
      refine XS.dup X25.here hx rfl (hb hby at_116) rfl rfl ?_
      show Steps p.tables e below (T25.setTop (mkF m 117 #[.val (.int p1), .val (.long q2), .second, .val (.long q3), .second, .val (.long q4), .second, .val (.long q5), .second, .val (.long q6), .second, .val (.int (p1 &&& (3 : Int32))), .val (.int (((p1.toUInt32 >>> ((2 : Int32) &&& 31).toUInt32).toInt32) &&& (3 : Int32))), .val (.int (1 : Int32)), .val (.ref b16), .val (.ref b18), .val (.long ((0 : Int64) + (q3 - q2))), .second, .unset] [(.ref b25), (.ref b25)])) _
      refine XS.iload X25.here hx rfl (hb hby at_117) rfl ?_
      show Steps p.tables e below (T25.setTop (mkF m 119 #[.val (.int p1), .val (.long q2), .second, .val (.long q3), .second, .val (.long q4), .second, .val (.long q5), .second, .val (.long q6), .second, .val (.int (p1 &&& (3 : Int32))), .val (.int (((p1.toUInt32 >>> ((2 : Int32) &&& 31).toUInt32).toInt32) &&& (3 : Int32))), .val (.int (1 : Int32)), .val (.ref b16), .val (.ref b18), .val (.long ((0 : Int64) + (q3 - q2))), .second, .unset] [(.int (p1 &&& (3 : Int32))), (.ref b25), (.ref b25)])) _
      refine XS.iload X25.here hx rfl (hb hby at_119) rfl ?_
      show Steps p.tables e below (T25.setTop (mkF m 121 #[.val (.int p1), .val (.long q2), .second, .val (.long q3), .second, .val (.long q4), .second, .val (.long q5), .second, .val (.long q6), .second, .val (.int (p1 &&& (3 : Int32))), .val (.int (((p1.toUInt32 >>> ((2 : Int32) &&& 31).toUInt32).toInt32) &&& (3 : Int32))), .val (.int (1 : Int32)), .val (.ref b16), .val (.ref b18), .val (.long ((0 : Int64) + (q3 - q2))), .second, .unset] [(.int (((p1.toUInt32 >>> ((2 : Int32) &&& 31).toUInt32).toInt32) &&& (3 : Int32))), (.int (p1 &&& (3 : Int32))), (.ref b25), (.ref b25)])) _
      refine XS.aload X25.here hx rfl (hb hby at_121) rfl rfl ?_
      show Steps p.tables e below (T25.setTop (mkF m 123 #[.val (.int p1), .val (.long q2), .second, .val (.long q3), .second, .val (.long q4), .second, .val (.long q5), .second, .val (.long q6), .second, .val (.int (p1 &&& (3 : Int32))), .val (.int (((p1.toUInt32 >>> ((2 : Int32) &&& 31).toUInt32).toInt32) &&& (3 : Int32))), .val (.int (1 : Int32)), .val (.ref b16), .val (.ref b18), .val (.long ((0 : Int64) + (q3 - q2))), .second, .unset] [(.ref b16), (.int (((p1.toUInt32 >>> ((2 : Int32) &&& 31).toUInt32).toInt32) &&& (3 : Int32))), (.int (p1 &&& (3 : Int32))), (.ref b25), (.ref b25)])) _
      refine XS.aload X25.here hx rfl (hb hby at_123) rfl rfl ?_
      exact kt
    have ne1 : b16 ≠ b25 := Nat.ne_of_lt (by rw [g25]; exact R1_2.lt)
    have ne2 : b18 ≠ b25 := Nat.ne_of_lt (by rw [g25]; exact R2_2.lt)
    obtain ⟨_, _, ⟨T27, L27, k27, n27⟩, -, X27, ⟨Lc27, hQ27, l27, y27, z27⟩, st27⟩ := X25.specialBack hx (y := (⟨"com/example/pulq/pulq/client/TopicStatus", "<init>", "(II[J[J)V"⟩ : MethodName)) rfl hown (mvT hZ (hw _ (List.mem_of_getElem? (i := 8) rfl))) (mvT hZ (hw _ (List.mem_of_getElem? (i := 9) rfl))) (mvT hZ (hw _ (List.mem_of_getElem? (i := 10) rfl))) (by decide) (backOf (W := 1) (rm2 l Z a0 hw [] b25 (p1 &&& (3 : Int32)) (((p1.toUInt32 >>> ((2 : Int32) &&& 31).toUInt32).toInt32) &&& (3 : Int32)) b16 b18 1 (fun i => if i = 0 then q2 else (fun _ => (0 : Int64)) i) (fun i => if i = 0 then q3 else (fun _ => (0 : Int64)) i) h25 n0 z25 (by decide) A25 g_b25 ne1 ne2 F_writeQueues_b25 F_readQueues_b25 F_minOffsets_b25 F_maxOffsets_b25 (own_A_ext P1_2 E25) (own_A_ext P2_2 E25) (R1_2.ext E25) (R2_2.ext E25)) hZ (hw _ (List.mem_of_getElem? (i := 10) rfl)) (hw _ (List.mem_of_getElem? (i := 7) rfl)) (by decide) (by decide)) (g := (mkF m 125 #[.val (.int p1), .val (.long q2), .second, .val (.long q3), .second, .val (.long q4), .second, .val (.long q5), .second, .val (.long q6), .second, .val (.int (p1 &&& (3 : Int32))), .val (.int (((p1.toUInt32 >>> ((2 : Int32) &&& 31).toUInt32).toInt32) &&& (3 : Int32))), .val (.int (1 : Int32)), .val (.ref b16), .val (.ref b18), .val (.long ((0 : Int64) + (q3 - q2))), .second, .unset] [(.ref b18), (.ref b16), (.int (((p1.toUInt32 >>> ((2 : Int32) &&& 31).toUInt32).toInt32) &&& (3 : Int32))), (.int (p1 &&& (3 : Int32))), (.ref b25), (.ref b25)])) rfl (by rw [hml]; rfl) (Steps.refl _) (a := b25) (argsL := [(.int (p1 &&& (3 : Int32))), (.int (((p1.toUInt32 >>> ((2 : Int32) &&& 31).toUInt32).toInt32) &&& (3 : Int32))), (.ref b16), (.ref b18)]) (rest := [(.ref b25)]) (lenOf pd_3 rfl) rfl (by show 2 * 0 + _ ≤ _; exact Nat.le_of_eq rfl) (hb hby at_125) (fun _ _ => ⟨rfl, e25, (by decide : 3 + 2 ≤ _), (by decide : 6 + 6 ≤ _)⟩)
    dsimp only [Pt.U, Pt.locs, Pt.cells, Pt.slots] at X27 l27 y27 z27 st27 hQ27
    subst l27 y27 z27
    obtain ⟨rfl, N27q, zz, EE, u1, u2, FM, FX, AM, AX⟩ := hQ27
    have N27 := Fr.app N23 N27q
    have sg28 : ∀ t₀, Steps p.tables e below (T27.setTop (mkF m 132 #[.val (.int p1), .val (.long q2), .second, .val (.long q3), .second, .val (.long q4), .second, .val (.long q5), .second, .val (.long q6), .second, .val (.int (p1 &&& (3 : Int32))), .val (.int (((p1.toUInt32 >>> ((2 : Int32) &&& 31).toUInt32).toInt32) &&& (3 : Int32))), .val (.int (1 : Int32)), .val (.ref b16), .val (.ref b18), .val (.long ((0 : Int64) + (q3 - q2))), .second, .val (.ref b25)] [(.ref b25)])) t₀ → Steps p.tables e below (T27.setTop (mkF m 128 #[.val (.int p1), .val (.long q2), .second, .val (.long q3), .second, .val (.long q4), .second, .val (.long q5), .second, .val (.long q6), .second, .val (.int (p1 &&& (3 : Int32))), .val (.int (((p1.toUInt32 >>> ((2 : Int32) &&& 31).toUInt32).toInt32) &&& (3 : Int32))), .val (.int (1 : Int32)), .val (.ref b16), .val (.ref b18), .val (.long ((0 : Int64) + (q3 - q2))), .second, .unset] [(.ref b25)])) t₀ := by
      intro t₀ kt
      show Steps p.tables e below (T27.setTop (mkF m 128 #[.val (.int p1), .val (.long q2), .second, .val (.long q3), .second, .val (.long q4), .second, .val (.long q5), .second, .val (.long q6), .second, .val (.int (p1 &&& (3 : Int32))), .val (.int (((p1.toUInt32 >>> ((2 : Int32) &&& 31).toUInt32).toInt32) &&& (3 : Int32))), .val (.int (1 : Int32)), .val (.ref b16), .val (.ref b18), .val (.long ((0 : Int64) + (q3 - q2))), .second, .unset] [(.ref b25)])) _
      refine XS.astore X27.here hx rfl (hb hby at_128) rfl rfl (l' := #[.val (.int p1), .val (.long q2), .second, .val (.long q3), .second, .val (.long q4), .second, .val (.long q5), .second, .val (.long q6), .second, .val (.int (p1 &&& (3 : Int32))), .val (.int (((p1.toUInt32 >>> ((2 : Int32) &&& 31).toUInt32).toInt32) &&& (3 : Int32))), .val (.int (1 : Int32)), .val (.ref b16), .val (.ref b18), .val (.long ((0 : Int64) + (q3 - q2))), .second, .val (.ref b25)]) rfl ?_
      show Steps p.tables e below (T27.setTop (mkF m 130 #[.val (.int p1), .val (.long q2), .second, .val (.long q3), .second, .val (.long q4), .second, .val (.long q5), .second, .val (.long q6), .second, .val (.int (p1 &&& (3 : Int32))), .val (.int (((p1.toUInt32 >>> ((2 : Int32) &&& 31).toUInt32).toInt32) &&& (3 : Int32))), .val (.int (1 : Int32)), .val (.ref b16), .val (.ref b18), .val (.long ((0 : Int64) + (q3 - q2))), .second, .val (.ref b25)] [])) _
      refine XS.aload X27.here hx rfl (hb hby at_130) rfl rfl ?_
      exact kt
    obtain ⟨cq29, kq29, q29a, q29b, q29c⟩ := isOf hZ rfl EE
    obtain ⟨_, _, ⟨T29, L29, k29, n29⟩, -, X29, ⟨Lc29, hQ29, l29, y29, z29⟩, st29⟩ := X27.virtualBack hx (y := (⟨"com/example/pulq/pulq/client/TopicStatus", "getMessageCount", "()J"⟩ : MethodName)) (z := (⟨"com/example/pulq/pulq/client/TopicStatus", "getMessageCount", "()J"⟩ : MethodName)) hown (mvT hZ (hw _ (List.mem_of_getElem? (i := 31) rfl))) (mvT hZ (hw _ (List.mem_of_getElem? (i := 32) rfl))) (notFace_of_selects (args := #[]) (mvT hZ (hw _ (List.mem_of_getElem? (i := 34) rfl)))) (mvT hZ (hw _ (List.mem_of_getElem? (i := 34) rfl))) (mvT hZ (hw _ (List.mem_of_getElem? (i := 33) rfl))) (by decide) (backOf (W := 0) (rm4 l Z a0 hw [] b25 u1 u2 1 (fun i => if i = 0 then q2 else (fun _ => (0 : Int64)) i) (fun i => if i = 0 then q3 else (fun _ => (0 : Int64)) i) T27.heap n0 zz (by decide) FM FX AM AX) hZ (hw _ (List.mem_of_getElem? (i := 35) rfl)) (hw _ (List.mem_of_getElem? (i := 7) rfl)) (by decide) (by decide)) q29a q29c (g := (mkF m 132 #[.val (.int p1), .val (.long q2), .second, .val (.long q3), .second, .val (.long q4), .second, .val (.long q5), .second, .val (.long q6), .second, .val (.int (p1 &&& (3 : Int32))), .val (.int (((p1.toUInt32 >>> ((2 : Int32) &&& 31).toUInt32).toInt32) &&& (3 : Int32))), .val (.int (1 : Int32)), .val (.ref b16), .val (.ref b18), .val (.long ((0 : Int64) + (q3 - q2))), .second, .val (.ref b25)] [(.ref b25)])) rfl (by rw [hml]; rfl) (Steps.refl _) (argsL := []) (rest := []) (lenOf pd_0 rfl) rfl (by show 2 * 0 + _ ≤ _; exact Nat.le_of_eq rfl) (hb hby at_132) (fun _ _ => ⟨rfl, rfl, (by decide : 5 + 0 ≤ _), (by decide : 12 + 0 ≤ _)⟩)
    dsimp only [Pt.U, Pt.locs, Pt.cells, Pt.slots] at X29 l29 y29 z29 st29 hQ29
    subst l29 y29 z29
    obtain ⟨rfl, N29q, hh29⟩ := hQ29
    have N29 := Fr.app N27 N29q
    have hE : own_s (fun i => if i = 0 then q2 else (fun _ => (0 : Int64)) i) (fun i => if i = 0 then q3 else (fun _ => (0 : Int64)) i) 1 0 0 = ((0 : Int64) + (q3 - q2)) := by first | rfl | simp [own_s]
    have sg30 : ∀ t₀, Steps p.tables e below (T29.setTop (mkF m 146 #[.val (.int p1), .val (.long q2), .second, .val (.long q3), .second, .val (.long q4), .second, .val (.long q5), .second, .val (.long q6), .second, .val (.int (p1 &&& (3 : Int32))), .val (.int (((p1.toUInt32 >>> ((2 : Int32) &&& 31).toUInt32).toInt32) &&& (3 : Int32))), .val (.int (1 : Int32)), .val (.ref b16), .val (.ref b18), .val (.long ((0 : Int64) + (q3 - q2))), .second, .val (.ref b25)] [(.int (1 : Int32))])) t₀ → Steps p.tables e below (T29.setTop (mkF m 135 #[.val (.int p1), .val (.long q2), .second, .val (.long q3), .second, .val (.long q4), .second, .val (.long q5), .second, .val (.long q6), .second, .val (.int (p1 &&& (3 : Int32))), .val (.int (((p1.toUInt32 >>> ((2 : Int32) &&& 31).toUInt32).toInt32) &&& (3 : Int32))), .val (.int (1 : Int32)), .val (.ref b16), .val (.ref b18), .val (.long ((0 : Int64) + (q3 - q2))), .second, .val (.ref b25)] [(.long (own_s (fun i => if i = 0 then q2 else (fun _ => (0 : Int64)) i) (fun i => if i = 0 then q3 else (fun _ => (0 : Int64)) i) 1 0 0))])) t₀ := by
      intro t₀ kt
      show Steps p.tables e below (T29.setTop (mkF m 135 #[.val (.int p1), .val (.long q2), .second, .val (.long q3), .second, .val (.long q4), .second, .val (.long q5), .second, .val (.long q6), .second, .val (.int (p1 &&& (3 : Int32))), .val (.int (((p1.toUInt32 >>> ((2 : Int32) &&& 31).toUInt32).toInt32) &&& (3 : Int32))), .val (.int (1 : Int32)), .val (.ref b16), .val (.ref b18), .val (.long ((0 : Int64) + (q3 - q2))), .second, .val (.ref b25)] [(.long (own_s (fun i => if i = 0 then q2 else (fun _ => (0 : Int64)) i) (fun i => if i = 0 then q3 else (fun _ => (0 : Int64)) i) 1 0 0))])) _
      refine XS.lload X29.here hx rfl (hb hby at_135) rfl ?_
      show Steps p.tables e below (T29.setTop (mkF m 137 #[.val (.int p1), .val (.long q2), .second, .val (.long q3), .second, .val (.long q4), .second, .val (.long q5), .second, .val (.long q6), .second, .val (.int (p1 &&& (3 : Int32))), .val (.int (((p1.toUInt32 >>> ((2 : Int32) &&& 31).toUInt32).toInt32) &&& (3 : Int32))), .val (.int (1 : Int32)), .val (.ref b16), .val (.ref b18), .val (.long ((0 : Int64) + (q3 - q2))), .second, .val (.ref b25)] [(.long ((0 : Int64) + (q3 - q2))), (.long (own_s (fun i => if i = 0 then q2 else (fun _ => (0 : Int64)) i) (fun i => if i = 0 then q3 else (fun _ => (0 : Int64)) i) 1 0 0))])) _
      refine XS.lcmp X29.here hx rfl (hb hby at_137) rfl ?_
      show Steps p.tables e below (T29.setTop (mkF m 138 #[.val (.int p1), .val (.long q2), .second, .val (.long q3), .second, .val (.long q4), .second, .val (.long q5), .second, .val (.long q6), .second, .val (.int (p1 &&& (3 : Int32))), .val (.int (((p1.toUInt32 >>> ((2 : Int32) &&& 31).toUInt32).toInt32) &&& (3 : Int32))), .val (.int (1 : Int32)), .val (.ref b16), .val (.ref b18), .val (.long ((0 : Int64) + (q3 - q2))), .second, .val (.ref b25)] [(.int (lcmpW (own_s (fun i => if i = 0 then q2 else (fun _ => (0 : Int64)) i) (fun i => if i = 0 then q3 else (fun _ => (0 : Int64)) i) 1 0 0) ((0 : Int64) + (q3 - q2))))])) _
      refine XS.ifNo X29.here hx rfl (hb hby at_138) rfl ((if0 _ _).trans (teq ((lw_eq _ _).mpr hE)).2) ?_
      show Steps p.tables e below (T29.setTop (mkF m 141 #[.val (.int p1), .val (.long q2), .second, .val (.long q3), .second, .val (.long q4), .second, .val (.long q5), .second, .val (.long q6), .second, .val (.int (p1 &&& (3 : Int32))), .val (.int (((p1.toUInt32 >>> ((2 : Int32) &&& 31).toUInt32).toInt32) &&& (3 : Int32))), .val (.int (1 : Int32)), .val (.ref b16), .val (.ref b18), .val (.long ((0 : Int64) + (q3 - q2))), .second, .val (.ref b25)] [])) _
      refine XS.iconst X29.here hx rfl (hb hby at_141) ?_
      show Steps p.tables e below (T29.setTop (mkF m 142 #[.val (.int p1), .val (.long q2), .second, .val (.long q3), .second, .val (.long q4), .second, .val (.long q5), .second, .val (.long q6), .second, .val (.int (p1 &&& (3 : Int32))), .val (.int (((p1.toUInt32 >>> ((2 : Int32) &&& 31).toUInt32).toInt32) &&& (3 : Int32))), .val (.int (1 : Int32)), .val (.ref b16), .val (.ref b18), .val (.long ((0 : Int64) + (q3 - q2))), .second, .val (.ref b25)] [(.int (1 : Int32))])) _
      refine XS.goto X29.here hx rfl (pc0 := 142) (pc' := 146) rfl (hb hby at_142) (by decide) (by decide) ?_
      exact kt
    obtain ⟨fs, hr, hrun, hended, hW, hsame⟩ := X29.leave (v := some (.int (1 : Int32))) (fun h => by rw [Bd.returns] at h; cases h)
    refine ⟨_, _, pre0 _ ?_, hrun, hended, _, _, rfl, ?_, ⟨_, rfl⟩, hW, hsame.mono (by decide) (by decide)⟩
    · exact sg1 _ (st2 _ (sg15 _ (st16 _ (sg17 _ (st18 _ (sg19 _ (sg20 _ (st21 _ (sg22 _ (st23 _ (sg24 _ (st25 _ (sg26 _ (st27.trans (sg28 _ (st29.trans (sg30 _ ((retN X29 hx (t := .boolean) Bd.returns (by simp) (hb hby at_146) hr)))))))))))))))))))
    · show Q0 Z p1 q2 q3 q4 q5 q6 h0 n0 _ T29.heap _
      rw [hh29]
      exact ⟨rfl, N29⟩
  · have sg31 : ∀ t₀, Steps p.tables e below (T2.setTop (mkF m 23 #[.val (.int p1), .val (.long q2), .second, .val (.long q3), .second, .val (.long q4), .second, .val (.long q5), .second, .val (.long q6), .second, .val (.int (p1 &&& (3 : Int32))), .val (.int (((p1.toUInt32 >>> ((2 : Int32) &&& 31).toUInt32).toInt32) &&& (3 : Int32))), .val (.int (2 : Int32)), .unset, .unset, .unset, .unset, .unset] [(.int (2 : Int32))])) t₀ → Steps p.tables e below (T2.setTop (mkF m 19 #[.val (.int p1), .val (.long q2), .second, .val (.long q3), .second, .val (.long q4), .second, .val (.long q5), .second, .val (.long q6), .second, .val (.int (p1 &&& (3 : Int32))), .val (.int (((p1.toUInt32 >>> ((2 : Int32) &&& 31).toUInt32).toInt32) &&& (3 : Int32))), .unset, .unset, .unset, .unset, .unset, .unset] [(.int (2 : Int32))])) t₀ := by
      intro t₀ kt
      show Steps p.tables e below (T2.setTop (mkF m 19 #[.val (.int p1), .val (.long q2), .second, .val (.long q3), .second, .val (.long q4), .second, .val (.long q5), .second, .val (.long q6), .second, .val (.int (p1 &&& (3 : Int32))), .val (.int (((p1.toUInt32 >>> ((2 : Int32) &&& 31).toUInt32).toInt32) &&& (3 : Int32))), .unset, .unset, .unset, .unset, .unset, .unset] [(.int (2 : Int32))])) _
      refine XS.istore X2.here hx rfl (hb hby at_19) rfl (l' := #[.val (.int p1), .val (.long q2), .second, .val (.long q3), .second, .val (.long q4), .second, .val (.long q5), .second, .val (.long q6), .second, .val (.int (p1 &&& (3 : Int32))), .val (.int (((p1.toUInt32 >>> ((2 : Int32) &&& 31).toUInt32).toInt32) &&& (3 : Int32))), .val (.int (2 : Int32)), .unset, .unset, .unset, .unset, .unset]) rfl ?_
      show Steps p.tables e below (T2.setTop (mkF m 21 #[.val (.int p1), .val (.long q2), .second, .val (.long q3), .second, .val (.long q4), .second, .val (.long q5), .second, .val (.long q6), .second, .val (.int (p1 &&& (3 : Int32))), .val (.int (((p1.toUInt32 >>> ((2 : Int32) &&& 31).toUInt32).toInt32) &&& (3 : Int32))), .val (.int (2 : Int32)), .unset, .unset, .unset, .unset, .unset] [])) _
      refine XS.iload X2.here hx rfl (hb hby at_21) rfl ?_
      exact kt
    obtain ⟨T32, h32, k32, X32, e32, E32, A32, B32, st32⟩ := newPE X2 hx hZ (hw _ (List.mem_of_getElem? (i := 4) rfl)) hh2 (g := (mkF m 23 #[.val (.int p1), .val (.long q2), .second, .val (.long q3), .second, .val (.long q4), .second, .val (.long q5), .second, .val (.long q6), .second, .val (.int (p1 &&& (3 : Int32))), .val (.int (((p1.toUInt32 >>> ((2 : Int32) &&& 31).toUInt32).toInt32) &&& (3 : Int32))), .val (.int (2 : Int32)), .unset, .unset, .unset, .unset, .unset] [(.int (2 : Int32))])) rfl (hb hby at_23) rfl (by decide) (cap := 2) (by decide) (by decide) (by decide) (by decide) (ad := "[J") (by decide +kernel)
    obtain ⟨b32, g32⟩ : ∃ z, z = h0.size := ⟨_, rfl⟩
    rw [← g32] at A32 st32 B32
    have V32 := Arv.new A32 (by decide)
    have g_b32 : n0 ≤ b32 := Nat.le_trans Z0 (Nat.le_of_eq g32.symm)
    have z32 : n0 ≤ h32.size := Nat.le_trans Z0 E32.1
    have sg33 : ∀ t₀, Steps p.tables e below (T32.setTop (mkF m 29 #[.val (.int p1), .val (.long q2), .second, .val (.long q3), .second, .val (.long q4), .second, .val (.long q5), .second, .val (.long q6), .second, .val (.int (p1 &&& (3 : Int32))), .val (.int (((p1.toUInt32 >>> ((2 : Int32) &&& 31).toUInt32).toInt32) &&& (3 : Int32))), .val (.int (2 : Int32)), .val (.ref b32), .unset, .unset, .unset, .unset] [(.int (2 : Int32))])) t₀ → Steps p.tables e below (T32.setTop (mkF m 25 #[.val (.int p1), .val (.long q2), .second, .val (.long q3), .second, .val (.long q4), .second, .val (.long q5), .second, .val (.long q6), .second, .val (.int (p1 &&& (3 : Int32))), .val (.int (((p1.toUInt32 >>> ((2 : Int32) &&& 31).toUInt32).toInt32) &&& (3 : Int32))), .val (.int (2 : Int32)), .unset, .unset, .unset, .unset, .unset] [(.ref b32)])) t₀ := by
      intro t₀ kt
      show Steps p.tables e below (T32.setTop (mkF m 25 #[.val (.int p1), .val (.long q2), .second, .val (.long q3), .second, .val (.long q4), .second, .val (.long q5), .second, .val (.long q6), .second, .val (.int (p1 &&& (3 : Int32))), .val (.int (((p1.toUInt32 >>> ((2 : Int32) &&& 31).toUInt32).toInt32) &&& (3 : Int32))), .val (.int (2 : Int32)), .unset, .unset, .unset, .unset, .unset] [(.ref b32)])) _
      refine XS.astore X32.here hx rfl (hb hby at_25) rfl rfl (l' := #[.val (.int p1), .val (.long q2), .second, .val (.long q3), .second, .val (.long q4), .second, .val (.long q5), .second, .val (.long q6), .second, .val (.int (p1 &&& (3 : Int32))), .val (.int (((p1.toUInt32 >>> ((2 : Int32) &&& 31).toUInt32).toInt32) &&& (3 : Int32))), .val (.int (2 : Int32)), .val (.ref b32), .unset, .unset, .unset, .unset]) rfl ?_
      show Steps p.tables e below (T32.setTop (mkF m 27 #[.val (.int p1), .val (.long q2), .second, .val (.long q3), .second, .val (.long q4), .second, .val (.long q5), .second, .val (.long q6), .second, .val (.int (p1 &&& (3 : Int32))), .val (.int (((p1.toUInt32 >>> ((2 : Int32) &&& 31).toUInt32).toInt32) &&& (3 : Int32))), .val (.int (2 : Int32)), .val (.ref b32), .unset, .unset, .unset, .unset] [])) _
      refine XS.iload X32.here hx rfl (hb hby at_27) rfl ?_
      exact kt
    obtain ⟨T34, h34, k34, X34, e34, E34, A34, B34, st34⟩ := newPE X32 hx hZ (hw _ (List.mem_of_getElem? (i := 4) rfl)) e32 (g := (mkF m 29 #[.val (.int p1), .val (.long q2), .second, .val (.long q3), .second, .val (.long q4), .second, .val (.long q5), .second, .val (.long q6), .second, .val (.int (p1 &&& (3 : Int32))), .val (.int (((p1.toUInt32 >>> ((2 : Int32) &&& 31).toUInt32).toInt32) &&& (3 : Int32))), .val (.int (2 : Int32)), .val (.ref b32), .unset, .unset, .unset, .unset] [(.int (2 : Int32))])) rfl (hb hby at_29) rfl (by decide) (cap := 2) (by decide) (by decide) (by decide) (by decide) (ad := "[J") (by decide +kernel)
    obtain ⟨b34, g34⟩ : ∃ z, z = h32.size := ⟨_, rfl⟩
    rw [← g34] at A34 st34 B34
    have V34 := Arv.new A34 (by decide)
    have g_b34 : n0 ≤ b34 := Nat.le_trans z32 (Nat.le_of_eq g34.symm)
    have z34 : n0 ≤ h34.size := Nat.le_trans z32 E34.1
    have P1_0 : own_A Z h34 b32 2 .long (fun _ => .long (0 : Int64)) := own_A_ext (own_A_new V32 (by decide)) E34
    have P2_0 : own_A Z h34 b34 2 .long (fun _ => .long (0 : Int64)) := own_A_new V34 (by decide)
    have R1_0 := B32.ext E34
    have R2_0 := B34
    have ne12 : b32 ≠ b34 := Nat.ne_of_lt (by rw [g34]; exact B32.lt)
    have y0 := z34
    have sg35 : ∀ t₀, Steps p.tables e below (T34.setTop (mkF m 36 #[.val (.int p1), .val (.long q2), .second, .val (.long q3), .second, .val (.long q4), .second, .val (.long q5), .second, .val (.long q6), .second, .val (.int (p1 &&& (3 : Int32))), .val (.int (((p1.toUInt32 >>> ((2 : Int32) &&& 31).toUInt32).toInt32) &&& (3 : Int32))), .val (.int (2 : Int32)), .val (.ref b32), .val (.ref b34), .val (.long (0 : Int64)), .second, .unset] [])) t₀ → Steps p.tables e below (T34.setTop (mkF m 31 #[.val (.int p1), .val (.long q2), .second, .val (.long q3), .second, .val (.long q4), .second, .val (.long q5), .second, .val (.long q6), .second, .val (.int (p1 &&& (3 : Int32))), .val (.int (((p1.toUInt32 >>> ((2 : Int32) &&& 31).toUInt32).toInt32) &&& (3 : Int32))), .val (.int (2 : Int32)), .val (.ref b32), .unset, .unset, .unset, .unset] [(.ref b34)])) t₀ := by
      intro t₀ kt
      show Steps p.tables e below (T34.setTop (mkF m 31 #[.val (.int p1), .val (.long q2), .second, .val (.long q3), .second, .val (.long q4), .second, .val (.long q5), .second, .val (.long q6), .second, .val (.int (p1 &&& (3 : Int32))), .val (.int (((p1.toUInt32 >>> ((2 : Int32) &&& 31).toUInt32).toInt32) &&& (3 : Int32))), .val (.int (2 : Int32)), .val (.ref b32), .unset, .unset, .unset, .unset] [(.ref b34)])) _
      refine XS.astore X34.here hx rfl (hb hby at_31) rfl rfl (l' := #[.val (.int p1), .val (.long q2), .second, .val (.long q3), .second, .val (.long q4), .second, .val (.long q5), .second, .val (.long q6), .second, .val (.int (p1 &&& (3 : Int32))), .val (.int (((p1.toUInt32 >>> ((2 : Int32) &&& 31).toUInt32).toInt32) &&& (3 : Int32))), .val (.int (2 : Int32)), .val (.ref b32), .val (.ref b34), .unset, .unset, .unset]) rfl ?_
      show Steps p.tables e below (T34.setTop (mkF m 33 #[.val (.int p1), .val (.long q2), .second, .val (.long q3), .second, .val (.long q4), .second, .val (.long q5), .second, .val (.long q6), .second, .val (.int (p1 &&& (3 : Int32))), .val (.int (((p1.toUInt32 >>> ((2 : Int32) &&& 31).toUInt32).toInt32) &&& (3 : Int32))), .val (.int (2 : Int32)), .val (.ref b32), .val (.ref b34), .unset, .unset, .unset] [])) _
      refine XS.lconst X34.here hx rfl (hb hby at_33) ?_
      show Steps p.tables e below (T34.setTop (mkF m 34 #[.val (.int p1), .val (.long q2), .second, .val (.long q3), .second, .val (.long q4), .second, .val (.long q5), .second, .val (.long q6), .second, .val (.int (p1 &&& (3 : Int32))), .val (.int (((p1.toUInt32 >>> ((2 : Int32) &&& 31).toUInt32).toInt32) &&& (3 : Int32))), .val (.int (2 : Int32)), .val (.ref b32), .val (.ref b34), .unset, .unset, .unset] [(.long (0 : Int64))])) _
      refine XS.lstore X34.here hx rfl (hb hby at_34) rfl (l' := #[.val (.int p1), .val (.long q2), .second, .val (.long q3), .second, .val (.long q4), .second, .val (.long q5), .second, .val (.long q6), .second, .val (.int (p1 &&& (3 : Int32))), .val (.int (((p1.toUInt32 >>> ((2 : Int32) &&& 31).toUInt32).toInt32) &&& (3 : Int32))), .val (.int (2 : Int32)), .val (.ref b32), .val (.ref b34), .val (.long (0 : Int64)), .second, .unset]) rfl ?_
      exact kt
    have sg36 : ∀ t₀, Steps p.tables e below (T34.setTop (mkF m 45 #[.val (.int p1), .val (.long q2), .second, .val (.long q3), .second, .val (.long q4), .second, .val (.long q5), .second, .val (.long q6), .second, .val (.int (p1 &&& (3 : Int32))), .val (.int (((p1.toUInt32 >>> ((2 : Int32) &&& 31).toUInt32).toInt32) &&& (3 : Int32))), .val (.int (2 : Int32)), .val (.ref b32), .val (.ref b34), .val (.long (0 : Int64)), .second, .unset] [(.long q2), (.int (0 : Int32)), (.ref b32)])) t₀ → Steps p.tables e below (T34.setTop (mkF m 36 #[.val (.int p1), .val (.long q2), .second, .val (.long q3), .second, .val (.long q4), .second, .val (.long q5), .second, .val (.long q6), .second, .val (.int (p1 &&& (3 : Int32))), .val (.int (((p1.toUInt32 >>> ((2 : Int32) &&& 31).toUInt32).toInt32) &&& (3 : Int32))), .val (.int (2 : Int32)), .val (.ref b32), .val (.ref b34), .val (.long (0 : Int64)), .second, .unset] [])) t₀ := by
      intro t₀ kt
      show Steps p.tables e below (T34.setTop (mkF m 36 #[.val (.int p1), .val (.long q2), .second, .val (.long q3), .second, .val (.long q4), .second, .val (.long q5), .second, .val (.long q6), .second, .val (.int (p1 &&& (3 : Int32))), .val (.int (((p1.toUInt32 >>> ((2 : Int32) &&& 31).toUInt32).toInt32) &&& (3 : Int32))), .val (.int (2 : Int32)), .val (.ref b32), .val (.ref b34), .val (.long (0 : Int64)), .second, .unset] [])) _
      refine XS.iload X34.here hx rfl (hb hby at_36) rfl ?_
      show Steps p.tables e below (T34.setTop (mkF m 38 #[.val (.int p1), .val (.long q2), .second, .val (.long q3), .second, .val (.long q4), .second, .val (.long q5), .second, .val (.long q6), .second, .val (.int (p1 &&& (3 : Int32))), .val (.int (((p1.toUInt32 >>> ((2 : Int32) &&& 31).toUInt32).toInt32) &&& (3 : Int32))), .val (.int (2 : Int32)), .val (.ref b32), .val (.ref b34), .val (.long (0 : Int64)), .second, .unset] [(.int (2 : Int32))])) _
      refine XS.ifNo X34.here hx rfl (hb hby at_38) rfl ((if0 _ _).trans (tlt (by decide : (0 : Int32) < (2 : Int32))).2.2.2) ?_
      show Steps p.tables e below (T34.setTop (mkF m 41 #[.val (.int p1), .val (.long q2), .second, .val (.long q3), .second, .val (.long q4), .second, .val (.long q5), .second, .val (.long q6), .second, .val (.int (p1 &&& (3 : Int32))), .val (.int (((p1.toUInt32 >>> ((2 : Int32) &&& 31).toUInt32).toInt32) &&& (3 : Int32))), .val (.int (2 : Int32)), .val (.ref b32), .val (.ref b34), .val (.long (0 : Int64)), .second, .unset] [])) _
      refine XS.aload X34.here hx rfl (hb hby at_41) rfl rfl ?_
      show Steps p.tables e below (T34.setTop (mkF m 43 #[.val (.int p1), .val (.long q2), .second, .val (.long q3), .second, .val (.long q4), .second, .val (.long q5), .second, .val (.long q6), .second, .val (.int (p1 &&& (3 : Int32))), .val (.int (((p1.toUInt32 >>> ((2 : Int32) &&& 31).toUInt32).toInt32) &&& (3 : Int32))), .val (.int (2 : Int32)), .val (.ref b32), .val (.ref b34), .val (.long (0 : Int64)), .second, .unset] [(.ref b32)])) _
      refine XS.iconst X34.here hx rfl (hb hby at_43) ?_
      show Steps p.tables e below (T34.setTop (mkF m 44 #[.val (.int p1), .val (.long q2), .second, .val (.long q3), .second, .val (.long q4), .second, .val (.long q5), .second, .val (.long q6), .second, .val (.int (p1 &&& (3 : Int32))), .val (.int (((p1.toUInt32 >>> ((2 : Int32) &&& 31).toUInt32).toInt32) &&& (3 : Int32))), .val (.int (2 : Int32)), .val (.ref b32), .val (.ref b34), .val (.long (0 : Int64)), .second, .unset] [(.int (0 : Int32)), (.ref b32)])) _
      refine XS.lloadN X34.here hx rfl (hb hby at_44) rfl ?_
      exact kt
    obtain ⟨ca0, Aa0, Sa0, Ha0⟩ := id P1_0
    have ia0 : ¬ ((0 : Int32) < 0 ∨ ca0.slots.size ≤ ((0 : Int32)).toNatClampNeg) := own_in (i := 0) Sa0 (by decide) (by decide)
    obtain ⟨T37, h37, X37, e37, W37, st37⟩ := stJ X34 hx hZ e34 Aa0 (j := (0 : Int32)) ia0 (g := (mkF m 45 #[.val (.int p1), .val (.long q2), .second, .val (.long q3), .second, .val (.long q4), .second, .val (.long q5), .second, .val (.long q6), .second, .val (.int (p1 &&& (3 : Int32))), .val (.int (((p1.toUInt32 >>> ((2 : Int32) &&& 31).toUInt32).toInt32) &&& (3 : Int32))), .val (.int (2 : Int32)), .val (.ref b32), .val (.ref b34), .val (.long (0 : Int64)), .second, .unset] [(.long q2), (.int (0 : Int32)), (.ref b32)])) rfl rfl (hb hby at_45)
    have N37 := Fr.snoc X37 N2 g_b32
    have P1_1 : own_A Z h37 b32 2 .long (fun i => .long ((fun i => if i = 0 then q2 else (fun _ => (0 : Int64)) i) i)) := own_setL P1_0 W37 0 (by decide) (by decide)
    have P2_1 := own_A_other P2_0 W37 ne12.symm
    have R1_1 := R1_0.wr W37
    have R2_1 := R2_0.wr W37
    have y1 : n0 ≤ h37.size := Nat.le_trans y0 (Keep.of_wr W37).1
    have sg38 : ∀ t₀, Steps p.tables e below (T37.setTop (mkF m 50 #[.val (.int p1), .val (.long q2), .second, .val (.long q3), .second, .val (.long q4), .second, .val (.long q5), .second, .val (.long q6), .second, .val (.int (p1 &&& (3 : Int32))), .val (.int (((p1.toUInt32 >>> ((2 : Int32) &&& 31).toUInt32).toInt32) &&& (3 : Int32))), .val (.int (2 : Int32)), .val (.ref b32), .val (.ref b34), .val (.long (0 : Int64)), .second, .unset] [(.long q3), (.int (0 : Int32)), (.ref b34)])) t₀ → Steps p.tables e below (T37.setTop (mkF m 46 #[.val (.int p1), .val (.long q2), .second, .val (.long q3), .second, .val (.long q4), .second, .val (.long q5), .second, .val (.long q6), .second, .val (.int (p1 &&& (3 : Int32))), .val (.int (((p1.toUInt32 >>> ((2 : Int32) &&& 31).toUInt32).toInt32) &&& (3 : Int32))), .val (.int (2 : Int32)), .val (.ref b32), .val (.ref b34), .val (.long (0 : Int64)), .second, .unset] [])) t₀ := by
      intro t₀ kt
      show Steps p.tables e below (T37.setTop (mkF m 46 #[.val (.int p1), .val (.long q2), .second, .val (.long q3), .second, .val (.long q4), .second, .val (.long q5), .second, .val (.long q6), .second, .val (.int (p1 &&& (3 : Int32))), .val (.int (((p1.toUInt32 >>> ((2 : Int32) &&& 31).toUInt32).toInt32) &&& (3 : Int32))), .val (.int (2 : Int32)), .val (.ref b32), .val (.ref b34), .val (.long (0 : Int64)), .second, .unset] [])) _
      refine XS.aload X37.here hx rfl (hb hby at_46) rfl rfl ?_
      show Steps p.tables e below (T37.setTop (mkF m 48 #[.val (.int p1), .val (.long q2), .second, .val (.long q3), .second, .val (.long q4), .second, .val (.long q5), .second, .val (.long q6), .second, .val (.int (p1 &&& (3 : Int32))), .val (.int (((p1.toUInt32 >>> ((2 : Int32) &&& 31).toUInt32).toInt32) &&& (3 : Int32))), .val (.int (2 : Int32)), .val (.ref b32), .val (.ref b34), .val (.long (0 : Int64)), .second, .unset] [(.ref b34)])) _
      refine XS.iconst X37.here hx rfl (hb hby at_48) ?_
      show Steps p.tables e below (T37.setTop (mkF m 49 #[.val (.int p1), .val (.long q2), .second, .val (.long q3), .second, .val (.long q4), .second, .val (.long q5), .second, .val (.long q6), .second, .val (.int (p1 &&& (3 : Int32))), .val (.int (((p1.toUInt32 >>> ((2 : Int32) &&& 31).toUInt32).toInt32) &&& (3 : Int32))), .val (.int (2 : Int32)), .val (.ref b32), .val (.ref b34), .val (.long (0 : Int64)), .second, .unset] [(.int (0 : Int32)), (.ref b34)])) _
      refine XS.lloadN X37.here hx rfl (hb hby at_49) rfl ?_
      exact kt
    obtain ⟨cb0, Ab0, Sb0, Hb0⟩ := id P2_1
    have ib0 : ¬ ((0 : Int32) < 0 ∨ cb0.slots.size ≤ ((0 : Int32)).toNatClampNeg) := own_in (i := 0) Sb0 (by decide) (by decide)
    obtain ⟨T39, h39, X39, e39, W39, st39⟩ := stJ X37 hx hZ e37 Ab0 (j := (0 : Int32)) ib0 (g := (mkF m 50 #[.val (.int p1), .val (.long q2), .second, .val (.long q3), .second, .val (.long q4), .second, .val (.long q5), .second, .val (.long q6), .second, .val (.int (p1 &&& (3 : Int32))), .val (.int (((p1.toUInt32 >>> ((2 : Int32) &&& 31).toUInt32).toInt32) &&& (3 : Int32))), .val (.int (2 : Int32)), .val (.ref b32), .val (.ref b34), .val (.long (0 : Int64)), .second, .unset] [(.long q3), (.int (0 : Int32)), (.ref b34)])) rfl rfl (hb hby at_50)
    have N39 := Fr.snoc X39 N37 g_b34
    have P2_2 : own_A Z h39 b34 2 .long (fun i => .long ((fun i => if i = 0 then q3 else (fun _ => (0 : Int64)) i) i)) := own_setL P2_1 W39 0 (by decide) (by decide)
    have P1_2 := own_A_other P1_1 W39 ne12
    have R1_2 := R1_1.wr W39
    have R2_2 := R2_1.wr W39
    have y2 : n0 ≤ h39.size := Nat.le_trans y1 (Keep.of_wr W39).1
    have sg40 : ∀ t₀, Steps p.tables e below (T39.setTop (mkF m 70 #[.val (.int p1), .val (.long q2), .second, .val (.long q3), .second, .val (.long q4), .second, .val (.long q5), .second, .val (.long q6), .second, .val (.int (p1 &&& (3 : Int32))), .val (.int (((p1.toUInt32 >>> ((2 : Int32) &&& 31).toUInt32).toInt32) &&& (3 : Int32))), .val (.int (2 : Int32)), .val (.ref b32), .val (.ref b34), .val (.long ((0 : Int64) + (q3 - q2))), .second, .unset] [(.long q4), (.int (1 : Int32)), (.ref b32)])) t₀ → Steps p.tables e below (T39.setTop (mkF m 51 #[.val (.int p1), .val (.long q2), .second, .val (.long q3), .second, .val (.long q4), .second, .val (.long q5), .second, .val (.long q6), .second, .val (.int (p1 &&& (3 : Int32))), .val (.int (((p1.toUInt32 >>> ((2 : Int32) &&& 31).toUInt32).toInt32) &&& (3 : Int32))), .val (.int (2 : Int32)), .val (.ref b32), .val (.ref b34), .val (.long (0 : Int64)), .second, .unset] [])) t₀ := by
      intro t₀ kt
      show Steps p.tables e below (T39.setTop (mkF m 51 #[.val (.int p1), .val (.long q2), .second, .val (.long q3), .second, .val (.long q4), .second, .val (.long q5), .second, .val (.long q6), .second, .val (.int (p1 &&& (3 : Int32))), .val (.int (((p1.toUInt32 >>> ((2 : Int32) &&& 31).toUInt32).toInt32) &&& (3 : Int32))), .val (.int (2 : Int32)), .val (.ref b32), .val (.ref b34), .val (.long (0 : Int64)), .second, .unset] [])) _
      refine XS.lload X39.here hx rfl (hb hby at_51) rfl ?_
      show Steps p.tables e below (T39.setTop (mkF m 53 #[.val (.int p1), .val (.long q2), .second, .val (.long q3), .second, .val (.long q4), .second, .val (.long q5), .second, .val (.long q6), .second, .val (.int (p1 &&& (3 : Int32))), .val (.int (((p1.toUInt32 >>> ((2 : Int32) &&& 31).toUInt32).toInt32) &&& (3 : Int32))), .val (.int (2 : Int32)), .val (.ref b32), .val (.ref b34), .val (.long (0 : Int64)), .second, .unset] [(.long (0 : Int64))])) _
      refine XS.lloadN X39.here hx rfl (hb hby at_53) rfl ?_
      show Steps p.tables e below (T39.setTop (mkF m 54 #[.val (.int p1), .val (.long q2), .second, .val (.long q3), .second, .val (.long q4), .second, .val (.long q5), .second, .val (.long q6), .second, .val (.int (p1 &&& (3 : Int32))), .val (.int (((p1.toUInt32 >>> ((2 : Int32) &&& 31).toUInt32).toInt32) &&& (3 : Int32))), .val (.int (2 : Int32)), .val (.ref b32), .val (.ref b34), .val (.long (0 : Int64)), .second, .unset] [(.long q3), (.long (0 : Int64))])) _
      refine XS.lloadN X39.here hx rfl (hb hby at_54) rfl ?_
      show Steps p.tables e below (T39.setTop (mkF m 55 #[.val (.int p1), .val (.long q2), .second, .val (.long q3), .second, .val (.long q4), .second, .val (.long q5), .second, .val (.long q6), .second, .val (.int (p1 &&& (3 : Int32))), .val (.int (((p1.toUInt32 >>> ((2 : Int32) &&& 31).toUInt32).toInt32) &&& (3 : Int32))), .val (.int (2 : Int32)), .val (.ref b32), .val (.ref b34), .val (.long (0 : Int64)), .second, .unset] [(.long q2), (.long q3), (.long (0 : Int64))])) _
      refine XS.lsub X39.here hx rfl (hb hby at_55) rfl ?_
      show Steps p.tables e below (T39.setTop (mkF m 56 #[.val (.int p1), .val (.long q2), .second, .val (.long q3), .second, .val (.long q4), .second, .val (.long q5), .second, .val (.long q6), .second, .val (.int (p1 &&& (3 : Int32))), .val (.int (((p1.toUInt32 >>> ((2 : Int32) &&& 31).toUInt32).toInt32) &&& (3 : Int32))), .val (.int (2 : Int32)), .val (.ref b32), .val (.ref b34), .val (.long (0 : Int64)), .second, .unset] [(.long (q3 - q2)), (.long (0 : Int64))])) _
      refine XS.ladd X39.here hx rfl (hb hby at_56) rfl ?_
      show Steps p.tables e below (T39.setTop (mkF m 57 #[.val (.int p1), .val (.long q2), .second, .val (.long q3), .second, .val (.long q4), .second, .val (.long q5), .second, .val (.long q6), .second, .val (.int (p1 &&& (3 : Int32))), .val (.int (((p1.toUInt32 >>> ((2 : Int32) &&& 31).toUInt32).toInt32) &&& (3 : Int32))), .val (.int (2 : Int32)), .val (.ref b32), .val (.ref b34), .val (.long (0 : Int64)), .second, .unset] [(.long ((0 : Int64) + (q3 - q2)))])) _
      refine XS.lstore X39.here hx rfl (hb hby at_57) rfl (l' := #[.val (.int p1), .val (.long q2), .second, .val (.long q3), .second, .val (.long q4), .second, .val (.long q5), .second, .val (.long q6), .second, .val (.int (p1 &&& (3 : Int32))), .val (.int (((p1.toUInt32 >>> ((2 : Int32) &&& 31).toUInt32).toInt32) &&& (3 : Int32))), .val (.int (2 : Int32)), .val (.ref b32), .val (.ref b34), .val (.long ((0 : Int64) + (q3 - q2))), .second, .unset]) rfl ?_
      show Steps p.tables e below (T39.setTop (mkF m 59 #[.val (.int p1), .val (.long q2), .second, .val (.long q3), .second, .val (.long q4), .second, .val (.long q5), .second, .val (.long q6), .second, .val (.int (p1 &&& (3 : Int32))), .val (.int (((p1.toUInt32 >>> ((2 : Int32) &&& 31).toUInt32).toInt32) &&& (3 : Int32))), .val (.int (2 : Int32)), .val (.ref b32), .val (.ref b34), .val (.long ((0 : Int64) + (q3 - q2))), .second, .unset] [])) _
      refine XS.iload X39.here hx rfl (hb hby at_59) rfl ?_
      show Steps p.tables e below (T39.setTop (mkF m 61 #[.val (.int p1), .val (.long q2), .second, .val (.long q3), .second, .val (.long q4), .second, .val (.long q5), .second, .val (.long q6), .second, .val (.int (p1 &&& (3 : Int32))), .val (.int (((p1.toUInt32 >>> ((2 : Int32) &&& 31).toUInt32).toInt32) &&& (3 : Int32))), .val (.int (2 : Int32)), .val (.ref b32), .val (.ref b34), .val (.long ((0 : Int64) + (q3 - q2))), .second, .unset] [(.int (2 : Int32))])) _
      refine XS.iconst X39.here hx rfl (hb hby at_61) ?_
      show Steps p.tables e below (T39.setTop (mkF m 62 #[.val (.int p1), .val (.long q2), .second, .val (.long q3), .second, .val (.long q4), .second, .val (.long q5), .second, .val (.long q6), .second, .val (.int (p1 &&& (3 : Int32))), .val (.int (((p1.toUInt32 >>> ((2 : Int32) &&& 31).toUInt32).toInt32) &&& (3 : Int32))), .val (.int (2 : Int32)), .val (.ref b32), .val (.ref b34), .val (.long ((0 : Int64) + (q3 - q2))), .second, .unset] [(.int (1 : Int32)), (.int (2 : Int32))])) _
      refine XS.icmpNo X39.here hx rfl (hb hby at_62) rfl (tlt (by decide : (1 : Int32) < (2 : Int32))).2.2.2 ?_
      show Steps p.tables e below (T39.setTop (mkF m 65 #[.val (.int p1), .val (.long q2), .second, .val (.long q3), .second, .val (.long q4), .second, .val (.long q5), .second, .val (.long q6), .second, .val (.int (p1 &&& (3 : Int32))), .val (.int (((p1.toUInt32 >>> ((2 : Int32) &&& 31).toUInt32).toInt32) &&& (3 : Int32))), .val (.int (2 : Int32)), .val (.ref b32), .val (.ref b34), .val (.long ((0 : Int64) + (q3 - q2))), .second, .unset] [])) _
      refine XS.aload X39.here hx rfl (hb hby at_65) rfl rfl ?_
      show Steps p.tables e below (T39.setTop (mkF m 67 #[.val (.int p1), .val (.long q2), .second, .val (.long q3), .second, .val (.long q4), .second, .val (.long q5), .second, .val (.long q6), .second, .val (.int (p1 &&& (3 : Int32))), .val (.int (((p1.toUInt32 >>> ((2 : Int32) &&& 31).toUInt32).toInt32) &&& (3 : Int32))), .val (.int (2 : Int32)), .val (.ref b32), .val (.ref b34), .val (.long ((0 : Int64) + (q3 - q2))), .second, .unset] [(.ref b32)])) _
      refine XS.iconst X39.here hx rfl (hb hby at_67) ?_
      show Steps p.tables e below (T39.setTop (mkF m 68 #[.val (.int p1), .val (.long q2), .second, .val (.long q3), .second, .val (.long q4), .second, .val (.long q5), .second, .val (.long q6), .second, .val (.int (p1 &&& (3 : Int32))), .val (.int (((p1.toUInt32 >>> ((2 : Int32) &&& 31).toUInt32).toInt32) &&& (3 : Int32))), .val (.int (2 : Int32)), .val (.ref b32), .val (.ref b34), .val (.long ((0 : Int64) + (q3 - q2))), .second, .unset] [(.int (1 : Int32)), (.ref b32)])) _
      refine XS.lload X39.here hx rfl (hb hby at_68) rfl ?_
      exact kt
    obtain ⟨ca1, Aa1, Sa1, Ha1⟩ := id P1_2
    have ia1 : ¬ ((1 : Int32) < 0 ∨ ca1.slots.size ≤ ((1 : Int32)).toNatClampNeg) := own_in (i := 1) Sa1 (by decide) (by decide)
    obtain ⟨T41, h41, X41, e41, W41, st41⟩ := stJ X39 hx hZ e39 Aa1 (j := (1 : Int32)) ia1 (g := (mkF m 70 #[.val (.int p1), .val (.long q2), .second, .val (.long q3), .second, .val (.long q4), .second, .val (.long q5), .second, .val (.long q6), .second, .val (.int (p1 &&& (3 : Int32))), .val (.int (((p1.toUInt32 >>> ((2 : Int32) &&& 31).toUInt32).toInt32) &&& (3 : Int32))), .val (.int (2 : Int32)), .val (.ref b32), .val (.ref b34), .val (.long ((0 : Int64) + (q3 - q2))), .second, .unset] [(.long q4), (.int (1 : Int32)), (.ref b32)])) rfl rfl (hb hby at_70)
    have N41 := Fr.snoc X41 N39 g_b32
    have P1_3 : own_A Z h41 b32 2 .long (fun i => .long ((fun i => if i = 1 then q4 else (fun i => if i = 0 then q2 else (fun _ => (0 : Int64)) i) i) i)) := own_setL P1_2 W41 1 (by decide) (by decide)
    have P2_3 := own_A_other P2_2 W41 ne12.symm
    have R1_3 := R1_2.wr W41
    have R2_3 := R2_2.wr W41
    have y3 : n0 ≤ h41.size := Nat.le_trans y2 (Keep.of_wr W41).1
    have sg42 : ∀ t₀, Steps p.tables e below (T41.setTop (mkF m 76 #[.val (.int p1), .val (.long q2), .second, .val (.long q3), .second, .val (.long q4), .second, .val (.long q5), .second, .val (.long q6), .second, .val (.int (p1 &&& (3 : Int32))), .val (.int (((p1.toUInt32 >>> ((2 : Int32) &&& 31).toUInt32).toInt32) &&& (3 : Int32))), .val (.int (2 : Int32)), .val (.ref b32), .val (.ref b34), .val (.long ((0 : Int64) + (q3 - q2))), .second, .unset] [(.long q5), (.int (1 : Int32)), (.ref b34)])) t₀ → Steps p.tables e below (T41.setTop (mkF m 71 #[.val (.int p1), .val (.long q2), .second, .val (.long q3), .second, .val (.long q4), .second, .val (.long q5), .second, .val (.long q6), .second, .val (.int (p1 &&& (3 : Int32))), .val (.int (((p1.toUInt32 >>> ((2 : Int32) &&& 31).toUInt32).toInt32) &&& (3 : Int32))), .val (.int (2 : Int32)), .val (.ref b32), .val (.ref b34), .val (.long ((0 : Int64) + (q3 - q2))), .second, .unset] [])) t₀ := by
      intro t₀ kt
      show Steps p.tables e below (T41.setTop (mkF m 71 #[.val (.int p1), .val (.long q2), .second, .val (.long q3), .second, .val (.long q4), .second, .val (.long q5), .second, .val (.long q6), .second, .val (.int (p1 &&& (3 : Int32))), .val (.int (((p1.toUInt32 >>> ((2 : Int32) &&& 31).toUInt32).toInt32) &&& (3 : Int32))), .val (.int (2 : Int32)), .val (.ref b32), .val (.ref b34), .val (.long ((0 : Int64) + (q3 - q2))), .second, .unset] [])) _
      refine XS.aload X41.here hx rfl (hb hby at_71) rfl rfl ?_
      show Steps p.tables e below (T41.setTop (mkF m 73 #[.val (.int p1), .val (.long q2), .second, .val (.long q3), .second, .val (.long q4), .second, .val (.long q5), .second, .val (.long q6), .second, .val (.int (p1 &&& (3 : Int32))), .val (.int (((p1.toUInt32 >>> ((2 : Int32) &&& 31).toUInt32).toInt32) &&& (3 : Int32))), .val (.int (2 : Int32)), .val (.ref b32), .val (.ref b34), .val (.long ((0 : Int64) + (q3 - q2))), .second, .unset] [(.ref b34)])) _
      refine XS.iconst X41.here hx rfl (hb hby at_73) ?_
      show Steps p.tables e below (T41.setTop (mkF m 74 #[.val (.int p1), .val (.long q2), .second, .val (.long q3), .second, .val (.long q4), .second, .val (.long q5), .second, .val (.long q6), .second, .val (.int (p1 &&& (3 : Int32))), .val (.int (((p1.toUInt32 >>> ((2 : Int32) &&& 31).toUInt32).toInt32) &&& (3 : Int32))), .val (.int (2 : Int32)), .val (.ref b32), .val (.ref b34), .val (.long ((0 : Int64) + (q3 - q2))), .second, .unset] [(.int (1 : Int32)), (.ref b34)])) _
      refine XS.lload X41.here hx rfl (hb hby at_74) rfl ?_
      exact kt
    obtain ⟨cb1, Ab1, Sb1, Hb1⟩ := id P2_3
    have ib1 : ¬ ((1 : Int32) < 0 ∨ cb1.slots.size ≤ ((1 : Int32)).toNatClampNeg) := own_in (i := 1) Sb1 (by decide) (by decide)
    obtain ⟨T43, h43, X43, e43, W43, st43⟩ := stJ X41 hx hZ e41 Ab1 (j := (1 : Int32)) ib1 (g := (mkF m 76 #[.val (.int p1), .val (.long q2), .second, .val (.long q3), .second, .val (.long q4), .second, .val (.long q5), .second, .val (.long q6), .second, .val (.int (p1 &&& (3 : Int32))), .val (.int (((p1.toUInt32 >>> ((2 : Int32) &&& 31).toUInt32).toInt32) &&& (3 : Int32))), .val (.int (2 : Int32)), .val (.ref b32), .val (.ref b34), .val (.long ((0 : Int64) + (q3 - q2))), .second, .unset] [(.long q5), (.int (1 : Int32)), (.ref b34)])) rfl rfl (hb hby at_76)
    have N43 := Fr.snoc X43 N41 g_b34
    have P2_4 : own_A Z h43 b34 2 .long (fun i => .long ((fun i => if i = 1 then q5 else (fun i => if i = 0 then q3 else (fun _ => (0 : Int64)) i) i) i)) := own_setL P2_3 W43 1 (by decide) (by decide)
    have P1_4 := own_A_other P1_3 W43 ne12
    have R1_4 := R1_3.wr W43
    have R2_4 := R2_3.wr W43
    have y4 : n0 ≤ h43.size := Nat.le_trans y3 (Keep.of_wr W43).1
    have sg44 : ∀ t₀, Steps p.tables e below (T43.setTop (mkF m 113 #[.val (.int p1), .val (.long q2), .second, .val (.long q3), .second, .val (.long q4), .second, .val (.long q5), .second, .val (.long q6), .second, .val (.int (p1 &&& (3 : Int32))), .val (.int (((p1.toUInt32 >>> ((2 : Int32) &&& 31).toUInt32).toInt32) &&& (3 : Int32))), .val (.int (2 : Int32)), .val (.ref b32), .val (.ref b34), .val (.long (((0 : Int64) + (q3 - q2)) + (q5 - q4))), .second, .unset] [])) t₀ → Steps p.tables e below (T43.setTop (mkF m 77 #[.val (.int p1), .val (.long q2), .second, .val (.long q3), .second, .val (.long q4), .second, .val (.long q5), .second, .val (.long q6), .second, .val (.int (p1 &&& (3 : Int32))), .val (.int (((p1.toUInt32 >>> ((2 : Int32) &&& 31).toUInt32).toInt32) &&& (3 : Int32))), .val (.int (2 : Int32)), .val (.ref b32), .val (.ref b34), .val (.long ((0 : Int64) + (q3 - q2))), .second, .unset] [])) t₀ := by
      intro t₀ kt
      show Steps p.tables e below (T43.setTop (mkF m 77 #[.val (.int p1), .val (.long q2), .second, .val (.long q3), .second, .val (.long q4), .second, .val (.long q5), .second, .val (.long q6), .second, .val (.int (p1 &&& (3 : Int32))), .val (.int (((p1.toUInt32 >>> ((2 : Int32) &&& 31).toUInt32).toInt32) &&& (3 : Int32))), .val (.int (2 : Int32)), .val (.ref b32), .val (.ref b34), .val (.long ((0 : Int64) + (q3 - q2))), .second, .unset] [])) _
      refine XS.lload X43.here hx rfl (hb hby at_77) rfl ?_
      show Steps p.tables e below (T43.setTop (mkF m 79 #[.val (.int p1), .val (.long q2), .second, .val (.long q3), .second, .val (.long q4), .second, .val (.long q5), .second, .val (.long q6), .second, .val (.int (p1 &&& (3 : Int32))), .val (.int (((p1.toUInt32 >>> ((2 : Int32) &&& 31).toUInt32).toInt32) &&& (3 : Int32))), .val (.int (2 : Int32)), .val (.ref b32), .val (.ref b34), .val (.long ((0 : Int64) + (q3 - q2))), .second, .unset] [(.long ((0 : Int64) + (q3 - q2)))])) _
      refine XS.lload X43.here hx rfl (hb hby at_79) rfl ?_
      show Steps p.tables e below (T43.setTop (mkF m 81 #[.val (.int p1), .val (.long q2), .second, .val (.long q3), .second, .val (.long q4), .second, .val (.long q5), .second, .val (.long q6), .second, .val (.int (p1 &&& (3 : Int32))), .val (.int (((p1.toUInt32 >>> ((2 : Int32) &&& 31).toUInt32).toInt32) &&& (3 : Int32))), .val (.int (2 : Int32)), .val (.ref b32), .val (.ref b34), .val (.long ((0 : Int64) + (q3 - q2))), .second, .unset] [(.long q5), (.long ((0 : Int64) + (q3 - q2)))])) _
      refine XS.lload X43.here hx rfl (hb hby at_81) rfl ?_
      show Steps p.tables e below (T43.setTop (mkF m 83 #[.val (.int p1), .val (.long q2), .second, .val (.long q3), .second, .val (.long q4), .second, .val (.long q5), .second, .val (.long q6), .second, .val (.int (p1 &&& (3 : Int32))), .val (.int (((p1.toUInt32 >>> ((2 : Int32) &&& 31).toUInt32).toInt32) &&& (3 : Int32))), .val (.int (2 : Int32)), .val (.ref b32), .val (.ref b34), .val (.long ((0 : Int64) + (q3 - q2))), .second, .unset] [(.long q4), (.long q5), (.long ((0 : Int64) + (q3 - q2)))])) _
      refine XS.lsub X43.here hx rfl (hb hby at_83) rfl ?_
      show Steps p.tables e below (T43.setTop (mkF m 84 #[.val (.int p1), .val (.long q2), .second, .val (.long q3), .second, .val (.long q4), .second, .val (.long q5), .second, .val (.long q6), .second, .val (.int (p1 &&& (3 : Int32))), .val (.int (((p1.toUInt32 >>> ((2 : Int32) &&& 31).toUInt32).toInt32) &&& (3 : Int32))), .val (.int (2 : Int32)), .val (.ref b32), .val (.ref b34), .val (.long ((0 : Int64) + (q3 - q2))), .second, .unset] [(.long (q5 - q4)), (.long ((0 : Int64) + (q3 - q2)))])) _
      refine XS.ladd X43.here hx rfl (hb hby at_84) rfl ?_
      show Steps p.tables e below (T43.setTop (mkF m 85 #[.val (.int p1), .val (.long q2), .second, .val (.long q3), .second, .val (.long q4), .second, .val (.long q5), .second, .val (.long q6), .second, .val (.int (p1 &&& (3 : Int32))), .val (.int (((p1.toUInt32 >>> ((2 : Int32) &&& 31).toUInt32).toInt32) &&& (3 : Int32))), .val (.int (2 : Int32)), .val (.ref b32), .val (.ref b34), .val (.long ((0 : Int64) + (q3 - q2))), .second, .unset] [(.long (((0 : Int64) + (q3 - q2)) + (q5 - q4)))])) _
      refine XS.lstore X43.here hx rfl (hb hby at_85) rfl (l' := #[.val (.int p1), .val (.long q2), .second, .val (.long q3), .second, .val (.long q4), .second, .val (.long q5), .second, .val (.long q6), .second, .val (.int (p1 &&& (3 : Int32))), .val (.int (((p1.toUInt32 >>> ((2 : Int32) &&& 31).toUInt32).toInt32) &&& (3 : Int32))), .val (.int (2 : Int32)), .val (.ref b32), .val (.ref b34), .val (.long (((0 : Int64) + (q3 - q2)) + (q5 - q4))), .second, .unset]) rfl ?_
      show Steps p.tables e below (T43.setTop (mkF m 87 #[.val (.int p1), .val (.long q2), .second, .val (.long q3), .second, .val (.long q4), .second, .val (.long q5), .second, .val (.long q6), .second, .val (.int (p1 &&& (3 : Int32))), .val (.int (((p1.toUInt32 >>> ((2 : Int32) &&& 31).toUInt32).toInt32) &&& (3 : Int32))), .val (.int (2 : Int32)), .val (.ref b32), .val (.ref b34), .val (.long (((0 : Int64) + (q3 - q2)) + (q5 - q4))), .second, .unset] [])) _
      refine XS.iload X43.here hx rfl (hb hby at_87) rfl ?_
      show Steps p.tables e below (T43.setTop (mkF m 89 #[.val (.int p1), .val (.long q2), .second, .val (.long q3), .second, .val (.long q4), .second, .val (.long q5), .second, .val (.long q6), .second, .val (.int (p1 &&& (3 : Int32))), .val (.int (((p1.toUInt32 >>> ((2 : Int32) &&& 31).toUInt32).toInt32) &&& (3 : Int32))), .val (.int (2 : Int32)), .val (.ref b32), .val (.ref b34), .val (.long (((0 : Int64) + (q3 - q2)) + (q5 - q4))), .second, .unset] [(.int (2 : Int32))])) _
      refine XS.iconst X43.here hx rfl (hb hby at_89) ?_
      show Steps p.tables e below (T43.setTop (mkF m 90 #[.val (.int p1), .val (.long q2), .second, .val (.long q3), .second, .val (.long q4), .second, .val (.long q5), .second, .val (.long q6), .second, .val (.int (p1 &&& (3 : Int32))), .val (.int (((p1.toUInt32 >>> ((2 : Int32) &&& 31).toUInt32).toInt32) &&& (3 : Int32))), .val (.int (2 : Int32)), .val (.ref b32), .val (.ref b34), .val (.long (((0 : Int64) + (q3 - q2)) + (q5 - q4))), .second, .unset] [(.int (2 : Int32)), (.int (2 : Int32))])) _
      refine XS.icmpYes X43.here hx rfl (pc0 := 90) (pc' := 113) rfl (hb hby at_90) rfl (flt (by decide : ¬ ((2 : Int32) < (2 : Int32)))).2.2.2 (by decide) (by decide) ?_
      exact kt
    obtain ⟨T45, h45, X45, e45, E45, A45, D45, -, st45⟩ := newO X43 hx hZ hown (hw _ (List.mem_of_getElem? (i := 5) rfl)) (hw _ (List.mem_of_getElem? (i := 6) rfl)) (hw _ (List.mem_of_getElem? (i := 7) rfl)) e43 (g := (mkF m 113 #[.val (.int p1), .val (.long q2), .second, .val (.long q3), .second, .val (.long q4), .second, .val (.long q5), .second, .val (.long q6), .second, .val (.int (p1 &&& (3 : Int32))), .val (.int (((p1.toUInt32 >>> ((2 : Int32) &&& 31).toUInt32).toInt32) &&& (3 : Int32))), .val (.int (2 : Int32)), .val (.ref b32), .val (.ref b34), .val (.long (((0 : Int64) + (q3 - q2)) + (q5 - q4))), .second, .unset] [])) rfl (hb hby at_113) (by decide) (by decide)
    obtain ⟨b45, g45⟩ : ∃ z, z = h43.size := ⟨_, rfl⟩
    rw [← g45] at A45 D45 st45
    have F_writeQueues_b45 : Fld Z h45 b45 "com/example/pulq/pulq/client/TopicStatus" "writeQueues" "I" (.int (0 : Int32)) := D45 (Or.inr (hw _ (List.mem_of_getElem? (i := 15) rfl))) (ty := .int) (by decide)
    have F_readQueues_b45 : Fld Z h45 b45 "com/example/pulq/pulq/client/TopicStatus" "readQueues" "I" (.int (0 : Int32)) := D45 (Or.inr (hw _ (List.mem_of_getElem? (i := 17) rfl))) (ty := .int) (by decide)
    have F_minOffsets_b45 : Fld Z h45 b45 "com/example/pulq/pulq/client/TopicStatus" "minOffsets" "[J" .null := D45 (Or.inr (hw _ (List.mem_of_getElem? (i := 28) rfl))) (ty := (.array .long)) (by decide)
    have F_maxOffsets_b45 : Fld Z h45 b45 "com/example/pulq/pulq/client/TopicStatus" "maxOffsets" "[J" .null := D45 (Or.inr (hw _ (List.mem_of_getElem? (i := 30) rfl))) (ty := (.array .long)) (by decide)
    have g_b45 : n0 ≤ b45 := Nat.le_trans y4 (Nat.le_of_eq g45.symm)
    have z45 : n0 ≤ h45.size := Nat.le_trans y4 E45.1
    have sg46 : ∀ t₀, Steps p.tables e below (T45.setTop (mkF m 125 #[.val (.int p1), .val (.long q2), .second, .val (.long q3), .second, .val (.long q4), .second, .val (.long q5), .second, .val (.long q6), .second, .val (.int (p1 &&& (3 : Int32))), .val (.int (((p1.toUInt32 >>> ((2 : Int32) &&& 31).toUInt32).toInt32) &&& (3 : Int32))), .val (.int (2 : Int32)), .val (.ref b32), .val (.ref b34), .val (.long (((0 : Int64) + (q3 - q2)) + (q5 - q4))), .second, .unset] [(.ref b34), (.ref b32), (.int (((p1.toUInt32 >>> ((2 : Int32) &&& 31).toUInt32).toInt32) &&& (3 : Int32))), (.int (p1 &&& (3 : Int32))), (.ref b45), (.ref b45)])) t₀ → Steps p.tables e below (T45.setTop (mkF m 116 #[.val (.int p1), .val (.long q2), .second, .val (.long q3), .second, .val (.long q4), .second, .val (.long q5), .second, .val (.long q6), .second, .val (.int (p1 &&& (3 : Int32))), .val (.int (((p1.toUInt32 >>> ((2 : Int32) &&& 31).toUInt32).toInt32) &&& (3 : Int32))), .val (.int (2 : Int32)), .val (.ref b32), .val (.ref b34), .val (.long (((0 : Int64) + (q3 - q2)) + (q5 - q4))), .second, .unset] [(.ref b45)])) t₀ := by
      intro t₀ kt
      show Steps p.tables e below (T45.setTop (mkF m 116 #[.val (.int p1), .val (.long q2), .second, .val (.long q3), .second, .val (.long q4), .second, .val (.long q5), .second, .val (.long q6), .second, .val (.int (p1 &&& (3 : Int32))), .val (.int (((p1.toUInt32 >>> ((2 : Int32) &&& 31).toUInt32).toInt32) &&& (3 : Int32))), .val (.int (2 : Int32)), .val (.ref b32), .val (.ref b34), .val (.long (((0 : Int64) + (q3 - q2)) + (q5 - q4))), .second, .unset] [(.ref b45)])) _
      refine XS.dup X45.here hx rfl (hb hby at_116) rfl rfl ?_
      show Steps p.tables e below (T45.setTop (mkF m 117 #[.val (.int p1), .val (.long q2), .second, .val (.long q3), .second, .val (.long q4), .second, .val (.long q5), .second, .val (.long q6), .second, .val (.int (p1 &&& (3 : Int32))), .val (.int (((p1.toUInt32 >>> ((2 : Int32) &&& 31).toUInt32).toInt32) &&& (3 : Int32))), .val (.int (2 : Int32)), .val (.ref b32), .val (.ref b34), .val (.long (((0 : Int64) + (q3 - q2)) + (q5 - q4))), .second, .unset] [(.ref b45), (.ref b45)])) _
      refine XS.iload X45.here hx rfl (hb hby at_117) rfl ?_
      show Steps p.tables e below (T45.setTop (mkF m 119 #[.val (.int p1), .val (.long q2), .second, .val (.long q3), .second, .val (.long q4), .second, .val (.long q5), .second, .val (.long q6), .second, .val (.int (p1 &&& (3 : Int32))), .val (.int (((p1.toUInt32 >>> ((2 : Int32) &&& 31).toUInt32).toInt32) &&& (3 : Int32))), .val (.int (2 : Int32)), .val (.ref b32), .val (.ref b34), .val (.long (((0 : Int64) + (q3 - q2)) + (q5 - q4))), .second, .unset] [(.int (p1 &&& (3 : Int32))), (.ref b45), (.ref b45)])) _
      refine XS.iload X45.here hx rfl (hb hby at_119) rfl ?_
      show Steps p.tables e below (T45.setTop (mkF m 121 #[.val (.int p1), .val (.long q2), .second, .val (.long q3), .second, .val (.long q4), .second, .val (.long q5), .second, .val (.long q6), .second, .val (.int (p1 &&& (3 : Int32))), .val (.int (((p1.toUInt32 >>> ((2 : Int32) &&& 31).toUInt32).toInt32) &&& (3 : Int32))), .val (.int (2 : Int32)), .val (.ref b32), .val (.ref b34), .val (.long (((0 : Int64) + (q3 - q2)) + (q5 - q4))), .second, .unset] [(.int (((p1.toUInt32 >>> ((2 : Int32) &&& 31).toUInt32).toInt32) &&& (3 : Int32))), (.int (p1 &&& (3 : Int32))), (.ref b45), (.ref b45)])) _
      refine XS.aload X45.here hx rfl (hb hby at_121) rfl rfl ?_
      show Steps p.tables e below (T45.setTop (mkF m 123 #[.val (.int p1), .val (.long q2), .second, .val (.long q3), .second, .val (.long q4), .second, .val (.long q5), .second, .val (.long q6), .second, .val (.int (p1 &&& (3 : Int32))), .val (.int (((p1.toUInt32 >>> ((2 : Int32) &&& 31).toUInt32).toInt32) &&& (3 : Int32))), .val (.int (2 : Int32)), .val (.ref b32), .val (.ref b34), .val (.long (((0 : Int64) + (q3 - q2)) + (q5 - q4))), .second, .unset] [(.ref b32), (.int (((p1.toUInt32 >>> ((2 : Int32) &&& 31).toUInt32).toInt32) &&& (3 : Int32))), (.int (p1 &&& (3 : Int32))), (.ref b45), (.ref b45)])) _
      refine XS.aload X45.here hx rfl (hb hby at_123) rfl rfl ?_
      exact kt
    have ne1 : b32 ≠ b45 := Nat.ne_of_lt (by rw [g45]; exact R1_4.lt)
    have ne2 : b34 ≠ b45 := Nat.ne_of_lt (by rw [g45]; exact R2_4.lt)
    obtain ⟨_, _, ⟨T47, L47, k47, n47⟩, -, X47, ⟨Lc47, hQ47, l47, y47, z47⟩, st47⟩ := X45.specialBack hx (y := (⟨"com/example/pulq/pulq/client/TopicStatus", "<init>", "(II[J[J)V"⟩ : MethodName)) rfl hown (mvT hZ (hw _ (List.mem_of_getElem? (i := 8) rfl))) (mvT hZ (hw _ (List.mem_of_getElem? (i := 9) rfl))) (mvT hZ (hw _ (List.mem_of_getElem? (i := 10) rfl))) (by decide) (backOf (W := 1) (rm2 l Z a0 hw [] b45 (p1 &&& (3 : Int32)) (((p1.toUInt32 >>> ((2 : Int32) &&& 31).toUInt32).toInt32) &&& (3 : Int32)) b32 b34 2 (fun i => if i = 1 then q4 else (fun i => if i = 0 then q2 else (fun _ => (0 : Int64)) i) i) (fun i => if i = 1 then q5 else (fun i => if i = 0 then q3 else (fun _ => (0 : Int64)) i) i) h45 n0 z45 (by decide) A45 g_b45 ne1 ne2 F_writeQueues_b45 F_readQueues_b45 F_minOffsets_b45 F_maxOffsets_b45 (own_A_ext P1_4 E45) (own_A_ext P2_4 E45) (R1_4.ext E45) (R2_4.ext E45)) hZ (hw _ (List.mem_of_getElem? (i := 10) rfl)) (hw _ (List.mem_of_getElem? (i := 7) rfl)) (by decide) (by decide)) (g := (mkF m 125 #[.val (.int p1), .val (.long q2), .second, .val (.long q3), .second, .val (.long q4), .second, .val (.long q5), .second, .val (.long q6), .second, .val (.int (p1 &&& (3 : Int32))), .val (.int (((p1.toUInt32 >>> ((2 : Int32) &&& 31).toUInt32).toInt32) &&& (3 : Int32))), .val (.int (2 : Int32)), .val (.ref b32), .val (.ref b34), .val (.long (((0 : Int64) + (q3 - q2)) + (q5 - q4))), .second, .unset] [(.ref b34), (.ref b32), (.int (((p1.toUInt32 >>> ((2 : Int32) &&& 31).toUInt32).toInt32) &&& (3 : Int32))), (.int (p1 &&& (3 : Int32))), (.ref b45), (.ref b45)])) rfl (by rw [hml]; rfl) (Steps.refl _) (a := b45) (argsL := [(.int (p1 &&& (3 : Int32))), (.int (((p1.toUInt32 >>> ((2 : Int32) &&& 31).toUInt32).toInt32) &&& (3 : Int32))), (.ref b32), (.ref b34)]) (rest := [(.ref b45)]) (lenOf pd_3 rfl) rfl (by show 2 * 0 + _ ≤ _; exact Nat.le_of_eq rfl) (hb hby at_125) (fun _ _ => ⟨rfl, e45, (by decide : 3 + 2 ≤ _), (by decide : 8 + 6 ≤ _)⟩)
    dsimp only [Pt.U, Pt.locs, Pt.cells, Pt.slots] at X47 l47 y47 z47 st47 hQ47
    subst l47 y47 z47
    obtain ⟨rfl, N47q, zz, EE, u1, u2, FM, FX, AM, AX⟩ := hQ47
    have N47 := Fr.app N43 N47q
    have sg48 : ∀ t₀, Steps p.tables e below (T47.setTop (mkF m 132 #[.val (.int p1), .val (.long q2), .second, .val (.long q3), .second, .val (.long q4), .second, .val (.long q5), .second, .val (.long q6), .second, .val (.int (p1 &&& (3 : Int32))), .val (.int (((p1.toUInt32 >>> ((2 : Int32) &&& 31).toUInt32).toInt32) &&& (3 : Int32))), .val (.int (2 : Int32)), .val (.ref b32), .val (.ref b34), .val (.long (((0 : Int64) + (q3 - q2)) + (q5 - q4))), .second, .val (.ref b45)] [(.ref b45)])) t₀ → Steps p.tables e below (T47.setTop (mkF m 128 #[.val (.int p1), .val (.long q2), .second, .val (.long q3), .second, .val (.long q4), .second, .val (.long q5), .second, .val (.long q6), .second, .val (.int (p1 &&& (3 : Int32))), .val (.int (((p1.toUInt32 >>> ((2 : Int32) &&& 31).toUInt32).toInt32) &&& (3 : Int32))), .val (.int (2 : Int32)), .val (.ref b32), .val (.ref b34), .val (.long (((0 : Int64) + (q3 - q2)) + (q5 - q4))), .second, .unset] [(.ref b45)])) t₀ := by
      intro t₀ kt
      show Steps p.tables e below (T47.setTop (mkF m 128 #[.val (.int p1), .val (.long q2), .second, .val (.long q3), .second, .val (.long q4), .second, .val (.long q5), .second, .val (.long q6), .second, .val (.int (p1 &&& (3 : Int32))), .val (.int (((p1.toUInt32 >>> ((2 : Int32) &&& 31).toUInt32).toInt32) &&& (3 : Int32))), .val (.int (2 : Int32)), .val (.ref b32), .val (.ref b34), .val (.long (((0 : Int64) + (q3 - q2)) + (q5 - q4))), .second, .unset] [(.ref b45)])) _
      refine XS.astore X47.here hx rfl (hb hby at_128) rfl rfl (l' := #[.val (.int p1), .val (.long q2), .second, .val (.long q3), .second, .val (.long q4), .second, .val (.long q5), .second, .val (.long q6), .second, .val (.int (p1 &&& (3 : Int32))), .val (.int (((p1.toUInt32 >>> ((2 : Int32) &&& 31).toUInt32).toInt32) &&& (3 : Int32))), .val (.int (2 : Int32)), .val (.ref b32), .val (.ref b34), .val (.long (((0 : Int64) + (q3 - q2)) + (q5 - q4))), .second, .val (.ref b45)]) rfl ?_
      show Steps p.tables e below (T47.setTop (mkF m 130 #[.val (.int p1), .val (.long q2), .second, .val (.long q3), .second, .val (.long q4), .second, .val (.long q5), .second, .val (.long q6), .second, .val (.int (p1 &&& (3 : Int32))), .val (.int (((p1.toUInt32 >>> ((2 : Int32) &&& 31).toUInt32).toInt32) &&& (3 : Int32))), .val (.int (2 : Int32)), .val (.ref b32), .val (.ref b34), .val (.long (((0 : Int64) + (q3 - q2)) + (q5 - q4))), .second, .val (.ref b45)] [])) _
      refine XS.aload X47.here hx rfl (hb hby at_130) rfl rfl ?_
      exact kt
    obtain ⟨cq49, kq49, q49a, q49b, q49c⟩ := isOf hZ rfl EE
    obtain ⟨_, _, ⟨T49, L49, k49, n49⟩, -, X49, ⟨Lc49, hQ49, l49, y49, z49⟩, st49⟩ := X47.virtualBack hx (y := (⟨"com/example/pulq/pulq/client/TopicStatus", "getMessageCount", "()J"⟩ : MethodName)) (z := (⟨"com/example/pulq/pulq/client/TopicStatus", "getMessageCount", "()J"⟩ : MethodName)) hown (mvT hZ (hw _ (List.mem_of_getElem? (i := 31) rfl))) (mvT hZ (hw _ (List.mem_of_getElem? (i := 32) rfl))) (notFace_of_selects (args := #[]) (mvT hZ (hw _ (List.mem_of_getElem? (i := 34) rfl)))) (mvT hZ (hw _ (List.mem_of_getElem? (i := 34) rfl))) (mvT hZ (hw _ (List.mem_of_getElem? (i := 33) rfl))) (by decide) (backOf (W := 0) (rm4 l Z a0 hw [] b45 u1 u2 2 (fun i => if i = 1 then q4 else (fun i => if i = 0 then q2 else (fun _ => (0 : Int64)) i) i) (fun i => if i = 1 then q5 else (fun i => if i = 0 then q3 else (fun _ => (0 : Int64)) i) i) T47.heap n0 zz (by decide) FM FX AM AX) hZ (hw _ (List.mem_of_getElem? (i := 35) rfl)) (hw _ (List.mem_of_getElem? (i := 7) rfl)) (by decide) (by decide)) q49a q49c (g := (mkF m 132 #[.val (.int p1), .val (.long q2), .second, .val (.long q3), .second, .val (.long q4), .second, .val (.long q5), .second, .val (.long q6), .second, .val (.int (p1 &&& (3 : Int32))), .val (.int (((p1.toUInt32 >>> ((2 : Int32) &&& 31).toUInt32).toInt32) &&& (3 : Int32))), .val (.int (2 : Int32)), .val (.ref b32), .val (.ref b34), .val (.long (((0 : Int64) + (q3 - q2)) + (q5 - q4))), .second, .val (.ref b45)] [(.ref b45)])) rfl (by rw [hml]; rfl) (Steps.refl _) (argsL := []) (rest := []) (lenOf pd_0 rfl) rfl (by show 2 * 0 + _ ≤ _; exact Nat.le_of_eq rfl) (hb hby at_132) (fun _ _ => ⟨rfl, rfl, (by decide : 5 + 0 ≤ _), (by decide : 14 + 0 ≤ _)⟩)
    dsimp only [Pt.U, Pt.locs, Pt.cells, Pt.slots] at X49 l49 y49 z49 st49 hQ49
    subst l49 y49 z49
    obtain ⟨rfl, N49q, hh49⟩ := hQ49
    have N49 := Fr.app N47 N49q
    have hE : own_s (fun i => if i = 1 then q4 else (fun i => if i = 0 then q2 else (fun _ => (0 : Int64)) i) i) (fun i => if i = 1 then q5 else (fun i => if i = 0 then q3 else (fun _ => (0 : Int64)) i) i) 2 0 0 = (((0 : Int64) + (q3 - q2)) + (q5 - q4)) := by first | rfl | simp [own_s]
    have sg50 : ∀ t₀, Steps p.tables e below (T49.setTop (mkF m 146 #[.val (.int p1), .val (.long q2), .second, .val (.long q3), .second, .val (.long q4), .second, .val (.long q5), .second, .val (.long q6), .second, .val (.int (p1 &&& (3 : Int32))), .val (.int (((p1.toUInt32 >>> ((2 : Int32) &&& 31).toUInt32).toInt32) &&& (3 : Int32))), .val (.int (2 : Int32)), .val (.ref b32), .val (.ref b34), .val (.long (((0 : Int64) + (q3 - q2)) + (q5 - q4))), .second, .val (.ref b45)] [(.int (1 : Int32))])) t₀ → Steps p.tables e below (T49.setTop (mkF m 135 #[.val (.int p1), .val (.long q2), .second, .val (.long q3), .second, .val (.long q4), .second, .val (.long q5), .second, .val (.long q6), .second, .val (.int (p1 &&& (3 : Int32))), .val (.int (((p1.toUInt32 >>> ((2 : Int32) &&& 31).toUInt32).toInt32) &&& (3 : Int32))), .val (.int (2 : Int32)), .val (.ref b32), .val (.ref b34), .val (.long (((0 : Int64) + (q3 - q2)) + (q5 - q4))), .second, .val (.ref b45)] [(.long (own_s (fun i => if i = 1 then q4 else (fun i => if i = 0 then q2 else (fun _ => (0 : Int64)) i) i) (fun i => if i = 1 then q5 else (fun i => if i = 0 then q3 else (fun _ => (0 : Int64)) i) i) 2 0 0))])) t₀ := by
      intro t₀ kt
      show Steps p.tables e below (T49.setTop (mkF m 135 #[.val (.int p1), .val (.long q2), .second, .val (.long q3), .second, .val (.long q4), .second, .val (.long q5), .second, .val (.long q6), .second, .val (.int (p1 &&& (3 : Int32))), .val (.int (((p1.toUInt32 >>> ((2 : Int32) &&& 31).toUInt32).toInt32) &&& (3 : Int32))), .val (.int (2 : Int32)), .val (.ref b32), .val (.ref b34), .val (.long (((0 : Int64) + (q3 - q2)) + (q5 - q4))), .second, .val (.ref b45)] [(.long (own_s (fun i => if i = 1 then q4 else (fun i => if i = 0 then q2 else (fun _ => (0 : Int64)) i) i) (fun i => if i = 1 then q5 else (fun i => if i = 0 then q3 else (fun _ => (0 : Int64)) i) i) 2 0 0))])) _
      refine XS.lload X49.here hx rfl (hb hby at_135) rfl ?_
      show Steps p.tables e below (T49.setTop (mkF m 137 #[.val (.int p1), .val (.long q2), .second, .val (.long q3), .second, .val (.long q4), .second, .val (.long q5), .second, .val (.long q6), .second, .val (.int (p1 &&& (3 : Int32))), .val (.int (((p1.toUInt32 >>> ((2 : Int32) &&& 31).toUInt32).toInt32) &&& (3 : Int32))), .val (.int (2 : Int32)), .val (.ref b32), .val (.ref b34), .val (.long (((0 : Int64) + (q3 - q2)) + (q5 - q4))), .second, .val (.ref b45)] [(.long (((0 : Int64) + (q3 - q2)) + (q5 - q4))), (.long (own_s (fun i => if i = 1 then q4 else (fun i => if i = 0 then q2 else (fun _ => (0 : Int64)) i) i) (fun i => if i = 1 then q5 else (fun i => if i = 0 then q3 else (fun _ => (0 : Int64)) i) i) 2 0 0))])) _
      refine XS.lcmp X49.here hx rfl (hb hby at_137) rfl ?_
      show Steps p.tables e below (T49.setTop (mkF m 138 #[.val (.int p1), .val (.long q2), .second, .val (.long q3), .second, .val (.long q4), .second, .val (.long q5), .second, .val (.long q6), .second, .val (.int (p1 &&& (3 : Int32))), .val (.int (((p1.toUInt32 >>> ((2 : Int32) &&& 31).toUInt32).toInt32) &&& (3 : Int32))), .val (.int (2 : Int32)), .val (.ref b32), .val (.ref b34), .val (.long (((0 : Int64) + (q3 - q2)) + (q5 - q4))), .second, .val (.ref b45)] [(.int (lcmpW (own_s (fun i => if i = 1 then q4 else (fun i => if i = 0 then q2 else (fun _ => (0 : Int64)) i) i) (fun i => if i = 1 then q5 else (fun i => if i = 0 then q3 else (fun _ => (0 : Int64)) i) i) 2 0 0) (((0 : Int64) + (q3 - q2)) + (q5 - q4))))])) _
      refine XS.ifNo X49.here hx rfl (hb hby at_138) rfl ((if0 _ _).trans (teq ((lw_eq _ _).mpr hE)).2) ?_
      show Steps p.tables e below (T49.setTop (mkF m 141 #[.val (.int p1), .val (.long q2), .second, .val (.long q3), .second, .val (.long q4), .second, .val (.long q5), .second, .val (.long q6), .second, .val (.int (p1 &&& (3 : Int32))), .val (.int (((p1.toUInt32 >>> ((2 : Int32) &&& 31).toUInt32).toInt32) &&& (3 : Int32))), .val (.int (2 : Int32)), .val (.ref b32), .val (.ref b34), .val (.long (((0 : Int64) + (q3 - q2)) + (q5 - q4))), .second, .val (.ref b45)] [])) _
      refine XS.iconst X49.here hx rfl (hb hby at_141) ?_
      show Steps p.tables e below (T49.setTop (mkF m 142 #[.val (.int p1), .val (.long q2), .second, .val (.long q3), .second, .val (.long q4), .second, .val (.long q5), .second, .val (.long q6), .second, .val (.int (p1 &&& (3 : Int32))), .val (.int (((p1.toUInt32 >>> ((2 : Int32) &&& 31).toUInt32).toInt32) &&& (3 : Int32))), .val (.int (2 : Int32)), .val (.ref b32), .val (.ref b34), .val (.long (((0 : Int64) + (q3 - q2)) + (q5 - q4))), .second, .val (.ref b45)] [(.int (1 : Int32))])) _
      refine XS.goto X49.here hx rfl (pc0 := 142) (pc' := 146) rfl (hb hby at_142) (by decide) (by decide) ?_
      exact kt
    obtain ⟨fs, hr, hrun, hended, hW, hsame⟩ := X49.leave (v := some (.int (1 : Int32))) (fun h => by rw [Bd.returns] at h; cases h)
    refine ⟨_, _, pre0 _ ?_, hrun, hended, _, _, rfl, ?_, ⟨_, rfl⟩, hW, hsame.mono (by decide) (by decide)⟩
    · exact sg1 _ (st2 _ (sg31 _ (st32 _ (sg33 _ (st34 _ (sg35 _ (sg36 _ (st37 _ (sg38 _ (st39 _ (sg40 _ (st41 _ (sg42 _ (st43 _ (sg44 _ (st45 _ (sg46 _ (st47.trans (sg48 _ (st49.trans (sg50 _ ((retN X49 hx (t := .boolean) Bd.returns (by simp) (hb hby at_146) hr)))))))))))))))))))))))
    · show Q0 Z p1 q2 q3 q4 q5 q6 h0 n0 _ T49.heap _
      rw [hh49]
      exact ⟨rfl, N49⟩
  · have sg51 : ∀ t₀, Steps p.tables e below (T2.setTop (mkF m 23 #[.val (.int p1), .val (.long q2), .second, .val (.long q3), .second, .val (.long q4), .second, .val (.long q5), .second, .val (.long q6), .second, .val (.int (p1 &&& (3 : Int32))), .val (.int (((p1.toUInt32 >>> ((2 : Int32) &&& 31).toUInt32).toInt32) &&& (3 : Int32))), .val (.int (3 : Int32)), .unset, .unset, .unset, .unset, .unset] [(.int (3 : Int32))])) t₀ → Steps p.tables e below (T2.setTop (mkF m 19 #[.val (.int p1), .val (.long q2), .second, .val (.long q3), .second, .val (.long q4), .second, .val (.long q5), .second, .val (.long q6), .second, .val (.int (p1 &&& (3 : Int32))), .val (.int (((p1.toUInt32 >>> ((2 : Int32) &&& 31).toUInt32).toInt32) &&& (3 : Int32))), .unset, .unset, .unset, .unset, .unset, .unset] [(.int (3 : Int32))])) t₀ := by
      intro t₀ kt
      show Steps p.tables e below (T2.setTop (mkF m 19 #[.val (.int p1), .val (.long q2), .second, .val (.long q3), .second, .val (.long q4), .second, .val (.long q5), .second, .val (.long q6), .second, .val (.int (p1 &&& (3 : Int32))), .val (.int (((p1.toUInt32 >>> ((2 : Int32) &&& 31).toUInt32).toInt32) &&& (3 : Int32))), .unset, .unset, .unset, .unset, .unset, .unset] [(.int (3 : Int32))])) _
      refine XS.istore X2.here hx rfl (hb hby at_19) rfl (l' := #[.val (.int p1), .val (.long q2), .second, .val (.long q3), .second, .val (.long q4), .second, .val (.long q5), .second, .val (.long q6), .second, .val (.int (p1 &&& (3 : Int32))), .val (.int (((p1.toUInt32 >>> ((2 : Int32) &&& 31).toUInt32).toInt32) &&& (3 : Int32))), .val (.int (3 : Int32)), .unset, .unset, .unset, .unset, .unset]) rfl ?_
      show Steps p.tables e below (T2.setTop (mkF m 21 #[.val (.int p1), .val (.long q2), .second, .val (.long q3), .second, .val (.long q4), .second, .val (.long q5), .second, .val (.long q6), .second, .val (.int (p1 &&& (3 : Int32))), .val (.int (((p1.toUInt32 >>> ((2 : Int32) &&& 31).toUInt32).toInt32) &&& (3 : Int32))), .val (.int (3 : Int32)), .unset, .unset, .unset, .unset, .unset] [])) _
      refine XS.iload X2.here hx rfl (hb hby at_21) rfl ?_
      exact kt
    obtain ⟨T52, h52, k52, X52, e52, E52, A52, B52, st52⟩ := newPE X2 hx hZ (hw _ (List.mem_of_getElem? (i := 4) rfl)) hh2 (g := (mkF m 23 #[.val (.int p1), .val (.long q2), .second, .val (.long q3), .second, .val (.long q4), .second, .val (.long q5), .second, .val (.long q6), .second, .val (.int (p1 &&& (3 : Int32))), .val (.int (((p1.toUInt32 >>> ((2 : Int32) &&& 31).toUInt32).toInt32) &&& (3 : Int32))), .val (.int (3 : Int32)), .unset, .unset, .unset, .unset, .unset] [(.int (3 : Int32))])) rfl (hb hby at_23) rfl (by decide) (cap := 3) (by decide) (by decide) (by decide) (by decide) (ad := "[J") (by decide +kernel)
    obtain ⟨b52, g52⟩ : ∃ z, z = h0.size := ⟨_, rfl⟩
    rw [← g52] at A52 st52 B52
    have V52 := Arv.new A52 (by decide)
    have g_b52 : n0 ≤ b52 := Nat.le_trans Z0 (Nat.le_of_eq g52.symm)
    have z52 : n0 ≤ h52.size := Nat.le_trans Z0 E52.1
    have sg53 : ∀ t₀, Steps p.tables e below (T52.setTop (mkF m 29 #[.val (.int p1), .val (.long q2), .second, .val (.long q3), .second, .val (.long q4), .second, .val (.long q5), .second, .val (.long q6), .second, .val (.int (p1 &&& (3 : Int32))), .val (.int (((p1.toUInt32 >>> ((2 : Int32) &&& 31).toUInt32).toInt32) &&& (3 : Int32))), .val (.int (3 : Int32)), .val (.ref b52), .unset, .unset, .unset, .unset] [(.int (3 : Int32))])) t₀ → Steps p.tables e below (T52.setTop (mkF m 25 #[.val (.int p1), .val (.long q2), .second, .val (.long q3), .second, .val (.long q4), .second, .val (.long q5), .second, .val (.long q6), .second, .val (.int (p1 &&& (3 : Int32))), .val (.int (((p1.toUInt32 >>> ((2 : Int32) &&& 31).toUInt32).toInt32) &&& (3 : Int32))), .val (.int (3 : Int32)), .unset, .unset, .unset, .unset, .unset] [(.ref b52)])) t₀ := by
      intro t₀ kt
      show Steps p.tables e below (T52.setTop (mkF m 25 #[.val (.int p1), .val (.long q2), .second, .val (.long q3), .second, .val (.long q4), .second, .val (.long q5), .second, .val (.long q6), .second, .val (.int (p1 &&& (3 : Int32))), .val (.int (((p1.toUInt32 >>> ((2 : Int32) &&& 31).toUInt32).toInt32) &&& (3 : Int32))), .val (.int (3 : Int32)), .unset, .unset, .unset, .unset, .unset] [(.ref b52)])) _
      refine XS.astore X52.here hx rfl (hb hby at_25) rfl rfl (l' := #[.val (.int p1), .val (.long q2), .second, .val (.long q3), .second, .val (.long q4), .second, .val (.long q5), .second, .val (.long q6), .second, .val (.int (p1 &&& (3 : Int32))), .val (.int (((p1.toUInt32 >>> ((2 : Int32) &&& 31).toUInt32).toInt32) &&& (3 : Int32))), .val (.int (3 : Int32)), .val (.ref b52), .unset, .unset, .unset, .unset]) rfl ?_
      show Steps p.tables e below (T52.setTop (mkF m 27 #[.val (.int p1), .val (.long q2), .second, .val (.long q3), .second, .val (.long q4), .second, .val (.long q5), .second, .val (.long q6), .second, .val (.int (p1 &&& (3 : Int32))), .val (.int (((p1.toUInt32 >>> ((2 : Int32) &&& 31).toUInt32).toInt32) &&& (3 : Int32))), .val (.int (3 : Int32)), .val (.ref b52), .unset, .unset, .unset, .unset] [])) _
      refine XS.iload X52.here hx rfl (hb hby at_27) rfl ?_
      exact kt
    obtain ⟨T54, h54, k54, X54, e54, E54, A54, B54, st54⟩ := newPE X52 hx hZ (hw _ (List.mem_of_getElem? (i := 4) rfl)) e52 (g := (mkF m 29 #[.val (.int p1), .val (.long q2), .second, .val (.long q3), .second, .val (.long q4), .second, .val (.long q5), .second, .val (.long q6), .second, .val (.int (p1 &&& (3 : Int32))), .val (.int (((p1.toUInt32 >>> ((2 : Int32) &&& 31).toUInt32).toInt32) &&& (3 : Int32))), .val (.int (3 : Int32)), .val (.ref b52), .unset, .unset, .unset, .unset] [(.int (3 : Int32))])) rfl (hb hby at_29) rfl (by decide) (cap := 3) (by decide) (by decide) (by decide) (by decide) (ad := "[J") (by decide +kernel)
    obtain ⟨b54, g54⟩ : ∃ z, z = h52.size := ⟨_, rfl⟩
    rw [← g54] at A54 st54 B54
    have V54 := Arv.new A54 (by decide)
    have g_b54 : n0 ≤ b54 := Nat.le_trans z52 (Nat.le_of_eq g54.symm)
    have z54 : n0 ≤ h54.size := Nat.le_trans z52 E54.1
    have P1_0 : own_A Z h54 b52 3 .long (fun _ => .long (0 : Int64)) := own_A_ext (own_A_new V52 (by decide)) E54
    have P2_0 : own_A Z h54 b54 3 .long (fun _ => .long (0 : Int64)) := own_A_new V54 (by decide)
    have R1_0 := B52.ext E54
    have R2_0 := B54
    have ne12 : b52 ≠ b54 := Nat.ne_of_lt (by rw [g54]; exact B52.lt)
    have y0 := z54
    have sg55 : ∀ t₀, Steps p.tables e below (T54.setTop (mkF m 36 #[.val (.int p1), .val (.long q2), .second, .val (.long q3), .second, .val (.long q4), .second, .val (.long q5), .second, .val (.long q6), .second, .val (.int (p1 &&& (3 : Int32))), .val (.int (((p1.toUInt32 >>> ((2 : Int32) &&& 31).toUInt32).toInt32) &&& (3 : Int32))), .val (.int (3 : Int32)), .val (.ref b52), .val (.ref b54), .val (.long (0 : Int64)), .second, .unset] [])) t₀ → Steps p.tables e below (T54.setTop (mkF m 31 #[.val (.int p1), .val (.long q2), .second, .val (.long q3), .second, .val (.long q4), .second, .val (.long q5), .second, .val (.long q6), .second, .val (.int (p1 &&& (3 : Int32))), .val (.int (((p1.toUInt32 >>> ((2 : Int32) &&& 31).toUInt32).toInt32) &&& (3 : Int32))), .val (.int (3 : Int32)), .val (.ref b52), .unset, .unset, .unset, .unset] [(.ref b54)])) t₀ := by
      intro t₀ kt
      show Steps p.tables e below (T54.setTop (mkF m 31 #[.val (.int p1), .val (.long q2), .second, .val (.long q3), .second, .val (.long q4), .second, .val (.long q5), .second, .val (.long q6), .second, .val (.int (p1 &&& (3 : Int32))), .val (.int (((p1.toUInt32 >>> ((2 : Int32) &&& 31).toUInt32).toInt32) &&& (3 : Int32))), .val (.int (3 : Int32)), .val (.ref b52), .unset, .unset, .unset, .unset] [(.ref b54)])) _
      refine XS.astore X54.here hx rfl (hb hby at_31) rfl rfl (l' := #[.val (.int p1), .val (.long q2), .second, .val (.long q3), .second, .val (.long q4), .second, .val (.long q5), .second, .val (.long q6), .second, .val (.int (p1 &&& (3 : Int32))), .val (.int (((p1.toUInt32 >>> ((2 : Int32) &&& 31).toUInt32).toInt32) &&& (3 : Int32))), .val (.int (3 : Int32)), .val (.ref b52), .val (.ref b54), .unset, .unset, .unset]) rfl ?_
      show Steps p.tables e below (T54.setTop (mkF m 33 #[.val (.int p1), .val (.long q2), .second, .val (.long q3), .second, .val (.long q4), .second, .val (.long q5), .second, .val (.long q6), .second, .val (.int (p1 &&& (3 : Int32))), .val (.int (((p1.toUInt32 >>> ((2 : Int32) &&& 31).toUInt32).toInt32) &&& (3 : Int32))), .val (.int (3 : Int32)), .val (.ref b52), .val (.ref b54), .unset, .unset, .unset] [])) _
      refine XS.lconst X54.here hx rfl (hb hby at_33) ?_
      show Steps p.tables e below (T54.setTop (mkF m 34 #[.val (.int p1), .val (.long q2), .second, .val (.long q3), .second, .val (.long q4), .second, .val (.long q5), .second, .val (.long q6), .second, .val (.int (p1 &&& (3 : Int32))), .val (.int (((p1.toUInt32 >>> ((2 : Int32) &&& 31).toUInt32).toInt32) &&& (3 : Int32))), .val (.int (3 : Int32)), .val (.ref b52), .val (.ref b54), .unset, .unset, .unset] [(.long (0 : Int64))])) _
      refine XS.lstore X54.here hx rfl (hb hby at_34) rfl (l' := #[.val (.int p1), .val (.long q2), .second, .val (.long q3), .second, .val (.long q4), .second, .val (.long q5), .second, .val (.long q6), .second, .val (.int (p1 &&& (3 : Int32))), .val (.int (((p1.toUInt32 >>> ((2 : Int32) &&& 31).toUInt32).toInt32) &&& (3 : Int32))), .val (.int (3 : Int32)), .val (.ref b52), .val (.ref b54), .val (.long (0 : Int64)), .second, .unset]) rfl ?_
      exact kt
    have sg56 : ∀ t₀, Steps p.tables e below (T54.setTop (mkF m 45 #[.val (.int p1), .val (.long q2), .second, .val (.long q3), .second, .val (.long q4), .second, .val (.long q5), .second, .val (.long q6), .second, .val (.int (p1 &&& (3 : Int32))), .val (.int (((p1.toUInt32 >>> ((2 : Int32) &&& 31).toUInt32).toInt32) &&& (3 : Int32))), .val (.int (3 : Int32)), .val (.ref b52), .val (.ref b54), .val (.long (0 : Int64)), .second, .unset] [(.long q2), (.int (0 : Int32)), (.ref b52)])) t₀ → Steps p.tables e below (T54.setTop (mkF m 36 #[.val (.int p1), .val (.long q2), .second, .val (.long q3), .second, .val (.long q4), .second, .val (.long q5), .second, .val (.long q6), .second, .val (.int (p1 &&& (3 : Int32))), .val (.int (((p1.toUInt32 >>> ((2 : Int32) &&& 31).toUInt32).toInt32) &&& (3 : Int32))), .val (.int (3 : Int32)), .val (.ref b52), .val (.ref b54), .val (.long (0 : Int64)), .second, .unset] [])) t₀ := by
      intro t₀ kt
      show Steps p.tables e below (T54.setTop (mkF m 36 #[.val (.int p1), .val (.long q2), .second, .val (.long q3), .second, .val (.long q4), .second, .val (.long q5), .second, .val (.long q6), .second, .val (.int (p1 &&& (3 : Int32))), .val (.int (((p1.toUInt32 >>> ((2 : Int32) &&& 31).toUInt32).toInt32) &&& (3 : Int32))), .val (.int (3 : Int32)), .val (.ref b52), .val (.ref b54), .val (.long (0 : Int64)), .second, .unset] [])) _
      refine XS.iload X54.here hx rfl (hb hby at_36) rfl ?_
      show Steps p.tables e below (T54.setTop (mkF m 38 #[.val (.int p1), .val (.long q2), .second, .val (.long q3), .second, .val (.long q4), .second, .val (.long q5), .second, .val (.long q6), .second, .val (.int (p1 &&& (3 : Int32))), .val (.int (((p1.toUInt32 >>> ((2 : Int32) &&& 31).toUInt32).toInt32) &&& (3 : Int32))), .val (.int (3 : Int32)), .val (.ref b52), .val (.ref b54), .val (.long (0 : Int64)), .second, .unset] [(.int (3 : Int32))])) _
      refine XS.ifNo X54.here hx rfl (hb hby at_38) rfl ((if0 _ _).trans (tlt (by decide : (0 : Int32) < (3 : Int32))).2.2.2) ?_
      show Steps p.tables e below (T54.setTop (mkF m 41 #[.val (.int p1), .val (.long q2), .second, .val (.long q3), .second, .val (.long q4), .second, .val (.long q5), .second, .val (.long q6), .second, .val (.int (p1 &&& (3 : Int32))), .val (.int (((p1.toUInt32 >>> ((2 : Int32) &&& 31).toUInt32).toInt32) &&& (3 : Int32))), .val (.int (3 : Int32)), .val (.ref b52), .val (.ref b54), .val (.long (0 : Int64)), .second, .unset] [])) _
      refine XS.aload X54.here hx rfl (hb hby at_41) rfl rfl ?_
      show Steps p.tables e below (T54.setTop (mkF m 43 #[.val (.int p1), .val (.long q2), .second, .val (.long q3), .second, .val (.long q4), .second, .val (.long q5), .second, .val (.long q6), .second, .val (.int (p1 &&& (3 : Int32))), .val (.int (((p1.toUInt32 >>> ((2 : Int32) &&& 31).toUInt32).toInt32) &&& (3 : Int32))), .val (.int (3 : Int32)), .val (.ref b52), .val (.ref b54), .val (.long (0 : Int64)), .second, .unset] [(.ref b52)])) _
      refine XS.iconst X54.here hx rfl (hb hby at_43) ?_
      show Steps p.tables e below (T54.setTop (mkF m 44 #[.val (.int p1), .val (.long q2), .second, .val (.long q3), .second, .val (.long q4), .second, .val (.long q5), .second, .val (.long q6), .second, .val (.int (p1 &&& (3 : Int32))), .val (.int (((p1.toUInt32 >>> ((2 : Int32) &&& 31).toUInt32).toInt32) &&& (3 : Int32))), .val (.int (3 : Int32)), .val (.ref b52), .val (.ref b54), .val (.long (0 : Int64)), .second, .unset] [(.int (0 : Int32)), (.ref b52)])) _
      refine XS.lloadN X54.here hx rfl (hb hby at_44) rfl ?_
      exact kt
    obtain ⟨ca0, Aa0, Sa0, Ha0⟩ := id P1_0
    have ia0 : ¬ ((0 : Int32) < 0 ∨ ca0.slots.size ≤ ((0 : Int32)).toNatClampNeg) := own_in (i := 0) Sa0 (by decide) (by decide)
    obtain ⟨T57, h57, X57, e57, W57, st57⟩ := stJ X54 hx hZ e54 Aa0 (j := (0 : Int32)) ia0 (g := (mkF m 45 #[.val (.int p1), .val (.long q2), .second, .val (.long q3), .second, .val (.long q4), .second, .val (.long q5), .second, .val (.long q6), .second, .val (.int (p1 &&& (3 : Int32))), .val (.int (((p1.toUInt32 >>> ((2 : Int32) &&& 31).toUInt32).toInt32) &&& (3 : Int32))), .val (.int (3 : Int32)), .val (.ref b52), .val (.ref b54), .val (.long (0 : Int64)), .second, .unset] [(.long q2), (.int (0 : Int32)), (.ref b52)])) rfl rfl (hb hby at_45)
    have N57 := Fr.snoc X57 N2 g_b52
    have P1_1 : own_A Z h57 b52 3 .long (fun i => .long ((fun i => if i = 0 then q2 else (fun _ => (0 : Int64)) i) i)) := own_setL P1_0 W57 0 (by decide) (by decide)
    have P2_1 := own_A_other P2_0 W57 ne12.symm
    have R1_1 := R1_0.wr W57
    have R2_1 := R2_0.wr W57
    have y1 : n0 ≤ h57.size := Nat.le_trans y0 (Keep.of_wr W57).1
    have sg58 : ∀ t₀, Steps p.tables e below (T57.setTop (mkF m 50 #[.val (.int p1), .val (.long q2), .second, .val (.long q3), .second, .val (.long q4), .second, .val (.long q5), .second, .val (.long q6), .second, .val (.int (p1 &&& (3 : Int32))), .val (.int (((p1.toUInt32 >>> ((2 : Int32) &&& 31).toUInt32).toInt32) &&& (3 : Int32))), .val (.int (3 : Int32)), .val (.ref b52), .val (.ref b54), .val (.long (0 : Int64)), .second, .unset] [(.long q3), (.int (0 : Int32)), (.ref b54)])) t₀ → Steps p.tables e below (T57.setTop (mkF m 46 #[.val (.int p1), .val (.long q2), .second, .val (.long q3), .second, .val (.long q4), .second, .val (.long q5), .second, .val (.long q6), .second, .val (.int (p1 &&& (3 : Int32))), .val (.int (((p1.toUInt32 >>> ((2 : Int32) &&& 31).toUInt32).toInt32) &&& (3 : Int32))), .val (.int (3 : Int32)), .val (.ref b52), .val (.ref b54), .val (.long (0 : Int64)), .second, .unset] [])) t₀ := by
      intro t₀ kt
      show Steps p.tables e below (T57.setTop (mkF m 46 #[.val (.int p1), .val (.long q2), .second, .val (.long q3), .second, .val (.long q4), .second, .val (.long q5), .second, .val (.long q6), .second, .val (.int (p1 &&& (3 : Int32))), .val (.int (((p1.toUInt32 >>> ((2 : Int32) &&& 31).toUInt32).toInt32) &&& (3 : Int32))), .val (.int (3 : Int32)), .val (.ref b52), .val (.ref b54), .val (.long (0 : Int64)), .second, .unset] [])) _
      refine XS.aload X57.here hx rfl (hb hby at_46) rfl rfl ?_
      show Steps p.tables e below (T57.setTop (mkF m 48 #[.val (.int p1), .val (.long q2), .second, .val (.long q3), .second, .val (.long q4), .second, .val (.long q5), .second, .val (.long q6), .second, .val (.int (p1 &&& (3 : Int32))), .val (.int (((p1.toUInt32 >>> ((2 : Int32) &&& 31).toUInt32).toInt32) &&& (3 : Int32))), .val (.int (3 : Int32)), .val (.ref b52), .val (.ref b54), .val (.long (0 : Int64)), .second, .unset] [(.ref b54)])) _
      refine XS.iconst X57.here hx rfl (hb hby at_48) ?_
      show Steps p.tables e below (T57.setTop (mkF m 49 #[.val (.int p1), .val (.long q2), .second, .val (.long q3), .second, .val (.long q4), .second, .val (.long q5), .second, .val (.long q6), .second, .val (.int (p1 &&& (3 : Int32))), .val (.int (((p1.toUInt32 >>> ((2 : Int32) &&& 31).toUInt32).toInt32) &&& (3 : Int32))), .val (.int (3 : Int32)), .val (.ref b52), .val (.ref b54), .val (.long (0 : Int64)), .second, .unset] [(.int (0 : Int32)), (.ref b54)])) _
      refine XS.lloadN X57.here hx rfl (hb hby at_49) rfl ?_
      exact kt
    obtain ⟨cb0, Ab0, Sb0, Hb0⟩ := id P2_1
    have ib0 : ¬ ((0 : Int32) < 0 ∨ cb0.slots.size ≤ ((0 : Int32)).toNatClampNeg) := own_in (i := 0) Sb0 (by decide) (by decide)
    obtain ⟨T59, h59, X59, e59, W59, st59⟩ := stJ X57 hx hZ e57 Ab0 (j := (0 : Int32)) ib0 (g := (mkF m 50 #[.val (.int p1), .val (.long q2), .second, .val (.long q3), .second, .val (.long q4), .second, .val (.long q5), .second, .val (.long q6), .second, .val (.int (p1 &&& (3 : Int32))), .val (.int (((p1.toUInt32 >>> ((2 : Int32) &&& 31).toUInt32).toInt32) &&& (3 : Int32))), .val (.int (3 : Int32)), .val (.ref b52), .val (.ref b54), .val (.long (0 : Int64)), .second, .unset] [(.long q3), (.int (0 : Int32)), (.ref b54)])) rfl rfl (hb hby at_50)
    have N59 := Fr.snoc X59 N57 g_b54
    have P2_2 : own_A Z h59 b54 3 .long (fun i => .long ((fun i => if i = 0 then q3 else (fun _ => (0 : Int64)) i) i)) := own_setL P2_1 W59 0 (by decide) (by decide)
    have P1_2 := own_A_other P1_1 W59 ne12
    have R1_2 := R1_1.wr W59
    have R2_2 := R2_1.wr W59
    have y2 : n0 ≤ h59.size := Nat.le_trans y1 (Keep.of_wr W59).1
    have sg60 : ∀ t₀, Steps p.tables e below (T59.setTop (mkF m 70 #[.val (.int p1), .val (.long q2), .second, .val (.long q3), .second, .val (.long q4), .second, .val (.long q5), .second, .val (.long q6), .second, .val (.int (p1 &&& (3 : Int32))), .val (.int (((p1.toUInt32 >>> ((2 : Int32) &&& 31).toUInt32).toInt32) &&& (3 : Int32))), .val (.int (3 : Int32)), .val (.ref b52), .val (.ref b54), .val (.long ((0 : Int64) + (q3 - q2))), .second, .unset] [(.long q4), (.int (1 : Int32)), (.ref b52)])) t₀ → Steps p.tables e below (T59.setTop (mkF m 51 #[.val (.int p1), .val (.long q2), .second, .val (.long q3), .second, .val (.long q4), .second, .val (.long q5), .second, .val (.long q6), .second, .val (.int (p1 &&& (3 : Int32))), .val (.int (((p1.toUInt32 >>> ((2 : Int32) &&& 31).toUInt32).toInt32) &&& (3 : Int32))), .val (.int (3 : Int32)), .val (.ref b52), .val (.ref b54), .val (.long (0 : Int64)), .second, .unset] [])) t₀ := by
      intro t₀ kt
      show Steps p.tables e below (T59.setTop (mkF m 51 #[.val (.int p1), .val (.long q2), .second, .val (.long q3), .second, .val (.long q4), .second, .val (.long q5), .second, .val (.long q6), .second, .val (.int (p1 &&& (3 : Int32))), .val (.int (((p1.toUInt32 >>> ((2 : Int32) &&& 31).toUInt32).toInt32) &&& (3 : Int32))), .val (.int (3 : Int32)), .val (.ref b52), .val (.ref b54), .val (.long (0 : Int64)), .second, .unset] [])) _
      refine XS.lload X59.here hx rfl (hb hby at_51) rfl ?_
      show Steps p.tables e below (T59.setTop (mkF m 53 #[.val (.int p1), .val (.long q2), .second, .val (.long q3), .second, .val (.long q4), .second, .val (.long q5), .second, .val (.long q6), .second, .val (.int (p1 &&& (3 : Int32))), .val (.int (((p1.toUInt32 >>> ((2 : Int32) &&& 31).toUInt32).toInt32) &&& (3 : Int32))), .val (.int (3 : Int32)), .val (.ref b52), .val (.ref b54), .val (.long (0 : Int64)), .second, .unset] [(.long (0 : Int64))])) _
      refine XS.lloadN X59.here hx rfl (hb hby at_53) rfl ?_
      show Steps p.tables e below (T59.setTop (mkF m 54 #[.val (.int p1), .val (.long q2), .second, .val (.long q3), .second, .val (.long q4), .second, .val (.long q5), .second, .val (.long q6), .second, .val (.int (p1 &&& (3 : Int32))), .val (.int (((p1.toUInt32 >>> ((2 : Int32) &&& 31).toUInt32).toInt32) &&& (3 : Int32))), .val (.int (3 : Int32)), .val (.ref b52), .val (.ref b54), .val (.long (0 : Int64)), .second, .unset] [(.long q3), (.long (0 : Int64))])) _
      refine XS.lloadN X59.here hx rfl (hb hby at_54) rfl ?_
      show Steps p.tables e below (T59.setTop (mkF m 55 #[.val (.int p1), .val (.long q2), .second, .val (.long q3), .second, .val (.long q4), .second, .val (.long q5), .second, .val (.long q6), .second, .val (.int (p1 &&& (3 : Int32))), .val (.int (((p1.toUInt32 >>> ((2 : Int32) &&& 31).toUInt32).toInt32) &&& (3 : Int32))), .val (.int (3 : Int32)), .val (.ref b52), .val (.ref b54), .val (.long (0 : Int64)), .second, .unset] [(.long q2), (.long q3), (.long (0 : Int64))])) _
      refine XS.lsub X59.here hx rfl (hb hby at_55) rfl ?_
      show Steps p.tables e below (T59.setTop (mkF m 56 #[.val (.int p1), .val (.long q2), .second, .val (.long q3), .second, .val (.long q4), .second, .val (.long q5), .second, .val (.long q6), .second, .val (.int (p1 &&& (3 : Int32))), .val (.int (((p1.toUInt32 >>> ((2 : Int32) &&& 31).toUInt32).toInt32) &&& (3 : Int32))), .val (.int (3 : Int32)), .val (.ref b52), .val (.ref b54), .val (.long (0 : Int64)), .second, .unset] [(.long (q3 - q2)), (.long (0 : Int64))])) _
      refine XS.ladd X59.here hx rfl (hb hby at_56) rfl ?_
      show Steps p.tables e below (T59.setTop (mkF m 57 #[.val (.int p1), .val (.long q2), .second, .val (.long q3), .second, .val (.long q4), .second, .val (.long q5), .second, .val (.long q6), .second, .val (.int (p1 &&& (3 : Int32))), .val (.int (((p1.toUInt32 >>> ((2 : Int32) &&& 31).toUInt32).toInt32) &&& (3 : Int32))), .val (.int (3 : Int32)), .val (.ref b52), .val (.ref b54), .val (.long (0 : Int64)), .second, .unset] [(.long ((0 : Int64) + (q3 - q2)))])) _
      refine XS.lstore X59.here hx rfl (hb hby at_57) rfl (l' := #[.val (.int p1), .val (.long q2), .second, .val (.long q3), .second, .val (.long q4), .second, .val (.long q5), .second, .val (.long q6), .second, .val (.int (p1 &&& (3 : Int32))), .val (.int (((p1.toUInt32 >>> ((2 : Int32) &&& 31).toUInt32).toInt32) &&& (3 : Int32))), .val (.int (3 : Int32)), .val (.ref b52), .val (.ref b54), .val (.long ((0 : Int64) + (q3 - q2))), .second, .unset]) rfl ?_
      show Steps p.tables e below (T59.setTop (mkF m 59 #[.val (.int p1), .val (.long q2), .second, .val (.long q3), .second, .val (.long q4), .second, .val (.long q5), .second, .val (.long q6), .second, .val (.int (p1 &&& (3 : Int32))), .val (.int (((p1.toUInt32 >>> ((2 : Int32) &&& 31).toUInt32).toInt32) &&& (3 : Int32))), .val (.int (3 : Int32)), .val (.ref b52), .val (.ref b54), .val (.long ((0 : Int64) + (q3 - q2))), .second, .unset] [])) _
      refine XS.iload X59.here hx rfl (hb hby at_59) rfl ?_
      show Steps p.tables e below (T59.setTop (mkF m 61 #[.val (.int p1), .val (.long q2), .second, .val (.long q3), .second, .val (.long q4), .second, .val (.long q5), .second, .val (.long q6), .second, .val (.int (p1 &&& (3 : Int32))), .val (.int (((p1.toUInt32 >>> ((2 : Int32) &&& 31).toUInt32).toInt32) &&& (3 : Int32))), .val (.int (3 : Int32)), .val (.ref b52), .val (.ref b54), .val (.long ((0 : Int64) + (q3 - q2))), .second, .unset] [(.int (3 : Int32))])) _
      refine XS.iconst X59.here hx rfl (hb hby at_61) ?_
      show Steps p.tables e below (T59.setTop (mkF m 62 #[.val (.int p1), .val (.long q2), .second, .val (.long q3), .second, .val (.long q4), .second, .val (.long q5), .second, .val (.long q6), .second, .val (.int (p1 &&& (3 : Int32))), .val (.int (((p1.toUInt32 >>> ((2 : Int32) &&& 31).toUInt32).toInt32) &&& (3 : Int32))), .val (.int (3 : Int32)), .val (.ref b52), .val (.ref b54), .val (.long ((0 : Int64) + (q3 - q2))), .second, .unset] [(.int (1 : Int32)), (.int (3 : Int32))])) _
      refine XS.icmpNo X59.here hx rfl (hb hby at_62) rfl (tlt (by decide : (1 : Int32) < (3 : Int32))).2.2.2 ?_
      show Steps p.tables e below (T59.setTop (mkF m 65 #[.val (.int p1), .val (.long q2), .second, .val (.long q3), .second, .val (.long q4), .second, .val (.long q5), .second, .val (.long q6), .second, .val (.int (p1 &&& (3 : Int32))), .val (.int (((p1.toUInt32 >>> ((2 : Int32) &&& 31).toUInt32).toInt32) &&& (3 : Int32))), .val (.int (3 : Int32)), .val (.ref b52), .val (.ref b54), .val (.long ((0 : Int64) + (q3 - q2))), .second, .unset] [])) _
      refine XS.aload X59.here hx rfl (hb hby at_65) rfl rfl ?_
      show Steps p.tables e below (T59.setTop (mkF m 67 #[.val (.int p1), .val (.long q2), .second, .val (.long q3), .second, .val (.long q4), .second, .val (.long q5), .second, .val (.long q6), .second, .val (.int (p1 &&& (3 : Int32))), .val (.int (((p1.toUInt32 >>> ((2 : Int32) &&& 31).toUInt32).toInt32) &&& (3 : Int32))), .val (.int (3 : Int32)), .val (.ref b52), .val (.ref b54), .val (.long ((0 : Int64) + (q3 - q2))), .second, .unset] [(.ref b52)])) _
      refine XS.iconst X59.here hx rfl (hb hby at_67) ?_
      show Steps p.tables e below (T59.setTop (mkF m 68 #[.val (.int p1), .val (.long q2), .second, .val (.long q3), .second, .val (.long q4), .second, .val (.long q5), .second, .val (.long q6), .second, .val (.int (p1 &&& (3 : Int32))), .val (.int (((p1.toUInt32 >>> ((2 : Int32) &&& 31).toUInt32).toInt32) &&& (3 : Int32))), .val (.int (3 : Int32)), .val (.ref b52), .val (.ref b54), .val (.long ((0 : Int64) + (q3 - q2))), .second, .unset] [(.int (1 : Int32)), (.ref b52)])) _
      refine XS.lload X59.here hx rfl (hb hby at_68) rfl ?_
      exact kt
    obtain ⟨ca1, Aa1, Sa1, Ha1⟩ := id P1_2
    have ia1 : ¬ ((1 : Int32) < 0 ∨ ca1.slots.size ≤ ((1 : Int32)).toNatClampNeg) := own_in (i := 1) Sa1 (by decide) (by decide)
    obtain ⟨T61, h61, X61, e61, W61, st61⟩ := stJ X59 hx hZ e59 Aa1 (j := (1 : Int32)) ia1 (g := (mkF m 70 #[.val (.int p1), .val (.long q2), .second, .val (.long q3), .second, .val (.long q4), .second, .val (.long q5), .second, .val (.long q6), .second, .val (.int (p1 &&& (3 : Int32))), .val (.int (((p1.toUInt32 >>> ((2 : Int32) &&& 31).toUInt32).toInt32) &&& (3 : Int32))), .val (.int (3 : Int32)), .val (.ref b52), .val (.ref b54), .val (.long ((0 : Int64) + (q3 - q2))), .second, .unset] [(.long q4), (.int (1 : Int32)), (.ref b52)])) rfl rfl (hb hby at_70)
    have N61 := Fr.snoc X61 N59 g_b52
    have P1_3 : own_A Z h61 b52 3 .long (fun i => .long ((fun i => if i = 1 then q4 else (fun i => if i = 0 then q2 else (fun _ => (0 : Int64)) i) i) i)) := own_setL P1_2 W61 1 (by decide) (by decide)
    have P2_3 := own_A_other P2_2 W61 ne12.symm
    have R1_3 := R1_2.wr W61
    have R2_3 := R2_2.wr W61
    have y3 : n0 ≤ h61.size := Nat.le_trans y2 (Keep.of_wr W61).1
    have sg62 : ∀ t₀, Steps p.tables e below (T61.setTop (mkF m 76 #[.val (.int p1), .val (.long q2), .second, .val (.long q3), .second, .val (.long q4), .second, .val (.long q5), .second, .val (.long q6), .second, .val (.int (p1 &&& (3 : Int32))), .val (.int (((p1.toUInt32 >>> ((2 : Int32) &&& 31).toUInt32).toInt32) &&& (3 : Int32))), .val (.int (3 : Int32)), .val (.ref b52), .val (.ref b54), .val (.long ((0 : Int64) + (q3 - q2))), .second, .unset] [(.long q5), (.int (1 : Int32)), (.ref b54)])) t₀ → Steps p.tables e below (T61.setTop (mkF m 71 #[.val (.int p1), .val (.long q2), .second, .val (.long q3), .second, .val (.long q4), .second, .val (.long q5), .second, .val (.long q6), .second, .val (.int (p1 &&& (3 : Int32))), .val (.int (((p1.toUInt32 >>> ((2 : Int32) &&& 31).toUInt32).toInt32) &&& (3 : Int32))), .val (.int (3 : Int32)), .val (.ref b52), .val (.ref b54), .val (.long ((0 : Int64) + (q3 - q2))), .second, .unset] [])) t₀ := by
      intro t₀ kt
      show Steps p.tables e below (T61.setTop (mkF m 71 #[.val (.int p1), .val (.long q2), .second, .val (.long q3), .second, .val (.long q4), .second, .val (.long q5), .second, .val (.long q6), .second, .val (.int (p1 &&& (3 : Int32))), .val (.int (((p1.toUInt32 >>> ((2 : Int32) &&& 31).toUInt32).toInt32) &&& (3 : Int32))), .val (.int (3 : Int32)), .val (.ref b52), .val (.ref b54), .val (.long ((0 : Int64) + (q3 - q2))), .second, .unset] [])) _
      refine XS.aload X61.here hx rfl (hb hby at_71) rfl rfl ?_
      show Steps p.tables e below (T61.setTop (mkF m 73 #[.val (.int p1), .val (.long q2), .second, .val (.long q3), .second, .val (.long q4), .second, .val (.long q5), .second, .val (.long q6), .second, .val (.int (p1 &&& (3 : Int32))), .val (.int (((p1.toUInt32 >>> ((2 : Int32) &&& 31).toUInt32).toInt32) &&& (3 : Int32))), .val (.int (3 : Int32)), .val (.ref b52), .val (.ref b54), .val (.long ((0 : Int64) + (q3 - q2))), .second, .unset] [(.ref b54)])) _
      refine XS.iconst X61.here hx rfl (hb hby at_73) ?_
      show Steps p.tables e below (T61.setTop (mkF m 74 #[.val (.int p1), .val (.long q2), .second, .val (.long q3), .second, .val (.long q4), .second, .val (.long q5), .second, .val (.long q6), .second, .val (.int (p1 &&& (3 : Int32))), .val (.int (((p1.toUInt32 >>> ((2 : Int32) &&& 31).toUInt32).toInt32) &&& (3 : Int32))), .val (.int (3 : Int32)), .val (.ref b52), .val (.ref b54), .val (.long ((0 : Int64) + (q3 - q2))), .second, .unset] [(.int (1 : Int32)), (.ref b54)])) _
      refine XS.lload X61.here hx rfl (hb hby at_74) rfl ?_
      exact kt
    obtain ⟨cb1, Ab1, Sb1, Hb1⟩ := id P2_3
    have ib1 : ¬ ((1 : Int32) < 0 ∨ cb1.slots.size ≤ ((1 : Int32)).toNatClampNeg) := own_in (i := 1) Sb1 (by decide) (by decide)
    obtain ⟨T63, h63, X63, e63, W63, st63⟩ := stJ X61 hx hZ e61 Ab1 (j := (1 : Int32)) ib1 (g := (mkF m 76 #[.val (.int p1), .val (.long q2), .second, .val (.long q3), .second, .val (.long q4), .second, .val (.long q5), .second, .val (.long q6), .second, .val (.int (p1 &&& (3 : Int32))), .val (.int (((p1.toUInt32 >>> ((2 : Int32) &&& 31).toUInt32).toInt32) &&& (3 : Int32))), .val (.int (3 : Int32)), .val (.ref b52), .val (.ref b54), .val (.long ((0 : Int64) + (q3 - q2))), .second, .unset] [(.long q5), (.int (1 : Int32)), (.ref b54)])) rfl rfl (hb hby at_76)
    have N63 := Fr.snoc X63 N61 g_b54
    have P2_4 : own_A Z h63 b54 3 .long (fun i => .long ((fun i => if i = 1 then q5 else (fun i => if i = 0 then q3 else (fun _ => (0 : Int64)) i) i) i)) := own_setL P2_3 W63 1 (by decide) (by decide)
    have P1_4 := own_A_other P1_3 W63 ne12
    have R1_4 := R1_3.wr W63
    have R2_4 := R2_3.wr W63
    have y4 : n0 ≤ h63.size := Nat.le_trans y3 (Keep.of_wr W63).1
    have sg64 : ∀ t₀, Steps p.tables e below (T63.setTop (mkF m 98 #[.val (.int p1), .val (.long q2), .second, .val (.long q3), .second, .val (.long q4), .second, .val (.long q5), .second, .val (.long q6), .second, .val (.int (p1 &&& (3 : Int32))), .val (.int (((p1.toUInt32 >>> ((2 : Int32) &&& 31).toUInt32).toInt32) &&& (3 : Int32))), .val (.int (3 : Int32)), .val (.ref b52), .val (.ref b54), .val (.long (((0 : Int64) + (q3 - q2)) + (q5 - q4))), .second, .unset] [(.long q6), (.int (2 : Int32)), (.ref b52)])) t₀ → Steps p.tables e below (T63.setTop (mkF m 77 #[.val (.int p1), .val (.long q2), .second, .val (.long q3), .second, .val (.long q4), .second, .val (.long q5), .second, .val (.long q6), .second, .val (.int (p1 &&& (3 : Int32))), .val (.int (((p1.toUInt32 >>> ((2 : Int32) &&& 31).toUInt32).toInt32) &&& (3 : Int32))), .val (.int (3 : Int32)), .val (.ref b52), .val (.ref b54), .val (.long ((0 : Int64) + (q3 - q2))), .second, .unset] [])) t₀ := by
      intro t₀ kt
      show Steps p.tables e below (T63.setTop (mkF m 77 #[.val (.int p1), .val (.long q2), .second, .val (.long q3), .second, .val (.long q4), .second, .val (.long q5), .second, .val (.long q6), .second, .val (.int (p1 &&& (3 : Int32))), .val (.int (((p1.toUInt32 >>> ((2 : Int32) &&& 31).toUInt32).toInt32) &&& (3 : Int32))), .val (.int (3 : Int32)), .val (.ref b52), .val (.ref b54), .val (.long ((0 : Int64) + (q3 - q2))), .second, .unset] [])) _
      refine XS.lload X63.here hx rfl (hb hby at_77) rfl ?_
      show Steps p.tables e below (T63.setTop (mkF m 79 #[.val (.int p1), .val (.long q2), .second, .val (.long q3), .second, .val (.long q4), .second, .val (.long q5), .second, .val (.long q6), .second, .val (.int (p1 &&& (3 : Int32))), .val (.int (((p1.toUInt32 >>> ((2 : Int32) &&& 31).toUInt32).toInt32) &&& (3 : Int32))), .val (.int (3 : Int32)), .val (.ref b52), .val (.ref b54), .val (.long ((0 : Int64) + (q3 - q2))), .second, .unset] [(.long ((0 : Int64) + (q3 - q2)))])) _
      refine XS.lload X63.here hx rfl (hb hby at_79) rfl ?_
      show Steps p.tables e below (T63.setTop (mkF m 81 #[.val (.int p1), .val (.long q2), .second, .val (.long q3), .second, .val (.long q4), .second, .val (.long q5), .second, .val (.long q6), .second, .val (.int (p1 &&& (3 : Int32))), .val (.int (((p1.toUInt32 >>> ((2 : Int32) &&& 31).toUInt32).toInt32) &&& (3 : Int32))), .val (.int (3 : Int32)), .val (.ref b52), .val (.ref b54), .val (.long ((0 : Int64) + (q3 - q2))), .second, .unset] [(.long q5), (.long ((0 : Int64) + (q3 - q2)))])) _
      refine XS.lload X63.here hx rfl (hb hby at_81) rfl ?_
      show Steps p.tables e below (T63.setTop (mkF m 83 #[.val (.int p1), .val (.long q2), .second, .val (.long q3), .second, .val (.long q4), .second, .val (.long q5), .second, .val (.long q6), .second, .val (.int (p1 &&& (3 : Int32))), .val (.int (((p1.toUInt32 >>> ((2 : Int32) &&& 31).toUInt32).toInt32) &&& (3 : Int32))), .val (.int (3 : Int32)), .val (.ref b52), .val (.ref b54), .val (.long ((0 : Int64) + (q3 - q2))), .second, .unset] [(.long q4), (.long q5), (.long ((0 : Int64) + (q3 - q2)))])) _
      refine XS.lsub X63.here hx rfl (hb hby at_83) rfl ?_
      show Steps p.tables e below (T63.setTop (mkF m 84 #[.val (.int p1), .val (.long q2), .second, .val (.long q3), .second, .val (.long q4), .second, .val (.long q5), .second, .val (.long q6), .second, .val (.int (p1 &&& (3 : Int32))), .val (.int (((p1.toUInt32 >>> ((2 : Int32) &&& 31).toUInt32).toInt32) &&& (3 : Int32))), .val (.int (3 : Int32)), .val (.ref b52), .val (.ref b54), .val (.long ((0 : Int64) + (q3 - q2))), .second, .unset] [(.long (q5 - q4)), (.long ((0 : Int64) + (q3 - q2)))])) _
      refine XS.ladd X63.here hx rfl (hb hby at_84) rfl ?_
      show Steps p.tables e below (T63.setTop (mkF m 85 #[.val (.int p1), .val (.long q2), .second, .val (.long q3), .second, .val (.long q4), .second, .val (.long q5), .second, .val (.long q6), .second, .val (.int (p1 &&& (3 : Int32))), .val (.int (((p1.toUInt32 >>> ((2 : Int32) &&& 31).toUInt32).toInt32) &&& (3 : Int32))), .val (.int (3 : Int32)), .val (.ref b52), .val (.ref b54), .val (.long ((0 : Int64) + (q3 - q2))), .second, .unset] [(.long (((0 : Int64) + (q3 - q2)) + (q5 - q4)))])) _
      refine XS.lstore X63.here hx rfl (hb hby at_85) rfl (l' := #[.val (.int p1), .val (.long q2), .second, .val (.long q3), .second, .val (.long q4), .second, .val (.long q5), .second, .val (.long q6), .second, .val (.int (p1 &&& (3 : Int32))), .val (.int (((p1.toUInt32 >>> ((2 : Int32) &&& 31).toUInt32).toInt32) &&& (3 : Int32))), .val (.int (3 : Int32)), .val (.ref b52), .val (.ref b54), .val (.long (((0 : Int64) + (q3 - q2)) + (q5 - q4))), .second, .unset]) rfl ?_
      show Steps p.tables e below (T63.setTop (mkF m 87 #[.val (.int p1), .val (.long q2), .second, .val (.long q3), .second, .val (.long q4), .second, .val (.long q5), .second, .val (.long q6), .second, .val (.int (p1 &&& (3 : Int32))), .val (.int (((p1.toUInt32 >>> ((2 : Int32) &&& 31).toUInt32).toInt32) &&& (3 : Int32))), .val (.int (3 : Int32)), .val (.ref b52), .val (.ref b54), .val (.long (((0 : Int64) + (q3 - q2)) + (q5 - q4))), .second, .unset] [])) _
      refine XS.iload X63.here hx rfl (hb hby at_87) rfl ?_
      show Steps p.tables e below (T63.setTop (mkF m 89 #[.val (.int p1), .val (.long q2), .second, .val (.long q3), .second, .val (.long q4), .second, .val (.long q5), .second, .val (.long q6), .second, .val (.int (p1 &&& (3 : Int32))), .val (.int (((p1.toUInt32 >>> ((2 : Int32) &&& 31).toUInt32).toInt32) &&& (3 : Int32))), .val (.int (3 : Int32)), .val (.ref b52), .val (.ref b54), .val (.long (((0 : Int64) + (q3 - q2)) + (q5 - q4))), .second, .unset] [(.int (3 : Int32))])) _
      refine XS.iconst X63.here hx rfl (hb hby at_89) ?_
      show Steps p.tables e below (T63.setTop (mkF m 90 #[.val (.int p1), .val (.long q2), .second, .val (.long q3), .second, .val (.long q4), .second, .val (.long q5), .second, .val (.long q6), .second, .val (.int (p1 &&& (3 : Int32))), .val (.int (((p1.toUInt32 >>> ((2 : Int32) &&& 31).toUInt32).toInt32) &&& (3 : Int32))), .val (.int (3 : Int32)), .val (.ref b52), .val (.ref b54), .val (.long (((0 : Int64) + (q3 - q2)) + (q5 - q4))), .second, .unset] [(.int (2 : Int32)), (.int (3 : Int32))])) _
      refine XS.icmpNo X63.here hx rfl (hb hby at_90) rfl (tlt (by decide : (2 : Int32) < (3 : Int32))).2.2.2 ?_
      show Steps p.tables e below (T63.setTop (mkF m 93 #[.val (.int p1), .val (.long q2), .second, .val (.long q3), .second, .val (.long q4), .second, .val (.long q5), .second, .val (.long q6), .second, .val (.int (p1 &&& (3 : Int32))), .val (.int (((p1.toUInt32 >>> ((2 : Int32) &&& 31).toUInt32).toInt32) &&& (3 : Int32))), .val (.int (3 : Int32)), .val (.ref b52), .val (.ref b54), .val (.long (((0 : Int64) + (q3 - q2)) + (q5 - q4))), .second, .unset] [])) _
      refine XS.aload X63.here hx rfl (hb hby at_93) rfl rfl ?_
      show Steps p.tables e below (T63.setTop (mkF m 95 #[.val (.int p1), .val (.long q2), .second, .val (.long q3), .second, .val (.long q4), .second, .val (.long q5), .second, .val (.long q6), .second, .val (.int (p1 &&& (3 : Int32))), .val (.int (((p1.toUInt32 >>> ((2 : Int32) &&& 31).toUInt32).toInt32) &&& (3 : Int32))), .val (.int (3 : Int32)), .val (.ref b52), .val (.ref b54), .val (.long (((0 : Int64) + (q3 - q2)) + (q5 - q4))), .second, .unset] [(.ref b52)])) _
      refine XS.iconst X63.here hx rfl (hb hby at_95) ?_
      show Steps p.tables e below (T63.setTop (mkF m 96 #[.val (.int p1), .val (.long q2), .second, .val (.long q3), .second, .val (.long q4), .second, .val (.long q5), .second, .val (.long q6), .second, .val (.int (p1 &&& (3 : Int32))), .val (.int (((p1.toUInt32 >>> ((2 : Int32) &&& 31).toUInt32).toInt32) &&& (3 : Int32))), .val (.int (3 : Int32)), .val (.ref b52), .val (.ref b54), .val (.long (((0 : Int64) + (q3 - q2)) + (q5 - q4))), .second, .unset] [(.int (2 : Int32)), (.ref b52)])) _
      refine XS.lload X63.here hx rfl (hb hby at_96) rfl ?_
      exact kt
    obtain ⟨ca2, Aa2, Sa2, Ha2⟩ := id P1_4
    have ia2 : ¬ ((2 : Int32) < 0 ∨ ca2.slots.size ≤ ((2 : Int32)).toNatClampNeg) := own_in (i := 2) Sa2 (by decide) (by decide)
    obtain ⟨T65, h65, X65, e65, W65, st65⟩ := stJ X63 hx hZ e63 Aa2 (j := (2 : Int32)) ia2 (g := (mkF m 98 #[.val (.int p1), .val (.long q2), .second, .val (.long q3), .second, .val (.long q4), .second, .val (.long q5), .second, .val (.long q6), .second, .val (.int (p1 &&& (3 : Int32))), .val (.int (((p1.toUInt32 >>> ((2 : Int32) &&& 31).toUInt32).toInt32) &&& (3 : Int32))), .val (.int (3 : Int32)), .val (.ref b52), .val (.ref b54), .val (.long (((0 : Int64) + (q3 - q2)) + (q5 - q4))), .second, .unset] [(.long q6), (.int (2 : Int32)), (.ref b52)])) rfl rfl (hb hby at_98)
    have N65 := Fr.snoc X65 N63 g_b52
    have P1_5 : own_A Z h65 b52 3 .long (fun i => .long ((fun i => if i = 2 then q6 else (fun i => if i = 1 then q4 else (fun i => if i = 0 then q2 else (fun _ => (0 : Int64)) i) i) i) i)) := own_setL P1_4 W65 2 (by decide) (by decide)
    have P2_5 := own_A_other P2_4 W65 ne12.symm
    have R1_5 := R1_4.wr W65
    have R2_5 := R2_4.wr W65
    have y5 : n0 ≤ h65.size := Nat.le_trans y4 (Keep.of_wr W65).1
    have sg66 : ∀ t₀, Steps p.tables e below (T65.setTop (mkF m 103 #[.val (.int p1), .val (.long q2), .second, .val (.long q3), .second, .val (.long q4), .second, .val (.long q5), .second, .val (.long q6), .second, .val (.int (p1 &&& (3 : Int32))), .val (.int (((p1.toUInt32 >>> ((2 : Int32) &&& 31).toUInt32).toInt32) &&& (3 : Int32))), .val (.int (3 : Int32)), .val (.ref b52), .val (.ref b54), .val (.long (((0 : Int64) + (q3 - q2)) + (q5 - q4))), .second, .unset] [(.long q2), (.int (2 : Int32)), (.ref b54)])) t₀ → Steps p.tables e below (T65.setTop (mkF m 99 #[.val (.int p1), .val (.long q2), .second, .val (.long q3), .second, .val (.long q4), .second, .val (.long q5), .second, .val (.long q6), .second, .val (.int (p1 &&& (3 : Int32))), .val (.int (((p1.toUInt32 >>> ((2 : Int32) &&& 31).toUInt32).toInt32) &&& (3 : Int32))), .val (.int (3 : Int32)), .val (.ref b52), .val (.ref b54), .val (.long (((0 : Int64) + (q3 - q2)) + (q5 - q4))), .second, .unset] [])) t₀ := by
      intro t₀ kt
      show Steps p.tables e below (T65.setTop (mkF m 99 #[.val (.int p1), .val (.long q2), .second, .val (.long q3), .second, .val (.long q4), .second, .val (.long q5), .second, .val (.long q6), .second, .val (.int (p1 &&& (3 : Int32))), .val (.int (((p1.toUInt32 >>> ((2 : Int32) &&& 31).toUInt32).toInt32) &&& (3 : Int32))), .val (.int (3 : Int32)), .val (.ref b52), .val (.ref b54), .val (.long (((0 : Int64) + (q3 - q2)) + (q5 - q4))), .second, .unset] [])) _
      refine XS.aload X65.here hx rfl (hb hby at_99) rfl rfl ?_
      show Steps p.tables e below (T65.setTop (mkF m 101 #[.val (.int p1), .val (.long q2), .second, .val (.long q3), .second, .val (.long q4), .second, .val (.long q5), .second, .val (.long q6), .second, .val (.int (p1 &&& (3 : Int32))), .val (.int (((p1.toUInt32 >>> ((2 : Int32) &&& 31).toUInt32).toInt32) &&& (3 : Int32))), .val (.int (3 : Int32)), .val (.ref b52), .val (.ref b54), .val (.long (((0 : Int64) + (q3 - q2)) + (q5 - q4))), .second, .unset] [(.ref b54)])) _
      refine XS.iconst X65.here hx rfl (hb hby at_101) ?_
      show Steps p.tables e below (T65.setTop (mkF m 102 #[.val (.int p1), .val (.long q2), .second, .val (.long q3), .second, .val (.long q4), .second, .val (.long q5), .second, .val (.long q6), .second, .val (.int (p1 &&& (3 : Int32))), .val (.int (((p1.toUInt32 >>> ((2 : Int32) &&& 31).toUInt32).toInt32) &&& (3 : Int32))), .val (.int (3 : Int32)), .val (.ref b52), .val (.ref b54), .val (.long (((0 : Int64) + (q3 - q2)) + (q5 - q4))), .second, .unset] [(.int (2 : Int32)), (.ref b54)])) _
      refine XS.lloadN X65.here hx rfl (hb hby at_102) rfl ?_
      exact kt
    obtain ⟨cb2, Ab2, Sb2, Hb2⟩ := id P2_5
    have ib2 : ¬ ((2 : Int32) < 0 ∨ cb2.slots.size ≤ ((2 : Int32)).toNatClampNeg) := own_in (i := 2) Sb2 (by decide) (by decide)
    obtain ⟨T67, h67, X67, e67, W67, st67⟩ := stJ X65 hx hZ e65 Ab2 (j := (2 : Int32)) ib2 (g := (mkF m 103 #[.val (.int p1), .val (.long q2), .second, .val (.long q3), .second, .val (.long q4), .second, .val (.long q5), .second, .val (.long q6), .second, .val (.int (p1 &&& (3 : Int32))), .val (.int (((p1.toUInt32 >>> ((2 : Int32) &&& 31).toUInt32).toInt32) &&& (3 : Int32))), .val (.int (3 : Int32)), .val (.ref b52), .val (.ref b54), .val (.long (((0 : Int64) + (q3 - q2)) + (q5 - q4))), .second, .unset] [(.long q2), (.int (2 : Int32)), (.ref b54)])) rfl rfl (hb hby at_103)
    have N67 := Fr.snoc X67 N65 g_b54
    have P2_6 : own_A Z h67 b54 3 .long (fun i => .long ((fun i => if i = 2 then q2 else (fun i => if i = 1 then q5 else (fun i => if i = 0 then q3 else (fun _ => (0 : Int64)) i) i) i) i)) := own_setL P2_5 W67 2 (by decide) (by decide)
    have P1_6 := own_A_other P1_5 W67 ne12
    have R1_6 := R1_5.wr W67
    have R2_6 := R2_5.wr W67
    have y6 : n0 ≤ h67.size := Nat.le_trans y5 (Keep.of_wr W67).1
    have sg68 : ∀ t₀, Steps p.tables e below (T67.setTop (mkF m 113 #[.val (.int p1), .val (.long q2), .second, .val (.long q3), .second, .val (.long q4), .second, .val (.long q5), .second, .val (.long q6), .second, .val (.int (p1 &&& (3 : Int32))), .val (.int (((p1.toUInt32 >>> ((2 : Int32) &&& 31).toUInt32).toInt32) &&& (3 : Int32))), .val (.int (3 : Int32)), .val (.ref b52), .val (.ref b54), .val (.long ((((0 : Int64) + (q3 - q2)) + (q5 - q4)) + (q2 - q6))), .second, .unset] [])) t₀ → Steps p.tables e below (T67.setTop (mkF m 104 #[.val (.int p1), .val (.long q2), .second, .val (.long q3), .second, .val (.long q4), .second, .val (.long q5), .second, .val (.long q6), .second, .val (.int (p1 &&& (3 : Int32))), .val (.int (((p1.toUInt32 >>> ((2 : Int32) &&& 31).toUInt32).toInt32) &&& (3 : Int32))), .val (.int (3 : Int32)), .val (.ref b52), .val (.ref b54), .val (.long (((0 : Int64) + (q3 - q2)) + (q5 - q4))), .second, .unset] [])) t₀ := by
      intro t₀ kt
      show Steps p.tables e below (T67.setTop (mkF m 104 #[.val (.int p1), .val (.long q2), .second, .val (.long q3), .second, .val (.long q4), .second, .val (.long q5), .second, .val (.long q6), .second, .val (.int (p1 &&& (3 : Int32))), .val (.int (((p1.toUInt32 >>> ((2 : Int32) &&& 31).toUInt32).toInt32) &&& (3 : Int32))), .val (.int (3 : Int32)), .val (.ref b52), .val (.ref b54), .val (.long (((0 : Int64) + (q3 - q2)) + (q5 - q4))), .second, .unset] [])) _
      refine XS.lload X67.here hx rfl (hb hby at_104) rfl ?_
      show Steps p.tables e below (T67.setTop (mkF m 106 #[.val (.int p1), .val (.long q2), .second, .val (.long q3), .second, .val (.long q4), .second, .val (.long q5), .second, .val (.long q6), .second, .val (.int (p1 &&& (3 : Int32))), .val (.int (((p1.toUInt32 >>> ((2 : Int32) &&& 31).toUInt32).toInt32) &&& (3 : Int32))), .val (.int (3 : Int32)), .val (.ref b52), .val (.ref b54), .val (.long (((0 : Int64) + (q3 - q2)) + (q5 - q4))), .second, .unset] [(.long (((0 : Int64) + (q3 - q2)) + (q5 - q4)))])) _
      refine XS.lloadN X67.here hx rfl (hb hby at_106) rfl ?_
      show Steps p.tables e below (T67.setTop (mkF m 107 #[.val (.int p1), .val (.long q2), .second, .val (.long q3), .second, .val (.long q4), .second, .val (.long q5), .second, .val (.long q6), .second, .val (.int (p1 &&& (3 : Int32))), .val (.int (((p1.toUInt32 >>> ((2 : Int32) &&& 31).toUInt32).toInt32) &&& (3 : Int32))), .val (.int (3 : Int32)), .val (.ref b52), .val (.ref b54), .val (.long (((0 : Int64) + (q3 - q2)) + (q5 - q4))), .second, .unset] [(.long q2), (.long (((0 : Int64) + (q3 - q2)) + (q5 - q4)))])) _
      refine XS.lload X67.here hx rfl (hb hby at_107) rfl ?_
      show Steps p.tables e below (T67.setTop (mkF m 109 #[.val (.int p1), .val (.long q2), .second, .val (.long q3), .second, .val (.long q4), .second, .val (.long q5), .second, .val (.long q6), .second, .val (.int (p1 &&& (3 : Int32))), .val (.int (((p1.toUInt32 >>> ((2 : Int32) &&& 31).toUInt32).toInt32) &&& (3 : Int32))), .val (.int (3 : Int32)), .val (.ref b52), .val (.ref b54), .val (.long (((0 : Int64) + (q3 - q2)) + (q5 - q4))), .second, .unset] [(.long q6), (.long q2), (.long (((0 : Int64) + (q3 - q2)) + (q5 - q4)))])) _
      refine XS.lsub X67.here hx rfl (hb hby at_109) rfl ?_
      show Steps p.tables e below (T67.setTop (mkF m 110 #[.val (.int p1), .val (.long q2), .second, .val (.long q3), .second, .val (.long q4), .second, .val (.long q5), .second, .val (.long q6), .second, .val (.int (p1 &&& (3 : Int32))), .val (.int (((p1.toUInt32 >>> ((2 : Int32) &&& 31).toUInt32).toInt32) &&& (3 : Int32))), .val (.int (3 : Int32)), .val (.ref b52), .val (.ref b54), .val (.long (((0 : Int64) + (q3 - q2)) + (q5 - q4))), .second, .unset] [(.long (q2 - q6)), (.long (((0 : Int64) + (q3 - q2)) + (q5 - q4)))])) _
      refine XS.ladd X67.here hx rfl (hb hby at_110) rfl ?_
      show Steps p.tables e below (T67.setTop (mkF m 111 #[.val (.int p1), .val (.long q2), .second, .val (.long q3), .second, .val (.long q4), .second, .val (.long q5), .second, .val (.long q6), .second, .val (.int (p1 &&& (3 : Int32))), .val (.int (((p1.toUInt32 >>> ((2 : Int32) &&& 31).toUInt32).toInt32) &&& (3 : Int32))), .val (.int (3 : Int32)), .val (.ref b52), .val (.ref b54), .val (.long (((0 : Int64) + (q3 - q2)) + (q5 - q4))), .second, .unset] [(.long ((((0 : Int64) + (q3 - q2)) + (q5 - q4)) + (q2 - q6)))])) _
      refine XS.lstore X67.here hx rfl (hb hby at_111) rfl (l' := #[.val (.int p1), .val (.long q2), .second, .val (.long q3), .second, .val (.long q4), .second, .val (.long q5), .second, .val (.long q6), .second, .val (.int (p1 &&& (3 : Int32))), .val (.int (((p1.toUInt32 >>> ((2 : Int32) &&& 31).toUInt32).toInt32) &&& (3 : Int32))), .val (.int (3 : Int32)), .val (.ref b52), .val (.ref b54), .val (.long ((((0 : Int64) + (q3 - q2)) + (q5 - q4)) + (q2 - q6))), .second, .unset]) rfl ?_
      exact kt
    obtain ⟨T69, h69, X69, e69, E69, A69, D69, -, st69⟩ := newO X67 hx hZ hown (hw _ (List.mem_of_getElem? (i := 5) rfl)) (hw _ (List.mem_of_getElem? (i := 6) rfl)) (hw _ (List.mem_of_getElem? (i := 7) rfl)) e67 (g := (mkF m 113 #[.val (.int p1), .val (.long q2), .second, .val (.long q3), .second, .val (.long q4), .second, .val (.long q5), .second, .val (.long q6), .second, .val (.int (p1 &&& (3 : Int32))), .val (.int (((p1.toUInt32 >>> ((2 : Int32) &&& 31).toUInt32).toInt32) &&& (3 : Int32))), .val (.int (3 : Int32)), .val (.ref b52), .val (.ref b54), .val (.long ((((0 : Int64) + (q3 - q2)) + (q5 - q4)) + (q2 - q6))), .second, .unset] [])) rfl (hb hby at_113) (by decide) (by decide)
    obtain ⟨b69, g69⟩ : ∃ z, z = h67.size := ⟨_, rfl⟩
    rw [← g69] at A69 D69 st69
    have F_writeQueues_b69 : Fld Z h69 b69 "com/example/pulq/pulq/client/TopicStatus" "writeQueues" "I" (.int (0 : Int32)) := D69 (Or.inr (hw _ (List.mem_of_getElem? (i := 15) rfl))) (ty := .int) (by decide)
    have F_readQueues_b69 : Fld Z h69 b69 "com/example/pulq/pulq/client/TopicStatus" "readQueues" "I" (.int (0 : Int32)) := D69 (Or.inr (hw _ (List.mem_of_getElem? (i := 17) rfl))) (ty := .int) (by decide)
    have F_minOffsets_b69 : Fld Z h69 b69 "com/example/pulq/pulq/client/TopicStatus" "minOffsets" "[J" .null := D69 (Or.inr (hw _ (List.mem_of_getElem? (i := 28) rfl))) (ty := (.array .long)) (by decide)
    have F_maxOffsets_b69 : Fld Z h69 b69 "com/example/pulq/pulq/client/TopicStatus" "maxOffsets" "[J" .null := D69 (Or.inr (hw _ (List.mem_of_getElem? (i := 30) rfl))) (ty := (.array .long)) (by decide)
    have g_b69 : n0 ≤ b69 := Nat.le_trans y6 (Nat.le_of_eq g69.symm)
    have z69 : n0 ≤ h69.size := Nat.le_trans y6 E69.1
    have sg70 : ∀ t₀, Steps p.tables e below (T69.setTop (mkF m 125 #[.val (.int p1), .val (.long q2), .second, .val (.long q3), .second, .val (.long q4), .second, .val (.long q5), .second, .val (.long q6), .second, .val (.int (p1 &&& (3 : Int32))), .val (.int (((p1.toUInt32 >>> ((2 : Int32) &&& 31).toUInt32).toInt32) &&& (3 : Int32))), .val (.int (3 : Int32)), .val (.ref b52), .val (.ref b54), .val (.long ((((0 : Int64) + (q3 - q2)) + (q5 - q4)) + (q2 - q6))), .second, .unset] [(.ref b54), (.ref b52), (.int (((p1.toUInt32 >>> ((2 : Int32) &&& 31).toUInt32).toInt32) &&& (3 : Int32))), (.int (p1 &&& (3 : Int32))), (.ref b69), (.ref b69)])) t₀ → Steps p.tables e below (T69.setTop (mkF m 116 #[.val (.int p1), .val (.long q2), .second, .val (.long q3), .second, .val (.long q4), .second, .val (.long q5), .second, .val (.long q6), .second, .val (.int (p1 &&& (3 : Int32))), .val (.int (((p1.toUInt32 >>> ((2 : Int32) &&& 31).toUInt32).toInt32) &&& (3 : Int32))), .val (.int (3 : Int32)), .val (.ref b52), .val (.ref b54), .val (.long ((((0 : Int64) + (q3 - q2)) + (q5 - q4)) + (q2 - q6))), .second, .unset] [(.ref b69)])) t₀ := by
      intro t₀ kt
      show Steps p.tables e below (T69.setTop (mkF m 116 #[.val (.int p1), .val (.long q2), .second, .val (.long q3), .second, .val (.long q4), .second, .val (.long q5), .second, .val (.long q6), .second, .val (.int (p1 &&& (3 : Int32))), .val (.int (((p1.toUInt32 >>> ((2 : Int32) &&& 31).toUInt32).toInt32) &&& (3 : Int32))), .val (.int (3 : Int32)), .val (.ref b52), .val (.ref b54), .val (.long ((((0 : Int64) + (q3 - q2)) + (q5 - q4)) + (q2 - q6))), .second, .unset] [(.ref b69)])) _
      refine XS.dup X69.here hx rfl (hb hby at_116) rfl rfl ?_
      show Steps p.tables e below (T69.setTop (mkF m 117 #[.val (.int p1), .val (.long q2), .second, .val (.long q3), .second, .val (.long q4), .second, .val (.long q5), .second, .val (.long q6), .second, .val (.int (p1 &&& (3 : Int32))), .val (.int (((p1.toUInt32 >>> ((2 : Int32) &&& 31).toUInt32).toInt32) &&& (3 : Int32))), .val (.int (3 : Int32)), .val (.ref b52), .val (.ref b54), .val (.long ((((0 : Int64) + (q3 - q2)) + (q5 - q4)) + (q2 - q6))), .second, .unset] [(.ref b69), (.ref b69)])) _
      refine XS.iload X69.here hx rfl (hb hby at_117) rfl ?_
      show Steps p.tables e below (T69.setTop (mkF m 119 #[.val (.int p1), .val (.long q2), .second, .val (.long q3), .second, .val (.long q4), .second, .val (.long q5), .second, .val (.long q6), .second, .val (.int (p1 &&& (3 : Int32))), .val (.int (((p1.toUInt32 >>> ((2 : Int32) &&& 31).toUInt32).toInt32) &&& (3 : Int32))), .val (.int (3 : Int32)), .val (.ref b52), .val (.ref b54), .val (.long ((((0 : Int64) + (q3 - q2)) + (q5 - q4)) + (q2 - q6))), .second, .unset] [(.int (p1 &&& (3 : Int32))), (.ref b69), (.ref b69)])) _
      refine XS.iload X69.here hx rfl (hb hby at_119) rfl ?_
      show Steps p.tables e below (T69.setTop (mkF m 121 #[.val (.int p1), .val (.long q2), .second, .val (.long q3), .second, .val (.long q4), .second, .val (.long q5), .second, .val (.long q6), .second, .val (.int (p1 &&& (3 : Int32))), .val (.int (((p1.toUInt32 >>> ((2 : Int32) &&& 31).toUInt32).toInt32) &&& (3 : Int32))), .val (.int (3 : Int32)), .val (.ref b52), .val (.ref b54), .val (.long ((((0 : Int64) + (q3 - q2)) + (q5 - q4)) + (q2 - q6))), .second, .unset] [(.int (((p1.toUInt32 >>> ((2 : Int32) &&& 31).toUInt32).toInt32) &&& (3 : Int32))), (.int (p1 &&& (3 : Int32))), (.ref b69), (.ref b69)])) _
      refine XS.aload X69.here hx rfl (hb hby at_121) rfl rfl ?_
      show Steps p.tables e below (T69.setTop (mkF m 123 #[.val (.int p1), .val (.long q2), .second, .val (.long q3), .second, .val (.long q4), .second, .val (.long q5), .second, .val (.long q6), .second, .val (.int (p1 &&& (3 : Int32))), .val (.int (((p1.toUInt32 >>> ((2 : Int32) &&& 31).toUInt32).toInt32) &&& (3 : Int32))), .val (.int (3 : Int32)), .val (.ref b52), .val (.ref b54), .val (.long ((((0 : Int64) + (q3 - q2)) + (q5 - q4)) + (q2 - q6))), .second, .unset] [(.ref b52), (.int (((p1.toUInt32 >>> ((2 : Int32) &&& 31).toUInt32).toInt32) &&& (3 : Int32))), (.int (p1 &&& (3 : Int32))), (.ref b69), (.ref b69)])) _
      refine XS.aload X69.here hx rfl (hb hby at_123) rfl rfl ?_
      exact kt
    have ne1 : b52 ≠ b69 := Nat.ne_of_lt (by rw [g69]; exact R1_6.lt)
    have ne2 : b54 ≠ b69 := Nat.ne_of_lt (by rw [g69]; exact R2_6.lt)
    obtain ⟨_, _, ⟨T71, L71, k71, n71⟩, -, X71, ⟨Lc71, hQ71, l71, y71, z71⟩, st71⟩ := X69.specialBack hx (y := (⟨"com/example/pulq/pulq/client/TopicStatus", "<init>", "(II[J[J)V"⟩ : MethodName)) rfl hown (mvT hZ (hw _ (List.mem_of_getElem? (i := 8) rfl))) (mvT hZ (hw _ (List.mem_of_getElem? (i := 9) rfl))) (mvT hZ (hw _ (List.mem_of_getElem? (i := 10) rfl))) (by decide) (backOf (W := 1) (rm2 l Z a0 hw [] b69 (p1 &&& (3 : Int32)) (((p1.toUInt32 >>> ((2 : Int32) &&& 31).toUInt32).toInt32) &&& (3 : Int32)) b52 b54 3 (fun i => if i = 2 then q6 else (fun i => if i = 1 then q4 else (fun i => if i = 0 then q2 else (fun _ => (0 : Int64)) i) i) i) (fun i => if i = 2 then q2 else (fun i => if i = 1 then q5 else (fun i => if i = 0 then q3 else (fun _ => (0 : Int64)) i) i) i) h69 n0 z69 (by decide) A69 g_b69 ne1 ne2 F_writeQueues_b69 F_readQueues_b69 F_minOffsets_b69 F_maxOffsets_b69 (own_A_ext P1_6 E69) (own_A_ext P2_6 E69) (R1_6.ext E69) (R2_6.ext E69)) hZ (hw _ (List.mem_of_getElem? (i := 10) rfl)) (hw _ (List.mem_of_getElem? (i := 7) rfl)) (by decide) (by decide)) (g := (mkF m 125 #[.val (.int p1), .val (.long q2), .second, .val (.long q3), .second, .val (.long q4), .second, .val (.long q5), .second, .val (.long q6), .second, .val (.int (p1 &&& (3 : Int32))), .val (.int (((p1.toUInt32 >>> ((2 : Int32) &&& 31).toUInt32).toInt32) &&& (3 : Int32))), .val (.int (3 : Int32)), .val (.ref b52), .val (.ref b54), .val (.long ((((0 : Int64) + (q3 - q2)) + (q5 - q4)) + (q2 - q6))), .second, .unset] [(.ref b54), (.ref b52), (.int (((p1.toUInt32 >>> ((2 : Int32) &&& 31).toUInt32).toInt32) &&& (3 : Int32))), (.int (p1 &&& (3 : Int32))), (.ref b69), (.ref b69)])) rfl (by rw [hml]; rfl) (Steps.refl _) (a := b69) (argsL := [(.int (p1 &&& (3 : Int32))), (.int (((p1.toUInt32 >>> ((2 : Int32) &&& 31).toUInt32).toInt32) &&& (3 : Int32))), (.ref b52), (.ref b54)]) (rest := [(.ref b69)]) (lenOf pd_3 rfl) rfl (by show 2 * 0 + _ ≤ _; exact Nat.le_of_eq rfl) (hb hby at_125) (fun _ _ => ⟨rfl, e69, (by decide : 3 + 2 ≤ _), (by decide : 10 + 6 ≤ _)⟩)
    dsimp only [Pt.U, Pt.locs, Pt.cells, Pt.slots] at X71 l71 y71 z71 st71 hQ71
    subst l71 y71 z71
    obtain ⟨rfl, N71q, zz, EE, u1, u2, FM, FX, AM, AX⟩ := hQ71
    have N71 := Fr.app N67 N71q
    have sg72 : ∀ t₀, Steps p.tables e below (T71.setTop (mkF m 132 #[.val (.int p1), .val (.long q2), .second, .val (.long q3), .second, .val (.long q4), .second, .val (.long q5), .second, .val (.long q6), .second, .val (.int (p1 &&& (3 : Int32))), .val (.int (((p1.toUInt32 >>> ((2 : Int32) &&& 31).toUInt32).toInt32) &&& (3 : Int32))), .val (.int (3 : Int32)), .val (.ref b52), .val (.ref b54), .val (.long ((((0 : Int64) + (q3 - q2)) + (q5 - q4)) + (q2 - q6))), .second, .val (.ref b69)] [(.ref b69)])) t₀ → Steps p.tables e below (T71.setTop (mkF m 128 #[.val (.int p1), .val (.long q2), .second, .val (.long q3), .second, .val (.long q4), .second, .val (.long q5), .second, .val (.long q6), .second, .val (.int (p1 &&& (3 : Int32))), .val (.int (((p1.toUInt32 >>> ((2 : Int32) &&& 31).toUInt32).toInt32) &&& (3 : Int32))), .val (.int (3 : Int32)), .val (.ref b52), .val (.ref b54), .val (.long ((((0 : Int64) + (q3 - q2)) + (q5 - q4)) + (q2 - q6))), .second, .unset] [(.ref b69)])) t₀ := by
      intro t₀ kt
      show Steps p.tables e below (T71.setTop (mkF m 128 #[.val (.int p1), .val (.long q2), .second, .val (.long q3), .second, .val (.long q4), .second, .val (.long q5), .second, .val (.long q6), .second, .val (.int (p1 &&& (3 : Int32))), .val (.int (((p1.toUInt32 >>> ((2 : Int32) &&& 31).toUInt32).toInt32) &&& (3 : Int32))), .val (.int (3 : Int32)), .val (.ref b52), .val (.ref b54), .val (.long ((((0 : Int64) + (q3 - q2)) + (q5 - q4)) + (q2 - q6))), .second, .unset] [(.ref b69)])) _
      refine XS.astore X71.here hx rfl (hb hby at_128) rfl rfl (l' := #[.val (.int p1), .val (.long q2), .second, .val (.long q3), .second, .val (.long q4), .second, .val (.long q5), .second, .val (.long q6), .second, .val (.int (p1 &&& (3 : Int32))), .val (.int (((p1.toUInt32 >>> ((2 : Int32) &&& 31).toUInt32).toInt32) &&& (3 : Int32))), .val (.int (3 : Int32)), .val (.ref b52), .val (.ref b54), .val (.long ((((0 : Int64) + (q3 - q2)) + (q5 - q4)) + (q2 - q6))), .second, .val (.ref b69)]) rfl ?_
      show Steps p.tables e below (T71.setTop (mkF m 130 #[.val (.int p1), .val (.long q2), .second, .val (.long q3), .second, .val (.long q4), .second, .val (.long q5), .second, .val (.long q6), .second, .val (.int (p1 &&& (3 : Int32))), .val (.int (((p1.toUInt32 >>> ((2 : Int32) &&& 31).toUInt32).toInt32) &&& (3 : Int32))), .val (.int (3 : Int32)), .val (.ref b52), .val (.ref b54), .val (.long ((((0 : Int64) + (q3 - q2)) + (q5 - q4)) + (q2 - q6))), .second, .val (.ref b69)] [])) _
      refine XS.aload X71.here hx rfl (hb hby at_130) rfl rfl ?_
      exact kt
    obtain ⟨cq73, kq73, q73a, q73b, q73c⟩ := isOf hZ rfl EE
    obtain ⟨_, _, ⟨T73, L73, k73, n73⟩, -, X73, ⟨Lc73, hQ73, l73, y73, z73⟩, st73⟩ := X71.virtualBack hx (y := (⟨"com/example/pulq/pulq/client/TopicStatus", "getMessageCount", "()J"⟩ : MethodName)) (z := (⟨"com/example/pulq/pulq/client/TopicStatus", "getMessageCount", "()J"⟩ : MethodName)) hown (mvT hZ (hw _ (List.mem_of_getElem? (i := 31) rfl))) (mvT hZ (hw _ (List.mem_of_getElem? (i := 32) rfl))) (notFace_of_selects (args := #[]) (mvT hZ (hw _ (List.mem_of_getElem? (i := 34) rfl)))) (mvT hZ (hw _ (List.mem_of_getElem? (i := 34) rfl))) (mvT hZ (hw _ (List.mem_of_getElem? (i := 33) rfl))) (by decide) (backOf (W := 0) (rm4 l Z a0 hw [] b69 u1 u2 3 (fun i => if i = 2 then q6 else (fun i => if i = 1 then q4 else (fun i => if i = 0 then q2 else (fun _ => (0 : Int64)) i) i) i) (fun i => if i = 2 then q2 else (fun i => if i = 1 then q5 else (fun i => if i = 0 then q3 else (fun _ => (0 : Int64)) i) i) i) T71.heap n0 zz (by decide) FM FX AM AX) hZ (hw _ (List.mem_of_getElem? (i := 35) rfl)) (hw _ (List.mem_of_getElem? (i := 7) rfl)) (by decide) (by decide)) q73a q73c (g := (mkF m 132 #[.val (.int p1), .val (.long q2), .second, .val (.long q3), .second, .val (.long q4), .second, .val (.long q5), .second, .val (.long q6), .second, .val (.int (p1 &&& (3 : Int32))), .val (.int (((p1.toUInt32 >>> ((2 : Int32) &&& 31).toUInt32).toInt32) &&& (3 : Int32))), .val (.int (3 : Int32)), .val (.ref b52), .val (.ref b54), .val (.long ((((0 : Int64) + (q3 - q2)) + (q5 - q4)) + (q2 - q6))), .second, .val (.ref b69)] [(.ref b69)])) rfl (by rw [hml]; rfl) (Steps.refl _) (argsL := []) (rest := []) (lenOf pd_0 rfl) rfl (by show 2 * 0 + _ ≤ _; exact Nat.le_of_eq rfl) (hb hby at_132) (fun _ _ => ⟨rfl, rfl, (by decide : 5 + 0 ≤ _), (by decide : 16 + 0 ≤ _)⟩)
    dsimp only [Pt.U, Pt.locs, Pt.cells, Pt.slots] at X73 l73 y73 z73 st73 hQ73
    subst l73 y73 z73
    obtain ⟨rfl, N73q, hh73⟩ := hQ73
    have N73 := Fr.app N71 N73q
    have hE : own_s (fun i => if i = 2 then q6 else (fun i => if i = 1 then q4 else (fun i => if i = 0 then q2 else (fun _ => (0 : Int64)) i) i) i) (fun i => if i = 2 then q2 else (fun i => if i = 1 then q5 else (fun i => if i = 0 then q3 else (fun _ => (0 : Int64)) i) i) i) 3 0 0 = ((((0 : Int64) + (q3 - q2)) + (q5 - q4)) + (q2 - q6)) := by first | rfl | simp [own_s]
    have sg74 : ∀ t₀, Steps p.tables e below (T73.setTop (mkF m 146 #[.val (.int p1), .val (.long q2), .second, .val (.long q3), .second, .val (.long q4), .second, .val (.long q5), .second, .val (.long q6), .second, .val (.int (p1 &&& (3 : Int32))), .val (.int (((p1.toUInt32 >>> ((2 : Int32) &&& 31).toUInt32).toInt32) &&& (3 : Int32))), .val (.int (3 : Int32)), .val (.ref b52), .val (.ref b54), .val (.long ((((0 : Int64) + (q3 - q2)) + (q5 - q4)) + (q2 - q6))), .second, .val (.ref b69)] [(.int (1 : Int32))])) t₀ → Steps p.tables e below (T73.setTop (mkF m 135 #[.val (.int p1), .val (.long q2), .second, .val (.long q3), .second, .val (.long q4), .second, .val (.long q5), .second, .val (.long q6), .second, .val (.int (p1 &&& (3 : Int32))), .val (.int (((p1.toUInt32 >>> ((2 : Int32) &&& 31).toUInt32).toInt32) &&& (3 : Int32))), .val (.int (3 : Int32)), .val (.ref b52), .val (.ref b54), .val (.long ((((0 : Int64) + (q3 - q2)) + (q5 - q4)) + (q2 - q6))), .second, .val (.ref b69)] [(.long (own_s (fun i => if i = 2 then q6 else (fun i => if i = 1 then q4 else (fun i => if i = 0 then q2 else (fun _ => (0 : Int64)) i) i) i) (fun i => if i = 2 then q2 else (fun i => if i = 1 then q5 else (fun i => if i = 0 then q3 else (fun _ => (0 : Int64)) i) i) i) 3 0 0))])) t₀ := by
      intro t₀ kt
      show Steps p.tables e below (T73.setTop (mkF m 135 #[.val (.int p1), .val (.long q2), .second, .val (.long q3), .second, .val (.long q4), .second, .val (.long q5), .second, .val (.long q6), .second, .val (.int (p1 &&& (3 : Int32))), .val (.int (((p1.toUInt32 >>> ((2 : Int32) &&& 31).toUInt32).toInt32) &&& (3 : Int32))), .val (.int (3 : Int32)), .val (.ref b52), .val (.ref b54), .val (.long ((((0 : Int64) + (q3 - q2)) + (q5 - q4)) + (q2 - q6))), .second, .val (.ref b69)] [(.long (own_s (fun i => if i = 2 then q6 else (fun i => if i = 1 then q4 else (fun i => if i = 0 then q2 else (fun _ => (0 : Int64)) i) i) i) (fun i => if i = 2 then q2 else (fun i => if i = 1 then q5 else (fun i => if i = 0 then q3 else (fun _ => (0 : Int64)) i) i) i) 3 0 0))])) _
      refine XS.lload X73.here hx rfl (hb hby at_135) rfl ?_
      show Steps p.tables e below (T73.setTop (mkF m 137 #[.val (.int p1), .val (.long q2), .second, .val (.long q3), .second, .val (.long q4), .second, .val (.long q5), .second, .val (.long q6), .second, .val (.int (p1 &&& (3 : Int32))), .val (.int (((p1.toUInt32 >>> ((2 : Int32) &&& 31).toUInt32).toInt32) &&& (3 : Int32))), .val (.int (3 : Int32)), .val (.ref b52), .val (.ref b54), .val (.long ((((0 : Int64) + (q3 - q2)) + (q5 - q4)) + (q2 - q6))), .second, .val (.ref b69)] [(.long ((((0 : Int64) + (q3 - q2)) + (q5 - q4)) + (q2 - q6))), (.long (own_s (fun i => if i = 2 then q6 else (fun i => if i = 1 then q4 else (fun i => if i = 0 then q2 else (fun _ => (0 : Int64)) i) i) i) (fun i => if i = 2 then q2 else (fun i => if i = 1 then q5 else (fun i => if i = 0 then q3 else (fun _ => (0 : Int64)) i) i) i) 3 0 0))])) _
      refine XS.lcmp X73.here hx rfl (hb hby at_137) rfl ?_
      show Steps p.tables e below (T73.setTop (mkF m 138 #[.val (.int p1), .val (.long q2), .second, .val (.long q3), .second, .val (.long q4), .second, .val (.long q5), .second, .val (.long q6), .second, .val (.int (p1 &&& (3 : Int32))), .val (.int (((p1.toUInt32 >>> ((2 : Int32) &&& 31).toUInt32).toInt32) &&& (3 : Int32))), .val (.int (3 : Int32)), .val (.ref b52), .val (.ref b54), .val (.long ((((0 : Int64) + (q3 - q2)) + (q5 - q4)) + (q2 - q6))), .second, .val (.ref b69)] [(.int (lcmpW (own_s (fun i => if i = 2 then q6 else (fun i => if i = 1 then q4 else (fun i => if i = 0 then q2 else (fun _ => (0 : Int64)) i) i) i) (fun i => if i = 2 then q2 else (fun i => if i = 1 then q5 else (fun i => if i = 0 then q3 else (fun _ => (0 : Int64)) i) i) i) 3 0 0) ((((0 : Int64) + (q3 - q2)) + (q5 - q4)) + (q2 - q6))))])) _
      refine XS.ifNo X73.here hx rfl (hb hby at_138) rfl ((if0 _ _).trans (teq ((lw_eq _ _).mpr hE)).2) ?_
      show Steps p.tables e below (T73.setTop (mkF m 141 #[.val (.int p1), .val (.long q2), .second, .val (.long q3), .second, .val (.long q4), .second, .val (.long q5), .second, .val (.long q6), .second, .val (.int (p1 &&& (3 : Int32))), .val (.int (((p1.toUInt32 >>> ((2 : Int32) &&& 31).toUInt32).toInt32) &&& (3 : Int32))), .val (.int (3 : Int32)), .val (.ref b52), .val (.ref b54), .val (.long ((((0 : Int64) + (q3 - q2)) + (q5 - q4)) + (q2 - q6))), .second, .val (.ref b69)] [])) _
      refine XS.iconst X73.here hx rfl (hb hby at_141) ?_
      show Steps p.tables e below (T73.setTop (mkF m 142 #[.val (.int p1), .val (.long q2), .second, .val (.long q3), .second, .val (.long q4), .second, .val (.long q5), .second, .val (.long q6), .second, .val (.int (p1 &&& (3 : Int32))), .val (.int (((p1.toUInt32 >>> ((2 : Int32) &&& 31).toUInt32).toInt32) &&& (3 : Int32))), .val (.int (3 : Int32)), .val (.ref b52), .val (.ref b54), .val (.long ((((0 : Int64) + (q3 - q2)) + (q5 - q4)) + (q2 - q6))), .second, .val (.ref b69)] [(.int (1 : Int32))])) _
      refine XS.goto X73.here hx rfl (pc0 := 142) (pc' := 146) rfl (hb hby at_142) (by decide) (by decide) ?_
      exact kt
    obtain ⟨fs, hr, hrun, hended, hW, hsame⟩ := X73.leave (v := some (.int (1 : Int32))) (fun h => by rw [Bd.returns] at h; cases h)
    refine ⟨_, _, pre0 _ ?_, hrun, hended, _, _, rfl, ?_, ⟨_, rfl⟩, hW, hsame.mono (by decide) (by decide)⟩
    · exact sg1 _ (st2 _ (sg51 _ (st52 _ (sg53 _ (st54 _ (sg55 _ (sg56 _ (st57 _ (sg58 _ (st59 _ (sg60 _ (st61 _ (sg62 _ (st63 _ (sg64 _ (st65 _ (sg66 _ (st67 _ (sg68 _ (st69 _ (sg70 _ (st71.trans (sg72 _ (st73.trans (sg74 _ ((retN X73 hx (t := .boolean) Bd.returns (by simp) (hb hby at_146) hr)))))))))))))))))))))))))))
    · show Q0 Z p1 q2 q3 q4 q5 q6 h0 n0 _ T73.heap _
      rw [hh73]
      exact ⟨rfl, N73⟩
set_option maxRecDepth 65536 in
set_option maxHeartbeats 40000000 in
theorem comes_1 {Post : Tables → Env → Array Value → State → Outcome → State → Prop} (hpost : ∀ tb e args s v u, (limb_1_1.after args s (.returned v) u = true ∧ limb_1_2.after args s (.returned v) u = true ∧ True) → FrameEnd s (.returned v) u (Jvm.fieldLocs frame_1_writes args s ++ Jvm.arrayLocs frame_1_arrays args s ++ Jvm.staticLocs frame_1_statics s) 24 128 → Post tb e args s (.returned v) u) :
    ArmFor flags0 classFile x code maxLocals ret World_1 tables_1 room_1 Calls_1 rest_1 Pre_1 Post := by
  intro l hfl _ _ p e ha hc hk s m args below hf hA hF happ hP
  obtain ⟨hcalls, hrest, hpre⟩ := hP
  obtain ⟨-, -, -, hnamed, -, -, -, hat⟩ := (Spec.applies_iff hf).mp happ
  obtain ⟨hg, hn⟩ := and_e (Cond.before_iff.mp (show (Jvm.Cond.and given_1 narrow_1).before args s = true from hpre))
  obtain ⟨hg0, hr0⟩ := and_e hg
  obtain ⟨ha0, hr1⟩ := and_e hr0
  obtain ⟨ha1, hr2⟩ := and_e hr1
  obtain ⟨ha2, hr3⟩ := and_e hr2
  obtain ⟨ha3, hr4⟩ := and_e hr3
  obtain ⟨ha4, hr5⟩ := and_e hr4
  obtain ⟨w0, w1, w2, w3, w4, w5, rfl⟩ : ∃ w0 w1 w2 w3 w4 w5 : Value, args = #[w0, w1, w2, w3, w4, w5] := by
    have hs : args.size = 6 := by simpa [Cond.value, given_1] using hg0
    obtain ⟨L⟩ := args
    match L, hs with
    | [w0, w1, w2, w3, w4, w5], _ => exact ⟨w0, w1, w2, w3, w4, w5, rfl⟩
  have hw := fun d (hd : d ∈ tables_1) => atoms_spec (ws := Jvm.Cond.code x code maxLocals ret :: tables_1) hat d (List.mem_cons_of_mem _ hd)
  obtain ⟨i0, ei0⟩ := is_v ha0
  obtain rfl : w0 = (.int i0) := Option.some.inj ei0
  obtain ⟨i1, ei1⟩ := isL_v ha1
  obtain rfl : w1 = (.long i1) := Option.some.inj ei1
  obtain ⟨i2, ei2⟩ := isL_v ha2
  obtain rfl : w2 = (.long i2) := Option.some.inj ei2
  obtain ⟨i3, ei3⟩ := isL_v ha3
  obtain rfl : w3 = (.long i3) := Option.some.inj ei3
  obtain ⟨i4, ei4⟩ := isL_v ha4
  obtain rfl : w4 = (.long i4) := Option.some.inj ei4
  obtain ⟨i5, ei5⟩ := isL_v hr5
  obtain rfl : w5 = (.long i5) := Option.some.inj ei5
  obtain ⟨n, o, h1, h2, h3, _, L, rfl, ⟨rfl, N⟩, hq⟩ := rm0 l s _ hw tables_1 i0 i1 i2 i3 i4 i5 s.heap s.heap.size (Nat.le_refl _) p e ha hc hk s m _ below hf ((Spec.applies_iff_loose hf).mp happ).1 ⟨rfl, State.Warmed39.refl s, rfl⟩ trivial
  refine ⟨n, _, h1, h2, h3, hpost _ _ _ _ _ _ ⟨Cond.after_iff.mpr rfl, Cond.after_iff.mpr (eq_i res_at (Term.int_eval (1)) rfl), trivial⟩ ⟨hq.1, hq.2.1, (hq.2.2.sift fun y hy => Or.inr (N y hy)).mono (by decide) (by decide)⟩⟩
theorem main_1_1 : Claimed_1_1 := comes_1 fun _ _ _ _ _ _ h hF => ⟨h.1, hF⟩
theorem main_1_2 : Claimed_1_2 := comes_1 fun _ _ _ _ _ _ h hF => ⟨h.2.1, hF⟩
end Jvm.Pilot.@@N@@
namespace Jvm.Pilot.@@N@@
open Jvm Jvm.ClassFile Sem Op Lib Jvm.Free Jvm.Stand Jvm.Pilot.@@N@@.Jvm.D
/-! MADE BY PROGRAM (witnessworld.py) out of the Statement's table words and the real class files: 12 classes; the members and pool entries that the words name. The judged class is class 1, her method 1. -/
namespace start1
open Jvm.ClassFile
def u (s : String) : CpInfo := .utf8 (stringToUtf16 s)
/-- a pool by its gaps: so many unusable entries, then the entry; so many at the end -/
def gap : Nat → List CpInfo → List CpInfo
  | 0, r => r
  | n + 1, r => .unusable :: gap n r
def poolList (es : List (Nat × CpInfo)) (last : Nat) : List CpInfo := es.foldr (fun e r => gap e.1 (e.2 :: r)) (gap last [])
def pool (es : List (Nat × CpInfo)) (last : Nat) : Array CpInfo := ⟨poolList es last⟩
def fileOf (pool : Array CpInfo) (this : Nat) (attrs : Array Attribute := #[]) (ms : Array MethodInfo := #[]) (fl : Nat := 33) (sup : Nat := 0) (ifs : Array Nat := #[]) (fds : Array FieldInfo := #[]) : ClassFile where
  minorVersion := 0
  majorVersion := 65
  constantPool := pool
  accessFlags := fl
  thisClass := this
  superClass := sup
  interfaces := ifs
  fields := fds
  methods := ms
  attributes := attrs
def plain (name : String) (sup : Option ClassId) : Class where
  name := name
  kind := .ordinary
  loader := none
  accessFlags := 33
  super := sup
  interfaces := #[]
  cf := none
  fields := #[]
  methods := #[]
  instanceTypes := #[]
  staticTypes := #[]
  resolved := #[]
  callSites := []
  init := .initialized
  statics := none
  mirror := none

def pool0 : Array CpInfo := pool [(5, u "<init>"), (0, u "()V"), (1, .class_ 10), (1, u "java/lang/Object"), (85, u "clone"), (0, u "()Ljava/lang/Object;")] 26

def k0c0 : Code := { maxStack := 0, maxLocals := 1, code := object_method_1_code, exceptionTable := #[], attributes := #[] }
def k0m0 : Method := { name := "<init>", desc := "()V", sig := { parameters := [], returnType := none }, accessFlags := 1, code := some k0c0 }
def k0m1 : Method := { name := "clone", desc := "()Ljava/lang/Object;", sig := { parameters := [], returnType := some (.object "java/lang/Object") }, accessFlags := 260, code := none }
/-- java/lang/Object -/
def k0 : Class := { plain "java/lang/Object" none with
  accessFlags := 33
  interfaces := #[]
  cf := some (fileOf pool0 8 #[] #[{ accessFlags := 1, nameIndex := 5, descriptorIndex := 6, attributes := #[] }, { accessFlags := 260, nameIndex := 96, descriptorIndex := 97, attributes := #[] }] 33 0 #[] #[])
  fields := #[]
  methods := #[k0m0, k0m1]
  instanceTypes := #[]
  staticTypes := #[]
  resolved := Array.replicate 124 none
  statics := none }

def pool1 : Array CpInfo := pool [(2, .class_ 4), (1, u "java/lang/Object"), (0, u "<init>"), (0, u "()V"), (0, .methodref 8 9), (0, .class_ 10), (0, .nameAndType 11 12), (0, u "java/lang/Math"), (0, u "max"), (0, u "(II)I"), (0, .class_ 14), (0, u "com/example/pulq/pulq/client/TopicStatus"), (0, .methodref 13 16), (0, .nameAndType 5 17), (0, u "(II[J[J)V"), (0, .methodref 13 19), (0, .nameAndType 20 21), (0, u "getMessageCount"), (0, u "()J"), (0, .class_ 23), (0, u "com/example/pulq/pulq/client/TopicStatusGetMessageCountPinLaw"), (2, u "law"), (0, u "(IJJJJJ)Z")] 5

def k1m0 : Method := { name := "<init>", desc := "()V", sig := { parameters := [], returnType := none }, accessFlags := 1, code := none }
def k1c1 : Code := { maxStack := 6, maxLocals := 19, code := code, exceptionTable := #[], attributes := #[] }
def k1m1 : Method := { name := "law", desc := "(IJJJJJ)Z", sig := { parameters := [.int, .long, .long, .long, .long, .long], returnType := some .boolean }, accessFlags := 9, code := some k1c1 }
/-- com/example/pulq/pulq/client/TopicStatusGetMessageCountPinLaw -/
def k1 : Class := { plain "com/example/pulq/pulq/client/TopicStatusGetMessageCountPinLaw" (some 0) with
  accessFlags := 49
  interfaces := #[]
  cf := some (fileOf pool1 22 #[] #[{ accessFlags := 1, nameIndex := 5, descriptorIndex := 6, attributes := #[] }, { accessFlags := 9, nameIndex := 26, descriptorIndex := 27, attributes := #[] }] 49 2 #[] #[])
  fields := #[]
  methods := #[k1m0, k1m1]
  instanceTypes := #[]
  staticTypes := #[]
  resolved := Array.replicate 33 none
  statics := none }

def pool2 : Array CpInfo := pool [(1, .class_ 2), (0, u "java/lang/Math"), (1, .class_ 6), (1, u "java/lang/Object"), (0, u "<init>"), (0, u "()V"), (89, .class_ 100), (1, u "java/lang/Math$RandomNumberGeneratorHolder"), (71, u "negativeZeroFloatBits"), (0, u "J"), (2, u "negativeZeroDoubleBits"), (21, u "max"), (46, u "$assertionsDisabled"), (0, u "Z"), (88, u "(II)I"), (2, u "twoToTheDoubleScaleDown"), (0, u "D"), (4, u "twoToTheDoubleScaleUp"), (9, u "E"), (3, u "PI"), (2, u "TAU"), (2, u "DEGREES_TO_RADIANS"), (0, u "RADIANS_TO_DEGREES")] 94

def k2m0 : Method := { name := "<init>", desc := "()V", sig := { parameters := [], returnType := none }, accessFlags := 2, code := none }
def k2c1 : Code := { maxStack := 2, maxLocals := 2, code := jdk_29_method_65_code, exceptionTable := #[], attributes := #[] }
def k2m1 : Method := { name := "max", desc := "(II)I", sig := { parameters := [.int, .int], returnType := some .int }, accessFlags := 9, code := some k2c1 }
/-- java/lang/Math -/
def k2 : Class := { plain "java/lang/Math" (some 0) with
  accessFlags := 49
  interfaces := #[]
  cf := some (fileOf pool2 1 #[.nestMembers #[98]] #[{ accessFlags := 2, nameIndex := 7, descriptorIndex := 8, attributes := #[] }, { accessFlags := 9, nameIndex := 198, descriptorIndex := 335, attributes := #[] }] 49 4 #[] #[{ accessFlags := 25, nameIndex := 354, descriptorIndex := 339, attributes := #[] }, { accessFlags := 25, nameIndex := 358, descriptorIndex := 339, attributes := #[] }, { accessFlags := 25, nameIndex := 361, descriptorIndex := 339, attributes := #[] }, { accessFlags := 26, nameIndex := 364, descriptorIndex := 339, attributes := #[] }, { accessFlags := 26, nameIndex := 365, descriptorIndex := 339, attributes := #[] }, { accessFlags := 26, nameIndex := 172, descriptorIndex := 173, attributes := #[] }, { accessFlags := 26, nameIndex := 176, descriptorIndex := 173, attributes := #[] }, { accessFlags := 8, nameIndex := 344, descriptorIndex := 339, attributes := #[] }, { accessFlags := 8, nameIndex := 338, descriptorIndex := 339, attributes := #[] }, { accessFlags := 4120, nameIndex := 245, descriptorIndex := 246, attributes := #[] }])
  fields := #[{ name := "E", type := .double, accessFlags := 25, slot := 0, constantValue := 0 }, { name := "PI", type := .double, accessFlags := 25, slot := 1, constantValue := 0 }, { name := "TAU", type := .double, accessFlags := 25, slot := 2, constantValue := 0 }, { name := "DEGREES_TO_RADIANS", type := .double, accessFlags := 26, slot := 3, constantValue := 0 }, { name := "RADIANS_TO_DEGREES", type := .double, accessFlags := 26, slot := 4, constantValue := 0 }, { name := "negativeZeroFloatBits", type := .long, accessFlags := 26, slot := 5, constantValue := 0 }, { name := "negativeZeroDoubleBits", type := .long, accessFlags := 26, slot := 6, constantValue := 0 }, { name := "twoToTheDoubleScaleUp", type := .double, accessFlags := 8, slot := 7, constantValue := 0 }, { name := "twoToTheDoubleScaleDown", type := .double, accessFlags := 8, slot := 8, constantValue := 0 }, { name := "$assertionsDisabled", type := .boolean, accessFlags := 4120, slot := 9, constantValue := 0 }]
  methods := #[k2m0, k2m1]
  instanceTypes := #[]
  staticTypes := #[.double, .double, .double, .double, .double, .long, .long, .double, .double, .boolean]
  resolved := Array.replicate 460 none
  statics := none }

def pool3 : Array CpInfo := pool [(1, .methodref 2 3), (0, .class_ 4), (0, .nameAndType 5 6), (0, u "java/lang/Object"), (0, u "<init>"), (0, u "()V"), (9, .fieldref 17 18), (0, .class_ 19), (0, .nameAndType 20 21), (0, u "com/example/pulq/pulq/client/TopicStatus"), (0, u "writeQueues"), (0, u "I"), (0, .fieldref 17 23), (0, .nameAndType 24 21), (0, u "readQueues"), (0, .methodref 26 27), (0, .class_ 28), (0, .nameAndType 29 30), (0, u "[J"), (0, u "clone"), (0, u "()Ljava/lang/Object;"), (0, .fieldref 17 32), (0, .nameAndType 33 28), (0, u "minOffsets"), (0, .fieldref 17 35), (0, .nameAndType 36 28), (0, u "maxOffsets"), (0, u "(II[J[J)V"), (10, u "getMessageCount"), (0, u "()J")] 17

def k3c0 : Code := { maxStack := 4, maxLocals := 5, code := prog_13_method_1_code, exceptionTable := #[], attributes := #[] }
def k3m0 : Method := { name := "<init>", desc := "(II[J[J)V", sig := { parameters := [.int, .int, (.array .long), (.array .long)], returnType := none }, accessFlags := 1, code := some k3c0 }
def k3c1 : Code := { maxStack := 6, maxLocals := 4, code := prog_13_method_7_code, exceptionTable := #[], attributes := #[] }
def k3m1 : Method := { name := "getMessageCount", desc := "()J", sig := { parameters := [], returnType := some .long }, accessFlags := 1, code := some k3c1 }
/-- com/example/pulq/pulq/client/TopicStatus -/
def k3 : Class := { plain "com/example/pulq/pulq/client/TopicStatus" (some 0) with
  accessFlags := 49
  interfaces := #[]
  cf := some (fileOf pool3 17 #[] #[{ accessFlags := 1, nameIndex := 5, descriptorIndex := 37, attributes := #[] }, { accessFlags := 1, nameIndex := 48, descriptorIndex := 49, attributes := #[] }] 49 2 #[] #[{ accessFlags := 18, nameIndex := 20, descriptorIndex := 21, attributes := #[] }, { accessFlags := 18, nameIndex := 24, descriptorIndex := 21, attributes := #[] }, { accessFlags := 18, nameIndex := 33, descriptorIndex := 28, attributes := #[] }, { accessFlags := 18, nameIndex := 36, descriptorIndex := 28, attributes := #[] }])
  fields := #[{ name := "writeQueues", type := .int, accessFlags := 18, slot := 0, constantValue := 0 }, { name := "readQueues", type := .int, accessFlags := 18, slot := 1, constantValue := 0 }, { name := "minOffsets", type := (.array .long), accessFlags := 18, slot := 2, constantValue := 0 }, { name := "maxOffsets", type := (.array .long), accessFlags := 18, slot := 3, constantValue := 0 }]
  methods := #[k3m0, k3m1]
  instanceTypes := #[.int, .int, (.array .long), (.array .long)]
  staticTypes := #[]
  resolved := Array.replicate 67 none
  statics := none }

def pool4 : Array CpInfo := pool [(1, .class_ 2), (0, u "java/lang/Cloneable"), (0, .class_ 4), (0, u "java/lang/Object")] 2

/-- java/lang/Cloneable -/
def k4 : Class := { plain "java/lang/Cloneable" (some 0) with
  accessFlags := 1537
  interfaces := #[]
  cf := some (fileOf pool4 1 #[] #[] 1537 3 #[] #[])
  fields := #[]
  methods := #[]
  instanceTypes := #[]
  staticTypes := #[]
  resolved := Array.replicate 7 none
  statics := none }

def pool5 : Array CpInfo := pool [(1, u "java/io/Serializable"), (0, .class_ 1), (0, u "java/lang/Object"), (0, .class_ 3)] 3

/-- java/io/Serializable -/
def k5 : Class := { plain "java/io/Serializable" (some 0) with
  accessFlags := 1537
  interfaces := #[]
  cf := some (fileOf pool5 2 #[] #[] 1537 4 #[] #[])
  fields := #[]
  methods := #[]
  instanceTypes := #[]
  staticTypes := #[]
  resolved := Array.replicate 8 none
  statics := none }

/-- the primitive byte -/
def k6 : Class := { plain "byte" none with kind := .primitive 'B', accessFlags := 0x411 }
/-- [B -/
def k7 : Class := { plain "[B" (some 0) with kind := .array 6 .byte, interfaces := #[4, 5], accessFlags := 1041 }

/-- the primitive int -/
def k8 : Class := { plain "int" none with kind := .primitive 'I', accessFlags := 0x411 }
/-- [I -/
def k9 : Class := { plain "[I" (some 0) with kind := .array 8 .int, interfaces := #[4, 5], accessFlags := 1041 }

/-- the primitive long -/
def k10 : Class := { plain "long" none with kind := .primitive 'J', accessFlags := 0x411 }
/-- [J -/
def k11 : Class := { plain "[J" (some 0) with kind := .array 10 .long, interfaces := #[4, 5], accessFlags := 1041 }

def heap : Heap := #[]
def classes : Array Class := #[k0, k1, k2, k3, k4, k5, k6, k7, k8, k9, k10, k11]
def interned : List (Array UInt16 × Addr) := []
def slotsUsed : Nat := 0
def theMethod : MethodId := ⟨1, 1⟩
def args0 : Array Value := #[.int 3, .long 2, .long 1, .long 9, .long 7, .long 4]
def aboutOver (below : List Frame) : State where
  vm := { classes := classes, interned := interned.toArray }
  heap := heap
  slotsUsed := slotsUsed
  threads := #[{ frames := .invoking theMethod args0 :: below }]
def below0 : List Frame := [.native { method := ⟨0, 0⟩, args := #[] }]
def about1 : State := aboutOver below0
def p0 : Program := .bare "" "" ""
def e0 : Env := launch0.env 0 0 0
theorem w_frames : about1.frames = Frame.invoking theMethod args0 :: below0 := rfl
set_option maxRecDepth 65536 in
theorem w_args : argsFit about1.vm theMethod args0 = true := by decide +kernel
set_option maxRecDepth 65536 in
theorem w_heap : heapFits about1 = true := by decide +kernel
set_option maxRecDepth 65536 in
theorem w_runnable : about1.curStatus? = some .runnable := by decide +kernel
set_option maxRecDepth 65536 in
theorem w_alone : about1.alone = true := by decide +kernel
set_option maxRecDepth 65536 in
theorem w_named : about1.methodNamed? x = some theMethod := by decide +kernel
set_option maxRecDepth 65536 in
theorem w_hears : about1.hears theMethod below0 = true := by decide +kernel
set_option maxRecDepth 65536 in
theorem w_ripe : about1.ripe theMethod args0 below0 = true := by decide +kernel
theorem w_running : about1.status = .running := rfl
set_option maxRecDepth 65536 in
theorem w_room : about1.hasRoom e0.platform room_1 = true :=
  launch0.hasRoom_least _ room_1 (by decide +kernel) (by decide +kernel) (by decide +kernel) (by decide +kernel) (by decide +kernel) (by decide +kernel)
theorem allAtoms_all (ts : List Jvm.Cond) (a : Array Jvm.Value) (st : Jvm.State) : (allAtoms ts).before a st = ts.all (fun c => c.before a st) := by
  induction ts with
  | nil => rfl
  | cons c t ih =>
    show (Jvm.Cond.and c (allAtoms t)).before a st = _
    rw [Jvm.Cond.before_and, ih, List.all_cons]
def words1 : List Jvm.Cond := Jvm.Cond.code x code maxLocals ret :: tables_1
/-- a 'code' word, met by the world's own term for the bytes: nothing is compared byte by byte -/
theorem code_word {y : MethodName} {bytes : ByteArray} {mx : Nat} {rt : Option FieldType} {a : Array Value} {s : State} {m : MethodId} {meth : Method} {c : Code} (h1 : s.methodNamed? y = some m) (h2 : s.vm.method? m = some meth) (h3 : meth.code = some c) (h4 : c.code = bytes)
    (h5 : (c.maxLocals == mx && c.exceptionTable.isEmpty && decide (c.maxStack ≤ mostOperands) && decide (meth.sig.returnType = rt) && !meth.locks && decide (parseMethodDescriptor y.desc = some meth.sig)) = true) : (Jvm.Cond.code y bytes mx rt).before a s = true := by
  simp only [Bool.and_eq_true, beq_iff_eq, Bool.not_eq_true', decide_eq_true_eq] at h5
  obtain ⟨⟨⟨⟨⟨g1, g2⟩, g3⟩, g4⟩, g5⟩, g6⟩ := h5
  simp [Cond.before, Cond.holds, Cond.value, h1, h2, h3, h4, g1, g2, g3, g4, g5, g6]
def isCode : Jvm.Cond → Bool
  | .code _ _ _ _ => true
  | _ => false
theorem all_split {L : List Jvm.Cond} {P : Jvm.Cond → Bool} (h1 : L.all (fun c => isCode c || P c) = true) (h2 : ∀ c ∈ L.filter isCode, P c = true) : L.all P = true := by
  refine List.all_eq_true.mpr fun c hc => ?_
  have h := List.all_eq_true.mp h1 c hc
  rcases Bool.eq_false_or_eq_true (isCode c) with hi | hi
  · exact h2 c (List.mem_filter.mpr ⟨hc, hi⟩)
  · simpa [hi] using h
set_option maxRecDepth 65536 in
theorem w_c0 : (Jvm.Cond.code x code maxLocals ret).before args0 about1 = true := code_word (m := ⟨1, 1⟩) (meth := k1m1) (c := k1c1) (by decide +kernel) rfl rfl rfl (by decide +kernel)
set_option maxRecDepth 65536 in
theorem w_c1 : (Jvm.Cond.code ({ cls := "java/lang/Math", name := "max", desc := "(II)I" } : Jvm.MethodName) jdk_29_method_65_code (2 : Nat) (Option.some Jvm.ClassFile.FieldType.int)).before args0 about1 = true := code_word (m := ⟨2, 1⟩) (meth := k2m1) (c := k2c1) (by decide +kernel) rfl rfl rfl (by decide +kernel)
set_option maxRecDepth 65536 in
theorem w_c2 : (Jvm.Cond.code ({ cls := "com/example/pulq/pulq/client/TopicStatus", name := "<init>", desc := "(II[J[J)V" } : Jvm.MethodName) prog_13_method_1_code (5 : Nat) (Option.none : Option Jvm.ClassFile.FieldType)).before args0 about1 = true := code_word (m := ⟨3, 0⟩) (meth := k3m0) (c := k3c0) (by decide +kernel) rfl rfl rfl (by decide +kernel)
set_option maxRecDepth 65536 in
theorem w_c3 : (Jvm.Cond.code ({ cls := "java/lang/Object", name := "<init>", desc := "()V" } : Jvm.MethodName) object_method_1_code (1 : Nat) (Option.none : Option Jvm.ClassFile.FieldType)).before args0 about1 = true := code_word (m := ⟨0, 0⟩) (meth := k0m0) (c := k0c0) (by decide +kernel) rfl rfl rfl (by decide +kernel)
set_option maxRecDepth 65536 in
theorem w_c4 : (Jvm.Cond.code ({ cls := "com/example/pulq/pulq/client/TopicStatus", name := "getMessageCount", desc := "()J" } : Jvm.MethodName) prog_13_method_7_code (4 : Nat) (Option.some Jvm.ClassFile.FieldType.long)).before args0 about1 = true := code_word (m := ⟨3, 1⟩) (meth := k3m1) (c := k3c1) (by decide +kernel) rfl rfl rfl (by decide +kernel)
def codes1 : List Jvm.Cond := [Jvm.Cond.code x code maxLocals ret, Jvm.Cond.code ({ cls := "java/lang/Math", name := "max", desc := "(II)I" } : Jvm.MethodName) jdk_29_method_65_code (2 : Nat) (Option.some Jvm.ClassFile.FieldType.int), Jvm.Cond.code ({ cls := "com/example/pulq/pulq/client/TopicStatus", name := "<init>", desc := "(II[J[J)V" } : Jvm.MethodName) prog_13_method_1_code (5 : Nat) (Option.none : Option Jvm.ClassFile.FieldType), Jvm.Cond.code ({ cls := "java/lang/Object", name := "<init>", desc := "()V" } : Jvm.MethodName) object_method_1_code (1 : Nat) (Option.none : Option Jvm.ClassFile.FieldType), Jvm.Cond.code ({ cls := "com/example/pulq/pulq/client/TopicStatus", name := "getMessageCount", desc := "()J" } : Jvm.MethodName) prog_13_method_7_code (4 : Nat) (Option.some Jvm.ClassFile.FieldType.long)]
set_option maxRecDepth 65536 in
theorem codes_eq : words1.filter isCode = codes1 := rfl
theorem w_codes : ∀ c ∈ words1.filter isCode, c.before args0 about1 = true := by
  rw [codes_eq]
  intro c hc
  simp only [codes1, List.mem_cons, List.not_mem_nil, or_false] at hc
  rcases hc with rfl | rfl | rfl | rfl | rfl
  · exact w_c0
  · exact w_c1
  · exact w_c2
  · exact w_c3
  · exact w_c4
set_option maxRecDepth 65536 in
theorem w_t1 : (words1.take 24).all (fun c => isCode c || c.before args0 about1) = true := by decide +kernel
set_option maxRecDepth 65536 in
theorem w_t2 : (words1.drop 24).all (fun c => isCode c || c.before args0 about1) = true := by decide +kernel
theorem w_tables : (allAtoms (Jvm.Cond.code x code maxLocals ret :: tables_1)).before args0 about1 = true := by
  rw [allAtoms_all]
  show words1.all (fun c => c.before args0 about1) = true
  refine all_split ?_ w_codes
  rw [← List.take_append_drop 24 words1, List.all_append, w_t1, w_t2]
  rfl
set_option maxRecDepth 65536 in
theorem w_case : (Jvm.Cond.and given_1 narrow_1).before args0 about1 = true := by decide +kernel
theorem w_applies : (headSpec (Jvm.Cond.code x code maxLocals ret :: tables_1) room_1).applies x e0.platform about1 = true :=
  (Spec.applies_iff w_frames).mpr ⟨w_running, w_runnable, w_alone, w_named, w_hears, w_ripe, w_room, w_tables⟩
theorem atStart : AtStart classFile x code maxLocals ret World_1 tables_1 room_1 Calls_1 rest_1 Pre_1 launch0 p0 e0 about1 theMethod args0 below0 :=
  ⟨lists_1, trivial, launch0.admits_env _ _ _, launch0.least_env, fairChoices_fair.cas, fairChoices_fair.clock, w_frames, w_args, w_heap, w_applies, trivial, trivial, w_case⟩
end start1
theorem witness_1 : WitnessClaimed_1 := ⟨start1.p0, start1.e0, start1.about1, start1.theMethod, start1.args0, start1.below0, start1.atStart⟩
end Jvm.Pilot.@@N@@
