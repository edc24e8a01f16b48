import JvmDerived
import JvmDerived.Pilot.@@N@@Statement
import JvmDerived.Pilot.@@N@@Code
set_option linter.unusedVariables false
set_option linter.unusedSimpArgs false
namespace Jvm.Pilot.@@N@@
open Jvm Jvm.ClassFile Sem Op Lib Jvm.Free Jvm.Stand Jvm.LawKit Jvm.RoadKit Bundle Jvm.Pilot.@@N@@.Jvm.D
theorem pn_2 : plainName "java/lang/Record" = true := by first | (simp [plainName, overriddenIn]; done) | decide +kernel
theorem ef_2 (m : MethodId) (x0 : Addr) : entryFrame m #[(.ref x0)] 1 = mkF m 0 #[.val (.ref x0)] [] := by first | (simp [entryFrame, mkF, argsToLocals, Value.category]; done) | rfl
theorem d2_0 : decode jdk_30_method_1_code 0 = .ok (.aload_n 0, 1) := by decide +kernel
theorem d2_1 : decode jdk_30_method_1_code 1 = .ok (.invokespecial 1, 3) := by decide +kernel
theorem d2_4 : decode jdk_30_method_1_code 4 = .ok (.return_, 1) := by decide +kernel
theorem pn_1 : plainName "com/example/gridwake/gridwake/store/Blocks$Slicing" = true := by first | (simp [plainName, overriddenIn]; done) | decide +kernel
theorem ef_1 (m : MethodId) (x0 : Addr) (x1 : Int64) (x2 : Int64) (x3 : Int32) : entryFrame m #[(.ref x0), (.long x1), (.long x2), (.int x3)] 6 = mkF m 0 #[.val (.ref x0), .val (.long x1), .second, .val (.long x2), .second, .val (.int x3)] [] := by first | (simp [entryFrame, mkF, argsToLocals, Value.category]; done) | rfl
theorem d1_0 : decode prog_68_method_1_code 0 = .ok (.aload_n 0, 1) := by decide +kernel
theorem d1_1 : decode prog_68_method_1_code 1 = .ok (.invokespecial 3, 3) := by decide +kernel
theorem pd_0 : parseMethodDescriptor "()V" = some ⟨[], none⟩ := by decide +kernel
theorem d1_4 : decode prog_68_method_1_code 4 = .ok (.aload_n 0, 1) := by decide +kernel
theorem d1_5 : decode prog_68_method_1_code 5 = .ok (.lload_n 1, 1) := by decide +kernel
theorem d1_6 : decode prog_68_method_1_code 6 = .ok (.putfield 9, 3) := by decide +kernel
theorem d1_9 : decode prog_68_method_1_code 9 = .ok (.aload_n 0, 1) := by decide +kernel
theorem d1_10 : decode prog_68_method_1_code 10 = .ok (.lload_n 3, 1) := by decide +kernel
theorem d1_11 : decode prog_68_method_1_code 11 = .ok (.putfield 15, 3) := by decide +kernel
theorem d1_14 : decode prog_68_method_1_code 14 = .ok (.aload_n 0, 1) := by decide +kernel
theorem d1_15 : decode prog_68_method_1_code 15 = .ok (.iload 5, 2) := by decide +kernel
theorem d1_17 : decode prog_68_method_1_code 17 = .ok (.putfield 18, 3) := by decide +kernel
theorem d1_20 : decode prog_68_method_1_code 20 = .ok (.return_, 1) := by decide +kernel
theorem pn_4 : plainName "com/example/gridwake/gridwake/store/Blocks$Slicing" = true := by first | (simp [plainName, overriddenIn]; done) | decide +kernel
theorem ef_4 (m : MethodId) (x0 : Addr) (x1 : Int32) (x2 : Int64) (x3 : Int64) : entryFrame m #[(.ref x0), (.int x1), (.long x2), (.long x3)] 6 = mkF m 0 #[.val (.ref x0), .val (.int x1), .val (.long x2), .second, .val (.long x3), .second] [] := by first | (simp [entryFrame, mkF, argsToLocals, Value.category]; done) | rfl
theorem d4_0 : decode prog_68_method_2_code 0 = .ok (.iload_n 1, 1) := by decide +kernel
theorem d4_1 : decode prog_68_method_2_code 1 = .ok (.aload_n 0, 1) := by decide +kernel
theorem d4_2 : decode prog_68_method_2_code 2 = .ok (.getfield 18, 3) := by decide +kernel
theorem d4_5 : decode prog_68_method_2_code 5 = .ok (.if_icmp .ge 15, 3) := by decide +kernel
theorem d4_8 : decode prog_68_method_2_code 8 = .ok (.lload 4, 2) := by decide +kernel
theorem d4_10 : decode prog_68_method_2_code 10 = .ok (.lload_n 2, 1) := by decide +kernel
theorem d4_11 : decode prog_68_method_2_code 11 = .ok (.lsub, 1) := by decide +kernel
theorem d4_12 : decode prog_68_method_2_code 12 = .ok (.aload_n 0, 1) := by decide +kernel
theorem d4_13 : decode prog_68_method_2_code 13 = .ok (.getfield 15, 3) := by decide +kernel
theorem d4_16 : decode prog_68_method_2_code 16 = .ok (.lcmp, 1) := by decide +kernel
theorem d4_17 : decode prog_68_method_2_code 17 = .ok (.ifCond .lt 7, 3) := by decide +kernel
theorem d4_24 : decode prog_68_method_2_code 24 = .ok (.iconst 0, 1) := by decide +kernel
theorem d4_25 : decode prog_68_method_2_code 25 = .ok (.ireturn, 1) := by decide +kernel
theorem d4_20 : decode prog_68_method_2_code 20 = .ok (.iconst 1, 1) := by decide +kernel
theorem d4_21 : decode prog_68_method_2_code 21 = .ok (.goto 4, 3) := by decide +kernel
theorem ef_5 (m : MethodId) (x0 : Int64) (x1 : Int64) : entryFrame m #[(.long x0), (.long x1)] 4 = mkF m 0 #[.val (.long x0), .second, .val (.long x1), .second] [] := by first | (simp [entryFrame, mkF, argsToLocals, Value.category]; done) | rfl
theorem d5_0 : decode jdk_29_method_70_code 0 = .ok (.lload_n 0, 1) := by decide +kernel
theorem d5_1 : decode jdk_29_method_70_code 1 = .ok (.lload_n 2, 1) := by decide +kernel
theorem d5_2 : decode jdk_29_method_70_code 2 = .ok (.lcmp, 1) := by decide +kernel
theorem d5_3 : decode jdk_29_method_70_code 3 = .ok (.ifCond .gt 7, 3) := by decide +kernel
theorem d5_10 : decode jdk_29_method_70_code 10 = .ok (.lload_n 2, 1) := by decide +kernel
theorem d5_11 : decode jdk_29_method_70_code 11 = .ok (.lreturn, 1) := by decide +kernel
theorem d5_6 : decode jdk_29_method_70_code 6 = .ok (.lload_n 0, 1) := by decide +kernel
theorem d5_7 : decode jdk_29_method_70_code 7 = .ok (.goto 4, 3) := by decide +kernel
theorem pn_0 : plainName "com/example/gridwake/gridwake/store/SlicingEndsGroupPinLaw" = true := by first | (simp [plainName, overriddenIn]; done) | decide +kernel
theorem ef_0 (m : MethodId) (x0 : Int64) (x1 : Int64) (x2 : Int32) (x3 : Int32) (x4 : Int64) (x5 : Int64) : entryFrame m #[(.long x0), (.long x1), (.int x2), (.int x3), (.long x4), (.long x5)] maxLocals = mkF m 0 #[.val (.long x0), .second, .val (.long x1), .second, .val (.int x2), .val (.int x3), .val (.long x4), .second, .val (.long x5), .second, .unset, .unset, .unset, .unset, .unset, .unset, .unset, .unset, .unset, .unset, .unset, .unset, .unset, .unset, .unset, .unset, .unset, .unset] [] := by first | (simp [entryFrame, mkF, argsToLocals, Value.category, maxLocals]; done) | rfl
theorem pd_3 : parseMethodDescriptor "(JJI)V" = some ⟨[.long, .long, .int], none⟩ := by decide +kernel
theorem pd_1 : parseMethodDescriptor "(IJJ)Z" = some ⟨[.int, .long, .long], some .boolean⟩ := by decide +kernel
theorem pd_2 : parseMethodDescriptor "(JJ)J" = some ⟨[.long, .long], some .long⟩ := by decide +kernel
def own_eg (s : Int32) (f t : Int64) (g : Int32) (m : Int64) : Int32 := if s < g ∧ t - f < m then 0 else 1
def own_min (a b : Int64) : Int64 := if b < a then b else a
theorem own_minle (a b : Int64) : (own_min a b).toInt ≤ a.toInt ∧ (own_min a b).toInt ≤ b.toInt ∧ ((own_min a b).toInt = a.toInt ∨ (own_min a b).toInt = b.toInt) := by
  unfold own_min
  by_cases h : b < a
  · rw [if_pos h]; rw [Int64.lt_iff_toInt_lt] at h; omega
  · rw [if_neg h]; rw [Int64.lt_iff_toInt_lt] at h; omega
theorem own_back (f d : Int64) : f + d - f = d := by
  apply Int64.toInt_inj.mp
  have h1 := c_lsub (f + d) f; have h2 := c_ladd f d; have h3 := rng64 (f + d - f); have h4 := rng64 d
  omega
theorem own_m (a : Int64) : 1 ≤ ((1 : Int64) + (a &&& (1099511627775 : Int64))).toInt ∧ ((1 : Int64) + (a &&& (1099511627775 : Int64))).toInt ≤ 1099511627776 := by
  have h1 := c_maskL a (1099511627775 : Int64) 40 (by decide) (by decide)
  have h2 := c_ladd (1 : Int64) (a &&& (1099511627775 : Int64)); have h3 := rng64 ((1 : Int64) + (a &&& (1099511627775 : Int64)))
  have h4 : (1 : Int64).toInt = 1 := rfl
  omega
theorem own_g (a : Int32) : 1 ≤ ((1 : Int32) + (a &&& (65535 : Int32))).toInt ∧ ((1 : Int32) + (a &&& (65535 : Int32))).toInt ≤ 65536 := by
  have h1 := c_mask a (65535 : Int32) 16 (by decide) (by decide)
  have h2 := c_iadd (1 : Int32) (a &&& (65535 : Int32)); have h3 := rng32 ((1 : Int32) + (a &&& (65535 : Int32)))
  have h4 : (1 : Int32).toInt = 1 := rfl
  omega
theorem own_f (a : Int64) : 0 ≤ ((a &&& (9223372036854775807 : Int64)) - ((a &&& (9223372036854775807 : Int64)) / (4102444800000 : Int64)) * (4102444800000 : Int64)).toInt ∧ ((a &&& (9223372036854775807 : Int64)) - ((a &&& (9223372036854775807 : Int64)) / (4102444800000 : Int64)) * (4102444800000 : Int64)).toInt < 4102444800000 := by
  have h1 := c_maskL a (9223372036854775807 : Int64) 63 (by decide) (by decide)
  have h2 := (c_lrem (a &&& (9223372036854775807 : Int64)) (4102444800000 : Int64) 4102444800000 (by decide)).1 (by omega)
  omega
theorem own_e {f : Int64} (h : 0 ≤ f.toInt ∧ f.toInt < 4102444800000) : ((4102444800000 : Int64) - f).toInt = 4102444800000 - f.toInt := by
  have h1 := c_lsub (4102444800000 : Int64) f; have h2 := rng64 ((4102444800000 : Int64) - f)
  have h3 : ((4102444800000 : Int64)).toInt = 4102444800000 := by decide
  omega
theorem own_nz {f : Int64} (h : 0 ≤ f.toInt ∧ f.toInt < 4102444800000) : ((4102444800000 : Int64) - f) ≠ 0 := fun q => by
  have h1 := own_e h
  rw [q] at h1
  have h2 : (0 : Int64).toInt = 0 := rfl
  omega
theorem own_d {f : Int64} (h : 0 ≤ f.toInt ∧ f.toInt < 4102444800000) (a : Int64) : 0 ≤ ((a &&& (9223372036854775807 : Int64)) - ((a &&& (9223372036854775807 : Int64)) / ((4102444800000 : Int64) - f)) * ((4102444800000 : Int64) - f)).toInt := by
  have h1 := c_maskL a (9223372036854775807 : Int64) 63 (by decide) (by decide)
  have h2 := (c_lrem (a &&& (9223372036854775807 : Int64)) ((4102444800000 : Int64) - f) _ rfl).1 (by omega)
  rw [h2, own_e h]
  exact Int.emod_nonneg _ (by omega)
theorem own_eg0 {s : Int32} {f t : Int64} {g : Int32} {m : Int64} (h : s < g) (k : t - f < m) : own_eg s f t g m = 0 := if_pos ⟨h, k⟩
theorem own_egs {s : Int32} {f t : Int64} {g : Int32} {m : Int64} (h : ¬ s < g) : own_eg s f t g m = 1 := if_neg fun q => h q.1
theorem own_egm {s : Int32} {f t : Int64} {g : Int32} {m : Int64} (h : ¬ t - f < m) : own_eg s f t g m = 1 := if_neg fun q => h q.2
theorem own_b1 {f d : Int64} {g : Int32} {m : Int64} (hg : 1 ≤ g.toInt ∧ g.toInt ≤ 65536) (hm : 1 ≤ m.toInt ∧ m.toInt ≤ 1099511627776) : own_eg (g - 1) f (f + own_min d (m - 1)) g m = 0 := by
  refine own_eg0 ?_ ?_
  · rw [Int32.lt_iff_toInt_lt]
    have h1 := c_isub g 1; have h2 := rng32 (g - 1); have h3 : (1 : Int32).toInt = 1 := rfl
    omega
  · rw [own_back, Int64.lt_iff_toInt_lt]
    have h0 := own_minle d (m - 1)
    have h1 := c_lsub m 1; have h2 := rng64 (m - 1); have h3 : (1 : Int64).toInt = 1 := rfl
    omega
theorem own_b2 {f t : Int64} {g : Int32} {m : Int64} : ¬ own_eg g f t g m = 0 := by
  rw [own_egs Int32.lt_irrefl]; decide
theorem own_b3 {f : Int64} {s g : Int32} {m : Int64} : ¬ own_eg s f (f + m) g m = 0 := by
  rw [own_egm (by rw [own_back]; exact Int64.lt_irrefl)]; decide
def Q2 (Z : State) (a1 : Addr) (h0 : Heap) (n0 : Nat) (v : Option Value) (h : Heap) (L : List Loc) : Prop := v = none ∧ Fr n0 L ∧ h = h0
set_option maxRecDepth 65536 in
set_option maxHeartbeats 40000000 in
theorem rm2 (l : Launch) (Z : State) (a0 : Array Value) (hw : ∀ d ∈ tables_1, d.before a0 Z = true) (ws : List Jvm.Cond) (a1 : Addr) (h0 : Heap) (n0 : Nat) (Z0 : n0 ≤ h0.size) :
    MetFree l (⟨"java/lang/Record", "<init>", "()V"⟩ : MethodName) (head1 (Jvm.Cond.code (⟨"java/lang/Record", "<init>", "()V"⟩ : MethodName) jdk_30_method_1_code 1 none :: ws) ({ frames := 1, cells := 0, slots := 0, locals := 12 } : Room)) (fun a U => a = #[(.ref a1)] ∧ Z.Warmed39 U.vm ∧ U.heap = h0) (fun _ _ _ _ _ => True) (fun _ U oo U' => ∃ v L, oo = .returned v ∧ Q2 Z a1 h0 n0 v U'.heap L ∧ FrameEnd U oo U' L ({ frames := 1, cells := 0, slots := 0, locals := 12 } : Room).cells ({ frames := 1, cells := 0, slots := 0, locals := 12 } : Room).slots) := by
  refine MetFree.of_bodySF (plainFor_of_name pn_2) hisR ?_
  intro p e s m args below meth c s₁ Bd hml0 hP hK
  obtain ⟨rfl, hZ, hh⟩ := hP
  have hx := Bd.exec
  have hby := Bd.bytes
  have hml : c.maxLocals = 1 := hml0
  have hown : s.vm.findClass "java/lang/Record" = some m.cls := findClass_of_methodNamed Bd.named
  have hnm := (name_of_methodNamed Bd.named Bd.method).1
  have X0 : Stand p l e ({ frames := 1, cells := 0, slots := 0, locals := 12 } : Room) s m #[(.ref a1)] below meth c s₁ [] 0 0 := Stand.of_body Bd
  have e0 : s₁.heap = h0 := by rw [← hh, Bd.state]; rfl
  have N0 := Fr.nil n0
  have pre0 : ∀ t₀, Steps p.tables e below (s₁.setTop (mkF m 0 #[.val (.ref a1)] [])) t₀ → Steps p.tables e below (s₁.setTop (entryFrame m #[(.ref a1)] 1)) t₀ := fun t₀ k => castTop (ef_2 m a1) k
  have sg1 : ∀ t₀, Steps p.tables e below (s₁.setTop (mkF m 1 #[.val (.ref a1)] [(.ref a1)])) t₀ → Steps p.tables e below (s₁.setTop (mkF m 0 #[.val (.ref a1)] [])) t₀ := by
    intro t₀ kt
    show Steps p.tables e below (s₁.setTop (mkF m 0 #[.val (.ref a1)] [])) _
    refine XS.aloadN X0.here hx rfl (hb hby d2_0) rfl rfl ?_
    exact kt
  obtain ⟨T2, X2, e2, st2⟩ := initO X0 hx hZ hown (hw _ (List.mem_of_getElem? (i := 16) rfl)) (hw _ (List.mem_of_getElem? (i := 17) rfl)) (hw _ (List.mem_of_getElem? (i := 18) rfl)) e0 (g := (mkF m 1 #[.val (.ref a1)] [(.ref a1)])) rfl (by rw [hml]; rfl) rfl (hb hby d2_1) (by decide) (W := 0) (by show 2 * 0 + _ ≤ _; exact Nat.le_of_eq rfl) (by decide)
  obtain ⟨fs, hr, hrun, hended, hW, hsame⟩ := X2.leave (v := none) (fun _ => rfl)
  refine ⟨_, _, pre0 _ ?_, hrun, hended, _, _, rfl, ?_, ⟨_, rfl⟩, hW, hsame.mono (by decide) (by decide)⟩
  · exact sg1 _ (st2 _ ((X2.returnOut hx Bd.returns (hb hby d2_4) hr)))
  · show Q2 Z a1 h0 n0 _ T2.heap _
    rw [e2]
    exact ⟨rfl, N0, rfl⟩
def Q1 (Z : State) (a1 : Addr) (q2 : Int64) (q3 : Int64) (p4 : Int32) (h0 : Heap) (n0 : Nat) (v : Option Value) (h : Heap) (L : List Loc) : Prop := v = none ∧ Fr n0 L ∧ Keep h0 h [a1] ∧ Exa Z h a1 "com/example/gridwake/gridwake/store/Blocks$Slicing" ∧ Fld Z h a1 "com/example/gridwake/gridwake/store/Blocks$Slicing" "groupMillis" "J" (.long q3) ∧ Fld Z h a1 "com/example/gridwake/gridwake/store/Blocks$Slicing" "groupSlices" "I" (.int p4)
set_option maxRecDepth 65536 in
set_option maxHeartbeats 40000000 in
theorem rm1 (l : Launch) (Z : State) (a0 : Array Value) (hw : ∀ d ∈ tables_1, d.before a0 Z = true) (ws : List Jvm.Cond) (a1 : Addr) (q2 : Int64) (q3 : Int64) (p4 : Int32) (h0 : Heap) (n0 : Nat) (Z0 : n0 ≤ h0.size) (E1 : Exa Z h0 a1 "com/example/gridwake/gridwake/store/Blocks$Slicing") (g1 : n0 ≤ a1) (F1 : Fld Z h0 a1 "com/example/gridwake/gridwake/store/Blocks$Slicing" "sliceMemoryBytes" "J" (.long (0 : Int64))) (F2 : Fld Z h0 a1 "com/example/gridwake/gridwake/store/Blocks$Slicing" "groupMillis" "J" (.long (0 : Int64))) (F3 : Fld Z h0 a1 "com/example/gridwake/gridwake/store/Blocks$Slicing" "groupSlices" "I" (.int (0 : Int32))) :
    MetFree l (⟨"com/example/gridwake/gridwake/store/Blocks$Slicing", "<init>", "(JJI)V"⟩ : MethodName) (head1 (Jvm.Cond.code (⟨"com/example/gridwake/gridwake/store/Blocks$Slicing", "<init>", "(JJI)V"⟩ : MethodName) prog_68_method_1_code 6 none :: ws) ({ frames := 2, cells := 0, slots := 0, locals := 24 } : Room)) (fun a U => a = #[(.ref a1), (.long q2), (.long q3), (.int p4)] ∧ Z.Warmed39 U.vm ∧ U.heap = h0) (fun _ _ _ _ _ => True) (fun _ U oo U' => ∃ v L, oo = .returned v ∧ Q1 Z a1 q2 q3 p4 h0 n0 v U'.heap L ∧ FrameEnd U oo U' L ({ frames := 2, cells := 0, slots := 0, locals := 24 } : Room).cells ({ frames := 2, cells := 0, slots := 0, locals := 24 } : Room).slots) := by
  refine MetFree.of_bodySF (plainFor_of_name pn_1) hisR ?_
  intro p e s m args below meth c s₁ Bd hml0 hP hK
  obtain ⟨rfl, hZ, hh⟩ := hP
  have hx := Bd.exec
  have hby := Bd.bytes
  have hml : c.maxLocals = 6 := hml0
  have hown : s.vm.findClass "com/example/gridwake/gridwake/store/Blocks$Slicing" = some m.cls := findClass_of_methodNamed Bd.named
  have hnm := (name_of_methodNamed Bd.named Bd.method).1
  have X0 : Stand p l e ({ frames := 2, cells := 0, slots := 0, locals := 24 } : Room) s m #[(.ref a1), (.long q2), (.long q3), (.int p4)] below meth c s₁ [] 0 0 := Stand.of_body Bd
  have e0 : s₁.heap = h0 := by rw [← hh, Bd.state]; rfl
  have N0 := Fr.nil n0
  have pre0 : ∀ t₀, Steps p.tables e below (s₁.setTop (mkF m 0 #[.val (.ref a1), .val (.long q2), .second, .val (.long q3), .second, .val (.int p4)] [])) t₀ → Steps p.tables e below (s₁.setTop (entryFrame m #[(.ref a1), (.long q2), (.long q3), (.int p4)] 6)) t₀ := fun t₀ k => castTop (ef_1 m a1 q2 q3 p4) k
  have sg1 : ∀ t₀, Steps p.tables e below (s₁.setTop (mkF m 1 #[.val (.ref a1), .val (.long q2), .second, .val (.long q3), .second, .val (.int p4)] [(.ref a1)])) t₀ → Steps p.tables e below (s₁.setTop (mkF m 0 #[.val (.ref a1), .val (.long q2), .second, .val (.long q3), .second, .val (.int p4)] [])) t₀ := by
    intro t₀ kt
    show Steps p.tables e below (s₁.setTop (mkF m 0 #[.val (.ref a1), .val (.long q2), .second, .val (.long q3), .second, .val (.int p4)] [])) _
    refine XS.aloadN X0.here hx rfl (hb hby d1_0) rfl rfl ?_
    exact kt
  obtain ⟨_, _, ⟨T2, L2, k2, n2⟩, -, X2, ⟨Lc2, hQ2, l2, y2, z2⟩, st2⟩ := X0.specialBack hx (y := (⟨"java/lang/Record", "<init>", "()V"⟩ : MethodName)) rfl hown (mvT hZ (hw _ (List.mem_of_getElem? (i := 11) rfl))) (mvT hZ (hw _ (List.mem_of_getElem? (i := 12) rfl))) (mvT hZ (hw _ (List.mem_of_getElem? (i := 15) rfl))) (by decide) (backOf (W := 0) (rm2 l Z a0 hw [] a1 h0 n0 Z0) hZ (hw _ (List.mem_of_getElem? (i := 15) rfl)) (hw _ (List.mem_of_getElem? (i := 14) rfl)) (by decide) (by decide)) (g := (mkF m 1 #[.val (.ref a1), .val (.long q2), .second, .val (.long q3), .second, .val (.int p4)] [(.ref a1)])) rfl (by rw [hml]; rfl) (Steps.refl _) (a := a1) (argsL := []) (rest := []) (lenOf pd_0 rfl) rfl (by show 2 * 0 + _ ≤ _; exact Nat.le_of_eq rfl) (hb hby d1_1) (fun _ _ => ⟨rfl, e0, (by decide : 0 + 0 ≤ _), (by decide : 0 + 0 ≤ _)⟩)
  dsimp only [Pt.U, Pt.locs, Pt.cells, Pt.slots] at X2 l2 y2 z2 st2 hQ2
  subst l2 y2 z2
  obtain ⟨rfl, N2q, hh2⟩ := hQ2
  have N2 := Fr.app N0 N2q
  have sg3 : ∀ t₀, Steps p.tables e below (T2.setTop (mkF m 6 #[.val (.ref a1), .val (.long q2), .second, .val (.long q3), .second, .val (.int p4)] [(.long q2), (.ref a1)])) t₀ → Steps p.tables e below (T2.setTop (mkF m 4 #[.val (.ref a1), .val (.long q2), .second, .val (.long q3), .second, .val (.int p4)] [])) t₀ := by
    intro t₀ kt
    show Steps p.tables e below (T2.setTop (mkF m 4 #[.val (.ref a1), .val (.long q2), .second, .val (.long q3), .second, .val (.int p4)] [])) _
    refine XS.aloadN X2.here hx rfl (hb hby d1_4) rfl rfl ?_
    show Steps p.tables e below (T2.setTop (mkF m 5 #[.val (.ref a1), .val (.long q2), .second, .val (.long q3), .second, .val (.int p4)] [(.ref a1)])) _
    refine XS.lloadN X2.here hx rfl (hb hby d1_5) rfl ?_
    exact kt
  obtain ⟨T4, h4, X4, e4, W4, st4⟩ := putF X2 hx hZ hown (host := "") (Or.inl (hw _ (List.mem_of_getElem? (i := 19) rfl))) Via.refl hh2 F1 E1 (Or.inr ⟨(hw _ (List.mem_of_getElem? (i := 20) rfl)), rfl, hnm⟩) (hw _ (List.mem_of_getElem? (i := 6) rfl)) (ty := .long) (by decide) rfl rfl (g := (mkF m 6 #[.val (.ref a1), .val (.long q2), .second, .val (.long q3), .second, .val (.int p4)] [(.long q2), (.ref a1)])) rfl rfl (hb hby d1_6)
  have Fw4 := F1.same W4
  have N4 := Fr.snoc X4 N2 g1
  have K4 : Keep h0 h4 [a1] := Keep.of_wr W4
  have sg5 : ∀ t₀, Steps p.tables e below (T4.setTop (mkF m 11 #[.val (.ref a1), .val (.long q2), .second, .val (.long q3), .second, .val (.int p4)] [(.long q3), (.ref a1)])) t₀ → Steps p.tables e below (T4.setTop (mkF m 9 #[.val (.ref a1), .val (.long q2), .second, .val (.long q3), .second, .val (.int p4)] [])) t₀ := by
    intro t₀ kt
    show Steps p.tables e below (T4.setTop (mkF m 9 #[.val (.ref a1), .val (.long q2), .second, .val (.long q3), .second, .val (.int p4)] [])) _
    refine XS.aloadN X4.here hx rfl (hb hby d1_9) rfl rfl ?_
    show Steps p.tables e below (T4.setTop (mkF m 10 #[.val (.ref a1), .val (.long q2), .second, .val (.long q3), .second, .val (.int p4)] [(.ref a1)])) _
    refine XS.lloadN X4.here hx rfl (hb hby d1_10) rfl ?_
    exact kt
  have F2b := F2.other W4 (Or.inr (slot_ne (Or.inr (hw _ (List.mem_of_getElem? (i := 22) rfl))) (Or.inr (hw _ (List.mem_of_getElem? (i := 20) rfl))) (by decide) (t := .long) (t' := .long) (by decide) (by decide)))
  have F3b := F3.other W4 (Or.inr (slot_ne (Or.inr (hw _ (List.mem_of_getElem? (i := 24) rfl))) (Or.inr (hw _ (List.mem_of_getElem? (i := 20) rfl))) (by decide) (t := .int) (t' := .long) (by decide) (by decide)))
  obtain ⟨T6, h6, X6, e6, W6, st6⟩ := putF X4 hx hZ hown (host := "") (Or.inl (hw _ (List.mem_of_getElem? (i := 21) rfl))) Via.refl e4 F2b (E1.wr W4) (Or.inr ⟨(hw _ (List.mem_of_getElem? (i := 22) rfl)), rfl, hnm⟩) (hw _ (List.mem_of_getElem? (i := 6) rfl)) (ty := .long) (by decide) rfl rfl (g := (mkF m 11 #[.val (.ref a1), .val (.long q2), .second, .val (.long q3), .second, .val (.int p4)] [(.long q3), (.ref a1)])) rfl rfl (hb hby d1_11)
  have Fw6 := F2b.same W6
  have N6 := Fr.snoc X6 N4 g1
  have K6 : Keep h0 h6 [a1] := K4.wr W6 (Or.inl (List.mem_of_getElem? (i := 0) rfl))
  have sg7 : ∀ t₀, Steps p.tables e below (T6.setTop (mkF m 17 #[.val (.ref a1), .val (.long q2), .second, .val (.long q3), .second, .val (.int p4)] [(.int p4), (.ref a1)])) t₀ → Steps p.tables e below (T6.setTop (mkF m 14 #[.val (.ref a1), .val (.long q2), .second, .val (.long q3), .second, .val (.int p4)] [])) t₀ := by
    intro t₀ kt
    show Steps p.tables e below (T6.setTop (mkF m 14 #[.val (.ref a1), .val (.long q2), .second, .val (.long q3), .second, .val (.int p4)] [])) _
    refine XS.aloadN X6.here hx rfl (hb hby d1_14) rfl rfl ?_
    show Steps p.tables e below (T6.setTop (mkF m 15 #[.val (.ref a1), .val (.long q2), .second, .val (.long q3), .second, .val (.int p4)] [(.ref a1)])) _
    refine XS.iload X6.here hx rfl (hb hby d1_15) rfl ?_
    exact kt
  have F3c := F3b.other W6 (Or.inr (slot_ne (Or.inr (hw _ (List.mem_of_getElem? (i := 24) rfl))) (Or.inr (hw _ (List.mem_of_getElem? (i := 22) rfl))) (by decide) (t := .int) (t' := .long) (by decide) (by decide)))
  obtain ⟨T8, h8, X8, e8, W8, st8⟩ := putF X6 hx hZ hown (host := "") (Or.inl (hw _ (List.mem_of_getElem? (i := 23) rfl))) Via.refl e6 F3c ((E1.wr W4).wr W6) (Or.inr ⟨(hw _ (List.mem_of_getElem? (i := 24) rfl)), rfl, hnm⟩) (hw _ (List.mem_of_getElem? (i := 6) rfl)) (ty := .int) (by decide) rfl rfl (g := (mkF m 17 #[.val (.ref a1), .val (.long q2), .second, .val (.long q3), .second, .val (.int p4)] [(.int p4), (.ref a1)])) rfl rfl (hb hby d1_17)
  have Fw8 := F3c.same W8
  have N8 := Fr.snoc X8 N6 g1
  have K8 : Keep h0 h8 [a1] := K6.wr W8 (Or.inl (List.mem_of_getElem? (i := 0) rfl))
  obtain ⟨fs, hr, hrun, hended, hW, hsame⟩ := X8.leave (v := none) (fun _ => rfl)
  refine ⟨_, _, pre0 _ ?_, hrun, hended, _, _, rfl, ?_, ⟨_, rfl⟩, hW, hsame.mono (by decide) (by decide)⟩
  · exact sg1 _ (st2.trans (sg3 _ (st4 _ (sg5 _ (st6 _ (sg7 _ (st8 _ ((X8.returnOut hx Bd.returns (hb hby d1_20) hr)))))))))
  · show Q1 Z a1 q2 q3 p4 h0 n0 _ T8.heap _
    rw [e8]
    exact ⟨rfl, N8, K8, E1.keep K8, Fw6.other W8 (Or.inr (slot_ne (Or.inr (hw _ (List.mem_of_getElem? (i := 22) rfl))) (Or.inr (hw _ (List.mem_of_getElem? (i := 24) rfl))) (by decide) (t := .long) (t' := .int) (by decide) (by decide))), Fw8⟩
def Q4 (Z : State) (a1 : Addr) (p2 : Int32) (q3 : Int64) (q4 : Int64) (w5 : Int32) (w7 : Int64) (h0 : Heap) (n0 : Nat) (v : Option Value) (h : Heap) (L : List Loc) : Prop := v = some (.int (own_eg p2 q3 q4 w5 w7)) ∧ Fr n0 L ∧ h = h0
set_option maxRecDepth 65536 in
set_option maxHeartbeats 40000000 in
theorem rm4 (l : Launch) (Z : State) (a0 : Array Value) (hw : ∀ d ∈ tables_1, d.before a0 Z = true) (ws : List Jvm.Cond) (a1 : Addr) (p2 : Int32) (q3 : Int64) (q4 : Int64) (w5 : Int32) (w7 : Int64) (h0 : Heap) (n0 : Nat) (Z0 : n0 ≤ h0.size) (F1 : Fld Z h0 a1 "com/example/gridwake/gridwake/store/Blocks$Slicing" "groupSlices" "I" (.int w5)) (F2 : Fld Z h0 a1 "com/example/gridwake/gridwake/store/Blocks$Slicing" "groupMillis" "J" (.long w7)) :
    MetFree l (⟨"com/example/gridwake/gridwake/store/Blocks$Slicing", "endsGroup", "(IJJ)Z"⟩ : MethodName) (head1 (Jvm.Cond.code (⟨"com/example/gridwake/gridwake/store/Blocks$Slicing", "endsGroup", "(IJJ)Z"⟩ : MethodName) prog_68_method_2_code 6 (some .boolean) :: ws) ({ frames := 0, cells := 0, slots := 0, locals := 0 } : Room)) (fun a U => a = #[(.ref a1), (.int p2), (.long q3), (.long q4)] ∧ Z.Warmed39 U.vm ∧ U.heap = h0) (fun _ _ _ _ _ => True) (fun _ U oo U' => ∃ v L, oo = .returned v ∧ Q4 Z a1 p2 q3 q4 w5 w7 h0 n0 v U'.heap L ∧ FrameEnd U oo U' L ({ frames := 0, cells := 0, slots := 0, locals := 0 } : Room).cells ({ frames := 0, cells := 0, slots := 0, locals := 0 } : Room).slots) := by
  refine MetFree.of_bodySF (plainFor_of_name pn_4) hisR ?_
  intro p e s m args below meth c s₁ Bd hml0 hP hK
  obtain ⟨rfl, hZ, hh⟩ := hP
  have hx := Bd.exec
  have hby := Bd.bytes
  have hml : c.maxLocals = 6 := hml0
  have hown : s.vm.findClass "com/example/gridwake/gridwake/store/Blocks$Slicing" = some m.cls := findClass_of_methodNamed Bd.named
  have hnm := (name_of_methodNamed Bd.named Bd.method).1
  have X0 : Stand p l e ({ frames := 0, cells := 0, slots := 0, locals := 0 } : Room) s m #[(.ref a1), (.int p2), (.long q3), (.long q4)] below meth c s₁ [] 0 0 := Stand.of_body Bd
  have e0 : s₁.heap = h0 := by rw [← hh, Bd.state]; rfl
  have N0 := Fr.nil n0
  have pre0 : ∀ t₀, Steps p.tables e below (s₁.setTop (mkF m 0 #[.val (.ref a1), .val (.int p2), .val (.long q3), .second, .val (.long q4), .second] [])) t₀ → Steps p.tables e below (s₁.setTop (entryFrame m #[(.ref a1), (.int p2), (.long q3), (.long q4)] 6)) t₀ := fun t₀ k => castTop (ef_4 m a1 p2 q3 q4) k
  have sg1 : ∀ t₀, Steps p.tables e below (s₁.setTop (mkF m 2 #[.val (.ref a1), .val (.int p2), .val (.long q3), .second, .val (.long q4), .second] [(.ref a1), (.int p2)])) t₀ → Steps p.tables e below (s₁.setTop (mkF m 0 #[.val (.ref a1), .val (.int p2), .val (.long q3), .second, .val (.long q4), .second] [])) t₀ := by
    intro t₀ kt
    show Steps p.tables e below (s₁.setTop (mkF m 0 #[.val (.ref a1), .val (.int p2), .val (.long q3), .second, .val (.long q4), .second] [])) _
    refine XS.iloadN X0.here hx rfl (hb hby d4_0) rfl ?_
    show Steps p.tables e below (s₁.setTop (mkF m 1 #[.val (.ref a1), .val (.int p2), .val (.long q3), .second, .val (.long q4), .second] [(.int p2)])) _
    refine XS.aloadN X0.here hx rfl (hb hby d4_1) rfl rfl ?_
    exact kt
  obtain ⟨T2, X2, e2, st2⟩ := getF X0 hx hZ hown (host := "") (Or.inl (hw _ (List.mem_of_getElem? (i := 23) rfl))) Via.refl e0 F1 (g := (mkF m 2 #[.val (.ref a1), .val (.int p2), .val (.long q3), .second, .val (.long q4), .second] [(.ref a1), (.int p2)])) rfl rfl (hb hby d4_2)
  by_cases hb5 : p2 < w5
  · have sg3 : ∀ t₀, Steps p.tables e below (T2.setTop (mkF m 13 #[.val (.ref a1), .val (.int p2), .val (.long q3), .second, .val (.long q4), .second] [(.ref a1), (.long (q4 - q3))])) t₀ → Steps p.tables e below (T2.setTop (mkF m 5 #[.val (.ref a1), .val (.int p2), .val (.long q3), .second, .val (.long q4), .second] [(.int w5), (.int p2)])) t₀ := by
      intro t₀ kt
      show Steps p.tables e below (T2.setTop (mkF m 5 #[.val (.ref a1), .val (.int p2), .val (.long q3), .second, .val (.long q4), .second] [(.int w5), (.int p2)])) _
      refine XS.icmpNo X2.here hx rfl (hb hby d4_5) rfl (tlt hb5).2.1 ?_
      show Steps p.tables e below (T2.setTop (mkF m 8 #[.val (.ref a1), .val (.int p2), .val (.long q3), .second, .val (.long q4), .second] [])) _
      refine XS.lload X2.here hx rfl (hb hby d4_8) rfl ?_
      show Steps p.tables e below (T2.setTop (mkF m 10 #[.val (.ref a1), .val (.int p2), .val (.long q3), .second, .val (.long q4), .second] [(.long q4)])) _
      refine XS.lloadN X2.here hx rfl (hb hby d4_10) rfl ?_
      show Steps p.tables e below (T2.setTop (mkF m 11 #[.val (.ref a1), .val (.int p2), .val (.long q3), .second, .val (.long q4), .second] [(.long q3), (.long q4)])) _
      refine XS.lsub X2.here hx rfl (hb hby d4_11) rfl ?_
      show Steps p.tables e below (T2.setTop (mkF m 12 #[.val (.ref a1), .val (.int p2), .val (.long q3), .second, .val (.long q4), .second] [(.long (q4 - q3))])) _
      refine XS.aloadN X2.here hx rfl (hb hby d4_12) rfl rfl ?_
      exact kt
    obtain ⟨T4, X4, e4, st4⟩ := getF X2 hx hZ hown (host := "") (Or.inl (hw _ (List.mem_of_getElem? (i := 21) rfl))) Via.refl e2 F2 (g := (mkF m 13 #[.val (.ref a1), .val (.int p2), .val (.long q3), .second, .val (.long q4), .second] [(.ref a1), (.long (q4 - q3))])) rfl rfl (hb hby d4_13)
    have sg5 : ∀ t₀, Steps p.tables e below (T4.setTop (mkF m 17 #[.val (.ref a1), .val (.int p2), .val (.long q3), .second, .val (.long q4), .second] [(.int (lcmpW (q4 - q3) w7))])) t₀ → Steps p.tables e below (T4.setTop (mkF m 16 #[.val (.ref a1), .val (.int p2), .val (.long q3), .second, .val (.long q4), .second] [(.long w7), (.long (q4 - q3))])) t₀ := by
      intro t₀ kt
      show Steps p.tables e below (T4.setTop (mkF m 16 #[.val (.ref a1), .val (.int p2), .val (.long q3), .second, .val (.long q4), .second] [(.long w7), (.long (q4 - q3))])) _
      refine XS.lcmp X4.here hx rfl (hb hby d4_16) rfl ?_
      exact kt
    by_cases hb17 : (lcmpW (q4 - q3) w7) < (0 : Int32)
    · have sg6 : ∀ t₀, Steps p.tables e below (T4.setTop (mkF m 25 #[.val (.ref a1), .val (.int p2), .val (.long q3), .second, .val (.long q4), .second] [(.int (0 : Int32))])) t₀ → Steps p.tables e below (T4.setTop (mkF m 17 #[.val (.ref a1), .val (.int p2), .val (.long q3), .second, .val (.long q4), .second] [(.int (lcmpW (q4 - q3) w7))])) t₀ := by
        intro t₀ kt
        show Steps p.tables e below (T4.setTop (mkF m 17 #[.val (.ref a1), .val (.int p2), .val (.long q3), .second, .val (.long q4), .second] [(.int (lcmpW (q4 - q3) w7))])) _
        refine XS.ifYes X4.here hx rfl (pc0 := 17) (pc' := 24) rfl (hb hby d4_17) rfl ((if0 _ _).trans (tlt hb17).1) (by decide) (by decide) ?_
        show Steps p.tables e below (T4.setTop (mkF m 24 #[.val (.ref a1), .val (.int p2), .val (.long q3), .second, .val (.long q4), .second] [])) _
        refine XS.iconst X4.here hx rfl (hb hby d4_24) ?_
        exact kt
      obtain ⟨fs, hr, hrun, hended, hW, hsame⟩ := X4.leave (v := some (.int (0 : Int32))) (fun h => by rw [Bd.returns] at h; cases h)
      refine ⟨_, _, pre0 _ ?_, hrun, hended, _, _, rfl, ?_, ⟨_, rfl⟩, hW, hsame.mono (by decide) (by decide)⟩
      · exact sg1 _ (st2 _ (sg3 _ (st4 _ (sg5 _ (sg6 _ ((retN X4 hx (t := .boolean) Bd.returns (by simp) (hb hby d4_25) hr)))))))
      · show Q4 Z a1 p2 q3 q4 w5 w7 h0 n0 _ T4.heap _
        rw [e4]
        exact ⟨by rw [own_eg0 hb5 ((lw_lt _ _).mp hb17)], N0, rfl⟩
    · have sg7 : ∀ t₀, Steps p.tables e below (T4.setTop (mkF m 25 #[.val (.ref a1), .val (.int p2), .val (.long q3), .second, .val (.long q4), .second] [(.int (1 : Int32))])) t₀ → Steps p.tables e below (T4.setTop (mkF m 17 #[.val (.ref a1), .val (.int p2), .val (.long q3), .second, .val (.long q4), .second] [(.int (lcmpW (q4 - q3) w7))])) t₀ := by
        intro t₀ kt
        show Steps p.tables e below (T4.setTop (mkF m 17 #[.val (.ref a1), .val (.int p2), .val (.long q3), .second, .val (.long q4), .second] [(.int (lcmpW (q4 - q3) w7))])) _
        refine XS.ifNo X4.here hx rfl (hb hby d4_17) rfl ((if0 _ _).trans (flt hb17).1) ?_
        show Steps p.tables e below (T4.setTop (mkF m 20 #[.val (.ref a1), .val (.int p2), .val (.long q3), .second, .val (.long q4), .second] [])) _
        refine XS.iconst X4.here hx rfl (hb hby d4_20) ?_
        show Steps p.tables e below (T4.setTop (mkF m 21 #[.val (.ref a1), .val (.int p2), .val (.long q3), .second, .val (.long q4), .second] [(.int (1 : Int32))])) _
        refine XS.goto X4.here hx rfl (pc0 := 21) (pc' := 25) rfl (hb hby d4_21) (by decide) (by decide) ?_
        exact kt
      obtain ⟨fs, hr, hrun, hended, hW, hsame⟩ := X4.leave (v := some (.int (1 : Int32))) (fun h => by rw [Bd.returns] at h; cases h)
      refine ⟨_, _, pre0 _ ?_, hrun, hended, _, _, rfl, ?_, ⟨_, rfl⟩, hW, hsame.mono (by decide) (by decide)⟩
      · exact sg1 _ (st2 _ (sg3 _ (st4 _ (sg5 _ (sg7 _ ((retN X4 hx (t := .boolean) Bd.returns (by simp) (hb hby d4_25) hr)))))))
      · show Q4 Z a1 p2 q3 q4 w5 w7 h0 n0 _ T4.heap _
        rw [e4]
        exact ⟨by rw [own_egm (fun k => hb17 ((lw_lt _ _).mpr k))], N0, rfl⟩
  · have sg8 : ∀ t₀, Steps p.tables e below (T2.setTop (mkF m 25 #[.val (.ref a1), .val (.int p2), .val (.long q3), .second, .val (.long q4), .second] [(.int (1 : Int32))])) t₀ → Steps p.tables e below (T2.setTop (mkF m 5 #[.val (.ref a1), .val (.int p2), .val (.long q3), .second, .val (.long q4), .second] [(.int w5), (.int p2)])) t₀ := by
      intro t₀ kt
      show Steps p.tables e below (T2.setTop (mkF m 5 #[.val (.ref a1), .val (.int p2), .val (.long q3), .second, .val (.long q4), .second] [(.int w5), (.int p2)])) _
      refine XS.icmpYes X2.here hx rfl (pc0 := 5) (pc' := 20) rfl (hb hby d4_5) rfl (flt hb5).2.1 (by decide) (by decide) ?_
      show Steps p.tables e below (T2.setTop (mkF m 20 #[.val (.ref a1), .val (.int p2), .val (.long q3), .second, .val (.long q4), .second] [])) _
      refine XS.iconst X2.here hx rfl (hb hby d4_20) ?_
      show Steps p.tables e below (T2.setTop (mkF m 21 #[.val (.ref a1), .val (.int p2), .val (.long q3), .second, .val (.long q4), .second] [(.int (1 : Int32))])) _
      refine XS.goto X2.here hx rfl (pc0 := 21) (pc' := 25) rfl (hb hby d4_21) (by decide) (by decide) ?_
      exact kt
    obtain ⟨fs, hr, hrun, hended, hW, hsame⟩ := X2.leave (v := some (.int (1 : Int32))) (fun h => by rw [Bd.returns] at h; cases h)
    refine ⟨_, _, pre0 _ ?_, hrun, hended, _, _, rfl, ?_, ⟨_, rfl⟩, hW, hsame.mono (by decide) (by decide)⟩
    · exact sg1 _ (st2 _ (sg8 _ ((retN X2 hx (t := .boolean) Bd.returns (by simp) (hb hby d4_25) hr))))
    · show Q4 Z a1 p2 q3 q4 w5 w7 h0 n0 _ T2.heap _
      rw [e2]
      exact ⟨by rw [own_egs hb5], N0, rfl⟩
def Q5 (Z : State) (q1 : Int64) (q2 : Int64) (h0 : Heap) (n0 : Nat) (v : Option Value) (h : Heap) (L : List Loc) : Prop := v = some (.long (own_min q1 q2)) ∧ Fr n0 L ∧ h = h0
set_option maxRecDepth 65536 in
set_option maxHeartbeats 40000000 in
theorem rm5 (l : Launch) (Z : State) (a0 : Array Value) (hw : ∀ d ∈ tables_1, d.before a0 Z = true) (ws : List Jvm.Cond) (q1 : Int64) (q2 : Int64) (h0 : Heap) (n0 : Nat) (Z0 : n0 ≤ h0.size) :
    MetFree l (⟨"java/lang/Math", "min", "(JJ)J"⟩ : MethodName) (head1 (Jvm.Cond.code (⟨"java/lang/Math", "min", "(JJ)J"⟩ : MethodName) jdk_29_method_70_code 4 (some .long) :: ws) ({ frames := 0, cells := 0, slots := 0, locals := 0 } : Room)) (fun a U => a = #[(.long q1), (.long q2)] ∧ Z.Warmed39 U.vm ∧ U.heap = h0) (fun _ _ _ _ _ => True) (fun _ U oo U' => ∃ v L, oo = .returned v ∧ Q5 Z q1 q2 h0 n0 v U'.heap L ∧ FrameEnd U oo U' L ({ frames := 0, cells := 0, slots := 0, locals := 0 } : Room).cells ({ frames := 0, cells := 0, slots := 0, locals := 0 } : Room).slots) := by
  refine MetFree.of_bodySF (Jvm.Free.JP.mathPlain rfl (by decide +kernel)) hisR ?_
  intro p e s m args below meth c s₁ Bd hml0 hP hK
  obtain ⟨rfl, hZ, hh⟩ := hP
  have hx := Bd.exec
  have hby := Bd.bytes
  have hml : c.maxLocals = 4 := hml0
  have hown : s.vm.findClass "java/lang/Math" = some m.cls := findClass_of_methodNamed Bd.named
  have hnm := (name_of_methodNamed Bd.named Bd.method).1
  have X0 : Stand p l e ({ frames := 0, cells := 0, slots := 0, locals := 0 } : Room) s m #[(.long q1), (.long q2)] below meth c s₁ [] 0 0 := Stand.of_body Bd
  have e0 : s₁.heap = h0 := by rw [← hh, Bd.state]; rfl
  have N0 := Fr.nil n0
  have pre0 : ∀ t₀, Steps p.tables e below (s₁.setTop (mkF m 0 #[.val (.long q1), .second, .val (.long q2), .second] [])) t₀ → Steps p.tables e below (s₁.setTop (entryFrame m #[(.long q1), (.long q2)] 4)) t₀ := fun t₀ k => castTop (ef_5 m q1 q2) k
  have sg1 : ∀ t₀, Steps p.tables e below (s₁.setTop (mkF m 3 #[.val (.long q1), .second, .val (.long q2), .second] [(.int (lcmpW q1 q2))])) t₀ → Steps p.tables e below (s₁.setTop (mkF m 0 #[.val (.long q1), .second, .val (.long q2), .second] [])) t₀ := by
    intro t₀ kt
    show Steps p.tables e below (s₁.setTop (mkF m 0 #[.val (.long q1), .second, .val (.long q2), .second] [])) _
    refine XS.lloadN X0.here hx rfl (hb hby d5_0) rfl ?_
    show Steps p.tables e below (s₁.setTop (mkF m 1 #[.val (.long q1), .second, .val (.long q2), .second] [(.long q1)])) _
    refine XS.lloadN X0.here hx rfl (hb hby d5_1) rfl ?_
    show Steps p.tables e below (s₁.setTop (mkF m 2 #[.val (.long q1), .second, .val (.long q2), .second] [(.long q2), (.long q1)])) _
    refine XS.lcmp X0.here hx rfl (hb hby d5_2) rfl ?_
    exact kt
  by_cases hb3 : (0 : Int32) < (lcmpW q1 q2)
  · have sg2 : ∀ t₀, Steps p.tables e below (s₁.setTop (mkF m 11 #[.val (.long q1), .second, .val (.long q2), .second] [(.long q2)])) t₀ → Steps p.tables e below (s₁.setTop (mkF m 3 #[.val (.long q1), .second, .val (.long q2), .second] [(.int (lcmpW q1 q2))])) t₀ := by
      intro t₀ kt
      show Steps p.tables e below (s₁.setTop (mkF m 3 #[.val (.long q1), .second, .val (.long q2), .second] [(.int (lcmpW q1 q2))])) _
      refine XS.ifYes X0.here hx rfl (pc0 := 3) (pc' := 10) rfl (hb hby d5_3) rfl ((if0 _ _).trans (tlt hb3).2.2.1) (by decide) (by decide) ?_
      show Steps p.tables e below (s₁.setTop (mkF m 10 #[.val (.long q1), .second, .val (.long q2), .second] [])) _
      refine XS.lloadN X0.here hx rfl (hb hby d5_10) rfl ?_
      exact kt
    obtain ⟨fs, hr, hrun, hended, hW, hsame⟩ := X0.leave (v := some (.long q2)) (fun h => by rw [Bd.returns] at h; cases h)
    refine ⟨_, _, pre0 _ ?_, hrun, hended, _, _, rfl, ?_, ⟨_, rfl⟩, hW, hsame.mono (by decide) (by decide)⟩
    · exact sg1 _ (sg2 _ ((X0.lreturnOut hx Bd.returns (hb hby d5_11) hr)))
    · show Q5 Z q1 q2 h0 n0 _ s₁.heap _
      rw [e0]
      exact ⟨by rw [own_min, if_pos ((lw_gt _ _).mp hb3)], N0, rfl⟩
  · have sg3 : ∀ t₀, Steps p.tables e below (s₁.setTop (mkF m 11 #[.val (.long q1), .second, .val (.long q2), .second] [(.long q1)])) t₀ → Steps p.tables e below (s₁.setTop (mkF m 3 #[.val (.long q1), .second, .val (.long q2), .second] [(.int (lcmpW q1 q2))])) t₀ := by
      intro t₀ kt
      show Steps p.tables e below (s₁.setTop (mkF m 3 #[.val (.long q1), .second, .val (.long q2), .second] [(.int (lcmpW q1 q2))])) _
      refine XS.ifNo X0.here hx rfl (hb hby d5_3) rfl ((if0 _ _).trans (flt hb3).2.2.1) ?_
      show Steps p.tables e below (s₁.setTop (mkF m 6 #[.val (.long q1), .second, .val (.long q2), .second] [])) _
      refine XS.lloadN X0.here hx rfl (hb hby d5_6) rfl ?_
      show Steps p.tables e below (s₁.setTop (mkF m 7 #[.val (.long q1), .second, .val (.long q2), .second] [(.long q1)])) _
      refine XS.goto X0.here hx rfl (pc0 := 7) (pc' := 11) rfl (hb hby d5_7) (by decide) (by decide) ?_
      exact kt
    obtain ⟨fs, hr, hrun, hended, hW, hsame⟩ := X0.leave (v := some (.long q1)) (fun h => by rw [Bd.returns] at h; cases h)
    refine ⟨_, _, pre0 _ ?_, hrun, hended, _, _, rfl, ?_, ⟨_, rfl⟩, hW, hsame.mono (by decide) (by decide)⟩
    · exact sg1 _ (sg3 _ ((X0.lreturnOut hx Bd.returns (hb hby d5_11) hr)))
    · show Q5 Z q1 q2 h0 n0 _ s₁.heap _
      rw [e0]
      exact ⟨by rw [own_min, if_neg (fun k => hb3 ((lw_gt _ _).mpr k))], N0, rfl⟩
def Q0 (Z : State) (q1 : Int64) (q2 : Int64) (p3 : Int32) (p4 : Int32) (q5 : Int64) (q6 : Int64) (h0 : Heap) (n0 : Nat) (v : Option Value) (h : Heap) (L : List Loc) : Prop := v = some (.int (1 : Int32)) ∧ Fr n0 L
set_option maxRecDepth 65536 in
set_option maxHeartbeats 40000000 in
theorem rm0 (l : Launch) (Z : State) (a0 : Array Value) (hw : ∀ d ∈ tables_1, d.before a0 Z = true) (ws : List Jvm.Cond) (q1 : Int64) (q2 : Int64) (p3 : Int32) (p4 : Int32) (q5 : Int64) (q6 : Int64) (h0 : Heap) (n0 : Nat) (Z0 : n0 ≤ h0.size) :
    MetFree l x (head1 (Jvm.Cond.code x code maxLocals ret :: ws) room_1) (fun a U => a = #[(.long q1), (.long q2), (.int p3), (.int p4), (.long q5), (.long q6)] ∧ Z.Warmed39 U.vm ∧ U.heap = h0) (fun _ _ _ _ _ => True) (fun _ U oo U' => ∃ v L, oo = .returned v ∧ Q0 Z q1 q2 p3 p4 q5 q6 h0 n0 v U'.heap L ∧ FrameEnd U oo U' L room_1.cells room_1.slots) := by
  refine MetFree.of_bodySF (plainFor_of_name pn_0) hisR ?_
  intro p e s m args below meth c s₁ Bd hml0 hP hK
  obtain ⟨rfl, hZ, hh⟩ := hP
  have hx := Bd.exec
  have hby := Bd.bytes
  have hml : c.maxLocals = 28 := hml0
  have hown : s.vm.findClass "com/example/gridwake/gridwake/store/SlicingEndsGroupPinLaw" = some m.cls := findClass_of_methodNamed Bd.named
  have hnm := (name_of_methodNamed Bd.named Bd.method).1
  have X0 : Stand p l e room_1 s m #[(.long q1), (.long q2), (.int p3), (.int p4), (.long q5), (.long q6)] below meth c s₁ [] 0 0 := Stand.of_body Bd
  have e0 : s₁.heap = h0 := by rw [← hh, Bd.state]; rfl
  have N0 := Fr.nil n0
  have pre0 : ∀ t₀, Steps p.tables e below (s₁.setTop (mkF m 0 #[.val (.long q1), .second, .val (.long q2), .second, .val (.int p3), .val (.int p4), .val (.long q5), .second, .val (.long q6), .second, .unset, .unset, .unset, .unset, .unset, .unset, .unset, .unset, .unset, .unset, .unset, .unset, .unset, .unset, .unset, .unset, .unset, .unset] [])) t₀ → Steps p.tables e below (s₁.setTop (entryFrame m #[(.long q1), (.long q2), (.int p3), (.int p4), (.long q5), (.long q6)] maxLocals)) t₀ := fun t₀ k => castTop (ef_0 m q1 q2 p3 p4 q5 q6) k
  have sa : ∀ t₀, Steps p.tables e below (s₁.setTop (mkF m 14 #[.val (.long q1), .second, .val (.long q2), .second, .val (.int p3), .val (.int p4), .val (.long q5), .second, .val (.long q6), .second, .val (.long (4102444800000 : Int64)), .second, .val (.long ((1 : Int64) + (q2 &&& (1099511627775 : Int64)))), .second, .unset, .unset, .unset, .unset, .unset, .unset, .unset, .unset, .unset, .unset, .unset, .unset, .unset, .unset] [])) t₀ → Steps p.tables e below (s₁.setTop (mkF m 0 #[.val (.long q1), .second, .val (.long q2), .second, .val (.int p3), .val (.int p4), .val (.long q5), .second, .val (.long q6), .second, .unset, .unset, .unset, .unset, .unset, .unset, .unset, .unset, .unset, .unset, .unset, .unset, .unset, .unset, .unset, .unset, .unset, .unset] [])) t₀ := by
    intro t₀ kt
    show Steps p.tables e below (s₁.setTop (mkF m 0 #[.val (.long q1), .second, .val (.long q2), .second, .val (.int p3), .val (.int p4), .val (.long q5), .second, .val (.long q6), .second, .unset, .unset, .unset, .unset, .unset, .unset, .unset, .unset, .unset, .unset, .unset, .unset, .unset, .unset, .unset, .unset, .unset, .unset] [])) _
    refine X0.ldc2J hx hown (mvT hZ (hw _ (List.mem_of_getElem? (i := 0) rfl))) rfl (hb hby at_0) ?_
    show Steps p.tables e below (s₁.setTop (mkF m 3 #[.val (.long q1), .second, .val (.long q2), .second, .val (.int p3), .val (.int p4), .val (.long q5), .second, .val (.long q6), .second, .unset, .unset, .unset, .unset, .unset, .unset, .unset, .unset, .unset, .unset, .unset, .unset, .unset, .unset, .unset, .unset, .unset, .unset] [(.long (4102444800000 : Int64))])) _
    refine XS.lstore X0.here hx rfl (hb hby at_3) rfl (l' := #[.val (.long q1), .second, .val (.long q2), .second, .val (.int p3), .val (.int p4), .val (.long q5), .second, .val (.long q6), .second, .val (.long (4102444800000 : Int64)), .second, .unset, .unset, .unset, .unset, .unset, .unset, .unset, .unset, .unset, .unset, .unset, .unset, .unset, .unset, .unset, .unset]) rfl ?_
    show Steps p.tables e below (s₁.setTop (mkF m 5 #[.val (.long q1), .second, .val (.long q2), .second, .val (.int p3), .val (.int p4), .val (.long q5), .second, .val (.long q6), .second, .val (.long (4102444800000 : Int64)), .second, .unset, .unset, .unset, .unset, .unset, .unset, .unset, .unset, .unset, .unset, .unset, .unset, .unset, .unset, .unset, .unset] [])) _
    refine XS.lconst X0.here hx rfl (hb hby at_5) ?_
    show Steps p.tables e below (s₁.setTop (mkF m 6 #[.val (.long q1), .second, .val (.long q2), .second, .val (.int p3), .val (.int p4), .val (.long q5), .second, .val (.long q6), .second, .val (.long (4102444800000 : Int64)), .second, .unset, .unset, .unset, .unset, .unset, .unset, .unset, .unset, .unset, .unset, .unset, .unset, .unset, .unset, .unset, .unset] [(.long (1 : Int64))])) _
    refine XS.lloadN X0.here hx rfl (hb hby at_6) rfl ?_
    show Steps p.tables e below (s₁.setTop (mkF m 7 #[.val (.long q1), .second, .val (.long q2), .second, .val (.int p3), .val (.int p4), .val (.long q5), .second, .val (.long q6), .second, .val (.long (4102444800000 : Int64)), .second, .unset, .unset, .unset, .unset, .unset, .unset, .unset, .unset, .unset, .unset, .unset, .unset, .unset, .unset, .unset, .unset] [(.long q2), (.long (1 : Int64))])) _
    refine X0.ldc2J hx hown (mvT hZ (hw _ (List.mem_of_getElem? (i := 1) rfl))) rfl (hb hby at_7) ?_
    show Steps p.tables e below (s₁.setTop (mkF m 10 #[.val (.long q1), .second, .val (.long q2), .second, .val (.int p3), .val (.int p4), .val (.long q5), .second, .val (.long q6), .second, .val (.long (4102444800000 : Int64)), .second, .unset, .unset, .unset, .unset, .unset, .unset, .unset, .unset, .unset, .unset, .unset, .unset, .unset, .unset, .unset, .unset] [(.long (1099511627775 : Int64)), (.long q2), (.long (1 : Int64))])) _
    refine XS.land X0.here hx rfl (hb hby at_10) rfl ?_
    show Steps p.tables e below (s₁.setTop (mkF m 11 #[.val (.long q1), .second, .val (.long q2), .second, .val (.int p3), .val (.int p4), .val (.long q5), .second, .val (.long q6), .second, .val (.long (4102444800000 : Int64)), .second, .unset, .unset, .unset, .unset, .unset, .unset, .unset, .unset, .unset, .unset, .unset, .unset, .unset, .unset, .unset, .unset] [(.long (q2 &&& (1099511627775 : Int64))), (.long (1 : Int64))])) _
    refine XS.ladd X0.here hx rfl (hb hby at_11) rfl ?_
    show Steps p.tables e below (s₁.setTop (mkF m 12 #[.val (.long q1), .second, .val (.long q2), .second, .val (.int p3), .val (.int p4), .val (.long q5), .second, .val (.long q6), .second, .val (.long (4102444800000 : Int64)), .second, .unset, .unset, .unset, .unset, .unset, .unset, .unset, .unset, .unset, .unset, .unset, .unset, .unset, .unset, .unset, .unset] [(.long ((1 : Int64) + (q2 &&& (1099511627775 : Int64))))])) _
    refine XS.lstore X0.here hx rfl (hb hby at_12) rfl (l' := #[.val (.long q1), .second, .val (.long q2), .second, .val (.int p3), .val (.int p4), .val (.long q5), .second, .val (.long q6), .second, .val (.long (4102444800000 : Int64)), .second, .val (.long ((1 : Int64) + (q2 &&& (1099511627775 : Int64)))), .second, .unset, .unset, .unset, .unset, .unset, .unset, .unset, .unset, .unset, .unset, .unset, .unset, .unset, .unset]) rfl ?_
    exact kt
  have hm := own_m q2
  obtain ⟨mm, qmm⟩ : ∃ z, z = ((1 : Int64) + (q2 &&& (1099511627775 : Int64))) := ⟨_, rfl⟩
  rw [← qmm] at sa hm
  have sb : ∀ t₀, Steps p.tables e below (s₁.setTop (mkF m 23 #[.val (.long q1), .second, .val (.long q2), .second, .val (.int p3), .val (.int p4), .val (.long q5), .second, .val (.long q6), .second, .val (.long (4102444800000 : Int64)), .second, .val (.long mm), .second, .val (.int ((1 : Int32) + (p3 &&& (65535 : Int32)))), .unset, .unset, .unset, .unset, .unset, .unset, .unset, .unset, .unset, .unset, .unset, .unset, .unset] [])) t₀ → Steps p.tables e below (s₁.setTop (mkF m 14 #[.val (.long q1), .second, .val (.long q2), .second, .val (.int p3), .val (.int p4), .val (.long q5), .second, .val (.long q6), .second, .val (.long (4102444800000 : Int64)), .second, .val (.long mm), .second, .unset, .unset, .unset, .unset, .unset, .unset, .unset, .unset, .unset, .unset, .unset, .unset, .unset, .unset] [])) t₀ := by
    intro t₀ kt
    show Steps p.tables e below (s₁.setTop (mkF m 14 #[.val (.long q1), .second, .val (.long q2), .second, .val (.int p3), .val (.int p4), .val (.long q5), .second, .val (.long q6), .second, .val (.long (4102444800000 : Int64)), .second, .val (.long mm), .second, .unset, .unset, .unset, .unset, .unset, .unset, .unset, .unset, .unset, .unset, .unset, .unset, .unset, .unset] [])) _
    refine XS.iconst X0.here hx rfl (hb hby at_14) ?_
    show Steps p.tables e below (s₁.setTop (mkF m 15 #[.val (.long q1), .second, .val (.long q2), .second, .val (.int p3), .val (.int p4), .val (.long q5), .second, .val (.long q6), .second, .val (.long (4102444800000 : Int64)), .second, .val (.long mm), .second, .unset, .unset, .unset, .unset, .unset, .unset, .unset, .unset, .unset, .unset, .unset, .unset, .unset, .unset] [(.int (1 : Int32))])) _
    refine XS.iload X0.here hx rfl (hb hby at_15) rfl ?_
    show Steps p.tables e below (s₁.setTop (mkF m 17 #[.val (.long q1), .second, .val (.long q2), .second, .val (.int p3), .val (.int p4), .val (.long q5), .second, .val (.long q6), .second, .val (.long (4102444800000 : Int64)), .second, .val (.long mm), .second, .unset, .unset, .unset, .unset, .unset, .unset, .unset, .unset, .unset, .unset, .unset, .unset, .unset, .unset] [(.int p3), (.int (1 : Int32))])) _
    refine X0.ldcI hx hown (mvT hZ (hw _ (List.mem_of_getElem? (i := 2) rfl))) rfl (hb hby at_17) ?_
    show Steps p.tables e below (s₁.setTop (mkF m 19 #[.val (.long q1), .second, .val (.long q2), .second, .val (.int p3), .val (.int p4), .val (.long q5), .second, .val (.long q6), .second, .val (.long (4102444800000 : Int64)), .second, .val (.long mm), .second, .unset, .unset, .unset, .unset, .unset, .unset, .unset, .unset, .unset, .unset, .unset, .unset, .unset, .unset] [(.int (65535 : Int32)), (.int p3), (.int (1 : Int32))])) _
    refine XS.iand X0.here hx rfl (hb hby at_19) rfl ?_
    show Steps p.tables e below (s₁.setTop (mkF m 20 #[.val (.long q1), .second, .val (.long q2), .second, .val (.int p3), .val (.int p4), .val (.long q5), .second, .val (.long q6), .second, .val (.long (4102444800000 : Int64)), .second, .val (.long mm), .second, .unset, .unset, .unset, .unset, .unset, .unset, .unset, .unset, .unset, .unset, .unset, .unset, .unset, .unset] [(.int (p3 &&& (65535 : Int32))), (.int (1 : Int32))])) _
    refine XS.iadd X0.here hx rfl (hb hby at_20) rfl ?_
    show Steps p.tables e below (s₁.setTop (mkF m 21 #[.val (.long q1), .second, .val (.long q2), .second, .val (.int p3), .val (.int p4), .val (.long q5), .second, .val (.long q6), .second, .val (.long (4102444800000 : Int64)), .second, .val (.long mm), .second, .unset, .unset, .unset, .unset, .unset, .unset, .unset, .unset, .unset, .unset, .unset, .unset, .unset, .unset] [(.int ((1 : Int32) + (p3 &&& (65535 : Int32))))])) _
    refine XS.istore X0.here hx rfl (hb hby at_21) rfl (l' := #[.val (.long q1), .second, .val (.long q2), .second, .val (.int p3), .val (.int p4), .val (.long q5), .second, .val (.long q6), .second, .val (.long (4102444800000 : Int64)), .second, .val (.long mm), .second, .val (.int ((1 : Int32) + (p3 &&& (65535 : Int32)))), .unset, .unset, .unset, .unset, .unset, .unset, .unset, .unset, .unset, .unset, .unset, .unset, .unset]) rfl ?_
    exact kt
  have hg := own_g p3
  obtain ⟨gg, qgg⟩ : ∃ z, z = ((1 : Int32) + (p3 &&& (65535 : Int32))) := ⟨_, rfl⟩
  rw [← qgg] at sb hg
  have sc : ∀ t₀, Steps p.tables e below (s₁.setTop (mkF m 30 #[.val (.long q1), .second, .val (.long q2), .second, .val (.int p3), .val (.int p4), .val (.long q5), .second, .val (.long q6), .second, .val (.long (4102444800000 : Int64)), .second, .val (.long mm), .second, .val (.int gg), .val (.int (p4 &&& (131071 : Int32))), .unset, .unset, .unset, .unset, .unset, .unset, .unset, .unset, .unset, .unset, .unset, .unset] [])) t₀ → Steps p.tables e below (s₁.setTop (mkF m 23 #[.val (.long q1), .second, .val (.long q2), .second, .val (.int p3), .val (.int p4), .val (.long q5), .second, .val (.long q6), .second, .val (.long (4102444800000 : Int64)), .second, .val (.long mm), .second, .val (.int gg), .unset, .unset, .unset, .unset, .unset, .unset, .unset, .unset, .unset, .unset, .unset, .unset, .unset] [])) t₀ := by
    intro t₀ kt
    show Steps p.tables e below (s₁.setTop (mkF m 23 #[.val (.long q1), .second, .val (.long q2), .second, .val (.int p3), .val (.int p4), .val (.long q5), .second, .val (.long q6), .second, .val (.long (4102444800000 : Int64)), .second, .val (.long mm), .second, .val (.int gg), .unset, .unset, .unset, .unset, .unset, .unset, .unset, .unset, .unset, .unset, .unset, .unset, .unset] [])) _
    refine XS.iload X0.here hx rfl (hb hby at_23) rfl ?_
    show Steps p.tables e below (s₁.setTop (mkF m 25 #[.val (.long q1), .second, .val (.long q2), .second, .val (.int p3), .val (.int p4), .val (.long q5), .second, .val (.long q6), .second, .val (.long (4102444800000 : Int64)), .second, .val (.long mm), .second, .val (.int gg), .unset, .unset, .unset, .unset, .unset, .unset, .unset, .unset, .unset, .unset, .unset, .unset, .unset] [(.int p4)])) _
    refine X0.ldcI hx hown (mvT hZ (hw _ (List.mem_of_getElem? (i := 3) rfl))) rfl (hb hby at_25) ?_
    show Steps p.tables e below (s₁.setTop (mkF m 27 #[.val (.long q1), .second, .val (.long q2), .second, .val (.int p3), .val (.int p4), .val (.long q5), .second, .val (.long q6), .second, .val (.long (4102444800000 : Int64)), .second, .val (.long mm), .second, .val (.int gg), .unset, .unset, .unset, .unset, .unset, .unset, .unset, .unset, .unset, .unset, .unset, .unset, .unset] [(.int (131071 : Int32)), (.int p4)])) _
    refine XS.iand X0.here hx rfl (hb hby at_27) rfl ?_
    show Steps p.tables e below (s₁.setTop (mkF m 28 #[.val (.long q1), .second, .val (.long q2), .second, .val (.int p3), .val (.int p4), .val (.long q5), .second, .val (.long q6), .second, .val (.long (4102444800000 : Int64)), .second, .val (.long mm), .second, .val (.int gg), .unset, .unset, .unset, .unset, .unset, .unset, .unset, .unset, .unset, .unset, .unset, .unset, .unset] [(.int (p4 &&& (131071 : Int32)))])) _
    refine XS.istore X0.here hx rfl (hb hby at_28) rfl (l' := #[.val (.long q1), .second, .val (.long q2), .second, .val (.int p3), .val (.int p4), .val (.long q5), .second, .val (.long q6), .second, .val (.long (4102444800000 : Int64)), .second, .val (.long mm), .second, .val (.int gg), .val (.int (p4 &&& (131071 : Int32))), .unset, .unset, .unset, .unset, .unset, .unset, .unset, .unset, .unset, .unset, .unset, .unset]) rfl ?_
    exact kt
  obtain ⟨ss, qss⟩ : ∃ z, z = (p4 &&& (131071 : Int32)) := ⟨_, rfl⟩
  rw [← qss] at sc
  have sd : ∀ t₀, Steps p.tables e below (s₁.setTop (mkF m 41 #[.val (.long q1), .second, .val (.long q2), .second, .val (.int p3), .val (.int p4), .val (.long q5), .second, .val (.long q6), .second, .val (.long (4102444800000 : Int64)), .second, .val (.long mm), .second, .val (.int gg), .val (.int ss), .val (.long ((q5 &&& (9223372036854775807 : Int64)) - ((q5 &&& (9223372036854775807 : Int64)) / (4102444800000 : Int64)) * (4102444800000 : Int64))), .second, .unset, .unset, .unset, .unset, .unset, .unset, .unset, .unset, .unset, .unset] [])) t₀ → Steps p.tables e below (s₁.setTop (mkF m 30 #[.val (.long q1), .second, .val (.long q2), .second, .val (.int p3), .val (.int p4), .val (.long q5), .second, .val (.long q6), .second, .val (.long (4102444800000 : Int64)), .second, .val (.long mm), .second, .val (.int gg), .val (.int ss), .unset, .unset, .unset, .unset, .unset, .unset, .unset, .unset, .unset, .unset, .unset, .unset] [])) t₀ := by
    intro t₀ kt
    show Steps p.tables e below (s₁.setTop (mkF m 30 #[.val (.long q1), .second, .val (.long q2), .second, .val (.int p3), .val (.int p4), .val (.long q5), .second, .val (.long q6), .second, .val (.long (4102444800000 : Int64)), .second, .val (.long mm), .second, .val (.int gg), .val (.int ss), .unset, .unset, .unset, .unset, .unset, .unset, .unset, .unset, .unset, .unset, .unset, .unset] [])) _
    refine XS.lload X0.here hx rfl (hb hby at_30) rfl ?_
    show Steps p.tables e below (s₁.setTop (mkF m 32 #[.val (.long q1), .second, .val (.long q2), .second, .val (.int p3), .val (.int p4), .val (.long q5), .second, .val (.long q6), .second, .val (.long (4102444800000 : Int64)), .second, .val (.long mm), .second, .val (.int gg), .val (.int ss), .unset, .unset, .unset, .unset, .unset, .unset, .unset, .unset, .unset, .unset, .unset, .unset] [(.long q5)])) _
    refine X0.ldc2J hx hown (mvT hZ (hw _ (List.mem_of_getElem? (i := 4) rfl))) rfl (hb hby at_32) ?_
    show Steps p.tables e below (s₁.setTop (mkF m 35 #[.val (.long q1), .second, .val (.long q2), .second, .val (.int p3), .val (.int p4), .val (.long q5), .second, .val (.long q6), .second, .val (.long (4102444800000 : Int64)), .second, .val (.long mm), .second, .val (.int gg), .val (.int ss), .unset, .unset, .unset, .unset, .unset, .unset, .unset, .unset, .unset, .unset, .unset, .unset] [(.long (9223372036854775807 : Int64)), (.long q5)])) _
    refine XS.land X0.here hx rfl (hb hby at_35) rfl ?_
    show Steps p.tables e below (s₁.setTop (mkF m 36 #[.val (.long q1), .second, .val (.long q2), .second, .val (.int p3), .val (.int p4), .val (.long q5), .second, .val (.long q6), .second, .val (.long (4102444800000 : Int64)), .second, .val (.long mm), .second, .val (.int gg), .val (.int ss), .unset, .unset, .unset, .unset, .unset, .unset, .unset, .unset, .unset, .unset, .unset, .unset] [(.long (q5 &&& (9223372036854775807 : Int64)))])) _
    refine XS.lload X0.here hx rfl (hb hby at_36) rfl ?_
    show Steps p.tables e below (s₁.setTop (mkF m 38 #[.val (.long q1), .second, .val (.long q2), .second, .val (.int p3), .val (.int p4), .val (.long q5), .second, .val (.long q6), .second, .val (.long (4102444800000 : Int64)), .second, .val (.long mm), .second, .val (.int gg), .val (.int ss), .unset, .unset, .unset, .unset, .unset, .unset, .unset, .unset, .unset, .unset, .unset, .unset] [(.long (4102444800000 : Int64)), (.long (q5 &&& (9223372036854775807 : Int64)))])) _
    refine XS.lrem X0.here hx rfl (hb hby at_38) rfl (by decide) ?_
    show Steps p.tables e below (s₁.setTop (mkF m 39 #[.val (.long q1), .second, .val (.long q2), .second, .val (.int p3), .val (.int p4), .val (.long q5), .second, .val (.long q6), .second, .val (.long (4102444800000 : Int64)), .second, .val (.long mm), .second, .val (.int gg), .val (.int ss), .unset, .unset, .unset, .unset, .unset, .unset, .unset, .unset, .unset, .unset, .unset, .unset] [(.long ((q5 &&& (9223372036854775807 : Int64)) - ((q5 &&& (9223372036854775807 : Int64)) / (4102444800000 : Int64)) * (4102444800000 : Int64)))])) _
    refine XS.lstore X0.here hx rfl (hb hby at_39) rfl (l' := #[.val (.long q1), .second, .val (.long q2), .second, .val (.int p3), .val (.int p4), .val (.long q5), .second, .val (.long q6), .second, .val (.long (4102444800000 : Int64)), .second, .val (.long mm), .second, .val (.int gg), .val (.int ss), .val (.long ((q5 &&& (9223372036854775807 : Int64)) - ((q5 &&& (9223372036854775807 : Int64)) / (4102444800000 : Int64)) * (4102444800000 : Int64))), .second, .unset, .unset, .unset, .unset, .unset, .unset, .unset, .unset, .unset, .unset]) rfl ?_
    exact kt
  have hf := own_f q5
  obtain ⟨ff, qff⟩ : ∃ z, z = ((q5 &&& (9223372036854775807 : Int64)) - ((q5 &&& (9223372036854775807 : Int64)) / (4102444800000 : Int64)) * (4102444800000 : Int64)) := ⟨_, rfl⟩
  rw [← qff] at sd hf
  have se : ∀ t₀, Steps p.tables e below (s₁.setTop (mkF m 55 #[.val (.long q1), .second, .val (.long q2), .second, .val (.int p3), .val (.int p4), .val (.long q5), .second, .val (.long q6), .second, .val (.long (4102444800000 : Int64)), .second, .val (.long mm), .second, .val (.int gg), .val (.int ss), .val (.long ff), .second, .val (.long ((q6 &&& (9223372036854775807 : Int64)) - ((q6 &&& (9223372036854775807 : Int64)) / ((4102444800000 : Int64) - ff)) * ((4102444800000 : Int64) - ff))), .second, .unset, .unset, .unset, .unset, .unset, .unset, .unset, .unset] [])) t₀ → Steps p.tables e below (s₁.setTop (mkF m 41 #[.val (.long q1), .second, .val (.long q2), .second, .val (.int p3), .val (.int p4), .val (.long q5), .second, .val (.long q6), .second, .val (.long (4102444800000 : Int64)), .second, .val (.long mm), .second, .val (.int gg), .val (.int ss), .val (.long ff), .second, .unset, .unset, .unset, .unset, .unset, .unset, .unset, .unset, .unset, .unset] [])) t₀ := by
    intro t₀ kt
    show Steps p.tables e below (s₁.setTop (mkF m 41 #[.val (.long q1), .second, .val (.long q2), .second, .val (.int p3), .val (.int p4), .val (.long q5), .second, .val (.long q6), .second, .val (.long (4102444800000 : Int64)), .second, .val (.long mm), .second, .val (.int gg), .val (.int ss), .val (.long ff), .second, .unset, .unset, .unset, .unset, .unset, .unset, .unset, .unset, .unset, .unset] [])) _
    refine XS.lload X0.here hx rfl (hb hby at_41) rfl ?_
    show Steps p.tables e below (s₁.setTop (mkF m 43 #[.val (.long q1), .second, .val (.long q2), .second, .val (.int p3), .val (.int p4), .val (.long q5), .second, .val (.long q6), .second, .val (.long (4102444800000 : Int64)), .second, .val (.long mm), .second, .val (.int gg), .val (.int ss), .val (.long ff), .second, .unset, .unset, .unset, .unset, .unset, .unset, .unset, .unset, .unset, .unset] [(.long q6)])) _
    refine X0.ldc2J hx hown (mvT hZ (hw _ (List.mem_of_getElem? (i := 4) rfl))) rfl (hb hby at_43) ?_
    show Steps p.tables e below (s₁.setTop (mkF m 46 #[.val (.long q1), .second, .val (.long q2), .second, .val (.int p3), .val (.int p4), .val (.long q5), .second, .val (.long q6), .second, .val (.long (4102444800000 : Int64)), .second, .val (.long mm), .second, .val (.int gg), .val (.int ss), .val (.long ff), .second, .unset, .unset, .unset, .unset, .unset, .unset, .unset, .unset, .unset, .unset] [(.long (9223372036854775807 : Int64)), (.long q6)])) _
    refine XS.land X0.here hx rfl (hb hby at_46) rfl ?_
    show Steps p.tables e below (s₁.setTop (mkF m 47 #[.val (.long q1), .second, .val (.long q2), .second, .val (.int p3), .val (.int p4), .val (.long q5), .second, .val (.long q6), .second, .val (.long (4102444800000 : Int64)), .second, .val (.long mm), .second, .val (.int gg), .val (.int ss), .val (.long ff), .second, .unset, .unset, .unset, .unset, .unset, .unset, .unset, .unset, .unset, .unset] [(.long (q6 &&& (9223372036854775807 : Int64)))])) _
    refine XS.lload X0.here hx rfl (hb hby at_47) rfl ?_
    show Steps p.tables e below (s₁.setTop (mkF m 49 #[.val (.long q1), .second, .val (.long q2), .second, .val (.int p3), .val (.int p4), .val (.long q5), .second, .val (.long q6), .second, .val (.long (4102444800000 : Int64)), .second, .val (.long mm), .second, .val (.int gg), .val (.int ss), .val (.long ff), .second, .unset, .unset, .unset, .unset, .unset, .unset, .unset, .unset, .unset, .unset] [(.long (4102444800000 : Int64)), (.long (q6 &&& (9223372036854775807 : Int64)))])) _
    refine XS.lload X0.here hx rfl (hb hby at_49) rfl ?_
    show Steps p.tables e below (s₁.setTop (mkF m 51 #[.val (.long q1), .second, .val (.long q2), .second, .val (.int p3), .val (.int p4), .val (.long q5), .second, .val (.long q6), .second, .val (.long (4102444800000 : Int64)), .second, .val (.long mm), .second, .val (.int gg), .val (.int ss), .val (.long ff), .second, .unset, .unset, .unset, .unset, .unset, .unset, .unset, .unset, .unset, .unset] [(.long ff), (.long (4102444800000 : Int64)), (.long (q6 &&& (9223372036854775807 : Int64)))])) _
    refine XS.lsub X0.here hx rfl (hb hby at_51) rfl ?_
    show Steps p.tables e below (s₁.setTop (mkF m 52 #[.val (.long q1), .second, .val (.long q2), .second, .val (.int p3), .val (.int p4), .val (.long q5), .second, .val (.long q6), .second, .val (.long (4102444800000 : Int64)), .second, .val (.long mm), .second, .val (.int gg), .val (.int ss), .val (.long ff), .second, .unset, .unset, .unset, .unset, .unset, .unset, .unset, .unset, .unset, .unset] [(.long ((4102444800000 : Int64) - ff)), (.long (q6 &&& (9223372036854775807 : Int64)))])) _
    refine XS.lrem X0.here hx rfl (hb hby at_52) rfl (own_nz hf) ?_
    show Steps p.tables e below (s₁.setTop (mkF m 53 #[.val (.long q1), .second, .val (.long q2), .second, .val (.int p3), .val (.int p4), .val (.long q5), .second, .val (.long q6), .second, .val (.long (4102444800000 : Int64)), .second, .val (.long mm), .second, .val (.int gg), .val (.int ss), .val (.long ff), .second, .unset, .unset, .unset, .unset, .unset, .unset, .unset, .unset, .unset, .unset] [(.long ((q6 &&& (9223372036854775807 : Int64)) - ((q6 &&& (9223372036854775807 : Int64)) / ((4102444800000 : Int64) - ff)) * ((4102444800000 : Int64) - ff)))])) _
    refine XS.lstore X0.here hx rfl (hb hby at_53) rfl (l' := #[.val (.long q1), .second, .val (.long q2), .second, .val (.int p3), .val (.int p4), .val (.long q5), .second, .val (.long q6), .second, .val (.long (4102444800000 : Int64)), .second, .val (.long mm), .second, .val (.int gg), .val (.int ss), .val (.long ff), .second, .val (.long ((q6 &&& (9223372036854775807 : Int64)) - ((q6 &&& (9223372036854775807 : Int64)) / ((4102444800000 : Int64) - ff)) * ((4102444800000 : Int64) - ff))), .second, .unset, .unset, .unset, .unset, .unset, .unset, .unset, .unset]) rfl ?_
    exact kt
  obtain ⟨dd, qdd⟩ : ∃ z, z = ((q6 &&& (9223372036854775807 : Int64)) - ((q6 &&& (9223372036854775807 : Int64)) / ((4102444800000 : Int64) - ff)) * ((4102444800000 : Int64) - ff)) := ⟨_, rfl⟩
  rw [← qdd] at se
  have sg1 : ∀ t₀, Steps p.tables e below (s₁.setTop (mkF m 62 #[.val (.long q1), .second, .val (.long q2), .second, .val (.int p3), .val (.int p4), .val (.long q5), .second, .val (.long q6), .second, .val (.long (4102444800000 : Int64)), .second, .val (.long mm), .second, .val (.int gg), .val (.int ss), .val (.long ff), .second, .val (.long dd), .second, .val (.long (ff + dd)), .second, .unset, .unset, .unset, .unset, .unset, .unset] [])) t₀ → Steps p.tables e below (s₁.setTop (mkF m 55 #[.val (.long q1), .second, .val (.long q2), .second, .val (.int p3), .val (.int p4), .val (.long q5), .second, .val (.long q6), .second, .val (.long (4102444800000 : Int64)), .second, .val (.long mm), .second, .val (.int gg), .val (.int ss), .val (.long ff), .second, .val (.long dd), .second, .unset, .unset, .unset, .unset, .unset, .unset, .unset, .unset] [])) t₀ := by
    intro t₀ kt
    show Steps p.tables e below (s₁.setTop (mkF m 55 #[.val (.long q1), .second, .val (.long q2), .second, .val (.int p3), .val (.int p4), .val (.long q5), .second, .val (.long q6), .second, .val (.long (4102444800000 : Int64)), .second, .val (.long mm), .second, .val (.int gg), .val (.int ss), .val (.long ff), .second, .val (.long dd), .second, .unset, .unset, .unset, .unset, .unset, .unset, .unset, .unset] [])) _
    refine XS.lload X0.here hx rfl (hb hby at_55) rfl ?_
    show Steps p.tables e below (s₁.setTop (mkF m 57 #[.val (.long q1), .second, .val (.long q2), .second, .val (.int p3), .val (.int p4), .val (.long q5), .second, .val (.long q6), .second, .val (.long (4102444800000 : Int64)), .second, .val (.long mm), .second, .val (.int gg), .val (.int ss), .val (.long ff), .second, .val (.long dd), .second, .unset, .unset, .unset, .unset, .unset, .unset, .unset, .unset] [(.long ff)])) _
    refine XS.lload X0.here hx rfl (hb hby at_57) rfl ?_
    show Steps p.tables e below (s₁.setTop (mkF m 59 #[.val (.long q1), .second, .val (.long q2), .second, .val (.int p3), .val (.int p4), .val (.long q5), .second, .val (.long q6), .second, .val (.long (4102444800000 : Int64)), .second, .val (.long mm), .second, .val (.int gg), .val (.int ss), .val (.long ff), .second, .val (.long dd), .second, .unset, .unset, .unset, .unset, .unset, .unset, .unset, .unset] [(.long dd), (.long ff)])) _
    refine XS.ladd X0.here hx rfl (hb hby at_59) rfl ?_
    show Steps p.tables e below (s₁.setTop (mkF m 60 #[.val (.long q1), .second, .val (.long q2), .second, .val (.int p3), .val (.int p4), .val (.long q5), .second, .val (.long q6), .second, .val (.long (4102444800000 : Int64)), .second, .val (.long mm), .second, .val (.int gg), .val (.int ss), .val (.long ff), .second, .val (.long dd), .second, .unset, .unset, .unset, .unset, .unset, .unset, .unset, .unset] [(.long (ff + dd))])) _
    refine XS.lstore X0.here hx rfl (hb hby at_60) rfl (l' := #[.val (.long q1), .second, .val (.long q2), .second, .val (.int p3), .val (.int p4), .val (.long q5), .second, .val (.long q6), .second, .val (.long (4102444800000 : Int64)), .second, .val (.long mm), .second, .val (.int gg), .val (.int ss), .val (.long ff), .second, .val (.long dd), .second, .val (.long (ff + dd)), .second, .unset, .unset, .unset, .unset, .unset, .unset]) rfl ?_
    exact kt
  have hback : ff + dd - ff = dd := own_back ff dd
  obtain ⟨T2, h2, X2, e2, E2, A2, D2, -, st2⟩ := newO X0 hx hZ hown (hw _ (List.mem_of_getElem? (i := 5) rfl)) (hw _ (List.mem_of_getElem? (i := 6) rfl)) (hw _ (List.mem_of_getElem? (i := 7) rfl)) e0 (g := (mkF m 62 #[.val (.long q1), .second, .val (.long q2), .second, .val (.int p3), .val (.int p4), .val (.long q5), .second, .val (.long q6), .second, .val (.long (4102444800000 : Int64)), .second, .val (.long mm), .second, .val (.int gg), .val (.int ss), .val (.long ff), .second, .val (.long dd), .second, .val (.long (ff + dd)), .second, .unset, .unset, .unset, .unset, .unset, .unset] [])) rfl (hb hby at_62) (by decide) (by decide)
  obtain ⟨b2, g2⟩ : ∃ z, z = h0.size := ⟨_, rfl⟩
  rw [← g2] at A2 D2 st2
  have F_sliceMemoryBytes_b2 : Fld Z h2 b2 "com/example/gridwake/gridwake/store/Blocks$Slicing" "sliceMemoryBytes" "J" (.long (0 : Int64)) := D2 (Or.inr (hw _ (List.mem_of_getElem? (i := 20) rfl))) (ty := .long) (by decide)
  have F_groupMillis_b2 : Fld Z h2 b2 "com/example/gridwake/gridwake/store/Blocks$Slicing" "groupMillis" "J" (.long (0 : Int64)) := D2 (Or.inr (hw _ (List.mem_of_getElem? (i := 22) rfl))) (ty := .long) (by decide)
  have F_groupSlices_b2 : Fld Z h2 b2 "com/example/gridwake/gridwake/store/Blocks$Slicing" "groupSlices" "I" (.int (0 : Int32)) := D2 (Or.inr (hw _ (List.mem_of_getElem? (i := 24) rfl))) (ty := .int) (by decide)
  have g_b2 : n0 ≤ b2 := Nat.le_trans Z0 (Nat.le_of_eq g2.symm)
  have z2 : n0 ≤ h2.size := Nat.le_trans Z0 E2.1
  have sg3 : ∀ t₀, Steps p.tables e below (T2.setTop (mkF m 71 #[.val (.long q1), .second, .val (.long q2), .second, .val (.int p3), .val (.int p4), .val (.long q5), .second, .val (.long q6), .second, .val (.long (4102444800000 : Int64)), .second, .val (.long mm), .second, .val (.int gg), .val (.int ss), .val (.long ff), .second, .val (.long dd), .second, .val (.long (ff + dd)), .second, .unset, .unset, .unset, .unset, .unset, .unset] [(.int gg), (.long mm), (.long q1), (.ref b2), (.ref b2)])) t₀ → Steps p.tables e below (T2.setTop (mkF m 65 #[.val (.long q1), .second, .val (.long q2), .second, .val (.int p3), .val (.int p4), .val (.long q5), .second, .val (.long q6), .second, .val (.long (4102444800000 : Int64)), .second, .val (.long mm), .second, .val (.int gg), .val (.int ss), .val (.long ff), .second, .val (.long dd), .second, .val (.long (ff + dd)), .second, .unset, .unset, .unset, .unset, .unset, .unset] [(.ref b2)])) t₀ := by
    intro t₀ kt
    show Steps p.tables e below (T2.setTop (mkF m 65 #[.val (.long q1), .second, .val (.long q2), .second, .val (.int p3), .val (.int p4), .val (.long q5), .second, .val (.long q6), .second, .val (.long (4102444800000 : Int64)), .second, .val (.long mm), .second, .val (.int gg), .val (.int ss), .val (.long ff), .second, .val (.long dd), .second, .val (.long (ff + dd)), .second, .unset, .unset, .unset, .unset, .unset, .unset] [(.ref b2)])) _
    refine XS.dup X2.here hx rfl (hb hby at_65) rfl rfl ?_
    show Steps p.tables e below (T2.setTop (mkF m 66 #[.val (.long q1), .second, .val (.long q2), .second, .val (.int p3), .val (.int p4), .val (.long q5), .second, .val (.long q6), .second, .val (.long (4102444800000 : Int64)), .second, .val (.long mm), .second, .val (.int gg), .val (.int ss), .val (.long ff), .second, .val (.long dd), .second, .val (.long (ff + dd)), .second, .unset, .unset, .unset, .unset, .unset, .unset] [(.ref b2), (.ref b2)])) _
    refine XS.lloadN X2.here hx rfl (hb hby at_66) rfl ?_
    show Steps p.tables e below (T2.setTop (mkF m 67 #[.val (.long q1), .second, .val (.long q2), .second, .val (.int p3), .val (.int p4), .val (.long q5), .second, .val (.long q6), .second, .val (.long (4102444800000 : Int64)), .second, .val (.long mm), .second, .val (.int gg), .val (.int ss), .val (.long ff), .second, .val (.long dd), .second, .val (.long (ff + dd)), .second, .unset, .unset, .unset, .unset, .unset, .unset] [(.long q1), (.ref b2), (.ref b2)])) _
    refine XS.lload X2.here hx rfl (hb hby at_67) rfl ?_
    show Steps p.tables e below (T2.setTop (mkF m 69 #[.val (.long q1), .second, .val (.long q2), .second, .val (.int p3), .val (.int p4), .val (.long q5), .second, .val (.long q6), .second, .val (.long (4102444800000 : Int64)), .second, .val (.long mm), .second, .val (.int gg), .val (.int ss), .val (.long ff), .second, .val (.long dd), .second, .val (.long (ff + dd)), .second, .unset, .unset, .unset, .unset, .unset, .unset] [(.long mm), (.long q1), (.ref b2), (.ref b2)])) _
    refine XS.iload X2.here hx rfl (hb hby at_69) rfl ?_
    exact kt
  obtain ⟨_, _, ⟨T4, L4, k4, n4⟩, -, X4, ⟨Lc4, hQ4, l4, y4, z4⟩, st4⟩ := X2.specialBack hx (y := (⟨"com/example/gridwake/gridwake/store/Blocks$Slicing", "<init>", "(JJI)V"⟩ : MethodName)) rfl hown (mvT hZ (hw _ (List.mem_of_getElem? (i := 8) rfl))) (mvT hZ (hw _ (List.mem_of_getElem? (i := 9) rfl))) (mvT hZ (hw _ (List.mem_of_getElem? (i := 10) rfl))) (by decide) (backOf (W := 1) (rm1 l Z a0 hw [] b2 q1 mm gg h2 n0 z2 A2 g_b2 F_sliceMemoryBytes_b2 F_groupMillis_b2 F_groupSlices_b2) hZ (hw _ (List.mem_of_getElem? (i := 10) rfl)) (hw _ (List.mem_of_getElem? (i := 7) rfl)) (by decide) (by decide)) (g := (mkF m 71 #[.val (.long q1), .second, .val (.long q2), .second, .val (.int p3), .val (.int p4), .val (.long q5), .second, .val (.long q6), .second, .val (.long (4102444800000 : Int64)), .second, .val (.long mm), .second, .val (.int gg), .val (.int ss), .val (.long ff), .second, .val (.long dd), .second, .val (.long (ff + dd)), .second, .unset, .unset, .unset, .unset, .unset, .unset] [(.int gg), (.long mm), (.long q1), (.ref b2), (.ref b2)])) rfl (by rw [hml]; rfl) (Steps.refl _) (a := b2) (argsL := [(.long q1), (.long mm), (.int gg)]) (rest := [(.ref b2)]) (lenOf pd_3 rfl) rfl (by show 2 * 0 + _ ≤ _; exact Nat.le_of_eq rfl) (hb hby at_71) (fun _ _ => ⟨rfl, e2, (by decide : 1 + 0 ≤ _), (by decide : 3 + 0 ≤ _)⟩)
  dsimp only [Pt.U, Pt.locs, Pt.cells, Pt.slots] at X4 l4 y4 z4 st4 hQ4
  subst l4 y4 z4
  obtain ⟨rfl, N4q, KK, EE, FM, FS⟩ := hQ4
  have N4 := Fr.app N0 N4q
  have zz : n0 ≤ T4.heap.size := Nat.le_trans z2 KK.1
  have sg5 : ∀ t₀, Steps p.tables e below (T4.setTop (mkF m 84 #[.val (.long q1), .second, .val (.long q2), .second, .val (.int p3), .val (.int p4), .val (.long q5), .second, .val (.long q6), .second, .val (.long (4102444800000 : Int64)), .second, .val (.long mm), .second, .val (.int gg), .val (.int ss), .val (.long ff), .second, .val (.long dd), .second, .val (.long (ff + dd)), .second, .val (.ref b2), .unset, .unset, .unset, .unset, .unset] [(.long (ff + dd)), (.long ff), (.int ss), (.ref b2)])) t₀ → Steps p.tables e below (T4.setTop (mkF m 74 #[.val (.long q1), .second, .val (.long q2), .second, .val (.int p3), .val (.int p4), .val (.long q5), .second, .val (.long q6), .second, .val (.long (4102444800000 : Int64)), .second, .val (.long mm), .second, .val (.int gg), .val (.int ss), .val (.long ff), .second, .val (.long dd), .second, .val (.long (ff + dd)), .second, .unset, .unset, .unset, .unset, .unset, .unset] [(.ref b2)])) t₀ := by
    intro t₀ kt
    show Steps p.tables e below (T4.setTop (mkF m 74 #[.val (.long q1), .second, .val (.long q2), .second, .val (.int p3), .val (.int p4), .val (.long q5), .second, .val (.long q6), .second, .val (.long (4102444800000 : Int64)), .second, .val (.long mm), .second, .val (.int gg), .val (.int ss), .val (.long ff), .second, .val (.long dd), .second, .val (.long (ff + dd)), .second, .unset, .unset, .unset, .unset, .unset, .unset] [(.ref b2)])) _
    refine XS.astore X4.here hx rfl (hb hby at_74) rfl rfl (l' := #[.val (.long q1), .second, .val (.long q2), .second, .val (.int p3), .val (.int p4), .val (.long q5), .second, .val (.long q6), .second, .val (.long (4102444800000 : Int64)), .second, .val (.long mm), .second, .val (.int gg), .val (.int ss), .val (.long ff), .second, .val (.long dd), .second, .val (.long (ff + dd)), .second, .val (.ref b2), .unset, .unset, .unset, .unset, .unset]) rfl ?_
    show Steps p.tables e below (T4.setTop (mkF m 76 #[.val (.long q1), .second, .val (.long q2), .second, .val (.int p3), .val (.int p4), .val (.long q5), .second, .val (.long q6), .second, .val (.long (4102444800000 : Int64)), .second, .val (.long mm), .second, .val (.int gg), .val (.int ss), .val (.long ff), .second, .val (.long dd), .second, .val (.long (ff + dd)), .second, .val (.ref b2), .unset, .unset, .unset, .unset, .unset] [])) _
    refine XS.aload X4.here hx rfl (hb hby at_76) rfl rfl ?_
    show Steps p.tables e below (T4.setTop (mkF m 78 #[.val (.long q1), .second, .val (.long q2), .second, .val (.int p3), .val (.int p4), .val (.long q5), .second, .val (.long q6), .second, .val (.long (4102444800000 : Int64)), .second, .val (.long mm), .second, .val (.int gg), .val (.int ss), .val (.long ff), .second, .val (.long dd), .second, .val (.long (ff + dd)), .second, .val (.ref b2), .unset, .unset, .unset, .unset, .unset] [(.ref b2)])) _
    refine XS.iload X4.here hx rfl (hb hby at_78) rfl ?_
    show Steps p.tables e below (T4.setTop (mkF m 80 #[.val (.long q1), .second, .val (.long q2), .second, .val (.int p3), .val (.int p4), .val (.long q5), .second, .val (.long q6), .second, .val (.long (4102444800000 : Int64)), .second, .val (.long mm), .second, .val (.int gg), .val (.int ss), .val (.long ff), .second, .val (.long dd), .second, .val (.long (ff + dd)), .second, .val (.ref b2), .unset, .unset, .unset, .unset, .unset] [(.int ss), (.ref b2)])) _
    refine XS.lload X4.here hx rfl (hb hby at_80) rfl ?_
    show Steps p.tables e below (T4.setTop (mkF m 82 #[.val (.long q1), .second, .val (.long q2), .second, .val (.int p3), .val (.int p4), .val (.long q5), .second, .val (.long q6), .second, .val (.long (4102444800000 : Int64)), .second, .val (.long mm), .second, .val (.int gg), .val (.int ss), .val (.long ff), .second, .val (.long dd), .second, .val (.long (ff + dd)), .second, .val (.ref b2), .unset, .unset, .unset, .unset, .unset] [(.long ff), (.int ss), (.ref b2)])) _
    refine XS.lload X4.here hx rfl (hb hby at_82) rfl ?_
    exact kt
  obtain ⟨cq6, kq6, q6a, q6b, q6c⟩ := isOf hZ rfl EE
  obtain ⟨_, _, ⟨T6, L6, k6, n6⟩, -, X6, ⟨Lc6, hQ6, l6, y6, z6⟩, st6⟩ := X4.virtualBack hx (y := (⟨"com/example/gridwake/gridwake/store/Blocks$Slicing", "endsGroup", "(IJJ)Z"⟩ : MethodName)) (z := (⟨"com/example/gridwake/gridwake/store/Blocks$Slicing", "endsGroup", "(IJJ)Z"⟩ : MethodName)) hown (mvT hZ (hw _ (List.mem_of_getElem? (i := 25) rfl))) (mvT hZ (hw _ (List.mem_of_getElem? (i := 26) rfl))) (notFace_of_selects (args := #[]) (mvT hZ (hw _ (List.mem_of_getElem? (i := 28) rfl)))) (mvT hZ (hw _ (List.mem_of_getElem? (i := 28) rfl))) (mvT hZ (hw _ (List.mem_of_getElem? (i := 27) rfl))) (by decide) (backOf (W := 0) (rm4 l Z a0 hw [] b2 ss ff (ff + dd) gg mm T4.heap n0 zz FS FM) hZ (hw _ (List.mem_of_getElem? (i := 29) rfl)) (hw _ (List.mem_of_getElem? (i := 7) rfl)) (by decide) (by decide)) q6a q6c (g := (mkF m 84 #[.val (.long q1), .second, .val (.long q2), .second, .val (.int p3), .val (.int p4), .val (.long q5), .second, .val (.long q6), .second, .val (.long (4102444800000 : Int64)), .second, .val (.long mm), .second, .val (.int gg), .val (.int ss), .val (.long ff), .second, .val (.long dd), .second, .val (.long (ff + dd)), .second, .val (.ref b2), .unset, .unset, .unset, .unset, .unset] [(.long (ff + dd)), (.long ff), (.int ss), (.ref b2)])) rfl (by rw [hml]; rfl) (Steps.refl _) (argsL := [(.int ss), (.long ff), (.long (ff + dd))]) (rest := []) (lenOf pd_1 rfl) rfl (by show 2 * 0 + _ ≤ _; exact Nat.le_of_eq rfl) (hb hby at_84) (fun _ _ => ⟨rfl, rfl, (by decide : 1 + 0 ≤ _), (by decide : 3 + 0 ≤ _)⟩)
  dsimp only [Pt.U, Pt.locs, Pt.cells, Pt.slots] at X6 l6 y6 z6 st6 hQ6
  subst l6 y6 z6
  obtain ⟨rfl, N6q, hh6⟩ := hQ6
  have N6 := Fr.app N4 N6q
  have sg7 : ∀ t₀, Steps p.tables e below (T6.setTop (mkF m 89 #[.val (.long q1), .second, .val (.long q2), .second, .val (.int p3), .val (.int p4), .val (.long q5), .second, .val (.long q6), .second, .val (.long (4102444800000 : Int64)), .second, .val (.long mm), .second, .val (.int gg), .val (.int ss), .val (.long ff), .second, .val (.long dd), .second, .val (.long (ff + dd)), .second, .val (.ref b2), .val (.int (own_eg ss ff (ff + dd) gg mm)), .unset, .unset, .unset, .unset] [])) t₀ → Steps p.tables e below (T6.setTop (mkF m 87 #[.val (.long q1), .second, .val (.long q2), .second, .val (.int p3), .val (.int p4), .val (.long q5), .second, .val (.long q6), .second, .val (.long (4102444800000 : Int64)), .second, .val (.long mm), .second, .val (.int gg), .val (.int ss), .val (.long ff), .second, .val (.long dd), .second, .val (.long (ff + dd)), .second, .val (.ref b2), .unset, .unset, .unset, .unset, .unset] [(.int (own_eg ss ff (ff + dd) gg mm))])) t₀ := by
    intro t₀ kt
    show Steps p.tables e below (T6.setTop (mkF m 87 #[.val (.long q1), .second, .val (.long q2), .second, .val (.int p3), .val (.int p4), .val (.long q5), .second, .val (.long q6), .second, .val (.long (4102444800000 : Int64)), .second, .val (.long mm), .second, .val (.int gg), .val (.int ss), .val (.long ff), .second, .val (.long dd), .second, .val (.long (ff + dd)), .second, .val (.ref b2), .unset, .unset, .unset, .unset, .unset] [(.int (own_eg ss ff (ff + dd) gg mm))])) _
    refine XS.istore X6.here hx rfl (hb hby at_87) rfl (l' := #[.val (.long q1), .second, .val (.long q2), .second, .val (.int p3), .val (.int p4), .val (.long q5), .second, .val (.long q6), .second, .val (.long (4102444800000 : Int64)), .second, .val (.long mm), .second, .val (.int gg), .val (.int ss), .val (.long ff), .second, .val (.long dd), .second, .val (.long (ff + dd)), .second, .val (.ref b2), .val (.int (own_eg ss ff (ff + dd) gg mm)), .unset, .unset, .unset, .unset]) rfl ?_
    exact kt
  obtain ⟨ev, hsj8, sj8⟩ : ∃ ev : Int32, (ev = own_eg ss ff (ff + dd) gg mm) ∧ ∀ t₀, Steps p.tables e below (T6.setTop (mkF m 119 #[.val (.long q1), .second, .val (.long q2), .second, .val (.int p3), .val (.int p4), .val (.long q5), .second, .val (.long q6), .second, .val (.long (4102444800000 : Int64)), .second, .val (.long mm), .second, .val (.int gg), .val (.int ss), .val (.long ff), .second, .val (.long dd), .second, .val (.long (ff + dd)), .second, .val (.ref b2), .val (.int (own_eg ss ff (ff + dd) gg mm)), .val (.int ev), .unset, .unset, .unset] [])) t₀ → Steps p.tables e below (T6.setTop (mkF m 89 #[.val (.long q1), .second, .val (.long q2), .second, .val (.int p3), .val (.int p4), .val (.long q5), .second, .val (.long q6), .second, .val (.long (4102444800000 : Int64)), .second, .val (.long mm), .second, .val (.int gg), .val (.int ss), .val (.long ff), .second, .val (.long dd), .second, .val (.long (ff + dd)), .second, .val (.ref b2), .val (.int (own_eg ss ff (ff + dd) gg mm)), .unset, .unset, .unset, .unset] [])) t₀ := by
    by_cases hc93 : ss < gg
    · by_cases hc107 : (lcmpW dd mm) < (0 : Int32)
      · refine ⟨(0 : Int32), by first | (rw [own_eg0 hc93 (by rw [hback]; exact (lw_lt _ _).mp hc107)]) | (rw [own_egm (by rw [hback]; exact fun k => hc107 ((lw_lt _ _).mpr k))]), fun t₀ kt => ?_⟩
        show Steps p.tables e below (T6.setTop (mkF m 89 #[.val (.long q1), .second, .val (.long q2), .second, .val (.int p3), .val (.int p4), .val (.long q5), .second, .val (.long q6), .second, .val (.long (4102444800000 : Int64)), .second, .val (.long mm), .second, .val (.int gg), .val (.int ss), .val (.long ff), .second, .val (.long dd), .second, .val (.long (ff + dd)), .second, .val (.ref b2), .val (.int (own_eg ss ff (ff + dd) gg mm)), .unset, .unset, .unset, .unset] [])) _
        refine XS.iload X6.here hx rfl (hb hby at_89) rfl ?_
        show Steps p.tables e below (T6.setTop (mkF m 91 #[.val (.long q1), .second, .val (.long q2), .second, .val (.int p3), .val (.int p4), .val (.long q5), .second, .val (.long q6), .second, .val (.long (4102444800000 : Int64)), .second, .val (.long mm), .second, .val (.int gg), .val (.int ss), .val (.long ff), .second, .val (.long dd), .second, .val (.long (ff + dd)), .second, .val (.ref b2), .val (.int (own_eg ss ff (ff + dd) gg mm)), .unset, .unset, .unset, .unset] [(.int ss)])) _
        refine XS.iload X6.here hx rfl (hb hby at_91) rfl ?_
        show Steps p.tables e below (T6.setTop (mkF m 93 #[.val (.long q1), .second, .val (.long q2), .second, .val (.int p3), .val (.int p4), .val (.long q5), .second, .val (.long q6), .second, .val (.long (4102444800000 : Int64)), .second, .val (.long mm), .second, .val (.int gg), .val (.int ss), .val (.long ff), .second, .val (.long dd), .second, .val (.long (ff + dd)), .second, .val (.ref b2), .val (.int (own_eg ss ff (ff + dd) gg mm)), .unset, .unset, .unset, .unset] [(.int gg), (.int ss)])) _
        refine XS.icmpYes X6.here hx rfl (pc0 := 93) (pc' := 102) rfl (hb hby at_93) rfl (tlt hc93).1 (by decide) (by decide) ?_
        show Steps p.tables e below (T6.setTop (mkF m 102 #[.val (.long q1), .second, .val (.long q2), .second, .val (.int p3), .val (.int p4), .val (.long q5), .second, .val (.long q6), .second, .val (.long (4102444800000 : Int64)), .second, .val (.long mm), .second, .val (.int gg), .val (.int ss), .val (.long ff), .second, .val (.long dd), .second, .val (.long (ff + dd)), .second, .val (.ref b2), .val (.int (own_eg ss ff (ff + dd) gg mm)), .unset, .unset, .unset, .unset] [])) _
        refine XS.lload X6.here hx rfl (hb hby at_102) rfl ?_
        show Steps p.tables e below (T6.setTop (mkF m 104 #[.val (.long q1), .second, .val (.long q2), .second, .val (.int p3), .val (.int p4), .val (.long q5), .second, .val (.long q6), .second, .val (.long (4102444800000 : Int64)), .second, .val (.long mm), .second, .val (.int gg), .val (.int ss), .val (.long ff), .second, .val (.long dd), .second, .val (.long (ff + dd)), .second, .val (.ref b2), .val (.int (own_eg ss ff (ff + dd) gg mm)), .unset, .unset, .unset, .unset] [(.long dd)])) _
        refine XS.lload X6.here hx rfl (hb hby at_104) rfl ?_
        show Steps p.tables e below (T6.setTop (mkF m 106 #[.val (.long q1), .second, .val (.long q2), .second, .val (.int p3), .val (.int p4), .val (.long q5), .second, .val (.long q6), .second, .val (.long (4102444800000 : Int64)), .second, .val (.long mm), .second, .val (.int gg), .val (.int ss), .val (.long ff), .second, .val (.long dd), .second, .val (.long (ff + dd)), .second, .val (.ref b2), .val (.int (own_eg ss ff (ff + dd) gg mm)), .unset, .unset, .unset, .unset] [(.long mm), (.long dd)])) _
        refine XS.lcmp X6.here hx rfl (hb hby at_106) rfl ?_
        show Steps p.tables e below (T6.setTop (mkF m 107 #[.val (.long q1), .second, .val (.long q2), .second, .val (.int p3), .val (.int p4), .val (.long q5), .second, .val (.long q6), .second, .val (.long (4102444800000 : Int64)), .second, .val (.long mm), .second, .val (.int gg), .val (.int ss), .val (.long ff), .second, .val (.long dd), .second, .val (.long (ff + dd)), .second, .val (.ref b2), .val (.int (own_eg ss ff (ff + dd) gg mm)), .unset, .unset, .unset, .unset] [(.int (lcmpW dd mm))])) _
        refine XS.ifYes X6.here hx rfl (pc0 := 107) (pc' := 116) rfl (hb hby at_107) rfl ((if0 _ _).trans (tlt hc107).1) (by decide) (by decide) ?_
        show Steps p.tables e below (T6.setTop (mkF m 116 #[.val (.long q1), .second, .val (.long q2), .second, .val (.int p3), .val (.int p4), .val (.long q5), .second, .val (.long q6), .second, .val (.long (4102444800000 : Int64)), .second, .val (.long mm), .second, .val (.int gg), .val (.int ss), .val (.long ff), .second, .val (.long dd), .second, .val (.long (ff + dd)), .second, .val (.ref b2), .val (.int (own_eg ss ff (ff + dd) gg mm)), .unset, .unset, .unset, .unset] [])) _
        refine XS.iconst X6.here hx rfl (hb hby at_116) ?_
        show Steps p.tables e below (T6.setTop (mkF m 117 #[.val (.long q1), .second, .val (.long q2), .second, .val (.int p3), .val (.int p4), .val (.long q5), .second, .val (.long q6), .second, .val (.long (4102444800000 : Int64)), .second, .val (.long mm), .second, .val (.int gg), .val (.int ss), .val (.long ff), .second, .val (.long dd), .second, .val (.long (ff + dd)), .second, .val (.ref b2), .val (.int (own_eg ss ff (ff + dd) gg mm)), .unset, .unset, .unset, .unset] [(.int (0 : Int32))])) _
        refine XS.istore X6.here hx rfl (hb hby at_117) rfl (l' := #[.val (.long q1), .second, .val (.long q2), .second, .val (.int p3), .val (.int p4), .val (.long q5), .second, .val (.long q6), .second, .val (.long (4102444800000 : Int64)), .second, .val (.long mm), .second, .val (.int gg), .val (.int ss), .val (.long ff), .second, .val (.long dd), .second, .val (.long (ff + dd)), .second, .val (.ref b2), .val (.int (own_eg ss ff (ff + dd) gg mm)), .val (.int (0 : Int32)), .unset, .unset, .unset]) rfl ?_
        exact kt
      · refine ⟨(1 : Int32), by first | (rw [own_eg0 hc93 (by rw [hback]; exact (lw_lt _ _).mp hc107)]) | (rw [own_egm (by rw [hback]; exact fun k => hc107 ((lw_lt _ _).mpr k))]), fun t₀ kt => ?_⟩
        show Steps p.tables e below (T6.setTop (mkF m 89 #[.val (.long q1), .second, .val (.long q2), .second, .val (.int p3), .val (.int p4), .val (.long q5), .second, .val (.long q6), .second, .val (.long (4102444800000 : Int64)), .second, .val (.long mm), .second, .val (.int gg), .val (.int ss), .val (.long ff), .second, .val (.long dd), .second, .val (.long (ff + dd)), .second, .val (.ref b2), .val (.int (own_eg ss ff (ff + dd) gg mm)), .unset, .unset, .unset, .unset] [])) _
        refine XS.iload X6.here hx rfl (hb hby at_89) rfl ?_
        show Steps p.tables e below (T6.setTop (mkF m 91 #[.val (.long q1), .second, .val (.long q2), .second, .val (.int p3), .val (.int p4), .val (.long q5), .second, .val (.long q6), .second, .val (.long (4102444800000 : Int64)), .second, .val (.long mm), .second, .val (.int gg), .val (.int ss), .val (.long ff), .second, .val (.long dd), .second, .val (.long (ff + dd)), .second, .val (.ref b2), .val (.int (own_eg ss ff (ff + dd) gg mm)), .unset, .unset, .unset, .unset] [(.int ss)])) _
        refine XS.iload X6.here hx rfl (hb hby at_91) rfl ?_
        show Steps p.tables e below (T6.setTop (mkF m 93 #[.val (.long q1), .second, .val (.long q2), .second, .val (.int p3), .val (.int p4), .val (.long q5), .second, .val (.long q6), .second, .val (.long (4102444800000 : Int64)), .second, .val (.long mm), .second, .val (.int gg), .val (.int ss), .val (.long ff), .second, .val (.long dd), .second, .val (.long (ff + dd)), .second, .val (.ref b2), .val (.int (own_eg ss ff (ff + dd) gg mm)), .unset, .unset, .unset, .unset] [(.int gg), (.int ss)])) _
        refine XS.icmpYes X6.here hx rfl (pc0 := 93) (pc' := 102) rfl (hb hby at_93) rfl (tlt hc93).1 (by decide) (by decide) ?_
        show Steps p.tables e below (T6.setTop (mkF m 102 #[.val (.long q1), .second, .val (.long q2), .second, .val (.int p3), .val (.int p4), .val (.long q5), .second, .val (.long q6), .second, .val (.long (4102444800000 : Int64)), .second, .val (.long mm), .second, .val (.int gg), .val (.int ss), .val (.long ff), .second, .val (.long dd), .second, .val (.long (ff + dd)), .second, .val (.ref b2), .val (.int (own_eg ss ff (ff + dd) gg mm)), .unset, .unset, .unset, .unset] [])) _
        refine XS.lload X6.here hx rfl (hb hby at_102) rfl ?_
        show Steps p.tables e below (T6.setTop (mkF m 104 #[.val (.long q1), .second, .val (.long q2), .second, .val (.int p3), .val (.int p4), .val (.long q5), .second, .val (.long q6), .second, .val (.long (4102444800000 : Int64)), .second, .val (.long mm), .second, .val (.int gg), .val (.int ss), .val (.long ff), .second, .val (.long dd), .second, .val (.long (ff + dd)), .second, .val (.ref b2), .val (.int (own_eg ss ff (ff + dd) gg mm)), .unset, .unset, .unset, .unset] [(.long dd)])) _
        refine XS.lload X6.here hx rfl (hb hby at_104) rfl ?_
        show Steps p.tables e below (T6.setTop (mkF m 106 #[.val (.long q1), .second, .val (.long q2), .second, .val (.int p3), .val (.int p4), .val (.long q5), .second, .val (.long q6), .second, .val (.long (4102444800000 : Int64)), .second, .val (.long mm), .second, .val (.int gg), .val (.int ss), .val (.long ff), .second, .val (.long dd), .second, .val (.long (ff + dd)), .second, .val (.ref b2), .val (.int (own_eg ss ff (ff + dd) gg mm)), .unset, .unset, .unset, .unset] [(.long mm), (.long dd)])) _
        refine XS.lcmp X6.here hx rfl (hb hby at_106) rfl ?_
        show Steps p.tables e below (T6.setTop (mkF m 107 #[.val (.long q1), .second, .val (.long q2), .second, .val (.int p3), .val (.int p4), .val (.long q5), .second, .val (.long q6), .second, .val (.long (4102444800000 : Int64)), .second, .val (.long mm), .second, .val (.int gg), .val (.int ss), .val (.long ff), .second, .val (.long dd), .second, .val (.long (ff + dd)), .second, .val (.ref b2), .val (.int (own_eg ss ff (ff + dd) gg mm)), .unset, .unset, .unset, .unset] [(.int (lcmpW dd mm))])) _
        refine XS.ifNo X6.here hx rfl (hb hby at_107) rfl ((if0 _ _).trans (flt hc107).1) ?_
        show Steps p.tables e below (T6.setTop (mkF m 110 #[.val (.long q1), .second, .val (.long q2), .second, .val (.int p3), .val (.int p4), .val (.long q5), .second, .val (.long q6), .second, .val (.long (4102444800000 : Int64)), .second, .val (.long mm), .second, .val (.int gg), .val (.int ss), .val (.long ff), .second, .val (.long dd), .second, .val (.long (ff + dd)), .second, .val (.ref b2), .val (.int (own_eg ss ff (ff + dd) gg mm)), .unset, .unset, .unset, .unset] [])) _
        refine XS.iconst X6.here hx rfl (hb hby at_110) ?_
        show Steps p.tables e below (T6.setTop (mkF m 111 #[.val (.long q1), .second, .val (.long q2), .second, .val (.int p3), .val (.int p4), .val (.long q5), .second, .val (.long q6), .second, .val (.long (4102444800000 : Int64)), .second, .val (.long mm), .second, .val (.int gg), .val (.int ss), .val (.long ff), .second, .val (.long dd), .second, .val (.long (ff + dd)), .second, .val (.ref b2), .val (.int (own_eg ss ff (ff + dd) gg mm)), .unset, .unset, .unset, .unset] [(.int (1 : Int32))])) _
        refine XS.istore X6.here hx rfl (hb hby at_111) rfl (l' := #[.val (.long q1), .second, .val (.long q2), .second, .val (.int p3), .val (.int p4), .val (.long q5), .second, .val (.long q6), .second, .val (.long (4102444800000 : Int64)), .second, .val (.long mm), .second, .val (.int gg), .val (.int ss), .val (.long ff), .second, .val (.long dd), .second, .val (.long (ff + dd)), .second, .val (.ref b2), .val (.int (own_eg ss ff (ff + dd) gg mm)), .val (.int (1 : Int32)), .unset, .unset, .unset]) rfl ?_
        show Steps p.tables e below (T6.setTop (mkF m 113 #[.val (.long q1), .second, .val (.long q2), .second, .val (.int p3), .val (.int p4), .val (.long q5), .second, .val (.long q6), .second, .val (.long (4102444800000 : Int64)), .second, .val (.long mm), .second, .val (.int gg), .val (.int ss), .val (.long ff), .second, .val (.long dd), .second, .val (.long (ff + dd)), .second, .val (.ref b2), .val (.int (own_eg ss ff (ff + dd) gg mm)), .val (.int (1 : Int32)), .unset, .unset, .unset] [])) _
        refine XS.goto X6.here hx rfl (pc0 := 113) (pc' := 119) rfl (hb hby at_113) (by decide) (by decide) ?_
        exact kt
    · refine ⟨(1 : Int32), by rw [own_egs hc93], fun t₀ kt => ?_⟩
      show Steps p.tables e below (T6.setTop (mkF m 89 #[.val (.long q1), .second, .val (.long q2), .second, .val (.int p3), .val (.int p4), .val (.long q5), .second, .val (.long q6), .second, .val (.long (4102444800000 : Int64)), .second, .val (.long mm), .second, .val (.int gg), .val (.int ss), .val (.long ff), .second, .val (.long dd), .second, .val (.long (ff + dd)), .second, .val (.ref b2), .val (.int (own_eg ss ff (ff + dd) gg mm)), .unset, .unset, .unset, .unset] [])) _
      refine XS.iload X6.here hx rfl (hb hby at_89) rfl ?_
      show Steps p.tables e below (T6.setTop (mkF m 91 #[.val (.long q1), .second, .val (.long q2), .second, .val (.int p3), .val (.int p4), .val (.long q5), .second, .val (.long q6), .second, .val (.long (4102444800000 : Int64)), .second, .val (.long mm), .second, .val (.int gg), .val (.int ss), .val (.long ff), .second, .val (.long dd), .second, .val (.long (ff + dd)), .second, .val (.ref b2), .val (.int (own_eg ss ff (ff + dd) gg mm)), .unset, .unset, .unset, .unset] [(.int ss)])) _
      refine XS.iload X6.here hx rfl (hb hby at_91) rfl ?_
      show Steps p.tables e below (T6.setTop (mkF m 93 #[.val (.long q1), .second, .val (.long q2), .second, .val (.int p3), .val (.int p4), .val (.long q5), .second, .val (.long q6), .second, .val (.long (4102444800000 : Int64)), .second, .val (.long mm), .second, .val (.int gg), .val (.int ss), .val (.long ff), .second, .val (.long dd), .second, .val (.long (ff + dd)), .second, .val (.ref b2), .val (.int (own_eg ss ff (ff + dd) gg mm)), .unset, .unset, .unset, .unset] [(.int gg), (.int ss)])) _
      refine XS.icmpNo X6.here hx rfl (hb hby at_93) rfl (flt hc93).1 ?_
      show Steps p.tables e below (T6.setTop (mkF m 96 #[.val (.long q1), .second, .val (.long q2), .second, .val (.int p3), .val (.int p4), .val (.long q5), .second, .val (.long q6), .second, .val (.long (4102444800000 : Int64)), .second, .val (.long mm), .second, .val (.int gg), .val (.int ss), .val (.long ff), .second, .val (.long dd), .second, .val (.long (ff + dd)), .second, .val (.ref b2), .val (.int (own_eg ss ff (ff + dd) gg mm)), .unset, .unset, .unset, .unset] [])) _
      refine XS.iconst X6.here hx rfl (hb hby at_96) ?_
      show Steps p.tables e below (T6.setTop (mkF m 97 #[.val (.long q1), .second, .val (.long q2), .second, .val (.int p3), .val (.int p4), .val (.long q5), .second, .val (.long q6), .second, .val (.long (4102444800000 : Int64)), .second, .val (.long mm), .second, .val (.int gg), .val (.int ss), .val (.long ff), .second, .val (.long dd), .second, .val (.long (ff + dd)), .second, .val (.ref b2), .val (.int (own_eg ss ff (ff + dd) gg mm)), .unset, .unset, .unset, .unset] [(.int (1 : Int32))])) _
      refine XS.istore X6.here hx rfl (hb hby at_97) rfl (l' := #[.val (.long q1), .second, .val (.long q2), .second, .val (.int p3), .val (.int p4), .val (.long q5), .second, .val (.long q6), .second, .val (.long (4102444800000 : Int64)), .second, .val (.long mm), .second, .val (.int gg), .val (.int ss), .val (.long ff), .second, .val (.long dd), .second, .val (.long (ff + dd)), .second, .val (.ref b2), .val (.int (own_eg ss ff (ff + dd) gg mm)), .val (.int (1 : Int32)), .unset, .unset, .unset]) rfl ?_
      show Steps p.tables e below (T6.setTop (mkF m 99 #[.val (.long q1), .second, .val (.long q2), .second, .val (.int p3), .val (.int p4), .val (.long q5), .second, .val (.long q6), .second, .val (.long (4102444800000 : Int64)), .second, .val (.long mm), .second, .val (.int gg), .val (.int ss), .val (.long ff), .second, .val (.long dd), .second, .val (.long (ff + dd)), .second, .val (.ref b2), .val (.int (own_eg ss ff (ff + dd) gg mm)), .val (.int (1 : Int32)), .unset, .unset, .unset] [])) _
      refine XS.goto X6.here hx rfl (pc0 := 99) (pc' := 119) rfl (hb hby at_99) (by decide) (by decide) ?_
      exact kt
  have sg9 : ∀ t₀, Steps p.tables e below (T6.setTop (mkF m 135 #[.val (.long q1), .second, .val (.long q2), .second, .val (.int p3), .val (.int p4), .val (.long q5), .second, .val (.long q6), .second, .val (.long (4102444800000 : Int64)), .second, .val (.long mm), .second, .val (.int gg), .val (.int ss), .val (.long ff), .second, .val (.long dd), .second, .val (.long (ff + dd)), .second, .val (.ref b2), .val (.int (own_eg ss ff (ff + dd) gg mm)), .val (.int ev), .unset, .unset, .unset] [(.long (mm - (1 : Int64))), (.long dd), (.long ff), (.long ff), (.int (gg - (1 : Int32))), (.ref b2)])) t₀ → Steps p.tables e below (T6.setTop (mkF m 119 #[.val (.long q1), .second, .val (.long q2), .second, .val (.int p3), .val (.int p4), .val (.long q5), .second, .val (.long q6), .second, .val (.long (4102444800000 : Int64)), .second, .val (.long mm), .second, .val (.int gg), .val (.int ss), .val (.long ff), .second, .val (.long dd), .second, .val (.long (ff + dd)), .second, .val (.ref b2), .val (.int (own_eg ss ff (ff + dd) gg mm)), .val (.int ev), .unset, .unset, .unset] [])) t₀ := by
    intro t₀ kt
    show Steps p.tables e below (T6.setTop (mkF m 119 #[.val (.long q1), .second, .val (.long q2), .second, .val (.int p3), .val (.int p4), .val (.long q5), .second, .val (.long q6), .second, .val (.long (4102444800000 : Int64)), .second, .val (.long mm), .second, .val (.int gg), .val (.int ss), .val (.long ff), .second, .val (.long dd), .second, .val (.long (ff + dd)), .second, .val (.ref b2), .val (.int (own_eg ss ff (ff + dd) gg mm)), .val (.int ev), .unset, .unset, .unset] [])) _
    refine XS.aload X6.here hx rfl (hb hby at_119) rfl rfl ?_
    show Steps p.tables e below (T6.setTop (mkF m 121 #[.val (.long q1), .second, .val (.long q2), .second, .val (.int p3), .val (.int p4), .val (.long q5), .second, .val (.long q6), .second, .val (.long (4102444800000 : Int64)), .second, .val (.long mm), .second, .val (.int gg), .val (.int ss), .val (.long ff), .second, .val (.long dd), .second, .val (.long (ff + dd)), .second, .val (.ref b2), .val (.int (own_eg ss ff (ff + dd) gg mm)), .val (.int ev), .unset, .unset, .unset] [(.ref b2)])) _
    refine XS.iload X6.here hx rfl (hb hby at_121) rfl ?_
    show Steps p.tables e below (T6.setTop (mkF m 123 #[.val (.long q1), .second, .val (.long q2), .second, .val (.int p3), .val (.int p4), .val (.long q5), .second, .val (.long q6), .second, .val (.long (4102444800000 : Int64)), .second, .val (.long mm), .second, .val (.int gg), .val (.int ss), .val (.long ff), .second, .val (.long dd), .second, .val (.long (ff + dd)), .second, .val (.ref b2), .val (.int (own_eg ss ff (ff + dd) gg mm)), .val (.int ev), .unset, .unset, .unset] [(.int gg), (.ref b2)])) _
    refine XS.iconst X6.here hx rfl (hb hby at_123) ?_
    show Steps p.tables e below (T6.setTop (mkF m 124 #[.val (.long q1), .second, .val (.long q2), .second, .val (.int p3), .val (.int p4), .val (.long q5), .second, .val (.long q6), .second, .val (.long (4102444800000 : Int64)), .second, .val (.long mm), .second, .val (.int gg), .val (.int ss), .val (.long ff), .second, .val (.long dd), .second, .val (.long (ff + dd)), .second, .val (.ref b2), .val (.int (own_eg ss ff (ff + dd) gg mm)), .val (.int ev), .unset, .unset, .unset] [(.int (1 : Int32)), (.int gg), (.ref b2)])) _
    refine XS.isub X6.here hx rfl (hb hby at_124) rfl ?_
    show Steps p.tables e below (T6.setTop (mkF m 125 #[.val (.long q1), .second, .val (.long q2), .second, .val (.int p3), .val (.int p4), .val (.long q5), .second, .val (.long q6), .second, .val (.long (4102444800000 : Int64)), .second, .val (.long mm), .second, .val (.int gg), .val (.int ss), .val (.long ff), .second, .val (.long dd), .second, .val (.long (ff + dd)), .second, .val (.ref b2), .val (.int (own_eg ss ff (ff + dd) gg mm)), .val (.int ev), .unset, .unset, .unset] [(.int (gg - (1 : Int32))), (.ref b2)])) _
    refine XS.lload X6.here hx rfl (hb hby at_125) rfl ?_
    show Steps p.tables e below (T6.setTop (mkF m 127 #[.val (.long q1), .second, .val (.long q2), .second, .val (.int p3), .val (.int p4), .val (.long q5), .second, .val (.long q6), .second, .val (.long (4102444800000 : Int64)), .second, .val (.long mm), .second, .val (.int gg), .val (.int ss), .val (.long ff), .second, .val (.long dd), .second, .val (.long (ff + dd)), .second, .val (.ref b2), .val (.int (own_eg ss ff (ff + dd) gg mm)), .val (.int ev), .unset, .unset, .unset] [(.long ff), (.int (gg - (1 : Int32))), (.ref b2)])) _
    refine XS.lload X6.here hx rfl (hb hby at_127) rfl ?_
    show Steps p.tables e below (T6.setTop (mkF m 129 #[.val (.long q1), .second, .val (.long q2), .second, .val (.int p3), .val (.int p4), .val (.long q5), .second, .val (.long q6), .second, .val (.long (4102444800000 : Int64)), .second, .val (.long mm), .second, .val (.int gg), .val (.int ss), .val (.long ff), .second, .val (.long dd), .second, .val (.long (ff + dd)), .second, .val (.ref b2), .val (.int (own_eg ss ff (ff + dd) gg mm)), .val (.int ev), .unset, .unset, .unset] [(.long ff), (.long ff), (.int (gg - (1 : Int32))), (.ref b2)])) _
    refine XS.lload X6.here hx rfl (hb hby at_129) rfl ?_
    show Steps p.tables e below (T6.setTop (mkF m 131 #[.val (.long q1), .second, .val (.long q2), .second, .val (.int p3), .val (.int p4), .val (.long q5), .second, .val (.long q6), .second, .val (.long (4102444800000 : Int64)), .second, .val (.long mm), .second, .val (.int gg), .val (.int ss), .val (.long ff), .second, .val (.long dd), .second, .val (.long (ff + dd)), .second, .val (.ref b2), .val (.int (own_eg ss ff (ff + dd) gg mm)), .val (.int ev), .unset, .unset, .unset] [(.long dd), (.long ff), (.long ff), (.int (gg - (1 : Int32))), (.ref b2)])) _
    refine XS.lload X6.here hx rfl (hb hby at_131) rfl ?_
    show Steps p.tables e below (T6.setTop (mkF m 133 #[.val (.long q1), .second, .val (.long q2), .second, .val (.int p3), .val (.int p4), .val (.long q5), .second, .val (.long q6), .second, .val (.long (4102444800000 : Int64)), .second, .val (.long mm), .second, .val (.int gg), .val (.int ss), .val (.long ff), .second, .val (.long dd), .second, .val (.long (ff + dd)), .second, .val (.ref b2), .val (.int (own_eg ss ff (ff + dd) gg mm)), .val (.int ev), .unset, .unset, .unset] [(.long mm), (.long dd), (.long ff), (.long ff), (.int (gg - (1 : Int32))), (.ref b2)])) _
    refine XS.lconst X6.here hx rfl (hb hby at_133) ?_
    show Steps p.tables e below (T6.setTop (mkF m 134 #[.val (.long q1), .second, .val (.long q2), .second, .val (.int p3), .val (.int p4), .val (.long q5), .second, .val (.long q6), .second, .val (.long (4102444800000 : Int64)), .second, .val (.long mm), .second, .val (.int gg), .val (.int ss), .val (.long ff), .second, .val (.long dd), .second, .val (.long (ff + dd)), .second, .val (.ref b2), .val (.int (own_eg ss ff (ff + dd) gg mm)), .val (.int ev), .unset, .unset, .unset] [(.long (1 : Int64)), (.long mm), (.long dd), (.long ff), (.long ff), (.int (gg - (1 : Int32))), (.ref b2)])) _
    refine XS.lsub X6.here hx rfl (hb hby at_134) rfl ?_
    exact kt
  obtain ⟨_, _, ⟨T10, L10, k10, n10⟩, -, X10, ⟨Lc10, hQ10, l10, y10, z10⟩, st10⟩ := Jvm.LawKit.callS X6 hx (y := (⟨"java/lang/Math", "min", "(JJ)J"⟩ : MethodName)) hown (mvT hZ (hw _ (List.mem_of_getElem? (i := 30) rfl))) (mvT hZ (hw _ (List.mem_of_getElem? (i := 31) rfl))) (mvT hZ (hw _ (List.mem_of_getElem? (i := 32) rfl))) (mvT hZ (hw _ (List.mem_of_getElem? (i := 33) rfl))) (by decide) (backOf (W := 6) (rm5 l Z a0 hw [] dd (mm - (1 : Int64)) T4.heap n0 zz) hZ (hw _ (List.mem_of_getElem? (i := 33) rfl)) (hw _ (List.mem_of_getElem? (i := 32) rfl)) (by decide) (by decide)) (g := (mkF m 135 #[.val (.long q1), .second, .val (.long q2), .second, .val (.int p3), .val (.int p4), .val (.long q5), .second, .val (.long q6), .second, .val (.long (4102444800000 : Int64)), .second, .val (.long mm), .second, .val (.int gg), .val (.int ss), .val (.long ff), .second, .val (.long dd), .second, .val (.long (ff + dd)), .second, .val (.ref b2), .val (.int (own_eg ss ff (ff + dd) gg mm)), .val (.int ev), .unset, .unset, .unset] [(.long (mm - (1 : Int64))), (.long dd), (.long ff), (.long ff), (.int (gg - (1 : Int32))), (.ref b2)])) rfl (by rw [hml]; rfl) (argsL := [(.long dd), (.long (mm - (1 : Int64)))]) (rest := [(.long ff), (.long ff), (.int (gg - (1 : Int32))), (.ref b2)]) (lenOf pd_2 rfl) rfl (by show 2 * 0 + _ ≤ _; exact Nat.le_of_eq rfl) (hb hby at_135) (fun _ _ => ⟨rfl, hh6, (by decide : 1 + 0 ≤ _), (by decide : 3 + 0 ≤ _)⟩)
  dsimp only [Pt.U, Pt.locs, Pt.cells, Pt.slots] at X10 l10 y10 z10 st10 hQ10
  subst l10 y10 z10
  obtain ⟨rfl, N10q, hh10⟩ := hQ10
  have N10 := Fr.app N6 N10q
  have sg11 : ∀ t₀, Steps p.tables e below (T10.setTop (mkF m 139 #[.val (.long q1), .second, .val (.long q2), .second, .val (.int p3), .val (.int p4), .val (.long q5), .second, .val (.long q6), .second, .val (.long (4102444800000 : Int64)), .second, .val (.long mm), .second, .val (.int gg), .val (.int ss), .val (.long ff), .second, .val (.long dd), .second, .val (.long (ff + dd)), .second, .val (.ref b2), .val (.int (own_eg ss ff (ff + dd) gg mm)), .val (.int ev), .unset, .unset, .unset] [(.long (ff + (own_min dd (mm - (1 : Int64))))), (.long ff), (.int (gg - (1 : Int32))), (.ref b2)])) t₀ → Steps p.tables e below (T10.setTop (mkF m 138 #[.val (.long q1), .second, .val (.long q2), .second, .val (.int p3), .val (.int p4), .val (.long q5), .second, .val (.long q6), .second, .val (.long (4102444800000 : Int64)), .second, .val (.long mm), .second, .val (.int gg), .val (.int ss), .val (.long ff), .second, .val (.long dd), .second, .val (.long (ff + dd)), .second, .val (.ref b2), .val (.int (own_eg ss ff (ff + dd) gg mm)), .val (.int ev), .unset, .unset, .unset] [(.long (own_min dd (mm - (1 : Int64)))), (.long ff), (.long ff), (.int (gg - (1 : Int32))), (.ref b2)])) t₀ := by
    intro t₀ kt
    show Steps p.tables e below (T10.setTop (mkF m 138 #[.val (.long q1), .second, .val (.long q2), .second, .val (.int p3), .val (.int p4), .val (.long q5), .second, .val (.long q6), .second, .val (.long (4102444800000 : Int64)), .second, .val (.long mm), .second, .val (.int gg), .val (.int ss), .val (.long ff), .second, .val (.long dd), .second, .val (.long (ff + dd)), .second, .val (.ref b2), .val (.int (own_eg ss ff (ff + dd) gg mm)), .val (.int ev), .unset, .unset, .unset] [(.long (own_min dd (mm - (1 : Int64)))), (.long ff), (.long ff), (.int (gg - (1 : Int32))), (.ref b2)])) _
    refine XS.ladd X10.here hx rfl (hb hby at_138) rfl ?_
    exact kt
  obtain ⟨cq12, kq12, q12a, q12b, q12c⟩ := isOf hZ hh10 EE
  obtain ⟨_, _, ⟨T12, L12, k12, n12⟩, -, X12, ⟨Lc12, hQ12, l12, y12, z12⟩, st12⟩ := X10.virtualBack hx (y := (⟨"com/example/gridwake/gridwake/store/Blocks$Slicing", "endsGroup", "(IJJ)Z"⟩ : MethodName)) (z := (⟨"com/example/gridwake/gridwake/store/Blocks$Slicing", "endsGroup", "(IJJ)Z"⟩ : MethodName)) hown (mvT hZ (hw _ (List.mem_of_getElem? (i := 25) rfl))) (mvT hZ (hw _ (List.mem_of_getElem? (i := 26) rfl))) (notFace_of_selects (args := #[]) (mvT hZ (hw _ (List.mem_of_getElem? (i := 28) rfl)))) (mvT hZ (hw _ (List.mem_of_getElem? (i := 28) rfl))) (mvT hZ (hw _ (List.mem_of_getElem? (i := 27) rfl))) (by decide) (backOf (W := 0) (rm4 l Z a0 hw [] b2 (gg - (1 : Int32)) ff (ff + (own_min dd (mm - (1 : Int64)))) gg mm T4.heap n0 zz FS FM) hZ (hw _ (List.mem_of_getElem? (i := 29) rfl)) (hw _ (List.mem_of_getElem? (i := 7) rfl)) (by decide) (by decide)) q12a q12c (g := (mkF m 139 #[.val (.long q1), .second, .val (.long q2), .second, .val (.int p3), .val (.int p4), .val (.long q5), .second, .val (.long q6), .second, .val (.long (4102444800000 : Int64)), .second, .val (.long mm), .second, .val (.int gg), .val (.int ss), .val (.long ff), .second, .val (.long dd), .second, .val (.long (ff + dd)), .second, .val (.ref b2), .val (.int (own_eg ss ff (ff + dd) gg mm)), .val (.int ev), .unset, .unset, .unset] [(.long (ff + (own_min dd (mm - (1 : Int64))))), (.long ff), (.int (gg - (1 : Int32))), (.ref b2)])) rfl (by rw [hml]; rfl) (Steps.refl _) (argsL := [(.int (gg - (1 : Int32))), (.long ff), (.long (ff + (own_min dd (mm - (1 : Int64)))))]) (rest := []) (lenOf pd_1 rfl) rfl (by show 2 * 0 + _ ≤ _; exact Nat.le_of_eq rfl) (hb hby at_139) (fun _ _ => ⟨rfl, hh10, (by decide : 1 + 0 ≤ _), (by decide : 3 + 0 ≤ _)⟩)
  dsimp only [Pt.U, Pt.locs, Pt.cells, Pt.slots] at X12 l12 y12 z12 st12 hQ12
  subst l12 y12 z12
  obtain ⟨rfl, N12q, hh12⟩ := hQ12
  have N12 := Fr.app N10 N12q
  have sg13 : ∀ t₀, Steps p.tables e below (T12.setTop (mkF m 152 #[.val (.long q1), .second, .val (.long q2), .second, .val (.int p3), .val (.int p4), .val (.long q5), .second, .val (.long q6), .second, .val (.long (4102444800000 : Int64)), .second, .val (.long mm), .second, .val (.int gg), .val (.int ss), .val (.long ff), .second, .val (.long dd), .second, .val (.long (ff + dd)), .second, .val (.ref b2), .val (.int (own_eg ss ff (ff + dd) gg mm)), .val (.int ev), .val (.int (1 : Int32)), .unset, .unset] [])) t₀ → Steps p.tables e below (T12.setTop (mkF m 142 #[.val (.long q1), .second, .val (.long q2), .second, .val (.int p3), .val (.int p4), .val (.long q5), .second, .val (.long q6), .second, .val (.long (4102444800000 : Int64)), .second, .val (.long mm), .second, .val (.int gg), .val (.int ss), .val (.long ff), .second, .val (.long dd), .second, .val (.long (ff + dd)), .second, .val (.ref b2), .val (.int (own_eg ss ff (ff + dd) gg mm)), .val (.int ev), .unset, .unset, .unset] [(.int (own_eg (gg - (1 : Int32)) ff (ff + (own_min dd (mm - (1 : Int64)))) gg mm))])) t₀ := by
    intro t₀ kt
    show Steps p.tables e below (T12.setTop (mkF m 142 #[.val (.long q1), .second, .val (.long q2), .second, .val (.int p3), .val (.int p4), .val (.long q5), .second, .val (.long q6), .second, .val (.long (4102444800000 : Int64)), .second, .val (.long mm), .second, .val (.int gg), .val (.int ss), .val (.long ff), .second, .val (.long dd), .second, .val (.long (ff + dd)), .second, .val (.ref b2), .val (.int (own_eg ss ff (ff + dd) gg mm)), .val (.int ev), .unset, .unset, .unset] [(.int (own_eg (gg - (1 : Int32)) ff (ff + (own_min dd (mm - (1 : Int64)))) gg mm))])) _
    refine XS.ifNo X12.here hx rfl (hb hby at_142) rfl ((if0 _ _).trans (teq (own_b1 hg hm)).2) ?_
    show Steps p.tables e below (T12.setTop (mkF m 145 #[.val (.long q1), .second, .val (.long q2), .second, .val (.int p3), .val (.int p4), .val (.long q5), .second, .val (.long q6), .second, .val (.long (4102444800000 : Int64)), .second, .val (.long mm), .second, .val (.int gg), .val (.int ss), .val (.long ff), .second, .val (.long dd), .second, .val (.long (ff + dd)), .second, .val (.ref b2), .val (.int (own_eg ss ff (ff + dd) gg mm)), .val (.int ev), .unset, .unset, .unset] [])) _
    refine XS.iconst X12.here hx rfl (hb hby at_145) ?_
    show Steps p.tables e below (T12.setTop (mkF m 146 #[.val (.long q1), .second, .val (.long q2), .second, .val (.int p3), .val (.int p4), .val (.long q5), .second, .val (.long q6), .second, .val (.long (4102444800000 : Int64)), .second, .val (.long mm), .second, .val (.int gg), .val (.int ss), .val (.long ff), .second, .val (.long dd), .second, .val (.long (ff + dd)), .second, .val (.ref b2), .val (.int (own_eg ss ff (ff + dd) gg mm)), .val (.int ev), .unset, .unset, .unset] [(.int (1 : Int32))])) _
    refine XS.goto X12.here hx rfl (pc0 := 146) (pc' := 150) rfl (hb hby at_146) (by decide) (by decide) ?_
    show Steps p.tables e below (T12.setTop (mkF m 150 #[.val (.long q1), .second, .val (.long q2), .second, .val (.int p3), .val (.int p4), .val (.long q5), .second, .val (.long q6), .second, .val (.long (4102444800000 : Int64)), .second, .val (.long mm), .second, .val (.int gg), .val (.int ss), .val (.long ff), .second, .val (.long dd), .second, .val (.long (ff + dd)), .second, .val (.ref b2), .val (.int (own_eg ss ff (ff + dd) gg mm)), .val (.int ev), .unset, .unset, .unset] [(.int (1 : Int32))])) _
    refine XS.istore X12.here hx rfl (hb hby at_150) rfl (l' := #[.val (.long q1), .second, .val (.long q2), .second, .val (.int p3), .val (.int p4), .val (.long q5), .second, .val (.long q6), .second, .val (.long (4102444800000 : Int64)), .second, .val (.long mm), .second, .val (.int gg), .val (.int ss), .val (.long ff), .second, .val (.long dd), .second, .val (.long (ff + dd)), .second, .val (.ref b2), .val (.int (own_eg ss ff (ff + dd) gg mm)), .val (.int ev), .val (.int (1 : Int32)), .unset, .unset]) rfl ?_
    exact kt
  have sg14 : ∀ t₀, Steps p.tables e below (T12.setTop (mkF m 160 #[.val (.long q1), .second, .val (.long q2), .second, .val (.int p3), .val (.int p4), .val (.long q5), .second, .val (.long q6), .second, .val (.long (4102444800000 : Int64)), .second, .val (.long mm), .second, .val (.int gg), .val (.int ss), .val (.long ff), .second, .val (.long dd), .second, .val (.long (ff + dd)), .second, .val (.ref b2), .val (.int (own_eg ss ff (ff + dd) gg mm)), .val (.int ev), .val (.int (1 : Int32)), .unset, .unset] [(.long ff), (.long ff), (.int gg), (.ref b2)])) t₀ → Steps p.tables e below (T12.setTop (mkF m 152 #[.val (.long q1), .second, .val (.long q2), .second, .val (.int p3), .val (.int p4), .val (.long q5), .second, .val (.long q6), .second, .val (.long (4102444800000 : Int64)), .second, .val (.long mm), .second, .val (.int gg), .val (.int ss), .val (.long ff), .second, .val (.long dd), .second, .val (.long (ff + dd)), .second, .val (.ref b2), .val (.int (own_eg ss ff (ff + dd) gg mm)), .val (.int ev), .val (.int (1 : Int32)), .unset, .unset] [])) t₀ := by
    intro t₀ kt
    show Steps p.tables e below (T12.setTop (mkF m 152 #[.val (.long q1), .second, .val (.long q2), .second, .val (.int p3), .val (.int p4), .val (.long q5), .second, .val (.long q6), .second, .val (.long (4102444800000 : Int64)), .second, .val (.long mm), .second, .val (.int gg), .val (.int ss), .val (.long ff), .second, .val (.long dd), .second, .val (.long (ff + dd)), .second, .val (.ref b2), .val (.int (own_eg ss ff (ff + dd) gg mm)), .val (.int ev), .val (.int (1 : Int32)), .unset, .unset] [])) _
    refine XS.aload X12.here hx rfl (hb hby at_152) rfl rfl ?_
    show Steps p.tables e below (T12.setTop (mkF m 154 #[.val (.long q1), .second, .val (.long q2), .second, .val (.int p3), .val (.int p4), .val (.long q5), .second, .val (.long q6), .second, .val (.long (4102444800000 : Int64)), .second, .val (.long mm), .second, .val (.int gg), .val (.int ss), .val (.long ff), .second, .val (.long dd), .second, .val (.long (ff + dd)), .second, .val (.ref b2), .val (.int (own_eg ss ff (ff + dd) gg mm)), .val (.int ev), .val (.int (1 : Int32)), .unset, .unset] [(.ref b2)])) _
    refine XS.iload X12.here hx rfl (hb hby at_154) rfl ?_
    show Steps p.tables e below (T12.setTop (mkF m 156 #[.val (.long q1), .second, .val (.long q2), .second, .val (.int p3), .val (.int p4), .val (.long q5), .second, .val (.long q6), .second, .val (.long (4102444800000 : Int64)), .second, .val (.long mm), .second, .val (.int gg), .val (.int ss), .val (.long ff), .second, .val (.long dd), .second, .val (.long (ff + dd)), .second, .val (.ref b2), .val (.int (own_eg ss ff (ff + dd) gg mm)), .val (.int ev), .val (.int (1 : Int32)), .unset, .unset] [(.int gg), (.ref b2)])) _
    refine XS.lload X12.here hx rfl (hb hby at_156) rfl ?_
    show Steps p.tables e below (T12.setTop (mkF m 158 #[.val (.long q1), .second, .val (.long q2), .second, .val (.int p3), .val (.int p4), .val (.long q5), .second, .val (.long q6), .second, .val (.long (4102444800000 : Int64)), .second, .val (.long mm), .second, .val (.int gg), .val (.int ss), .val (.long ff), .second, .val (.long dd), .second, .val (.long (ff + dd)), .second, .val (.ref b2), .val (.int (own_eg ss ff (ff + dd) gg mm)), .val (.int ev), .val (.int (1 : Int32)), .unset, .unset] [(.long ff), (.int gg), (.ref b2)])) _
    refine XS.lload X12.here hx rfl (hb hby at_158) rfl ?_
    exact kt
  obtain ⟨cq15, kq15, q15a, q15b, q15c⟩ := isOf hZ hh12 EE
  obtain ⟨_, _, ⟨T15, L15, k15, n15⟩, -, X15, ⟨Lc15, hQ15, l15, y15, z15⟩, st15⟩ := X12.virtualBack hx (y := (⟨"com/example/gridwake/gridwake/store/Blocks$Slicing", "endsGroup", "(IJJ)Z"⟩ : MethodName)) (z := (⟨"com/example/gridwake/gridwake/store/Blocks$Slicing", "endsGroup", "(IJJ)Z"⟩ : MethodName)) hown (mvT hZ (hw _ (List.mem_of_getElem? (i := 25) rfl))) (mvT hZ (hw _ (List.mem_of_getElem? (i := 26) rfl))) (notFace_of_selects (args := #[]) (mvT hZ (hw _ (List.mem_of_getElem? (i := 28) rfl)))) (mvT hZ (hw _ (List.mem_of_getElem? (i := 28) rfl))) (mvT hZ (hw _ (List.mem_of_getElem? (i := 27) rfl))) (by decide) (backOf (W := 0) (rm4 l Z a0 hw [] b2 gg ff ff gg mm T4.heap n0 zz FS FM) hZ (hw _ (List.mem_of_getElem? (i := 29) rfl)) (hw _ (List.mem_of_getElem? (i := 7) rfl)) (by decide) (by decide)) q15a q15c (g := (mkF m 160 #[.val (.long q1), .second, .val (.long q2), .second, .val (.int p3), .val (.int p4), .val (.long q5), .second, .val (.long q6), .second, .val (.long (4102444800000 : Int64)), .second, .val (.long mm), .second, .val (.int gg), .val (.int ss), .val (.long ff), .second, .val (.long dd), .second, .val (.long (ff + dd)), .second, .val (.ref b2), .val (.int (own_eg ss ff (ff + dd) gg mm)), .val (.int ev), .val (.int (1 : Int32)), .unset, .unset] [(.long ff), (.long ff), (.int gg), (.ref b2)])) rfl (by rw [hml]; rfl) (Steps.refl _) (argsL := [(.int gg), (.long ff), (.long ff)]) (rest := []) (lenOf pd_1 rfl) rfl (by show 2 * 0 + _ ≤ _; exact Nat.le_of_eq rfl) (hb hby at_160) (fun _ _ => ⟨rfl, hh12, (by decide : 1 + 0 ≤ _), (by decide : 3 + 0 ≤ _)⟩)
  dsimp only [Pt.U, Pt.locs, Pt.cells, Pt.slots] at X15 l15 y15 z15 st15 hQ15
  subst l15 y15 z15
  obtain ⟨rfl, N15q, hh15⟩ := hQ15
  have N15 := Fr.app N12 N15q
  have sg16 : ∀ t₀, Steps p.tables e below (T15.setTop (mkF m 175 #[.val (.long q1), .second, .val (.long q2), .second, .val (.int p3), .val (.int p4), .val (.long q5), .second, .val (.long q6), .second, .val (.long (4102444800000 : Int64)), .second, .val (.long mm), .second, .val (.int gg), .val (.int ss), .val (.long ff), .second, .val (.long dd), .second, .val (.long (ff + dd)), .second, .val (.ref b2), .val (.int (own_eg ss ff (ff + dd) gg mm)), .val (.int ev), .val (.int (1 : Int32)), .val (.int (own_eg gg ff ff gg mm)), .unset] [(.long (ff + mm)), (.long ff), (.int (0 : Int32)), (.ref b2)])) t₀ → Steps p.tables e below (T15.setTop (mkF m 163 #[.val (.long q1), .second, .val (.long q2), .second, .val (.int p3), .val (.int p4), .val (.long q5), .second, .val (.long q6), .second, .val (.long (4102444800000 : Int64)), .second, .val (.long mm), .second, .val (.int gg), .val (.int ss), .val (.long ff), .second, .val (.long dd), .second, .val (.long (ff + dd)), .second, .val (.ref b2), .val (.int (own_eg ss ff (ff + dd) gg mm)), .val (.int ev), .val (.int (1 : Int32)), .unset, .unset] [(.int (own_eg gg ff ff gg mm))])) t₀ := by
    intro t₀ kt
    show Steps p.tables e below (T15.setTop (mkF m 163 #[.val (.long q1), .second, .val (.long q2), .second, .val (.int p3), .val (.int p4), .val (.long q5), .second, .val (.long q6), .second, .val (.long (4102444800000 : Int64)), .second, .val (.long mm), .second, .val (.int gg), .val (.int ss), .val (.long ff), .second, .val (.long dd), .second, .val (.long (ff + dd)), .second, .val (.ref b2), .val (.int (own_eg ss ff (ff + dd) gg mm)), .val (.int ev), .val (.int (1 : Int32)), .unset, .unset] [(.int (own_eg gg ff ff gg mm))])) _
    refine XS.istore X15.here hx rfl (hb hby at_163) rfl (l' := #[.val (.long q1), .second, .val (.long q2), .second, .val (.int p3), .val (.int p4), .val (.long q5), .second, .val (.long q6), .second, .val (.long (4102444800000 : Int64)), .second, .val (.long mm), .second, .val (.int gg), .val (.int ss), .val (.long ff), .second, .val (.long dd), .second, .val (.long (ff + dd)), .second, .val (.ref b2), .val (.int (own_eg ss ff (ff + dd) gg mm)), .val (.int ev), .val (.int (1 : Int32)), .val (.int (own_eg gg ff ff gg mm)), .unset]) rfl ?_
    show Steps p.tables e below (T15.setTop (mkF m 165 #[.val (.long q1), .second, .val (.long q2), .second, .val (.int p3), .val (.int p4), .val (.long q5), .second, .val (.long q6), .second, .val (.long (4102444800000 : Int64)), .second, .val (.long mm), .second, .val (.int gg), .val (.int ss), .val (.long ff), .second, .val (.long dd), .second, .val (.long (ff + dd)), .second, .val (.ref b2), .val (.int (own_eg ss ff (ff + dd) gg mm)), .val (.int ev), .val (.int (1 : Int32)), .val (.int (own_eg gg ff ff gg mm)), .unset] [])) _
    refine XS.aload X15.here hx rfl (hb hby at_165) rfl rfl ?_
    show Steps p.tables e below (T15.setTop (mkF m 167 #[.val (.long q1), .second, .val (.long q2), .second, .val (.int p3), .val (.int p4), .val (.long q5), .second, .val (.long q6), .second, .val (.long (4102444800000 : Int64)), .second, .val (.long mm), .second, .val (.int gg), .val (.int ss), .val (.long ff), .second, .val (.long dd), .second, .val (.long (ff + dd)), .second, .val (.ref b2), .val (.int (own_eg ss ff (ff + dd) gg mm)), .val (.int ev), .val (.int (1 : Int32)), .val (.int (own_eg gg ff ff gg mm)), .unset] [(.ref b2)])) _
    refine XS.iconst X15.here hx rfl (hb hby at_167) ?_
    show Steps p.tables e below (T15.setTop (mkF m 168 #[.val (.long q1), .second, .val (.long q2), .second, .val (.int p3), .val (.int p4), .val (.long q5), .second, .val (.long q6), .second, .val (.long (4102444800000 : Int64)), .second, .val (.long mm), .second, .val (.int gg), .val (.int ss), .val (.long ff), .second, .val (.long dd), .second, .val (.long (ff + dd)), .second, .val (.ref b2), .val (.int (own_eg ss ff (ff + dd) gg mm)), .val (.int ev), .val (.int (1 : Int32)), .val (.int (own_eg gg ff ff gg mm)), .unset] [(.int (0 : Int32)), (.ref b2)])) _
    refine XS.lload X15.here hx rfl (hb hby at_168) rfl ?_
    show Steps p.tables e below (T15.setTop (mkF m 170 #[.val (.long q1), .second, .val (.long q2), .second, .val (.int p3), .val (.int p4), .val (.long q5), .second, .val (.long q6), .second, .val (.long (4102444800000 : Int64)), .second, .val (.long mm), .second, .val (.int gg), .val (.int ss), .val (.long ff), .second, .val (.long dd), .second, .val (.long (ff + dd)), .second, .val (.ref b2), .val (.int (own_eg ss ff (ff + dd) gg mm)), .val (.int ev), .val (.int (1 : Int32)), .val (.int (own_eg gg ff ff gg mm)), .unset] [(.long ff), (.int (0 : Int32)), (.ref b2)])) _
    refine XS.lload X15.here hx rfl (hb hby at_170) rfl ?_
    show Steps p.tables e below (T15.setTop (mkF m 172 #[.val (.long q1), .second, .val (.long q2), .second, .val (.int p3), .val (.int p4), .val (.long q5), .second, .val (.long q6), .second, .val (.long (4102444800000 : Int64)), .second, .val (.long mm), .second, .val (.int gg), .val (.int ss), .val (.long ff), .second, .val (.long dd), .second, .val (.long (ff + dd)), .second, .val (.ref b2), .val (.int (own_eg ss ff (ff + dd) gg mm)), .val (.int ev), .val (.int (1 : Int32)), .val (.int (own_eg gg ff ff gg mm)), .unset] [(.long ff), (.long ff), (.int (0 : Int32)), (.ref b2)])) _
    refine XS.lload X15.here hx rfl (hb hby at_172) rfl ?_
    show Steps p.tables e below (T15.setTop (mkF m 174 #[.val (.long q1), .second, .val (.long q2), .second, .val (.int p3), .val (.int p4), .val (.long q5), .second, .val (.long q6), .second, .val (.long (4102444800000 : Int64)), .second, .val (.long mm), .second, .val (.int gg), .val (.int ss), .val (.long ff), .second, .val (.long dd), .second, .val (.long (ff + dd)), .second, .val (.ref b2), .val (.int (own_eg ss ff (ff + dd) gg mm)), .val (.int ev), .val (.int (1 : Int32)), .val (.int (own_eg gg ff ff gg mm)), .unset] [(.long mm), (.long ff), (.long ff), (.int (0 : Int32)), (.ref b2)])) _
    refine XS.ladd X15.here hx rfl (hb hby at_174) rfl ?_
    exact kt
  obtain ⟨cq17, kq17, q17a, q17b, q17c⟩ := isOf hZ hh15 EE
  obtain ⟨_, _, ⟨T17, L17, k17, n17⟩, -, X17, ⟨Lc17, hQ17, l17, y17, z17⟩, st17⟩ := X15.virtualBack hx (y := (⟨"com/example/gridwake/gridwake/store/Blocks$Slicing", "endsGroup", "(IJJ)Z"⟩ : MethodName)) (z := (⟨"com/example/gridwake/gridwake/store/Blocks$Slicing", "endsGroup", "(IJJ)Z"⟩ : MethodName)) hown (mvT hZ (hw _ (List.mem_of_getElem? (i := 25) rfl))) (mvT hZ (hw _ (List.mem_of_getElem? (i := 26) rfl))) (notFace_of_selects (args := #[]) (mvT hZ (hw _ (List.mem_of_getElem? (i := 28) rfl)))) (mvT hZ (hw _ (List.mem_of_getElem? (i := 28) rfl))) (mvT hZ (hw _ (List.mem_of_getElem? (i := 27) rfl))) (by decide) (backOf (W := 0) (rm4 l Z a0 hw [] b2 (0 : Int32) ff (ff + mm) gg mm T4.heap n0 zz FS FM) hZ (hw _ (List.mem_of_getElem? (i := 29) rfl)) (hw _ (List.mem_of_getElem? (i := 7) rfl)) (by decide) (by decide)) q17a q17c (g := (mkF m 175 #[.val (.long q1), .second, .val (.long q2), .second, .val (.int p3), .val (.int p4), .val (.long q5), .second, .val (.long q6), .second, .val (.long (4102444800000 : Int64)), .second, .val (.long mm), .second, .val (.int gg), .val (.int ss), .val (.long ff), .second, .val (.long dd), .second, .val (.long (ff + dd)), .second, .val (.ref b2), .val (.int (own_eg ss ff (ff + dd) gg mm)), .val (.int ev), .val (.int (1 : Int32)), .val (.int (own_eg gg ff ff gg mm)), .unset] [(.long (ff + mm)), (.long ff), (.int (0 : Int32)), (.ref b2)])) rfl (by rw [hml]; rfl) (Steps.refl _) (argsL := [(.int (0 : Int32)), (.long ff), (.long (ff + mm))]) (rest := []) (lenOf pd_1 rfl) rfl (by show 2 * 0 + _ ≤ _; exact Nat.le_of_eq rfl) (hb hby at_175) (fun _ _ => ⟨rfl, hh15, (by decide : 1 + 0 ≤ _), (by decide : 3 + 0 ≤ _)⟩)
  dsimp only [Pt.U, Pt.locs, Pt.cells, Pt.slots] at X17 l17 y17 z17 st17 hQ17
  subst l17 y17 z17
  obtain ⟨rfl, N17q, hh17⟩ := hQ17
  have N17 := Fr.app N15 N17q
  have sg18 : ∀ t₀, Steps p.tables e below (T17.setTop (mkF m 207 #[.val (.long q1), .second, .val (.long q2), .second, .val (.int p3), .val (.int p4), .val (.long q5), .second, .val (.long q6), .second, .val (.long (4102444800000 : Int64)), .second, .val (.long mm), .second, .val (.int gg), .val (.int ss), .val (.long ff), .second, .val (.long dd), .second, .val (.long (ff + dd)), .second, .val (.ref b2), .val (.int (own_eg ss ff (ff + dd) gg mm)), .val (.int ev), .val (.int (1 : Int32)), .val (.int (own_eg gg ff ff gg mm)), .val (.int (own_eg (0 : Int32) ff (ff + mm) gg mm))] [(.int (1 : Int32))])) t₀ → Steps p.tables e below (T17.setTop (mkF m 178 #[.val (.long q1), .second, .val (.long q2), .second, .val (.int p3), .val (.int p4), .val (.long q5), .second, .val (.long q6), .second, .val (.long (4102444800000 : Int64)), .second, .val (.long mm), .second, .val (.int gg), .val (.int ss), .val (.long ff), .second, .val (.long dd), .second, .val (.long (ff + dd)), .second, .val (.ref b2), .val (.int (own_eg ss ff (ff + dd) gg mm)), .val (.int ev), .val (.int (1 : Int32)), .val (.int (own_eg gg ff ff gg mm)), .unset] [(.int (own_eg (0 : Int32) ff (ff + mm) gg mm))])) t₀ := by
    intro t₀ kt
    show Steps p.tables e below (T17.setTop (mkF m 178 #[.val (.long q1), .second, .val (.long q2), .second, .val (.int p3), .val (.int p4), .val (.long q5), .second, .val (.long q6), .second, .val (.long (4102444800000 : Int64)), .second, .val (.long mm), .second, .val (.int gg), .val (.int ss), .val (.long ff), .second, .val (.long dd), .second, .val (.long (ff + dd)), .second, .val (.ref b2), .val (.int (own_eg ss ff (ff + dd) gg mm)), .val (.int ev), .val (.int (1 : Int32)), .val (.int (own_eg gg ff ff gg mm)), .unset] [(.int (own_eg (0 : Int32) ff (ff + mm) gg mm))])) _
    refine XS.istore X17.here hx rfl (hb hby at_178) rfl (l' := #[.val (.long q1), .second, .val (.long q2), .second, .val (.int p3), .val (.int p4), .val (.long q5), .second, .val (.long q6), .second, .val (.long (4102444800000 : Int64)), .second, .val (.long mm), .second, .val (.int gg), .val (.int ss), .val (.long ff), .second, .val (.long dd), .second, .val (.long (ff + dd)), .second, .val (.ref b2), .val (.int (own_eg ss ff (ff + dd) gg mm)), .val (.int ev), .val (.int (1 : Int32)), .val (.int (own_eg gg ff ff gg mm)), .val (.int (own_eg (0 : Int32) ff (ff + mm) gg mm))]) rfl ?_
    show Steps p.tables e below (T17.setTop (mkF m 180 #[.val (.long q1), .second, .val (.long q2), .second, .val (.int p3), .val (.int p4), .val (.long q5), .second, .val (.long q6), .second, .val (.long (4102444800000 : Int64)), .second, .val (.long mm), .second, .val (.int gg), .val (.int ss), .val (.long ff), .second, .val (.long dd), .second, .val (.long (ff + dd)), .second, .val (.ref b2), .val (.int (own_eg ss ff (ff + dd) gg mm)), .val (.int ev), .val (.int (1 : Int32)), .val (.int (own_eg gg ff ff gg mm)), .val (.int (own_eg (0 : Int32) ff (ff + mm) gg mm))] [])) _
    refine XS.iload X17.here hx rfl (hb hby at_180) rfl ?_
    show Steps p.tables e below (T17.setTop (mkF m 182 #[.val (.long q1), .second, .val (.long q2), .second, .val (.int p3), .val (.int p4), .val (.long q5), .second, .val (.long q6), .second, .val (.long (4102444800000 : Int64)), .second, .val (.long mm), .second, .val (.int gg), .val (.int ss), .val (.long ff), .second, .val (.long dd), .second, .val (.long (ff + dd)), .second, .val (.ref b2), .val (.int (own_eg ss ff (ff + dd) gg mm)), .val (.int ev), .val (.int (1 : Int32)), .val (.int (own_eg gg ff ff gg mm)), .val (.int (own_eg (0 : Int32) ff (ff + mm) gg mm))] [(.int (own_eg ss ff (ff + dd) gg mm))])) _
    refine XS.iload X17.here hx rfl (hb hby at_182) rfl ?_
    show Steps p.tables e below (T17.setTop (mkF m 184 #[.val (.long q1), .second, .val (.long q2), .second, .val (.int p3), .val (.int p4), .val (.long q5), .second, .val (.long q6), .second, .val (.long (4102444800000 : Int64)), .second, .val (.long mm), .second, .val (.int gg), .val (.int ss), .val (.long ff), .second, .val (.long dd), .second, .val (.long (ff + dd)), .second, .val (.ref b2), .val (.int (own_eg ss ff (ff + dd) gg mm)), .val (.int ev), .val (.int (1 : Int32)), .val (.int (own_eg gg ff ff gg mm)), .val (.int (own_eg (0 : Int32) ff (ff + mm) gg mm))] [(.int ev), (.int (own_eg ss ff (ff + dd) gg mm))])) _
    refine XS.icmpNo X17.here hx rfl (hb hby at_184) rfl (teq hsj8.symm).2 ?_
    show Steps p.tables e below (T17.setTop (mkF m 187 #[.val (.long q1), .second, .val (.long q2), .second, .val (.int p3), .val (.int p4), .val (.long q5), .second, .val (.long q6), .second, .val (.long (4102444800000 : Int64)), .second, .val (.long mm), .second, .val (.int gg), .val (.int ss), .val (.long ff), .second, .val (.long dd), .second, .val (.long (ff + dd)), .second, .val (.ref b2), .val (.int (own_eg ss ff (ff + dd) gg mm)), .val (.int ev), .val (.int (1 : Int32)), .val (.int (own_eg gg ff ff gg mm)), .val (.int (own_eg (0 : Int32) ff (ff + mm) gg mm))] [])) _
    refine XS.iload X17.here hx rfl (hb hby at_187) rfl ?_
    show Steps p.tables e below (T17.setTop (mkF m 189 #[.val (.long q1), .second, .val (.long q2), .second, .val (.int p3), .val (.int p4), .val (.long q5), .second, .val (.long q6), .second, .val (.long (4102444800000 : Int64)), .second, .val (.long mm), .second, .val (.int gg), .val (.int ss), .val (.long ff), .second, .val (.long dd), .second, .val (.long (ff + dd)), .second, .val (.ref b2), .val (.int (own_eg ss ff (ff + dd) gg mm)), .val (.int ev), .val (.int (1 : Int32)), .val (.int (own_eg gg ff ff gg mm)), .val (.int (own_eg (0 : Int32) ff (ff + mm) gg mm))] [(.int (1 : Int32))])) _
    refine XS.ifNo X17.here hx rfl (hb hby at_189) rfl ((if0 _ _).trans (feq (by decide : ¬ ((1 : Int32) = (0 : Int32)))).1) ?_
    show Steps p.tables e below (T17.setTop (mkF m 192 #[.val (.long q1), .second, .val (.long q2), .second, .val (.int p3), .val (.int p4), .val (.long q5), .second, .val (.long q6), .second, .val (.long (4102444800000 : Int64)), .second, .val (.long mm), .second, .val (.int gg), .val (.int ss), .val (.long ff), .second, .val (.long dd), .second, .val (.long (ff + dd)), .second, .val (.ref b2), .val (.int (own_eg ss ff (ff + dd) gg mm)), .val (.int ev), .val (.int (1 : Int32)), .val (.int (own_eg gg ff ff gg mm)), .val (.int (own_eg (0 : Int32) ff (ff + mm) gg mm))] [])) _
    refine XS.iload X17.here hx rfl (hb hby at_192) rfl ?_
    show Steps p.tables e below (T17.setTop (mkF m 194 #[.val (.long q1), .second, .val (.long q2), .second, .val (.int p3), .val (.int p4), .val (.long q5), .second, .val (.long q6), .second, .val (.long (4102444800000 : Int64)), .second, .val (.long mm), .second, .val (.int gg), .val (.int ss), .val (.long ff), .second, .val (.long dd), .second, .val (.long (ff + dd)), .second, .val (.ref b2), .val (.int (own_eg ss ff (ff + dd) gg mm)), .val (.int ev), .val (.int (1 : Int32)), .val (.int (own_eg gg ff ff gg mm)), .val (.int (own_eg (0 : Int32) ff (ff + mm) gg mm))] [(.int (own_eg gg ff ff gg mm))])) _
    refine XS.ifNo X17.here hx rfl (hb hby at_194) rfl ((if0 _ _).trans (feq own_b2).1) ?_
    show Steps p.tables e below (T17.setTop (mkF m 197 #[.val (.long q1), .second, .val (.long q2), .second, .val (.int p3), .val (.int p4), .val (.long q5), .second, .val (.long q6), .second, .val (.long (4102444800000 : Int64)), .second, .val (.long mm), .second, .val (.int gg), .val (.int ss), .val (.long ff), .second, .val (.long dd), .second, .val (.long (ff + dd)), .second, .val (.ref b2), .val (.int (own_eg ss ff (ff + dd) gg mm)), .val (.int ev), .val (.int (1 : Int32)), .val (.int (own_eg gg ff ff gg mm)), .val (.int (own_eg (0 : Int32) ff (ff + mm) gg mm))] [])) _
    refine XS.iload X17.here hx rfl (hb hby at_197) rfl ?_
    show Steps p.tables e below (T17.setTop (mkF m 199 #[.val (.long q1), .second, .val (.long q2), .second, .val (.int p3), .val (.int p4), .val (.long q5), .second, .val (.long q6), .second, .val (.long (4102444800000 : Int64)), .second, .val (.long mm), .second, .val (.int gg), .val (.int ss), .val (.long ff), .second, .val (.long dd), .second, .val (.long (ff + dd)), .second, .val (.ref b2), .val (.int (own_eg ss ff (ff + dd) gg mm)), .val (.int ev), .val (.int (1 : Int32)), .val (.int (own_eg gg ff ff gg mm)), .val (.int (own_eg (0 : Int32) ff (ff + mm) gg mm))] [(.int (own_eg (0 : Int32) ff (ff + mm) gg mm))])) _
    refine XS.ifNo X17.here hx rfl (hb hby at_199) rfl ((if0 _ _).trans (feq own_b3).1) ?_
    show Steps p.tables e below (T17.setTop (mkF m 202 #[.val (.long q1), .second, .val (.long q2), .second, .val (.int p3), .val (.int p4), .val (.long q5), .second, .val (.long q6), .second, .val (.long (4102444800000 : Int64)), .second, .val (.long mm), .second, .val (.int gg), .val (.int ss), .val (.long ff), .second, .val (.long dd), .second, .val (.long (ff + dd)), .second, .val (.ref b2), .val (.int (own_eg ss ff (ff + dd) gg mm)), .val (.int ev), .val (.int (1 : Int32)), .val (.int (own_eg gg ff ff gg mm)), .val (.int (own_eg (0 : Int32) ff (ff + mm) gg mm))] [])) _
    refine XS.iconst X17.here hx rfl (hb hby at_202) ?_
    show Steps p.tables e below (T17.setTop (mkF m 203 #[.val (.long q1), .second, .val (.long q2), .second, .val (.int p3), .val (.int p4), .val (.long q5), .second, .val (.long q6), .second, .val (.long (4102444800000 : Int64)), .second, .val (.long mm), .second, .val (.int gg), .val (.int ss), .val (.long ff), .second, .val (.long dd), .second, .val (.long (ff + dd)), .second, .val (.ref b2), .val (.int (own_eg ss ff (ff + dd) gg mm)), .val (.int ev), .val (.int (1 : Int32)), .val (.int (own_eg gg ff ff gg mm)), .val (.int (own_eg (0 : Int32) ff (ff + mm) gg mm))] [(.int (1 : Int32))])) _
    refine XS.goto X17.here hx rfl (pc0 := 203) (pc' := 207) rfl (hb hby at_203) (by decide) (by decide) ?_
    exact kt
  obtain ⟨fs, hr, hrun, hended, hW, hsame⟩ := X17.leave (v := some (.int (1 : Int32))) (fun h => by rw [Bd.returns] at h; cases h)
  refine ⟨_, _, pre0 _ ?_, hrun, hended, _, _, rfl, ?_, ⟨_, rfl⟩, hW, hsame.mono (by decide) (by decide)⟩
  · exact sa _ (sb _ (sc _ (sd _ (se _ (sg1 _ (st2 _ (sg3 _ (st4.trans (sg5 _ (st6.trans (sg7 _ (sj8 _ (sg9 _ (st10 _ (sg11 _ (st12.trans (sg13 _ (sg14 _ (st15.trans (sg16 _ (st17.trans (sg18 _ ((retN X17 hx (t := .boolean) Bd.returns (by simp) (hb hby at_207) hr))))))))))))))))))))))))
  · show Q0 Z q1 q2 p3 p4 q5 q6 h0 n0 _ T17.heap _
    rw [hh17]
    exact ⟨rfl, N17⟩
set_option maxRecDepth 65536 in
set_option maxHeartbeats 40000000 in
theorem comes_1 {Post : Tables → Env → Array Value → State → Outcome → State → Prop} (hpost : ∀ tb e args s v u, (limb_1_1.after args s (.returned v) u = true ∧ limb_1_2.after args s (.returned v) u = true ∧ True) → FrameEnd s (.returned v) u (Jvm.fieldLocs frame_1_writes args s ++ Jvm.arrayLocs frame_1_arrays args s ++ Jvm.staticLocs frame_1_statics s) 16 128 → Post tb e args s (.returned v) u) :
    ArmFor flags0 classFile x code maxLocals ret World_1 tables_1 room_1 Calls_1 rest_1 Pre_1 Post := by
  intro l hfl _ _ p e ha hc hk s m args below hf hA hF happ hP
  obtain ⟨hcalls, hrest, hpre⟩ := hP
  obtain ⟨-, -, -, hnamed, -, -, -, hat⟩ := (Spec.applies_iff hf).mp happ
  obtain ⟨hg, hn⟩ := and_e (Cond.before_iff.mp (show (Jvm.Cond.and given_1 narrow_1).before args s = true from hpre))
  obtain ⟨hg0, hr0⟩ := and_e hg
  obtain ⟨ha0, hr1⟩ := and_e hr0
  obtain ⟨ha1, hr2⟩ := and_e hr1
  obtain ⟨ha2, hr3⟩ := and_e hr2
  obtain ⟨ha3, hr4⟩ := and_e hr3
  obtain ⟨ha4, hr5⟩ := and_e hr4
  obtain ⟨w0, w1, w2, w3, w4, w5, rfl⟩ : ∃ w0 w1 w2 w3 w4 w5 : Value, args = #[w0, w1, w2, w3, w4, w5] := by
    have hs : args.size = 6 := by simpa [Cond.value, given_1] using hg0
    obtain ⟨L⟩ := args
    match L, hs with
    | [w0, w1, w2, w3, w4, w5], _ => exact ⟨w0, w1, w2, w3, w4, w5, rfl⟩
  have hw := fun d (hd : d ∈ tables_1) => atoms_spec (ws := Jvm.Cond.code x code maxLocals ret :: tables_1) hat d (List.mem_cons_of_mem _ hd)
  obtain ⟨i0, ei0⟩ := isL_v ha0
  obtain rfl : w0 = (.long i0) := Option.some.inj ei0
  obtain ⟨i1, ei1⟩ := isL_v ha1
  obtain rfl : w1 = (.long i1) := Option.some.inj ei1
  obtain ⟨i2, ei2⟩ := is_v ha2
  obtain rfl : w2 = (.int i2) := Option.some.inj ei2
  obtain ⟨i3, ei3⟩ := is_v ha3
  obtain rfl : w3 = (.int i3) := Option.some.inj ei3
  obtain ⟨i4, ei4⟩ := isL_v ha4
  obtain rfl : w4 = (.long i4) := Option.some.inj ei4
  obtain ⟨i5, ei5⟩ := isL_v hr5
  obtain rfl : w5 = (.long i5) := Option.some.inj ei5
  obtain ⟨n, o, h1, h2, h3, _, L, rfl, ⟨rfl, N⟩, hq⟩ := rm0 l s _ hw tables_1 i0 i1 i2 i3 i4 i5 s.heap s.heap.size (Nat.le_refl _) p e ha hc hk s m _ below hf ((Spec.applies_iff_loose hf).mp happ).1 ⟨rfl, State.Warmed39.refl s, rfl⟩ trivial
  refine ⟨n, _, h1, h2, h3, hpost _ _ _ _ _ _ ⟨Cond.after_iff.mpr rfl, Cond.after_iff.mpr (eq_i res_at (Term.int_eval (1)) rfl), trivial⟩ ⟨hq.1, hq.2.1, (hq.2.2.sift fun y hy => Or.inr (N y hy)).mono (by decide) (by decide)⟩⟩
theorem main_1_1 : Claimed_1_1 := comes_1 fun _ _ _ _ _ _ h hF => ⟨h.1, hF⟩
theorem main_1_2 : Claimed_1_2 := comes_1 fun _ _ _ _ _ _ h hF => ⟨h.2.1, hF⟩
end Jvm.Pilot.@@N@@
namespace Jvm.Pilot.@@N@@
open Jvm Jvm.ClassFile Sem Op Lib Jvm.Free Jvm.Stand Jvm.Pilot.@@N@@.Jvm.D
/-! MADE BY PROGRAM (witnessworld.py) out of the Statement's table words and the real class files: 11 classes; the members and pool entries that the words name. The judged class is class 1, her method 1. -/
namespace start1
open Jvm.ClassFile
def u (s : String) : CpInfo := .utf8 (stringToUtf16 s)
/-- a pool by its gaps: so many unusable entries, then the entry; so many at the end -/
def gap : Nat → List CpInfo → List CpInfo
  | 0, r => r
  | n + 1, r => .unusable :: gap n r
def poolList (es : List (Nat × CpInfo)) (last : Nat) : List CpInfo := es.foldr (fun e r => gap e.1 (e.2 :: r)) (gap last [])
def pool (es : List (Nat × CpInfo)) (last : Nat) : Array CpInfo := ⟨poolList es last⟩
def fileOf (pool : Array CpInfo) (this : Nat) (attrs : Array Attribute := #[]) (ms : Array MethodInfo := #[]) (fl : Nat := 33) (sup : Nat := 0) (ifs : Array Nat := #[]) (fds : Array FieldInfo := #[]) : ClassFile where
  minorVersion := 0
  majorVersion := 65
  constantPool := pool
  accessFlags := fl
  thisClass := this
  superClass := sup
  interfaces := ifs
  fields := fds
  methods := ms
  attributes := attrs
def plain (name : String) (sup : Option ClassId) : Class where
  name := name
  kind := .ordinary
  loader := none
  accessFlags := 33
  super := sup
  interfaces := #[]
  cf := none
  fields := #[]
  methods := #[]
  instanceTypes := #[]
  staticTypes := #[]
  resolved := #[]
  callSites := []
  init := .initialized
  statics := none
  mirror := none

def pool0 : Array CpInfo := pool [(5, u "<init>"), (0, u "()V"), (1, .class_ 10), (1, u "java/lang/Object")] 113

def k0c0 : Code := { maxStack := 0, maxLocals := 1, code := object_method_1_code, exceptionTable := #[], attributes := #[] }
def k0m0 : Method := { name := "<init>", desc := "()V", sig := { parameters := [], returnType := none }, accessFlags := 1, code := some k0c0 }
/-- java/lang/Object -/
def k0 : Class := { plain "java/lang/Object" none with
  accessFlags := 33
  interfaces := #[]
  cf := some (fileOf pool0 8 #[] #[{ accessFlags := 1, nameIndex := 5, descriptorIndex := 6, attributes := #[] }] 33 0 #[] #[])
  fields := #[]
  methods := #[k0m0]
  instanceTypes := #[]
  staticTypes := #[]
  resolved := Array.replicate 124 none
  statics := none }

def pool1 : Array CpInfo := pool [(2, .class_ 4), (1, u "java/lang/Object"), (0, u "<init>"), (0, u "()V"), (0, .long 4102444800000), (1, .long 1099511627775), (1, .integer 65535), (0, .integer 131071), (2, .long 9223372036854775807), (1, .class_ 18), (0, u "com/example/gridwake/gridwake/store/Blocks$Slicing"), (0, .methodref 17 20), (0, .nameAndType 5 21), (0, u "(JJI)V"), (0, .methodref 17 23), (0, .nameAndType 24 25), (0, u "endsGroup"), (0, u "(IJJ)Z"), (0, .methodref 27 28), (0, .class_ 29), (0, .nameAndType 30 31), (0, u "java/lang/Math"), (0, u "min"), (0, u "(JJ)J"), (0, .class_ 33), (0, u "com/example/gridwake/gridwake/store/SlicingEndsGroupPinLaw"), (2, u "law"), (0, u "(JJIIJJ)Z")] 7

def k1m0 : Method := { name := "<init>", desc := "()V", sig := { parameters := [], returnType := none }, accessFlags := 1, code := none }
def k1c1 : Code := { maxStack := 12, maxLocals := 28, code := code, exceptionTable := #[], attributes := #[] }
def k1m1 : Method := { name := "law", desc := "(JJIIJJ)Z", sig := { parameters := [.long, .long, .int, .int, .long, .long], returnType := some .boolean }, accessFlags := 9, code := some k1c1 }
/-- com/example/gridwake/gridwake/store/SlicingEndsGroupPinLaw -/
def k1 : Class := { plain "com/example/gridwake/gridwake/store/SlicingEndsGroupPinLaw" (some 0) with
  accessFlags := 49
  interfaces := #[]
  cf := some (fileOf pool1 32 #[] #[{ accessFlags := 1, nameIndex := 5, descriptorIndex := 6, attributes := #[] }, { accessFlags := 9, nameIndex := 36, descriptorIndex := 37, attributes := #[] }] 49 2 #[] #[])
  fields := #[]
  methods := #[k1m0, k1m1]
  instanceTypes := #[]
  staticTypes := #[]
  resolved := Array.replicate 45 none
  statics := none }

def pool2 : Array CpInfo := pool [(1, .methodref 2 3), (0, .class_ 4), (0, .nameAndType 5 6), (0, u "java/lang/Object"), (0, u "<init>"), (0, u "()V"), (0, .class_ 8), (0, u "java/lang/Record")] 13

def k2c0 : Code := { maxStack := 1, maxLocals := 1, code := jdk_30_method_1_code, exceptionTable := #[], attributes := #[] }
def k2m0 : Method := { name := "<init>", desc := "()V", sig := { parameters := [], returnType := none }, accessFlags := 4, code := some k2c0 }
/-- java/lang/Record -/
def k2 : Class := { plain "java/lang/Record" (some 0) with
  accessFlags := 1057
  interfaces := #[]
  cf := some (fileOf pool2 7 #[] #[{ accessFlags := 4, nameIndex := 5, descriptorIndex := 6, attributes := #[] }] 1057 2 #[] #[])
  fields := #[]
  methods := #[k2m0]
  instanceTypes := #[]
  staticTypes := #[]
  resolved := Array.replicate 22 none
  statics := none }

def pool3 : Array CpInfo := pool [(1, .class_ 2), (0, u "com/example/gridwake/gridwake/store/Blocks"), (0, .methodref 4 5), (0, .class_ 6), (0, .nameAndType 7 8), (0, u "java/lang/Record"), (0, u "<init>"), (0, u "()V"), (0, .fieldref 10 11), (0, .class_ 12), (0, .nameAndType 13 14), (0, u "com/example/gridwake/gridwake/store/Blocks$Slicing"), (0, u "sliceMemoryBytes"), (0, u "J"), (0, .fieldref 10 16), (0, .nameAndType 17 14), (0, u "groupMillis"), (0, .fieldref 10 19), (0, .nameAndType 20 21), (0, u "groupSlices"), (0, u "I"), (18, u "(JJI)V"), (2, u "STORE"), (0, u "Lcom/example/gridwake/gridwake/store/Blocks$Slicing;"), (3, u "endsGroup"), (0, u "(IJJ)Z")] 30

def k3c0 : Code := { maxStack := 3, maxLocals := 6, code := prog_68_method_1_code, exceptionTable := #[], attributes := #[] }
def k3m0 : Method := { name := "<init>", desc := "(JJI)V", sig := { parameters := [.long, .long, .int], returnType := none }, accessFlags := 0, code := some k3c0 }
def k3c1 : Code := { maxStack := 4, maxLocals := 6, code := prog_68_method_2_code, exceptionTable := #[], attributes := #[] }
def k3m1 : Method := { name := "endsGroup", desc := "(IJJ)Z", sig := { parameters := [.int, .long, .long], returnType := some .boolean }, accessFlags := 0, code := some k3c1 }
/-- com/example/gridwake/gridwake/store/Blocks$Slicing -/
def k3 : Class := { plain "com/example/gridwake/gridwake/store/Blocks$Slicing" (some 2) with
  accessFlags := 48
  interfaces := #[]
  cf := some (fileOf pool3 10 #[.nestHost 1] #[{ accessFlags := 0, nameIndex := 7, descriptorIndex := 40, attributes := #[] }, { accessFlags := 0, nameIndex := 48, descriptorIndex := 49, attributes := #[] }] 48 4 #[] #[{ accessFlags := 18, nameIndex := 13, descriptorIndex := 14, attributes := #[] }, { accessFlags := 18, nameIndex := 17, descriptorIndex := 14, attributes := #[] }, { accessFlags := 18, nameIndex := 20, descriptorIndex := 21, attributes := #[] }, { accessFlags := 24, nameIndex := 43, descriptorIndex := 44, attributes := #[] }])
  fields := #[{ name := "sliceMemoryBytes", type := .long, accessFlags := 18, slot := 0, constantValue := 0 }, { name := "groupMillis", type := .long, accessFlags := 18, slot := 1, constantValue := 0 }, { name := "groupSlices", type := .int, accessFlags := 18, slot := 2, constantValue := 0 }, { name := "STORE", type := (.object "com/example/gridwake/gridwake/store/Blocks$Slicing"), accessFlags := 24, slot := 0, constantValue := 0 }]
  methods := #[k3m0, k3m1]
  instanceTypes := #[.long, .long, .int]
  staticTypes := #[(.object "com/example/gridwake/gridwake/store/Blocks$Slicing")]
  resolved := Array.replicate 80 none
  statics := none }

def pool4 : Array CpInfo := pool [(1, .class_ 2), (0, u "java/lang/Math"), (1, .class_ 6), (1, u "java/lang/Object"), (0, u "<init>"), (0, u "()V"), (89, .class_ 100), (1, u "java/lang/Math$RandomNumberGeneratorHolder"), (20, u "(JJ)J"), (50, u "negativeZeroFloatBits"), (0, u "J"), (2, u "negativeZeroDoubleBits"), (24, u "min"), (43, u "$assertionsDisabled"), (0, u "Z"), (91, u "twoToTheDoubleScaleDown"), (0, u "D"), (4, u "twoToTheDoubleScaleUp"), (9, u "E"), (3, u "PI"), (2, u "TAU"), (2, u "DEGREES_TO_RADIANS"), (0, u "RADIANS_TO_DEGREES")] 94

def k4m0 : Method := { name := "<init>", desc := "()V", sig := { parameters := [], returnType := none }, accessFlags := 2, code := none }
def k4c1 : Code := { maxStack := 4, maxLocals := 4, code := jdk_29_method_70_code, exceptionTable := #[], attributes := #[] }
def k4m1 : Method := { name := "min", desc := "(JJ)J", sig := { parameters := [.long, .long], returnType := some .long }, accessFlags := 9, code := some k4c1 }
/-- java/lang/Math -/
def k4 : Class := { plain "java/lang/Math" (some 0) with
  accessFlags := 49
  interfaces := #[]
  cf := some (fileOf pool4 1 #[.nestMembers #[98]] #[{ accessFlags := 2, nameIndex := 7, descriptorIndex := 8, attributes := #[] }, { accessFlags := 9, nameIndex := 201, descriptorIndex := 121, attributes := #[] }] 49 4 #[] #[{ accessFlags := 25, nameIndex := 354, descriptorIndex := 339, attributes := #[] }, { accessFlags := 25, nameIndex := 358, descriptorIndex := 339, attributes := #[] }, { accessFlags := 25, nameIndex := 361, descriptorIndex := 339, attributes := #[] }, { accessFlags := 26, nameIndex := 364, descriptorIndex := 339, attributes := #[] }, { accessFlags := 26, nameIndex := 365, descriptorIndex := 339, attributes := #[] }, { accessFlags := 26, nameIndex := 172, descriptorIndex := 173, attributes := #[] }, { accessFlags := 26, nameIndex := 176, descriptorIndex := 173, attributes := #[] }, { accessFlags := 8, nameIndex := 344, descriptorIndex := 339, attributes := #[] }, { accessFlags := 8, nameIndex := 338, descriptorIndex := 339, attributes := #[] }, { accessFlags := 4120, nameIndex := 245, descriptorIndex := 246, attributes := #[] }])
  fields := #[{ name := "E", type := .double, accessFlags := 25, slot := 0, constantValue := 0 }, { name := "PI", type := .double, accessFlags := 25, slot := 1, constantValue := 0 }, { name := "TAU", type := .double, accessFlags := 25, slot := 2, constantValue := 0 }, { name := "DEGREES_TO_RADIANS", type := .double, accessFlags := 26, slot := 3, constantValue := 0 }, { name := "RADIANS_TO_DEGREES", type := .double, accessFlags := 26, slot := 4, constantValue := 0 }, { name := "negativeZeroFloatBits", type := .long, accessFlags := 26, slot := 5, constantValue := 0 }, { name := "negativeZeroDoubleBits", type := .long, accessFlags := 26, slot := 6, constantValue := 0 }, { name := "twoToTheDoubleScaleUp", type := .double, accessFlags := 8, slot := 7, constantValue := 0 }, { name := "twoToTheDoubleScaleDown", type := .double, accessFlags := 8, slot := 8, constantValue := 0 }, { name := "$assertionsDisabled", type := .boolean, accessFlags := 4120, slot := 9, constantValue := 0 }]
  methods := #[k4m0, k4m1]
  instanceTypes := #[]
  staticTypes := #[.double, .double, .double, .double, .double, .long, .long, .double, .double, .boolean]
  resolved := Array.replicate 460 none
  statics := none }

def pool5 : Array CpInfo := pool [(1, u "java/lang/Cloneable"), (0, .class_ 1), (0, u "java/lang/Object"), (0, .class_ 3)] 3

/-- java/lang/Cloneable -/
def k5 : Class := { plain "java/lang/Cloneable" (some 0) with
  accessFlags := 1537
  interfaces := #[]
  cf := some (fileOf pool5 2 #[] #[] 1537 4 #[] #[])
  fields := #[]
  methods := #[]
  instanceTypes := #[]
  staticTypes := #[]
  resolved := Array.replicate 8 none
  statics := none }

def pool6 : Array CpInfo := pool [(1, u "java/io/Serializable"), (0, .class_ 1), (0, u "java/lang/Object"), (0, .class_ 3)] 3

/-- java/io/Serializable -/
def k6 : Class := { plain "java/io/Serializable" (some 0) with
  accessFlags := 1537
  interfaces := #[]
  cf := some (fileOf pool6 2 #[] #[] 1537 4 #[] #[])
  fields := #[]
  methods := #[]
  instanceTypes := #[]
  staticTypes := #[]
  resolved := Array.replicate 8 none
  statics := none }

/-- the primitive byte -/
def k7 : Class := { plain "byte" none with kind := .primitive 'B', accessFlags := 0x411 }
/-- [B -/
def k8 : Class := { plain "[B" (some 0) with kind := .array 7 .byte, interfaces := #[5, 6], accessFlags := 1041 }

/-- the primitive int -/
def k9 : Class := { plain "int" none with kind := .primitive 'I', accessFlags := 0x411 }
/-- [I -/
def k10 : Class := { plain "[I" (some 0) with kind := .array 9 .int, interfaces := #[5, 6], accessFlags := 1041 }

def heap : Heap := #[]
def classes : Array Class := #[k0, k1, k2, k3, k4, k5, k6, k7, k8, k9, k10]
def interned : List (Array UInt16 × Addr) := []
def slotsUsed : Nat := 0
def theMethod : MethodId := ⟨1, 1⟩
def args0 : Array Value := #[.long 5, .long 3, .int 1, .int 2, .long 9, .long 7]
def aboutOver (below : List Frame) : State where
  vm := { classes := classes, interned := interned.toArray }
  heap := heap
  slotsUsed := slotsUsed
  threads := #[{ frames := .invoking theMethod args0 :: below }]
def below0 : List Frame := [.native { method := ⟨0, 0⟩, args := #[] }]
def about1 : State := aboutOver below0
def p0 : Program := .bare "" "" ""
def e0 : Env := launch0.env 0 0 0
theorem w_frames : about1.frames = Frame.invoking theMethod args0 :: below0 := rfl
set_option maxRecDepth 65536 in
theorem w_args : argsFit about1.vm theMethod args0 = true := by decide +kernel
set_option maxRecDepth 65536 in
theorem w_heap : heapFits about1 = true := by decide +kernel
set_option maxRecDepth 65536 in
theorem w_runnable : about1.curStatus? = some .runnable := by decide +kernel
set_option maxRecDepth 65536 in
theorem w_alone : about1.alone = true := by decide +kernel
set_option maxRecDepth 65536 in
theorem w_named : about1.methodNamed? x = some theMethod := by decide +kernel
set_option maxRecDepth 65536 in
theorem w_hears : about1.hears theMethod below0 = true := by decide +kernel
set_option maxRecDepth 65536 in
theorem w_ripe : about1.ripe theMethod args0 below0 = true := by decide +kernel
theorem w_running : about1.status = .running := rfl
set_option maxRecDepth 65536 in
theorem w_room : about1.hasRoom e0.platform room_1 = true :=
  launch0.hasRoom_least _ room_1 (by decide +kernel) (by decide +kernel) (by decide +kernel) (by decide +kernel) (by decide +kernel) (by decide +kernel)
theorem allAtoms_all (ts : List Jvm.Cond) (a : Array Jvm.Value) (st : Jvm.State) : (allAtoms ts).before a st = ts.all (fun c => c.before a st) := by
  induction ts with
  | nil => rfl
  | cons c t ih =>
    show (Jvm.Cond.and c (allAtoms t)).before a st = _
    rw [Jvm.Cond.before_and, ih, List.all_cons]
def words1 : List Jvm.Cond := Jvm.Cond.code x code maxLocals ret :: tables_1
/-- a 'code' word, met by the world's own term for the bytes: nothing is compared byte by byte -/
theorem code_word {y : MethodName} {bytes : ByteArray} {mx : Nat} {rt : Option FieldType} {a : Array Value} {s : State} {m : MethodId} {meth : Method} {c : Code} (h1 : s.methodNamed? y = some m) (h2 : s.vm.method? m = some meth) (h3 : meth.code = some c) (h4 : c.code = bytes)
    (h5 : (c.maxLocals == mx && c.exceptionTable.isEmpty && decide (c.maxStack ≤ mostOperands) && decide (meth.sig.returnType = rt) && !meth.locks && decide (parseMethodDescriptor y.desc = some meth.sig)) = true) : (Jvm.Cond.code y bytes mx rt).before a s = true := by
  simp only [Bool.and_eq_true, beq_iff_eq, Bool.not_eq_true', decide_eq_true_eq] at h5
  obtain ⟨⟨⟨⟨⟨g1, g2⟩, g3⟩, g4⟩, g5⟩, g6⟩ := h5
  simp [Cond.before, Cond.holds, Cond.value, h1, h2, h3, h4, g1, g2, g3, g4, g5, g6]
def isCode : Jvm.Cond → Bool
  | .code _ _ _ _ => true
  | _ => false
theorem all_split {L : List Jvm.Cond} {P : Jvm.Cond → Bool} (h1 : L.all (fun c => isCode c || P c) = true) (h2 : ∀ c ∈ L.filter isCode, P c = true) : L.all P = true := by
  refine List.all_eq_true.mpr fun c hc => ?_
  have h := List.all_eq_true.mp h1 c hc
  rcases Bool.eq_false_or_eq_true (isCode c) with hi | hi
  · exact h2 c (List.mem_filter.mpr ⟨hc, hi⟩)
  · simpa [hi] using h
set_option maxRecDepth 65536 in
theorem w_c0 : (Jvm.Cond.code x code maxLocals ret).before args0 about1 = true := code_word (m := ⟨1, 1⟩) (meth := k1m1) (c := k1c1) (by decide +kernel) rfl rfl rfl (by decide +kernel)
set_option maxRecDepth 65536 in
theorem w_c1 : (Jvm.Cond.code ({ cls := "com/example/gridwake/gridwake/store/Blocks$Slicing", name := "<init>", desc := "(JJI)V" } : Jvm.MethodName) prog_68_method_1_code (6 : Nat) (Option.none : Option Jvm.ClassFile.FieldType)).before args0 about1 = true := code_word (m := ⟨3, 0⟩) (meth := k3m0) (c := k3c0) (by decide +kernel) rfl rfl rfl (by decide +kernel)
set_option maxRecDepth 65536 in
theorem w_c2 : (Jvm.Cond.code ({ cls := "java/lang/Record", name := "<init>", desc := "()V" } : Jvm.MethodName) jdk_30_method_1_code (1 : Nat) (Option.none : Option Jvm.ClassFile.FieldType)).before args0 about1 = true := code_word (m := ⟨2, 0⟩) (meth := k2m0) (c := k2c0) (by decide +kernel) rfl rfl rfl (by decide +kernel)
set_option maxRecDepth 65536 in
theorem w_c3 : (Jvm.Cond.code ({ cls := "java/lang/Object", name := "<init>", desc := "()V" } : Jvm.MethodName) object_method_1_code (1 : Nat) (Option.none : Option Jvm.ClassFile.FieldType)).before args0 about1 = true := code_word (m := ⟨0, 0⟩) (meth := k0m0) (c := k0c0) (by decide +kernel) rfl rfl rfl (by decide +kernel)
set_option maxRecDepth 65536 in
theorem w_c4 : (Jvm.Cond.code ({ cls := "com/example/gridwake/gridwake/store/Blocks$Slicing", name := "endsGroup", desc := "(IJJ)Z" } : Jvm.MethodName) prog_68_method_2_code (6 : Nat) (Option.some Jvm.ClassFile.FieldType.boolean)).before args0 about1 = true := code_word (m := ⟨3, 1⟩) (meth := k3m1) (c := k3c1) (by decide +kernel) rfl rfl rfl (by decide +kernel)
set_option maxRecDepth 65536 in
theorem w_c5 : (Jvm.Cond.code ({ cls := "java/lang/Math", name := "min", desc := "(JJ)J" } : Jvm.MethodName) jdk_29_method_70_code (4 : Nat) (Option.some Jvm.ClassFile.FieldType.long)).before args0 about1 = true := code_word (m := ⟨4, 1⟩) (meth := k4m1) (c := k4c1) (by decide +kernel) rfl rfl rfl (by decide +kernel)
def codes1 : List Jvm.Cond := [Jvm.Cond.code x code maxLocals ret, Jvm.Cond.code ({ cls := "com/example/gridwake/gridwake/store/Blocks$Slicing", name := "<init>", desc := "(JJI)V" } : Jvm.MethodName) prog_68_method_1_code (6 : Nat) (Option.none : Option Jvm.ClassFile.FieldType), Jvm.Cond.code ({ cls := "java/lang/Record", name := "<init>", desc := "()V" } : Jvm.MethodName) jdk_30_method_1_code (1 : Nat) (Option.none : Option Jvm.ClassFile.FieldType), Jvm.Cond.code ({ cls := "java/lang/Object", name := "<init>", desc := "()V" } : Jvm.MethodName) object_method_1_code (1 : Nat) (Option.none : Option Jvm.ClassFile.FieldType), Jvm.Cond.code ({ cls := "com/example/gridwake/gridwake/store/Blocks$Slicing", name := "endsGroup", desc := "(IJJ)Z" } : Jvm.MethodName) prog_68_method_2_code (6 : Nat) (Option.some Jvm.ClassFile.FieldType.boolean), Jvm.Cond.code ({ cls := "java/lang/Math", name := "min", desc := "(JJ)J" } : Jvm.MethodName) jdk_29_method_70_code (4 : Nat) (Option.some Jvm.ClassFile.FieldType.long)]
set_option maxRecDepth 65536 in
theorem codes_eq : words1.filter isCode = codes1 := rfl
theorem w_codes : ∀ c ∈ words1.filter isCode, c.before args0 about1 = true := by
  rw [codes_eq]
  intro c hc
  simp only [codes1, List.mem_cons, List.not_mem_nil, or_false] at hc
  rcases hc with rfl | rfl | rfl | rfl | rfl | rfl
  · exact w_c0
  · exact w_c1
  · exact w_c2
  · exact w_c3
  · exact w_c4
  · exact w_c5
set_option maxRecDepth 65536 in
theorem w_t1 : (words1.take 24).all (fun c => isCode c || c.before args0 about1) = true := by decide +kernel
set_option maxRecDepth 65536 in
theorem w_t2 : (words1.drop 24).all (fun c => isCode c || c.before args0 about1) = true := by decide +kernel
theorem w_tables : (allAtoms (Jvm.Cond.code x code maxLocals ret :: tables_1)).before args0 about1 = true := by
  rw [allAtoms_all]
  show words1.all (fun c => c.before args0 about1) = true
  refine all_split ?_ w_codes
  rw [← List.take_append_drop 24 words1, List.all_append, w_t1, w_t2]
  rfl
set_option maxRecDepth 65536 in
theorem w_case : (Jvm.Cond.and given_1 narrow_1).before args0 about1 = true := by decide +kernel
theorem w_applies : (headSpec (Jvm.Cond.code x code maxLocals ret :: tables_1) room_1).applies x e0.platform about1 = true :=
  (Spec.applies_iff w_frames).mpr ⟨w_running, w_runnable, w_alone, w_named, w_hears, w_ripe, w_room, w_tables⟩
theorem atStart : AtStart classFile x code maxLocals ret World_1 tables_1 room_1 Calls_1 rest_1 Pre_1 launch0 p0 e0 about1 theMethod args0 below0 :=
  ⟨lists_1, trivial, launch0.admits_env _ _ _, launch0.least_env, fairChoices_fair.cas, fairChoices_fair.clock, w_frames, w_args, w_heap, w_applies, trivial, trivial, w_case⟩
end start1
theorem witness_1 : WitnessClaimed_1 := ⟨start1.p0, start1.e0, start1.about1, start1.theMethod, start1.args0, start1.below0, start1.atStart⟩
end Jvm.Pilot.@@N@@
