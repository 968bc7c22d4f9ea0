import JvmDerived
import JvmDerived.Pilot.@@N@@Statement
import JvmDerived.Pilot.@@N@@Code
set_option linter.unusedVariables false
set_option linter.unusedSimpArgs false
namespace Jvm.RoadKit
open Sem ClassFile Op Lib Jvm.Stand Jvm.Free Jvm.LawKit
section New
variable {p : Program} {l : Launch} {e : Env} {R : Room} {s : State} {m : MethodId} {args : Array Value} {below : List Frame} {meth : Method} {c : Code} {T : State} {locs : List Loc} {cells slots : Nat}
theorem retI (X : Stand p l e R s m args below meth c T locs cells slots) (hx : p.tables.exec = Jvm.exec) {pc : Nat} {Ls : Array Slot} {z : Int32} {rest : List Value} (hret : meth.sig.returnType = some .int) (hd : decode c.code pc = .ok (.ireturn, 1)) {fs : List Frame}
    (hl : ∀ (f : JFrame) (acts : List Action), f.method = m → f.locked = none → f.entered = [] → (doReturn e (T.setTop f) acts (some (.int z))).1 = T.setFrames fs) : Steps p.tables e below (T.setTop (mkF m pc Ls (.int z :: rest))) (T.setFrames fs) := by
  have hm' : T.vm.method? m = some meth := X.method'
  have hn : narrow .int (.int z) = .int z := rfl
  show Steps p.tables e below (T.setTop { method := m, pc := pc, locals := Ls, stack := _ :: rest, locked := none }) _
  jvm_step X.here [X.here.top, hx, hd, hm', hret, hn]
  first | (intro acts; rw [hl _ acts rfl rfl rfl]) | rw [hl _ _ rfl rfl rfl]
  exact Steps.refl _
end New
end Jvm.RoadKit
namespace Jvm.Pilot.@@N@@
open Jvm Jvm.ClassFile Sem Op Lib Jvm.Free Jvm.Stand Jvm.LawKit Jvm.RoadKit Bundle Jvm.Pilot.@@N@@.Jvm.D
theorem own_wS {Z : State} {a0 : Array Value} (hw : ∀ d ∈ tables_1, d.before a0 Z = true) : ∀ a ∈ Bundle.stringAtoms, a.before a0 Z = true := fun a ha => by
  simp only [Bundle.stringAtoms, List.mem_cons, List.not_mem_nil, or_false] at ha
  rcases ha with rfl | rfl | rfl | rfl | rfl | rfl | rfl
  · exact hw _ (List.mem_of_getElem? (i := 27) rfl)
  · exact hw _ (List.mem_of_getElem? (i := 28) rfl)
  · exact hw _ (List.mem_of_getElem? (i := 29) rfl)
  · exact hw _ (List.mem_of_getElem? (i := 30) rfl)
  · exact hw _ (List.mem_of_getElem? (i := 31) rfl)
  · exact hw _ (List.mem_of_getElem? (i := 32) rfl)
  · exact hw _ (List.mem_of_getElem? (i := 33) rfl)
def own_max (a b : Int32) : Int32 := if a < b then b else a
theorem own_nat {z m : Int32} {b : Nat} (hm : m.toBitVec.toNat = b) : (z &&& m).toBitVec.toNat ≤ b ∧ (z &&& m) = Int32.ofNat (z &&& m).toBitVec.toNat := by
  refine ⟨?_, ?_⟩
  · simp only [Int32.toBitVec_and, BitVec.toNat_and, hm]
    exact Nat.and_le_right
  · apply Int32.toBitVec_inj.mp
    show _ = BitVec.ofNat 32 _
    rw [BitVec.ofNat_toNat]; simp
theorem own_m31 (z : Int32) : ∃ n : Nat, n ≤ 2147483647 ∧ (z &&& (2147483647 : Int32)) = Int32.ofNat n := ⟨_, own_nat rfl⟩
theorem own_toInt {i : Nat} (h : i ≤ 2147483647) : (Int32.ofNat i).toInt = i := Int32.toInt_ofNat_of_lt (by omega)
theorem own_toIntL {i : Nat} (h : i < 9223372036854775808) : (Int64.ofNat i).toInt = i := Int64.toInt_ofNat_of_lt (by omega)
theorem own_ext {i : Nat} (h : i ≤ 2147483647) : (Int32.ofNat i).toInt64 = Int64.ofNat i := by
  apply Int64.toInt_inj.mp; rw [Int32.toInt_toInt64, own_toInt h, own_toIntL (by omega)]
theorem own_mx {n : Nat} (h : n ≤ 2147483647) : own_max (1 : Int32) (Int32.ofNat n) = Int32.ofNat (max 1 n) := by
  have e : (1 : Int32) < Int32.ofNat n ↔ 1 < n := by rw [Int32.lt_iff_toInt_lt, own_toInt h, show (1 : Int32).toInt = 1 from rfl]; omega
  unfold own_max
  by_cases q : 1 < n
  · rw [if_pos (e.mpr q), Nat.max_eq_right (by omega)]
  · rw [if_neg (fun z => q (e.mp z)), Nat.max_eq_left (by omega)]; rfl
theorem own_ltL {i j : Nat} (hi : i < 9223372036854775808) (hj : j < 9223372036854775808) : Int64.ofNat i < Int64.ofNat j ↔ i < j := by
  rw [Int64.lt_iff_toInt_lt, own_toIntL hi, own_toIntL hj]; omega
theorem own_lt {i j : Nat} (hi : i ≤ 2147483647) (hj : j ≤ 2147483647) : Int32.ofNat i < Int32.ofNat j ↔ i < j := by
  rw [Int32.lt_iff_toInt_lt, own_toInt hi, own_toInt hj]; omega
theorem own_bmod64 {n : Int} (h1 : -9223372036854775808 ≤ n) (h2 : n < 9223372036854775808) : n.bmod (2 ^ 64) = n := by
  rw [Int.bmod_def]; omega
theorem own_divL {i j : Nat} (hi : i < 9223372036854775808) (hj : j < 9223372036854775808) : Int64.ofNat i / Int64.ofNat j = Int64.ofNat (i / j) := by
  apply Int64.toInt_inj.mp
  have hd : i / j ≤ i := Nat.div_le_self i j
  have e : (i : Int).tdiv j = ((i / j : Nat) : Int) := rfl
  obtain ⟨k, hk⟩ : ∃ k, k = i / j := ⟨_, rfl⟩
  rw [← hk] at hd e ⊢
  rw [Int64.toInt_div, own_toIntL hi, own_toIntL hj, own_toIntL (by omega), e]
  exact own_bmod64 (by omega) (by omega)
theorem own_remL {i j : Nat} (hi : i < 9223372036854775808) (hj : j < 9223372036854775808) (h0 : 0 < j) : Int64.ofNat i - Int64.ofNat i / Int64.ofNat j * Int64.ofNat j = Int64.ofNat (i % j) := by
  rw [own_divL hi hj, ← Int64.ofNat_mul]
  have e := Nat.div_add_mod i j
  have hle : i / j * j ≤ i := Nat.div_mul_le_self i j
  rw [← Int64.ofNat_sub _ _ hle]
  congr 1
  rw [Nat.mul_comm] at hle
  rw [Nat.mul_comm]
  omega
theorem own_narrow {i : Nat} (h : i ≤ 2147483647) : (Int64.ofNat i).toInt32 = Int32.ofNat i := by
  rw [← own_ext h, Int32.toInt32_toInt64]
theorem d1_0 : decode jdk_29_method_65_code 0 = .ok (.iload_n 0, 1) := by decide +kernel
theorem d1_1 : decode jdk_29_method_65_code 1 = .ok (.iload_n 1, 1) := by decide +kernel
theorem d1_2 : decode jdk_29_method_65_code 2 = .ok (.if_icmp .lt 7, 3) := by decide +kernel
theorem d1_5 : decode jdk_29_method_65_code 5 = .ok (.iload_n 0, 1) := by decide +kernel
theorem d1_6 : decode jdk_29_method_65_code 6 = .ok (.goto 4, 3) := by decide +kernel
theorem d1_9 : decode jdk_29_method_65_code 9 = .ok (.iload_n 1, 1) := by decide +kernel
theorem d1_10 : decode jdk_29_method_65_code 10 = .ok (.ireturn, 1) := by decide +kernel
def Q_rm1 (Z : State) (q1 : Int32) (q2 : Int32)  (h0 : Heap) (n0 : Nat) (v : Option Value) (h : Heap) (L : List Loc) : Prop := v = some (.int (own_max q1 q2)) ∧ Fr n0 L ∧ h = h0
theorem ef_rm1 (m : MethodId) (x0 : Int32) (x1 : Int32) : entryFrame m #[(.int x0), (.int x1)] 2 = mkF m 0 #[.val (.int x0), .val (.int x1)] [] := by first | (simp [entryFrame, mkF, argsToLocals, Value.category]; done) | rfl
set_option maxRecDepth 65536 in
set_option maxHeartbeats 40000000 in
theorem rm1 (l : Launch) (Z : State) (a0 : Array Value) (hw : ∀ d ∈ tables_1, d.before a0 Z = true) (ws : List Jvm.Cond) (q1 : Int32) (q2 : Int32)  (h0 : Heap) (n0 : Nat) (Z0 : n0 ≤ h0.size)  :
    MetFree l (⟨"java/lang/Math", "max", "(II)I"⟩ : MethodName) (head1 (Jvm.Cond.code (⟨"java/lang/Math", "max", "(II)I"⟩ : MethodName) jdk_29_method_65_code 2 (some .int) :: ws) ({ frames := 0, cells := 0, slots := 0, locals := 0 } : Room)) (fun a' U => a' = #[(.int q1), (.int q2)] ∧ Z.Warmed39 U.vm ∧ U.heap = h0) (fun _ _ _ _ _ => True) (fun _ U o U' => ∃ v L, o = .returned v ∧ Q_rm1 Z q1 q2 h0 n0 v U'.heap L ∧ FrameEnd U o U' L ({ frames := 0, cells := 0, slots := 0, locals := 0 } : Room).cells ({ frames := 0, cells := 0, slots := 0, locals := 0 } : Room).slots) := by
  refine MetFree.of_bodySF (Jvm.Free.JP.mathPlain rfl (by decide +kernel)) hisR ?_
  intro p e s m args below meth cd0 s₁ Bd hml0 hP hK
  obtain ⟨rfl, hZ, hh⟩ := hP
  have hx := Bd.exec
  have hby := Bd.bytes
  have hml : cd0.maxLocals = 2 := hml0
  have hown : s.vm.findClass "java/lang/Math" = some m.cls := findClass_of_methodNamed Bd.named
  have hnm := (name_of_methodNamed Bd.named Bd.method).1
  have X : Stand p l e ({ frames := 0, cells := 0, slots := 0, locals := 0 } : Room) s m #[(.int q1), (.int q2)] below meth cd0 s₁ [] 0 0 := Stand.of_body Bd
  have eh : s₁.heap = h0 := by rw [← hh, Bd.state]; rfl
  have N := Fr.nil n0
  have K : Keep h0 h0 [] := Keep.refl _ _
  have pre0 : ∀ t, Steps p.tables e below (s₁.setTop (mkF m 0 #[.val (.int q1), .val (.int q2)] [])) t → Steps p.tables e below (s₁.setTop (entryFrame m #[(.int q1), (.int q2)] 2)) t := fun t k => castTop (ef_rm1 m q1 q2) k
  have st : ∀ t, Steps p.tables e below (s₁.setTop (mkF m 0 #[.val (.int q1), .val (.int q2)] [])) t → Steps p.tables e below (s₁.setTop (mkF m 0 #[.val (.int q1), .val (.int q2)] [])) t := fun t k => k
  obtain ⟨r, hv_r, sx⟩ : ∃ (r : Int32), r = (if q1 < q2 then q2 else q1) ∧ ∀ t, Steps p.tables e below (s₁.setTop (mkF m 10 #[.val (.int q1), .val (.int q2)] [(.int r)])) t → Steps p.tables e below (s₁.setTop (mkF m 0 #[.val (.int q1), .val (.int q2)] [])) t := by
    by_cases hj1 : q1 < q2
    · refine ⟨q2, by rw [if_pos hj1], fun t k => ?_⟩
      show Steps p.tables e below (s₁.setTop (mkF m 0 #[.val (.int q1), .val (.int q2)] [])) _
      refine XS.iloadN X.here hx rfl (hb hby d1_0) rfl ?_
      show Steps p.tables e below (s₁.setTop (mkF m 1 #[.val (.int q1), .val (.int q2)] [(.int q1)])) _
      refine XS.iloadN X.here hx rfl (hb hby d1_1) rfl ?_
      show Steps p.tables e below (s₁.setTop (mkF m 2 #[.val (.int q1), .val (.int q2)] [(.int q2), (.int q1)])) _
      refine XS.icmpYes X.here hx rfl (pc0 := 2) (pc' := 9) rfl (hb hby d1_2) rfl (tlt hj1).1 (by decide) (by decide) ?_
      show Steps p.tables e below (s₁.setTop (mkF m 9 #[.val (.int q1), .val (.int q2)] [])) _
      refine XS.iloadN X.here hx rfl (hb hby d1_9) rfl ?_
      exact k
    · refine ⟨q1, by rw [if_neg hj1], fun t k => ?_⟩
      show Steps p.tables e below (s₁.setTop (mkF m 0 #[.val (.int q1), .val (.int q2)] [])) _
      refine XS.iloadN X.here hx rfl (hb hby d1_0) rfl ?_
      show Steps p.tables e below (s₁.setTop (mkF m 1 #[.val (.int q1), .val (.int q2)] [(.int q1)])) _
      refine XS.iloadN X.here hx rfl (hb hby d1_1) rfl ?_
      show Steps p.tables e below (s₁.setTop (mkF m 2 #[.val (.int q1), .val (.int q2)] [(.int q2), (.int q1)])) _
      refine XS.icmpNo X.here hx rfl (hb hby d1_2) rfl (flt hj1).1 ?_
      show Steps p.tables e below (s₁.setTop (mkF m 5 #[.val (.int q1), .val (.int q2)] [])) _
      refine XS.iloadN X.here hx rfl (hb hby d1_5) rfl ?_
      show Steps p.tables e below (s₁.setTop (mkF m 6 #[.val (.int q1), .val (.int q2)] [(.int q1)])) _
      refine XS.goto X.here hx rfl (pc0 := 6) (pc' := 10) rfl (hb hby d1_6) (by decide) (by decide) ?_
      exact k
  have st : ∀ t, Steps p.tables e below (s₁.setTop (mkF m 10 #[.val (.int q1), .val (.int q2)] [(.int r)])) t → Steps p.tables e below (s₁.setTop (mkF m 0 #[.val (.int q1), .val (.int q2)] [])) t := fun t k => st t (sx t k)
  obtain rfl : r = own_max q1 q2 := hv_r
  obtain ⟨fs_, hr, hrun, hended, hW, hsame⟩ := X.leave (v := some (.int (own_max q1 q2))) (fun h => by rw [Bd.returns] at h; cases h)
  refine ⟨_, _, pre0 _ (st _ ?_), hrun, hended, _, _, rfl, ?_, ⟨_, rfl⟩, hW, hsame.mono (by decide) (by decide)⟩
  · exact retI X hx Bd.returns (hb hby d1_10) hr
  · show Q_rm1 Z q1 q2 h0 n0 _ s₁.heap _
    rw [eh]
    exact ⟨rfl, N, rfl⟩
theorem d3_0 : decode jdk_30_method_1_code 0 = .ok (.aload_n 0, 1) := by decide +kernel
theorem d3_1 : decode jdk_30_method_1_code 1 = .ok (.invokespecial 1, 3) := by decide +kernel
theorem d3_4 : decode jdk_30_method_1_code 4 = .ok (.return_, 1) := by decide +kernel
theorem own_pn3 : plainName "java/lang/Record" = true := by first | (simp [plainName, overriddenIn]; done) | decide +kernel
def Q_rm3 (Z : State) (a : Addr)  (h0 : Heap) (n0 : Nat) (v : Option Value) (h : Heap) (L : List Loc) : Prop := v = none ∧ Fr n0 L ∧ h = h0
theorem ef_rm3 (m : MethodId) (x0 : Addr) : entryFrame m #[(.ref x0)] 1 = mkF m 0 #[.val (.ref x0)] [] := by first | (simp [entryFrame, mkF, argsToLocals, Value.category]; done) | rfl
set_option maxRecDepth 65536 in
set_option maxHeartbeats 40000000 in
theorem rm3 (l : Launch) (Z : State) (a0 : Array Value) (hw : ∀ d ∈ tables_1, d.before a0 Z = true) (ws : List Jvm.Cond) (a : Addr)  (h0 : Heap) (n0 : Nat) (Z0 : n0 ≤ h0.size)  :
    MetFree l (⟨"java/lang/Record", "<init>", "()V"⟩ : MethodName) (head1 (Jvm.Cond.code (⟨"java/lang/Record", "<init>", "()V"⟩ : MethodName) jdk_30_method_1_code 1 none :: ws) ({ frames := 1, cells := 0, slots := 0, locals := 12 } : Room)) (fun a' U => a' = #[(.ref a)] ∧ Z.Warmed39 U.vm ∧ U.heap = h0) (fun _ _ _ _ _ => True) (fun _ U o U' => ∃ v L, o = .returned v ∧ Q_rm3 Z a h0 n0 v U'.heap L ∧ FrameEnd U o U' L ({ frames := 1, cells := 0, slots := 0, locals := 12 } : Room).cells ({ frames := 1, cells := 0, slots := 0, locals := 12 } : Room).slots) := by
  refine MetFree.of_bodySF (plainFor_of_name own_pn3) hisR ?_
  intro p e s m args below meth cd0 s₁ Bd hml0 hP hK
  obtain ⟨rfl, hZ, hh⟩ := hP
  have hx := Bd.exec
  have hby := Bd.bytes
  have hml : cd0.maxLocals = 1 := hml0
  have hown : s.vm.findClass "java/lang/Record" = some m.cls := findClass_of_methodNamed Bd.named
  have hnm := (name_of_methodNamed Bd.named Bd.method).1
  have X : Stand p l e ({ frames := 1, cells := 0, slots := 0, locals := 12 } : Room) s m #[(.ref a)] below meth cd0 s₁ [] 0 0 := Stand.of_body Bd
  have eh : s₁.heap = h0 := by rw [← hh, Bd.state]; rfl
  have N := Fr.nil n0
  have K : Keep h0 h0 [] := Keep.refl _ _
  have pre0 : ∀ t, Steps p.tables e below (s₁.setTop (mkF m 0 #[.val (.ref a)] [])) t → Steps p.tables e below (s₁.setTop (entryFrame m #[(.ref a)] 1)) t := fun t k => castTop (ef_rm3 m a) k
  have st : ∀ t, Steps p.tables e below (s₁.setTop (mkF m 0 #[.val (.ref a)] [])) t → Steps p.tables e below (s₁.setTop (mkF m 0 #[.val (.ref a)] [])) t := fun t k => k
  have st : ∀ t, Steps p.tables e below (s₁.setTop (mkF m 1 #[.val (.ref a)] [(.ref a)])) t → Steps p.tables e below (s₁.setTop (mkF m 0 #[.val (.ref a)] [])) t := fun t k => st t (by
      show Steps p.tables e below (s₁.setTop (mkF m 0 #[.val (.ref a)] [])) _
      refine XS.aloadN X.here hx rfl (hb hby d3_0) rfl rfl ?_
      exact k)
  obtain ⟨T1, X, eh, sx⟩ := initO X hx hZ hown (hw _ (List.mem_of_getElem? (i := 16) rfl)) (hw _ (List.mem_of_getElem? (i := 17) rfl)) (hw _ (List.mem_of_getElem? (i := 18) rfl)) eh (g := (mkF m 1 #[.val (.ref a)] [(.ref a)])) rfl (by rw [hml]; rfl) rfl (hb hby d3_1) (by decide) (W := 0) (by show 2 * 0 + _ ≤ _; exact Nat.le_of_eq rfl) (by decide)
  have st : ∀ t, Steps p.tables e below (T1.setTop (mkF m 4 #[.val (.ref a)] [])) t → Steps p.tables e below (s₁.setTop (mkF m 0 #[.val (.ref a)] [])) t := fun t k => st t (sx t k)
  obtain ⟨fs_, hr, hrun, hended, hW, hsame⟩ := X.leave (v := none) (fun _ => rfl)
  refine ⟨_, _, pre0 _ (st _ ?_), hrun, hended, _, _, rfl, ?_, ⟨_, rfl⟩, hW, hsame.mono (by decide) (by decide)⟩
  · exact X.returnOut hx Bd.returns (hb hby d3_4) hr
  · show Q_rm3 Z a h0 n0 _ T1.heap _
    rw [eh]
    exact ⟨rfl, N, rfl⟩
theorem d2_0 : decode prog_21_method_1_code 0 = .ok (.aload_n 0, 1) := by decide +kernel
theorem d2_1 : decode prog_21_method_1_code 1 = .ok (.invokespecial 1, 3) := by decide +kernel
theorem d2_4 : decode prog_21_method_1_code 4 = .ok (.iload_n 2, 1) := by decide +kernel
theorem d2_5 : decode prog_21_method_1_code 5 = .ok (.ifCond .lt 8, 3) := by decide +kernel
theorem d2_8 : decode prog_21_method_1_code 8 = .ok (.iload_n 1, 1) := by decide +kernel
theorem d2_9 : decode prog_21_method_1_code 9 = .ok (.iload_n 2, 1) := by decide +kernel
theorem d2_10 : decode prog_21_method_1_code 10 = .ok (.if_icmp .ge 18, 3) := by decide +kernel
theorem d2_28 : decode prog_21_method_1_code 28 = .ok (.aload_n 0, 1) := by decide +kernel
theorem d2_29 : decode prog_21_method_1_code 29 = .ok (.iload_n 1, 1) := by decide +kernel
theorem d2_30 : decode prog_21_method_1_code 30 = .ok (.putfield 16, 3) := by decide +kernel
theorem d2_33 : decode prog_21_method_1_code 33 = .ok (.aload_n 0, 1) := by decide +kernel
theorem d2_34 : decode prog_21_method_1_code 34 = .ok (.iload_n 2, 1) := by decide +kernel
theorem d2_35 : decode prog_21_method_1_code 35 = .ok (.putfield 22, 3) := by decide +kernel
theorem d2_38 : decode prog_21_method_1_code 38 = .ok (.return_, 1) := by decide +kernel
theorem own_pn2 : plainName "com/example/lockstep/lockstep/core/FailFastGroup$Tally" = true := by first | (simp [plainName, overriddenIn]; done) | decide +kernel
def Q_rm2 (Z : State) (a : Addr) (x1 : Int32) (x2 : Int32)  (h0 : Heap) (n0 : Nat) (v : Option Value) (h : Heap) (L : List Loc) : Prop := v = none ∧ Fr n0 L ∧ Keep h0 h [a] ∧ Fld Z h a "com/example/lockstep/lockstep/core/FailFastGroup$Tally" "finished" "I" (.int x1) ∧ Fld Z h a "com/example/lockstep/lockstep/core/FailFastGroup$Tally" "failed" "I" (.int x2)
theorem own_pd0 : parseMethodDescriptor "()V" = some ⟨[], none⟩ := by decide +kernel
theorem ef_rm2 (m : MethodId) (x0 : Addr) (x1 : Int32) (x2 : Int32) : entryFrame m #[(.ref x0), (.int x1), (.int x2)] 3 = mkF m 0 #[.val (.ref x0), .val (.int x1), .val (.int x2)] [] := by first | (simp [entryFrame, mkF, argsToLocals, Value.category]; done) | rfl
set_option maxRecDepth 65536 in
set_option maxHeartbeats 40000000 in
theorem rm2 (l : Launch) (Z : State) (a0 : Array Value) (hw : ∀ d ∈ tables_1, d.before a0 Z = true) (ws : List Jvm.Cond) (a : Addr) (x1 : Int32) (x2 : Int32)  (h0 : Heap) (n0 : Nat) (Z0 : n0 ≤ h0.size) (E_a : Exa Z h0 a "com/example/lockstep/lockstep/core/FailFastGroup$Tally") (g_a : n0 ≤ a) (F_a_finished : Fld Z h0 a "com/example/lockstep/lockstep/core/FailFastGroup$Tally" "finished" "I" (.int (0 : Int32))) (F_a_failed : Fld Z h0 a "com/example/lockstep/lockstep/core/FailFastGroup$Tally" "failed" "I" (.int (0 : Int32))) (h1 : ¬ x2 < (0 : Int32)) (h2 : ¬ x1 < x2) :
    MetFree l (⟨"com/example/lockstep/lockstep/core/FailFastGroup$Tally", "<init>", "(II)V"⟩ : MethodName) (head1 (Jvm.Cond.code (⟨"com/example/lockstep/lockstep/core/FailFastGroup$Tally", "<init>", "(II)V"⟩ : MethodName) prog_21_method_1_code 3 none :: ws) ({ frames := 2, cells := 0, slots := 0, locals := 24 } : Room)) (fun a' U => a' = #[(.ref a), (.int x1), (.int x2)] ∧ Z.Warmed39 U.vm ∧ U.heap = h0) (fun _ _ _ _ _ => True) (fun _ U o U' => ∃ v L, o = .returned v ∧ Q_rm2 Z a x1 x2 h0 n0 v U'.heap L ∧ FrameEnd U o U' L ({ frames := 2, cells := 0, slots := 0, locals := 24 } : Room).cells ({ frames := 2, cells := 0, slots := 0, locals := 24 } : Room).slots) := by
  refine MetFree.of_bodySF (plainFor_of_name own_pn2) hisR ?_
  intro p e s m args below meth cd0 s₁ Bd hml0 hP hK
  obtain ⟨rfl, hZ, hh⟩ := hP
  have hx := Bd.exec
  have hby := Bd.bytes
  have hml : cd0.maxLocals = 3 := hml0
  have hown : s.vm.findClass "com/example/lockstep/lockstep/core/FailFastGroup$Tally" = some m.cls := findClass_of_methodNamed Bd.named
  have hnm := (name_of_methodNamed Bd.named Bd.method).1
  have X : Stand p l e ({ frames := 2, cells := 0, slots := 0, locals := 24 } : Room) s m #[(.ref a), (.int x1), (.int x2)] below meth cd0 s₁ [] 0 0 := Stand.of_body Bd
  have eh : s₁.heap = h0 := by rw [← hh, Bd.state]; rfl
  have N := Fr.nil n0
  have K : Keep h0 h0 [a] := Keep.refl _ _
  have pre0 : ∀ t, Steps p.tables e below (s₁.setTop (mkF m 0 #[.val (.ref a), .val (.int x1), .val (.int x2)] [])) t → Steps p.tables e below (s₁.setTop (entryFrame m #[(.ref a), (.int x1), (.int x2)] 3)) t := fun t k => castTop (ef_rm2 m a x1 x2) k
  have st : ∀ t, Steps p.tables e below (s₁.setTop (mkF m 0 #[.val (.ref a), .val (.int x1), .val (.int x2)] [])) t → Steps p.tables e below (s₁.setTop (mkF m 0 #[.val (.ref a), .val (.int x1), .val (.int x2)] [])) t := fun t k => k
  have st : ∀ t, Steps p.tables e below (s₁.setTop (mkF m 1 #[.val (.ref a), .val (.int x1), .val (.int x2)] [(.ref a)])) t → Steps p.tables e below (s₁.setTop (mkF m 0 #[.val (.ref a), .val (.int x1), .val (.int x2)] [])) t := fun t k => st t (by
      show Steps p.tables e below (s₁.setTop (mkF m 0 #[.val (.ref a), .val (.int x1), .val (.int x2)] [])) _
      refine XS.aloadN X.here hx rfl (hb hby d2_0) rfl rfl ?_
      exact k)
  obtain ⟨_, _, ⟨T2, L1, k1, n1⟩, -, X, ⟨Lc1, hQ, l1, y1, z1⟩, sx⟩ := X.specialBack hx (y := (⟨"java/lang/Record", "<init>", "()V"⟩ : MethodName)) rfl hown (mvT hZ (hw _ (List.mem_of_getElem? (i := 11) rfl))) (mvT hZ (hw _ (List.mem_of_getElem? (i := 12) rfl))) (mvT hZ (hw _ (List.mem_of_getElem? (i := 15) rfl))) (by decide) (backOf (W := 0) (rm3 l Z a0 hw [] a  h0 n0 Z0 ) hZ (hw _ (List.mem_of_getElem? (i := 15) rfl)) (hw _ (List.mem_of_getElem? (i := 14) rfl)) (by decide) (by decide)) (g := (mkF m 1 #[.val (.ref a), .val (.int x1), .val (.int x2)] [(.ref a)])) rfl (by rw [hml]; rfl) (Steps.refl _) (a := a) (argsL := []) (rest := []) (lenOf own_pd0 rfl) rfl (by show 2 * 0 + _ ≤ _; exact Nat.le_of_eq rfl) (hb hby d2_1) (fun _ _ => ⟨rfl, eh, (by decide : 0 + 0 ≤ _), (by decide : 0 + 0 ≤ _)⟩)
  dsimp only [Pt.U, Pt.locs, Pt.cells, Pt.slots] at X l1 y1 z1 sx hQ
  subst l1 y1 z1
  obtain ⟨rfl, Nc, hsame_⟩ := hQ
  have st : ∀ t, Steps p.tables e below (T2.setTop (mkF m 4 #[.val (.ref a), .val (.int x1), .val (.int x2)] [])) t → Steps p.tables e below (s₁.setTop (mkF m 0 #[.val (.ref a), .val (.int x1), .val (.int x2)] [])) t := fun t k => st t (sx.trans k)
  have N := Fr.app N Nc
  have eh : T2.heap = h0 := hsame_
  have st : ∀ t, Steps p.tables e below (T2.setTop (mkF m 30 #[.val (.ref a), .val (.int x1), .val (.int x2)] [(.int x1), (.ref a)])) t → Steps p.tables e below (s₁.setTop (mkF m 0 #[.val (.ref a), .val (.int x1), .val (.int x2)] [])) t := fun t k => st t (by
      show Steps p.tables e below (T2.setTop (mkF m 4 #[.val (.ref a), .val (.int x1), .val (.int x2)] [])) _
      refine XS.iloadN X.here hx rfl (hb hby d2_4) rfl ?_
      show Steps p.tables e below (T2.setTop (mkF m 5 #[.val (.ref a), .val (.int x1), .val (.int x2)] [(.int x2)])) _
      refine XS.ifNo X.here hx rfl (hb hby d2_5) rfl ((if0 _ _).trans (flt h1).1) ?_
      show Steps p.tables e below (T2.setTop (mkF m 8 #[.val (.ref a), .val (.int x1), .val (.int x2)] [])) _
      refine XS.iloadN X.here hx rfl (hb hby d2_8) rfl ?_
      show Steps p.tables e below (T2.setTop (mkF m 9 #[.val (.ref a), .val (.int x1), .val (.int x2)] [(.int x1)])) _
      refine XS.iloadN X.here hx rfl (hb hby d2_9) rfl ?_
      show Steps p.tables e below (T2.setTop (mkF m 10 #[.val (.ref a), .val (.int x1), .val (.int x2)] [(.int x2), (.int x1)])) _
      refine XS.icmpYes X.here hx rfl (pc0 := 10) (pc' := 28) rfl (hb hby d2_10) rfl (flt h2).2.1 (by decide) (by decide) ?_
      show Steps p.tables e below (T2.setTop (mkF m 28 #[.val (.ref a), .val (.int x1), .val (.int x2)] [])) _
      refine XS.aloadN X.here hx rfl (hb hby d2_28) rfl rfl ?_
      show Steps p.tables e below (T2.setTop (mkF m 29 #[.val (.ref a), .val (.int x1), .val (.int x2)] [(.ref a)])) _
      refine XS.iloadN X.here hx rfl (hb hby d2_29) rfl ?_
      exact k)
  obtain ⟨T3, h4, X, eh, W5, sx⟩ := putF X hx hZ hown (host := "") (Or.inl (hw _ (List.mem_of_getElem? (i := 19) rfl))) Via.refl eh F_a_finished E_a (Or.inr ⟨(hw _ (List.mem_of_getElem? (i := 20) rfl)), rfl, hnm⟩) (hw _ (List.mem_of_getElem? (i := 6) rfl)) (ty := .int) (by decide) rfl rfl (g := (mkF m 30 #[.val (.ref a), .val (.int x1), .val (.int x2)] [(.int x1), (.ref a)])) rfl rfl (hb hby d2_30)
  have st : ∀ t, Steps p.tables e below (T3.setTop (mkF m 33 #[.val (.ref a), .val (.int x1), .val (.int x2)] [])) t → Steps p.tables e below (s₁.setTop (mkF m 0 #[.val (.ref a), .val (.int x1), .val (.int x2)] [])) t := fun t k => st t (sx t k)
  have F_a_finished := F_a_finished.same W5
  have F_a_failed := F_a_failed.other W5 (Or.inr (slot_ne (Or.inr (hw _ (List.mem_of_getElem? (i := 22) rfl))) (Or.inr (hw _ (List.mem_of_getElem? (i := 20) rfl))) (by decide) (t := .int) (t' := .int) (by decide) (by decide)))
  have E_a := E_a.wr W5
  have K := K.wr W5 (Or.inl (List.mem_of_getElem? (i := 0) rfl))
  have Z0 := Nat.le_trans Z0 (Keep.of_wr W5).1
  have N := Fr.snoc X N g_a
  have st : ∀ t, Steps p.tables e below (T3.setTop (mkF m 35 #[.val (.ref a), .val (.int x1), .val (.int x2)] [(.int x2), (.ref a)])) t → Steps p.tables e below (s₁.setTop (mkF m 0 #[.val (.ref a), .val (.int x1), .val (.int x2)] [])) t := fun t k => st t (by
      show Steps p.tables e below (T3.setTop (mkF m 33 #[.val (.ref a), .val (.int x1), .val (.int x2)] [])) _
      refine XS.aloadN X.here hx rfl (hb hby d2_33) rfl rfl ?_
      show Steps p.tables e below (T3.setTop (mkF m 34 #[.val (.ref a), .val (.int x1), .val (.int x2)] [(.ref a)])) _
      refine XS.iloadN X.here hx rfl (hb hby d2_34) rfl ?_
      exact k)
  obtain ⟨T6, h7, X, eh, W8, sx⟩ := putF X hx hZ hown (host := "") (Or.inl (hw _ (List.mem_of_getElem? (i := 21) rfl))) Via.refl eh F_a_failed E_a (Or.inr ⟨(hw _ (List.mem_of_getElem? (i := 22) rfl)), rfl, hnm⟩) (hw _ (List.mem_of_getElem? (i := 6) rfl)) (ty := .int) (by decide) rfl rfl (g := (mkF m 35 #[.val (.ref a), .val (.int x1), .val (.int x2)] [(.int x2), (.ref a)])) rfl rfl (hb hby d2_35)
  have st : ∀ t, Steps p.tables e below (T6.setTop (mkF m 38 #[.val (.ref a), .val (.int x1), .val (.int x2)] [])) t → Steps p.tables e below (s₁.setTop (mkF m 0 #[.val (.ref a), .val (.int x1), .val (.int x2)] [])) t := fun t k => st t (sx t k)
  have F_a_finished := F_a_finished.other W8 (Or.inr (slot_ne (Or.inr (hw _ (List.mem_of_getElem? (i := 20) rfl))) (Or.inr (hw _ (List.mem_of_getElem? (i := 22) rfl))) (by decide) (t := .int) (t' := .int) (by decide) (by decide)))
  have F_a_failed := F_a_failed.same W8
  have E_a := E_a.wr W8
  have K := K.wr W8 (Or.inl (List.mem_of_getElem? (i := 0) rfl))
  have Z0 := Nat.le_trans Z0 (Keep.of_wr W8).1
  have N := Fr.snoc X N g_a
  obtain ⟨fs_, hr, hrun, hended, hW, hsame⟩ := X.leave (v := none) (fun _ => rfl)
  refine ⟨_, _, pre0 _ (st _ ?_), hrun, hended, _, _, rfl, ?_, ⟨_, rfl⟩, hW, hsame.mono (by decide) (by decide)⟩
  · exact X.returnOut hx Bd.returns (hb hby d2_38) hr
  · show Q_rm2 Z a x1 x2 h0 n0 _ T6.heap _
    rw [eh]
    exact ⟨rfl, N, K, F_a_finished, F_a_failed⟩
theorem d6_0 : decode jdk_31_method_11_code 0 = .ok (.aload_n 0, 1) := by decide +kernel
theorem d6_1 : decode jdk_31_method_11_code 1 = .ok (.ifnonnull 12, 3) := by decide +kernel
theorem d6_13 : decode jdk_31_method_11_code 13 = .ok (.aload_n 0, 1) := by decide +kernel
theorem d6_14 : decode jdk_31_method_11_code 14 = .ok (.areturn, 1) := by decide +kernel
theorem own_pn6 : plainName "java/util/Objects" = true := by first | (simp [plainName, overriddenIn]; done) | decide +kernel
def Q_rm6 (Z : State) (a : Addr) (b : Addr)  (h0 : Heap) (n0 : Nat) (v : Option Value) (h : Heap) (L : List Loc) : Prop := v = some (.ref a) ∧ Fr n0 L ∧ h = h0
theorem ef_rm6 (m : MethodId) (x0 : Addr) (x1 : Addr) : entryFrame m #[(.ref x0), (.ref x1)] 2 = mkF m 0 #[.val (.ref x0), .val (.ref x1)] [] := by first | (simp [entryFrame, mkF, argsToLocals, Value.category]; done) | rfl
set_option maxRecDepth 65536 in
set_option maxHeartbeats 40000000 in
theorem rm6 (l : Launch) (Z : State) (a0 : Array Value) (hw : ∀ d ∈ tables_1, d.before a0 Z = true) (ws : List Jvm.Cond) (a : Addr) (b : Addr)  (h0 : Heap) (n0 : Nat) (Z0 : n0 ≤ h0.size)  :
    MetFree l (⟨"java/util/Objects", "requireNonNull", "(Ljava/lang/Object;Ljava/lang/String;)Ljava/lang/Object;"⟩ : MethodName) (head1 (Jvm.Cond.code (⟨"java/util/Objects", "requireNonNull", "(Ljava/lang/Object;Ljava/lang/String;)Ljava/lang/Object;"⟩ : MethodName) jdk_31_method_11_code 2 (some (.object "java/lang/Object")) :: ws) ({ frames := 0, cells := 0, slots := 0, locals := 0 } : Room)) (fun a' U => a' = #[(.ref a), (.ref b)] ∧ Z.Warmed39 U.vm ∧ U.heap = h0) (fun _ _ _ _ _ => True) (fun _ U o U' => ∃ v L, o = .returned v ∧ Q_rm6 Z a b h0 n0 v U'.heap L ∧ FrameEnd U o U' L ({ frames := 0, cells := 0, slots := 0, locals := 0 } : Room).cells ({ frames := 0, cells := 0, slots := 0, locals := 0 } : Room).slots) := by
  refine MetFree.of_bodySF (plainFor_of_name own_pn6) hisR ?_
  intro p e s m args below meth cd0 s₁ Bd hml0 hP hK
  obtain ⟨rfl, hZ, hh⟩ := hP
  have hx := Bd.exec
  have hby := Bd.bytes
  have hml : cd0.maxLocals = 2 := hml0
  have hown : s.vm.findClass "java/util/Objects" = some m.cls := findClass_of_methodNamed Bd.named
  have hnm := (name_of_methodNamed Bd.named Bd.method).1
  have X : Stand p l e ({ frames := 0, cells := 0, slots := 0, locals := 0 } : Room) s m #[(.ref a), (.ref b)] below meth cd0 s₁ [] 0 0 := Stand.of_body Bd
  have eh : s₁.heap = h0 := by rw [← hh, Bd.state]; rfl
  have N := Fr.nil n0
  have K : Keep h0 h0 [] := Keep.refl _ _
  have pre0 : ∀ t, Steps p.tables e below (s₁.setTop (mkF m 0 #[.val (.ref a), .val (.ref b)] [])) t → Steps p.tables e below (s₁.setTop (entryFrame m #[(.ref a), (.ref b)] 2)) t := fun t k => castTop (ef_rm6 m a b) k
  have st : ∀ t, Steps p.tables e below (s₁.setTop (mkF m 0 #[.val (.ref a), .val (.ref b)] [])) t → Steps p.tables e below (s₁.setTop (mkF m 0 #[.val (.ref a), .val (.ref b)] [])) t := fun t k => k
  have st : ∀ t, Steps p.tables e below (s₁.setTop (mkF m 14 #[.val (.ref a), .val (.ref b)] [(.ref a)])) t → Steps p.tables e below (s₁.setTop (mkF m 0 #[.val (.ref a), .val (.ref b)] [])) t := fun t k => st t (by
      show Steps p.tables e below (s₁.setTop (mkF m 0 #[.val (.ref a), .val (.ref b)] [])) _
      refine XS.aloadN X.here hx rfl (hb hby d6_0) rfl rfl ?_
      show Steps p.tables e below (s₁.setTop (mkF m 1 #[.val (.ref a), .val (.ref b)] [(.ref a)])) _
      refine XS.ifnonnullYes X.here hx rfl (pc0 := 1) (pc' := 13) rfl (hb hby d6_1) rfl (by decide) (by decide) ?_
      show Steps p.tables e below (s₁.setTop (mkF m 13 #[.val (.ref a), .val (.ref b)] [])) _
      refine XS.aloadN X.here hx rfl (hb hby d6_13) rfl rfl ?_
      exact k)
  obtain ⟨fs_, hr, hrun, hended, hW, hsame⟩ := X.leave (v := some (.ref a)) (fun h => by rw [Bd.returns] at h; cases h)
  refine ⟨_, _, pre0 _ (st _ ?_), hrun, hended, _, _, rfl, ?_, ⟨_, rfl⟩, hW, hsame.mono (by decide) (by decide)⟩
  · exact retOut X hx Bd.returns rfl (Or.inr (Or.inr (Or.inr (Or.inr ⟨rfl, rfl, rfl⟩)))) (hb hby d6_14) hr
  · show Q_rm6 Z a b h0 n0 _ s₁.heap _
    rw [eh]
    exact ⟨rfl, N, rfl⟩
theorem d7_0 : decode prog_21_method_6_code 0 = .ok (.aload_n 0, 1) := by decide +kernel
theorem d7_1 : decode prog_21_method_6_code 1 = .ok (.getfield 16, 3) := by decide +kernel
theorem d7_4 : decode prog_21_method_6_code 4 = .ok (.ireturn, 1) := by decide +kernel
def Q_rm7 (Z : State) (a : Addr) (x1 : Int32) (h0 : Heap) (n0 : Nat) (v : Option Value) (h : Heap) (L : List Loc) : Prop := v = some (.int x1) ∧ Fr n0 L ∧ h = h0
theorem ef_rm7 (m : MethodId) (x0 : Addr) : entryFrame m #[(.ref x0)] 1 = mkF m 0 #[.val (.ref x0)] [] := by first | (simp [entryFrame, mkF, argsToLocals, Value.category]; done) | rfl
set_option maxRecDepth 65536 in
set_option maxHeartbeats 40000000 in
theorem rm7 (l : Launch) (Z : State) (a0 : Array Value) (hw : ∀ d ∈ tables_1, d.before a0 Z = true) (ws : List Jvm.Cond) (a : Addr) (x1 : Int32) (h0 : Heap) (n0 : Nat) (Z0 : n0 ≤ h0.size) (F_a_finished : Fld Z h0 a "com/example/lockstep/lockstep/core/FailFastGroup$Tally" "finished" "I" (.int x1)) :
    MetFree l (⟨"com/example/lockstep/lockstep/core/FailFastGroup$Tally", "finished", "()I"⟩ : MethodName) (head1 (Jvm.Cond.code (⟨"com/example/lockstep/lockstep/core/FailFastGroup$Tally", "finished", "()I"⟩ : MethodName) prog_21_method_6_code 1 (some .int) :: ws) ({ frames := 0, cells := 0, slots := 0, locals := 0 } : Room)) (fun a' U => a' = #[(.ref a)] ∧ Z.Warmed39 U.vm ∧ U.heap = h0) (fun _ _ _ _ _ => True) (fun _ U o U' => ∃ v L, o = .returned v ∧ Q_rm7 Z a x1 h0 n0 v U'.heap L ∧ FrameEnd U o U' L ({ frames := 0, cells := 0, slots := 0, locals := 0 } : Room).cells ({ frames := 0, cells := 0, slots := 0, locals := 0 } : Room).slots) := by
  refine MetFree.of_bodySF (plainFor_of_name own_pn2) hisR ?_
  intro p e s m args below meth cd0 s₁ Bd hml0 hP hK
  obtain ⟨rfl, hZ, hh⟩ := hP
  have hx := Bd.exec
  have hby := Bd.bytes
  have hml : cd0.maxLocals = 1 := hml0
  have hown : s.vm.findClass "com/example/lockstep/lockstep/core/FailFastGroup$Tally" = some m.cls := findClass_of_methodNamed Bd.named
  have hnm := (name_of_methodNamed Bd.named Bd.method).1
  have X : Stand p l e ({ frames := 0, cells := 0, slots := 0, locals := 0 } : Room) s m #[(.ref a)] below meth cd0 s₁ [] 0 0 := Stand.of_body Bd
  have eh : s₁.heap = h0 := by rw [← hh, Bd.state]; rfl
  have N := Fr.nil n0
  have K : Keep h0 h0 [] := Keep.refl _ _
  have pre0 : ∀ t, Steps p.tables e below (s₁.setTop (mkF m 0 #[.val (.ref a)] [])) t → Steps p.tables e below (s₁.setTop (entryFrame m #[(.ref a)] 1)) t := fun t k => castTop (ef_rm7 m a) k
  have st : ∀ t, Steps p.tables e below (s₁.setTop (mkF m 0 #[.val (.ref a)] [])) t → Steps p.tables e below (s₁.setTop (mkF m 0 #[.val (.ref a)] [])) t := fun t k => k
  have st : ∀ t, Steps p.tables e below (s₁.setTop (mkF m 1 #[.val (.ref a)] [(.ref a)])) t → Steps p.tables e below (s₁.setTop (mkF m 0 #[.val (.ref a)] [])) t := fun t k => st t (by
      show Steps p.tables e below (s₁.setTop (mkF m 0 #[.val (.ref a)] [])) _
      refine XS.aloadN X.here hx rfl (hb hby d7_0) rfl rfl ?_
      exact k)
  obtain ⟨T1, X, eh, sx⟩ := getF X hx hZ hown (host := "") (Or.inl (hw _ (List.mem_of_getElem? (i := 19) rfl))) Via.refl eh F_a_finished (g := (mkF m 1 #[.val (.ref a)] [(.ref a)])) rfl rfl (hb hby d7_1)
  have st : ∀ t, Steps p.tables e below (T1.setTop (mkF m 4 #[.val (.ref a)] [(.int x1)])) t → Steps p.tables e below (s₁.setTop (mkF m 0 #[.val (.ref a)] [])) t := fun t k => st t (sx t k)
  obtain ⟨fs_, hr, hrun, hended, hW, hsame⟩ := X.leave (v := some (.int x1)) (fun h => by rw [Bd.returns] at h; cases h)
  refine ⟨_, _, pre0 _ (st _ ?_), hrun, hended, _, _, rfl, ?_, ⟨_, rfl⟩, hW, hsame.mono (by decide) (by decide)⟩
  · exact retI X hx Bd.returns (hb hby d7_4) hr
  · show Q_rm7 Z a x1 h0 n0 _ T1.heap _
    rw [eh]
    exact ⟨rfl, N, rfl⟩
theorem d9_0 : decode prog_21_method_7_code 0 = .ok (.aload_n 0, 1) := by decide +kernel
theorem d9_1 : decode prog_21_method_7_code 1 = .ok (.getfield 22, 3) := by decide +kernel
theorem d9_4 : decode prog_21_method_7_code 4 = .ok (.ireturn, 1) := by decide +kernel
def Q_rm9 (Z : State) (a : Addr) (x1 : Int32) (h0 : Heap) (n0 : Nat) (v : Option Value) (h : Heap) (L : List Loc) : Prop := v = some (.int x1) ∧ Fr n0 L ∧ h = h0
theorem ef_rm9 (m : MethodId) (x0 : Addr) : entryFrame m #[(.ref x0)] 1 = mkF m 0 #[.val (.ref x0)] [] := by first | (simp [entryFrame, mkF, argsToLocals, Value.category]; done) | rfl
set_option maxRecDepth 65536 in
set_option maxHeartbeats 40000000 in
theorem rm9 (l : Launch) (Z : State) (a0 : Array Value) (hw : ∀ d ∈ tables_1, d.before a0 Z = true) (ws : List Jvm.Cond) (a : Addr) (x1 : Int32) (h0 : Heap) (n0 : Nat) (Z0 : n0 ≤ h0.size) (F_a_failed : Fld Z h0 a "com/example/lockstep/lockstep/core/FailFastGroup$Tally" "failed" "I" (.int x1)) :
    MetFree l (⟨"com/example/lockstep/lockstep/core/FailFastGroup$Tally", "failed", "()I"⟩ : MethodName) (head1 (Jvm.Cond.code (⟨"com/example/lockstep/lockstep/core/FailFastGroup$Tally", "failed", "()I"⟩ : MethodName) prog_21_method_7_code 1 (some .int) :: ws) ({ frames := 0, cells := 0, slots := 0, locals := 0 } : Room)) (fun a' U => a' = #[(.ref a)] ∧ Z.Warmed39 U.vm ∧ U.heap = h0) (fun _ _ _ _ _ => True) (fun _ U o U' => ∃ v L, o = .returned v ∧ Q_rm9 Z a x1 h0 n0 v U'.heap L ∧ FrameEnd U o U' L ({ frames := 0, cells := 0, slots := 0, locals := 0 } : Room).cells ({ frames := 0, cells := 0, slots := 0, locals := 0 } : Room).slots) := by
  refine MetFree.of_bodySF (plainFor_of_name own_pn2) hisR ?_
  intro p e s m args below meth cd0 s₁ Bd hml0 hP hK
  obtain ⟨rfl, hZ, hh⟩ := hP
  have hx := Bd.exec
  have hby := Bd.bytes
  have hml : cd0.maxLocals = 1 := hml0
  have hown : s.vm.findClass "com/example/lockstep/lockstep/core/FailFastGroup$Tally" = some m.cls := findClass_of_methodNamed Bd.named
  have hnm := (name_of_methodNamed Bd.named Bd.method).1
  have X : Stand p l e ({ frames := 0, cells := 0, slots := 0, locals := 0 } : Room) s m #[(.ref a)] below meth cd0 s₁ [] 0 0 := Stand.of_body Bd
  have eh : s₁.heap = h0 := by rw [← hh, Bd.state]; rfl
  have N := Fr.nil n0
  have K : Keep h0 h0 [] := Keep.refl _ _
  have pre0 : ∀ t, Steps p.tables e below (s₁.setTop (mkF m 0 #[.val (.ref a)] [])) t → Steps p.tables e below (s₁.setTop (entryFrame m #[(.ref a)] 1)) t := fun t k => castTop (ef_rm9 m a) k
  have st : ∀ t, Steps p.tables e below (s₁.setTop (mkF m 0 #[.val (.ref a)] [])) t → Steps p.tables e below (s₁.setTop (mkF m 0 #[.val (.ref a)] [])) t := fun t k => k
  have st : ∀ t, Steps p.tables e below (s₁.setTop (mkF m 1 #[.val (.ref a)] [(.ref a)])) t → Steps p.tables e below (s₁.setTop (mkF m 0 #[.val (.ref a)] [])) t := fun t k => st t (by
      show Steps p.tables e below (s₁.setTop (mkF m 0 #[.val (.ref a)] [])) _
      refine XS.aloadN X.here hx rfl (hb hby d9_0) rfl rfl ?_
      exact k)
  obtain ⟨T1, X, eh, sx⟩ := getF X hx hZ hown (host := "") (Or.inl (hw _ (List.mem_of_getElem? (i := 21) rfl))) Via.refl eh F_a_failed (g := (mkF m 1 #[.val (.ref a)] [(.ref a)])) rfl rfl (hb hby d9_1)
  have st : ∀ t, Steps p.tables e below (T1.setTop (mkF m 4 #[.val (.ref a)] [(.int x1)])) t → Steps p.tables e below (s₁.setTop (mkF m 0 #[.val (.ref a)] [])) t := fun t k => st t (sx t k)
  obtain ⟨fs_, hr, hrun, hended, hW, hsame⟩ := X.leave (v := some (.int x1)) (fun h => by rw [Bd.returns] at h; cases h)
  refine ⟨_, _, pre0 _ (st _ ?_), hrun, hended, _, _, rfl, ?_, ⟨_, rfl⟩, hW, hsame.mono (by decide) (by decide)⟩
  · exact retI X hx Bd.returns (hb hby d9_4) hr
  · show Q_rm9 Z a x1 h0 n0 _ T1.heap _
    rw [eh]
    exact ⟨rfl, N, rfl⟩
theorem d5_0 : decode prog_22_method_1_code 0 = .ok (.aload_n 0, 1) := by decide +kernel
theorem d5_1 : decode prog_22_method_1_code 1 = .ok (.invokespecial 1, 3) := by decide +kernel
theorem d5_4 : decode prog_22_method_1_code 4 = .ok (.aload_n 1, 1) := by decide +kernel
theorem d5_5 : decode prog_22_method_1_code 5 = .ok (.ldc 7, 2) := by decide +kernel
theorem d5_7 : decode prog_22_method_1_code 7 = .ok (.invokestatic 9, 3) := by decide +kernel
theorem d5_10 : decode prog_22_method_1_code 10 = .ok (.pop, 1) := by decide +kernel
theorem d5_11 : decode prog_22_method_1_code 11 = .ok (.aload_n 2, 1) := by decide +kernel
theorem d5_12 : decode prog_22_method_1_code 12 = .ok (.ldc 15, 2) := by decide +kernel
theorem d5_14 : decode prog_22_method_1_code 14 = .ok (.invokestatic 9, 3) := by decide +kernel
theorem d5_17 : decode prog_22_method_1_code 17 = .ok (.pop, 1) := by decide +kernel
theorem d5_18 : decode prog_22_method_1_code 18 = .ok (.aload_n 2, 1) := by decide +kernel
theorem d5_19 : decode prog_22_method_1_code 19 = .ok (.invokevirtual 17, 3) := by decide +kernel
theorem d5_22 : decode prog_22_method_1_code 22 = .ok (.ifCond .ne 17, 3) := by decide +kernel
theorem d5_39 : decode prog_22_method_1_code 39 = .ok (.aload_n 0, 1) := by decide +kernel
theorem d5_40 : decode prog_22_method_1_code 40 = .ok (.aload_n 1, 1) := by decide +kernel
theorem d5_41 : decode prog_22_method_1_code 41 = .ok (.putfield 32, 3) := by decide +kernel
theorem d5_44 : decode prog_22_method_1_code 44 = .ok (.aload_n 0, 1) := by decide +kernel
theorem d5_45 : decode prog_22_method_1_code 45 = .ok (.aload_n 2, 1) := by decide +kernel
theorem d5_46 : decode prog_22_method_1_code 46 = .ok (.putfield 37, 3) := by decide +kernel
theorem d5_49 : decode prog_22_method_1_code 49 = .ok (.aload_n 0, 1) := by decide +kernel
theorem d5_50 : decode prog_22_method_1_code 50 = .ok (.iload_n 3, 1) := by decide +kernel
theorem d5_51 : decode prog_22_method_1_code 51 = .ok (.putfield 40, 3) := by decide +kernel
theorem d5_54 : decode prog_22_method_1_code 54 = .ok (.return_, 1) := by decide +kernel
theorem own_pn5 : plainName "com/example/lockstep/lockstep/core/FailFastGroup$Trip" = true := by first | (simp [plainName, overriddenIn]; done) | decide +kernel
def Q_rm5 (Z : State) (a : Addr) (gr : Addr) (ty : Addr) (th : Int32) (x1 : Int32) (h0 : Heap) (n0 : Nat) (v : Option Value) (h : Heap) (L : List Loc) : Prop := v = none ∧ Fr n0 L ∧ Keep h0 h [a] ∧ Fld Z h a "com/example/lockstep/lockstep/core/FailFastGroup$Trip" "group" "Ljava/lang/String;" (.ref gr) ∧ Fld Z h a "com/example/lockstep/lockstep/core/FailFastGroup$Trip" "tally" "Lcom/example/lockstep/lockstep/core/FailFastGroup$Tally;" (.ref ty) ∧ Fld Z h a "com/example/lockstep/lockstep/core/FailFastGroup$Trip" "thresholdPercent" "I" (.int th)
theorem own_pd1 : parseMethodDescriptor "(Ljava/lang/Object;Ljava/lang/String;)Ljava/lang/Object;" = some ⟨[(.object "java/lang/Object"), (.object "java/lang/String")], some (.object "java/lang/Object")⟩ := by decide +kernel
theorem own_pd2 : parseMethodDescriptor "()I" = some ⟨[], some .int⟩ := by decide +kernel
theorem ef_rm5 (m : MethodId) (x0 : Addr) (x1 : Addr) (x2 : Addr) (x3 : Int32) : entryFrame m #[(.ref x0), (.ref x1), (.ref x2), (.int x3)] 4 = mkF m 0 #[.val (.ref x0), .val (.ref x1), .val (.ref x2), .val (.int x3)] [] := by first | (simp [entryFrame, mkF, argsToLocals, Value.category]; done) | rfl
set_option maxRecDepth 65536 in
set_option maxHeartbeats 40000000 in
theorem rm5 (l : Launch) (Z : State) (a0 : Array Value) (hw : ∀ d ∈ tables_1, d.before a0 Z = true) (ws : List Jvm.Cond) (a : Addr) (gr : Addr) (ty : Addr) (th : Int32) (x1 : Int32) (h0 : Heap) (n0 : Nat) (Z0 : n0 ≤ h0.size) (E_a : Exa Z h0 a "com/example/lockstep/lockstep/core/FailFastGroup$Trip") (g_a : n0 ≤ a) (F_a_group : Fld Z h0 a "com/example/lockstep/lockstep/core/FailFastGroup$Trip" "group" "Ljava/lang/String;" .null) (F_a_tally : Fld Z h0 a "com/example/lockstep/lockstep/core/FailFastGroup$Trip" "tally" "Lcom/example/lockstep/lockstep/core/FailFastGroup$Tally;" .null) (F_a_thresholdPercent : Fld Z h0 a "com/example/lockstep/lockstep/core/FailFastGroup$Trip" "thresholdPercent" "I" (.int (0 : Int32))) (E_ty : Exa Z h0 ty "com/example/lockstep/lockstep/core/FailFastGroup$Tally") (F_ty_finished : Fld Z h0 ty "com/example/lockstep/lockstep/core/FailFastGroup$Tally" "finished" "I" (.int x1)) (ne_ty_a : ty ≠ a) (hx1 : ¬ x1 = (0 : Int32)) :
    MetFree l (⟨"com/example/lockstep/lockstep/core/FailFastGroup$Trip", "<init>", "(Ljava/lang/String;Lcom/example/lockstep/lockstep/core/FailFastGroup$Tally;I)V"⟩ : MethodName) (head1 (Jvm.Cond.code (⟨"com/example/lockstep/lockstep/core/FailFastGroup$Trip", "<init>", "(Ljava/lang/String;Lcom/example/lockstep/lockstep/core/FailFastGroup$Tally;I)V"⟩ : MethodName) prog_22_method_1_code 4 none :: ws) ({ frames := 2, cells := 4, slots := 48, locals := 24 } : Room)) (fun a' U => a' = #[(.ref a), (.ref gr), (.ref ty), (.int th)] ∧ Z.Warmed39 U.vm ∧ U.heap = h0) (fun _ _ _ _ _ => True) (fun _ U o U' => ∃ v L, o = .returned v ∧ Q_rm5 Z a gr ty th x1 h0 n0 v U'.heap L ∧ ReturnedEndW U o U' L ({ frames := 2, cells := 4, slots := 48, locals := 24 } : Room).cells ({ frames := 2, cells := 4, slots := 48, locals := 24 } : Room).slots) := by
  refine MetFree.of_bodySF (plainFor_of_name own_pn5) hisR ?_
  intro p e s m args below meth cd0 s₁ Bd hml0 hP hK
  obtain ⟨rfl, hZ, hh⟩ := hP
  have hx := Bd.exec
  have hby := Bd.bytes
  have hml : cd0.maxLocals = 4 := hml0
  have hown : s.vm.findClass "com/example/lockstep/lockstep/core/FailFastGroup$Trip" = some m.cls := findClass_of_methodNamed Bd.named
  have hnm := (name_of_methodNamed Bd.named Bd.method).1
  have X : Stand p l e ({ frames := 2, cells := 4, slots := 48, locals := 24 } : Room) s m #[(.ref a), (.ref gr), (.ref ty), (.int th)] below meth cd0 s₁ [] 0 0 := Stand.of_body Bd
  have eh : s₁.heap = h0 := by rw [← hh, Bd.state]; rfl
  have N := Fr.nil n0
  have K : Keep h0 h0 [a] := Keep.refl _ _
  have pre0 : ∀ t, Steps p.tables e below (s₁.setTop (mkF m 0 #[.val (.ref a), .val (.ref gr), .val (.ref ty), .val (.int th)] [])) t → Steps p.tables e below (s₁.setTop (entryFrame m #[(.ref a), (.ref gr), (.ref ty), (.int th)] 4)) t := fun t k => castTop (ef_rm5 m a gr ty th) k
  have st : ∀ t, Steps p.tables e below (s₁.setTop (mkF m 0 #[.val (.ref a), .val (.ref gr), .val (.ref ty), .val (.int th)] [])) t → Steps p.tables e below (s₁.setTop (mkF m 0 #[.val (.ref a), .val (.ref gr), .val (.ref ty), .val (.int th)] [])) t := fun t k => k
  have X : Stand p l e ({ frames := 2, cells := 4, slots := 48, locals := 24 } : Room) (s.setVm s.vm) m #[(.ref a), (.ref gr), (.ref ty), (.int th)] below meth cd0 s₁ [] 0 0 := by rw [State.setVm_self]; exact X
  have hZ : Z.Warmed39 (s.setVm s.vm).vm := hZ
  have hown : (s.setVm s.vm).vm.findClass "com/example/lockstep/lockstep/core/FailFastGroup$Trip" = some m.cls := hown
  have hS : s.Since s.vm h0.size := (State.WarmedH.refl s).since _
  have hk : h0.size ≤ h0.size := Nat.le_refl _
  have wS := own_wS hw
  have st : ∀ t, Steps p.tables e below (s₁.setTop (mkF m 1 #[.val (.ref a), .val (.ref gr), .val (.ref ty), .val (.int th)] [(.ref a)])) t → Steps p.tables e below (s₁.setTop (mkF m 0 #[.val (.ref a), .val (.ref gr), .val (.ref ty), .val (.int th)] [])) t := fun t k => st t (by
      show Steps p.tables e below (s₁.setTop (mkF m 0 #[.val (.ref a), .val (.ref gr), .val (.ref ty), .val (.int th)] [])) _
      refine XS.aloadN X.here hx rfl (hb hby d5_0) rfl rfl ?_
      exact k)
  obtain ⟨_, _, ⟨T2, L1, k1, n1⟩, -, X, ⟨Lc1, hQ, l1, y1, z1⟩, sx⟩ := X.specialBack hx (y := (⟨"java/lang/Record", "<init>", "()V"⟩ : MethodName)) rfl hown (mvT hZ (hw _ (List.mem_of_getElem? (i := 37) rfl))) (mvT hZ (hw _ (List.mem_of_getElem? (i := 12) rfl))) (mvT hZ (hw _ (List.mem_of_getElem? (i := 15) rfl))) (by decide) (backOf (W := 0) (rm3 l Z a0 hw [] a  h0 n0 Z0 ) hZ (hw _ (List.mem_of_getElem? (i := 15) rfl)) (hw _ (List.mem_of_getElem? (i := 14) rfl)) (by decide) (by decide)) (g := (mkF m 1 #[.val (.ref a), .val (.ref gr), .val (.ref ty), .val (.int th)] [(.ref a)])) rfl (by rw [hml]; rfl) (Steps.refl _) (a := a) (argsL := []) (rest := []) (lenOf own_pd0 rfl) rfl (by show 2 * 0 + _ ≤ _; exact Nat.le_of_eq rfl) (hb hby d5_1) (fun _ _ => ⟨rfl, eh, (by decide : 0 + 0 ≤ _), (by decide : 0 + 0 ≤ _)⟩)
  dsimp only [Pt.U, Pt.locs, Pt.cells, Pt.slots] at X l1 y1 z1 sx hQ
  subst l1 y1 z1
  obtain ⟨rfl, Nc, hsame_⟩ := hQ
  have st : ∀ t, Steps p.tables e below (T2.setTop (mkF m 4 #[.val (.ref a), .val (.ref gr), .val (.ref ty), .val (.int th)] [])) t → Steps p.tables e below (s₁.setTop (mkF m 0 #[.val (.ref a), .val (.ref gr), .val (.ref ty), .val (.int th)] [])) t := fun t k => st t (sx.trans k)
  have N := Fr.app N Nc
  have eh : T2.heap = h0 := hsame_
  have st : ∀ t, Steps p.tables e below (T2.setTop (mkF m 5 #[.val (.ref a), .val (.ref gr), .val (.ref ty), .val (.int th)] [(.ref gr)])) t → Steps p.tables e below (s₁.setTop (mkF m 0 #[.val (.ref a), .val (.ref gr), .val (.ref ty), .val (.int th)] [])) t := fun t k => st t (by
      show Steps p.tables e below (T2.setTop (mkF m 4 #[.val (.ref a), .val (.ref gr), .val (.ref ty), .val (.int th)] [])) _
      refine XS.aloadN X.here hx rfl (hb hby d5_4) rfl rfl ?_
      exact k)
  obtain ⟨str3, T4, h5, kk3, X, eh, E3, hS, hk, hZ, hown, sx⟩ := ldcS X hx hZ hown (hw _ (List.mem_of_getElem? (i := 38) rfl)) wS eh hS hk (g := (mkF m 5 #[.val (.ref a), .val (.ref gr), .val (.ref ty), .val (.int th)] [(.ref gr)])) rfl (hb hby d5_5) (n := 20) (by decide) (by decide) (by decide) (by decide)
  have st : ∀ t, Steps p.tables e below (T4.setTop (mkF m 7 #[.val (.ref a), .val (.ref gr), .val (.ref ty), .val (.int th)] [(.ref str3), (.ref gr)])) t → Steps p.tables e below (s₁.setTop (mkF m 0 #[.val (.ref a), .val (.ref gr), .val (.ref ty), .val (.int th)] [])) t := fun t k => st t (sx t k)
  have F_a_group := F_a_group.ext E3
  have F_a_tally := F_a_tally.ext E3
  have F_a_thresholdPercent := F_a_thresholdPercent.ext E3
  have F_ty_finished := F_ty_finished.ext E3
  have E_a := E_a.ext E3
  have E_ty := E_ty.ext E3
  have K := K.ext E3
  have Z0 := Nat.le_trans Z0 E3.1
  obtain ⟨_, _, ⟨T7, L6, k6, n6⟩, -, X, ⟨Lc6, hQ, l6, y6, z6⟩, sx⟩ := Jvm.LawKit.callS X hx (y := (⟨"java/util/Objects", "requireNonNull", "(Ljava/lang/Object;Ljava/lang/String;)Ljava/lang/Object;"⟩ : MethodName)) hown (mvT hZ (hw _ (List.mem_of_getElem? (i := 39) rfl))) (mvT hZ (hw _ (List.mem_of_getElem? (i := 40) rfl))) (mvT hZ (hw _ (List.mem_of_getElem? (i := 41) rfl))) (mvT hZ (hw _ (List.mem_of_getElem? (i := 42) rfl))) (by decide) (backOf (W := 0) (rm6 l Z a0 hw [] gr str3  h5 n0 Z0 ) hZ (hw _ (List.mem_of_getElem? (i := 42) rfl)) (hw _ (List.mem_of_getElem? (i := 41) rfl)) (by decide) (by decide)) (g := (mkF m 7 #[.val (.ref a), .val (.ref gr), .val (.ref ty), .val (.int th)] [(.ref str3), (.ref gr)])) rfl (by rw [hml]; rfl) (argsL := [(.ref gr), (.ref str3)]) (rest := []) (lenOf own_pd1 rfl) rfl (by show 2 * 0 + _ ≤ _; exact Nat.le_of_eq rfl) (hb hby d5_7) (fun _ _ => ⟨rfl, eh, (by decide : 2 + 0 ≤ _), (by decide : 24 + 0 ≤ _)⟩)
  dsimp only [Pt.U, Pt.locs, Pt.cells, Pt.slots] at X l6 y6 z6 sx hQ
  subst l6 y6 z6
  obtain ⟨rfl, Nc, hsame_⟩ := hQ
  have st : ∀ t, Steps p.tables e below (T7.setTop (mkF m 10 #[.val (.ref a), .val (.ref gr), .val (.ref ty), .val (.int th)] [(.ref gr)])) t → Steps p.tables e below (s₁.setTop (mkF m 0 #[.val (.ref a), .val (.ref gr), .val (.ref ty), .val (.int th)] [])) t := fun t k => st t (sx t k)
  have N := Fr.app N Nc
  have eh : T7.heap = h5 := hsame_
  have st : ∀ t, Steps p.tables e below (T7.setTop (mkF m 12 #[.val (.ref a), .val (.ref gr), .val (.ref ty), .val (.int th)] [(.ref ty)])) t → Steps p.tables e below (s₁.setTop (mkF m 0 #[.val (.ref a), .val (.ref gr), .val (.ref ty), .val (.int th)] [])) t := fun t k => st t (by
      show Steps p.tables e below (T7.setTop (mkF m 10 #[.val (.ref a), .val (.ref gr), .val (.ref ty), .val (.int th)] [(.ref gr)])) _
      refine XS.pop X.here hx rfl (hb hby d5_10) rfl rfl ?_
      show Steps p.tables e below (T7.setTop (mkF m 11 #[.val (.ref a), .val (.ref gr), .val (.ref ty), .val (.int th)] [])) _
      refine XS.aloadN X.here hx rfl (hb hby d5_11) rfl rfl ?_
      exact k)
  obtain ⟨str8, T9, h10, kk8, X, eh, E8, hS, hk, hZ, hown, sx⟩ := ldcS X hx hZ hown (hw _ (List.mem_of_getElem? (i := 43) rfl)) wS eh hS hk (g := (mkF m 12 #[.val (.ref a), .val (.ref gr), .val (.ref ty), .val (.int th)] [(.ref ty)])) rfl (hb hby d5_12) (n := 20) (by decide) (by decide) (by decide) (by decide)
  have st : ∀ t, Steps p.tables e below (T9.setTop (mkF m 14 #[.val (.ref a), .val (.ref gr), .val (.ref ty), .val (.int th)] [(.ref str8), (.ref ty)])) t → Steps p.tables e below (s₁.setTop (mkF m 0 #[.val (.ref a), .val (.ref gr), .val (.ref ty), .val (.int th)] [])) t := fun t k => st t (sx t k)
  have F_a_group := F_a_group.ext E8
  have F_a_tally := F_a_tally.ext E8
  have F_a_thresholdPercent := F_a_thresholdPercent.ext E8
  have F_ty_finished := F_ty_finished.ext E8
  have E_a := E_a.ext E8
  have E_ty := E_ty.ext E8
  have K := K.ext E8
  have Z0 := Nat.le_trans Z0 E8.1
  obtain ⟨_, _, ⟨T12, L11, k11, n11⟩, -, X, ⟨Lc11, hQ, l11, y11, z11⟩, sx⟩ := Jvm.LawKit.callS X hx (y := (⟨"java/util/Objects", "requireNonNull", "(Ljava/lang/Object;Ljava/lang/String;)Ljava/lang/Object;"⟩ : MethodName)) hown (mvT hZ (hw _ (List.mem_of_getElem? (i := 39) rfl))) (mvT hZ (hw _ (List.mem_of_getElem? (i := 40) rfl))) (mvT hZ (hw _ (List.mem_of_getElem? (i := 41) rfl))) (mvT hZ (hw _ (List.mem_of_getElem? (i := 42) rfl))) (by decide) (backOf (W := 0) (rm6 l Z a0 hw [] ty str8  h10 n0 Z0 ) hZ (hw _ (List.mem_of_getElem? (i := 42) rfl)) (hw _ (List.mem_of_getElem? (i := 41) rfl)) (by decide) (by decide)) (g := (mkF m 14 #[.val (.ref a), .val (.ref gr), .val (.ref ty), .val (.int th)] [(.ref str8), (.ref ty)])) rfl (by rw [hml]; rfl) (argsL := [(.ref ty), (.ref str8)]) (rest := []) (lenOf own_pd1 rfl) rfl (by show 2 * 0 + _ ≤ _; exact Nat.le_of_eq rfl) (hb hby d5_14) (fun _ _ => ⟨rfl, eh, (by decide : 4 + 0 ≤ _), (by decide : 48 + 0 ≤ _)⟩)
  dsimp only [Pt.U, Pt.locs, Pt.cells, Pt.slots] at X l11 y11 z11 sx hQ
  subst l11 y11 z11
  obtain ⟨rfl, Nc, hsame_⟩ := hQ
  have st : ∀ t, Steps p.tables e below (T12.setTop (mkF m 17 #[.val (.ref a), .val (.ref gr), .val (.ref ty), .val (.int th)] [(.ref ty)])) t → Steps p.tables e below (s₁.setTop (mkF m 0 #[.val (.ref a), .val (.ref gr), .val (.ref ty), .val (.int th)] [])) t := fun t k => st t (sx t k)
  have N := Fr.app N Nc
  have eh : T12.heap = h10 := hsame_
  have st : ∀ t, Steps p.tables e below (T12.setTop (mkF m 19 #[.val (.ref a), .val (.ref gr), .val (.ref ty), .val (.int th)] [(.ref ty)])) t → Steps p.tables e below (s₁.setTop (mkF m 0 #[.val (.ref a), .val (.ref gr), .val (.ref ty), .val (.int th)] [])) t := fun t k => st t (by
      show Steps p.tables e below (T12.setTop (mkF m 17 #[.val (.ref a), .val (.ref gr), .val (.ref ty), .val (.int th)] [(.ref ty)])) _
      refine XS.pop X.here hx rfl (hb hby d5_17) rfl rfl ?_
      show Steps p.tables e below (T12.setTop (mkF m 18 #[.val (.ref a), .val (.ref gr), .val (.ref ty), .val (.int th)] [])) _
      refine XS.aloadN X.here hx rfl (hb hby d5_18) rfl rfl ?_
      exact k)
  obtain ⟨cq13, kq13, qa13, qb13, qc13⟩ := isOf hZ eh E_ty
  obtain ⟨_, _, ⟨T14, L13, k13, n13⟩, -, X, ⟨Lc13, hQ, l13, y13, z13⟩, sx⟩ := X.virtualBack hx (y := (⟨"com/example/lockstep/lockstep/core/FailFastGroup$Tally", "finished", "()I"⟩ : MethodName)) (z := (⟨"com/example/lockstep/lockstep/core/FailFastGroup$Tally", "finished", "()I"⟩ : MethodName)) hown (mvT hZ (hw _ (List.mem_of_getElem? (i := 44) rfl))) (mvT hZ (hw _ (List.mem_of_getElem? (i := 45) rfl))) (notFace_of_selects (args := #[]) (mvT hZ (hw _ (List.mem_of_getElem? (i := 47) rfl)))) (mvT hZ (hw _ (List.mem_of_getElem? (i := 47) rfl))) (mvT hZ (hw _ (List.mem_of_getElem? (i := 46) rfl))) (by decide) (backOf (W := 0) (rm7 l Z a0 hw [] ty x1 h10 n0 Z0 F_ty_finished) hZ (hw _ (List.mem_of_getElem? (i := 48) rfl)) (hw _ (List.mem_of_getElem? (i := 7) rfl)) (by decide) (by decide)) qa13 qc13 (g := (mkF m 19 #[.val (.ref a), .val (.ref gr), .val (.ref ty), .val (.int th)] [(.ref ty)])) rfl (by rw [hml]; rfl) (Steps.refl _) (argsL := []) (rest := []) (lenOf own_pd2 rfl) rfl (by show 2 * 0 + _ ≤ _; exact Nat.le_of_eq rfl) (hb hby d5_19) (fun _ _ => ⟨rfl, eh, (by decide : 4 + 0 ≤ _), (by decide : 48 + 0 ≤ _)⟩)
  dsimp only [Pt.U, Pt.locs, Pt.cells, Pt.slots] at X l13 y13 z13 sx hQ
  subst l13 y13 z13
  obtain ⟨rfl, Nc, hsame_⟩ := hQ
  have st : ∀ t, Steps p.tables e below (T14.setTop (mkF m 22 #[.val (.ref a), .val (.ref gr), .val (.ref ty), .val (.int th)] [(.int x1)])) t → Steps p.tables e below (s₁.setTop (mkF m 0 #[.val (.ref a), .val (.ref gr), .val (.ref ty), .val (.int th)] [])) t := fun t k => st t (sx.trans k)
  have N := Fr.app N Nc
  have eh : T14.heap = h10 := hsame_
  have st : ∀ t, Steps p.tables e below (T14.setTop (mkF m 41 #[.val (.ref a), .val (.ref gr), .val (.ref ty), .val (.int th)] [(.ref gr), (.ref a)])) t → Steps p.tables e below (s₁.setTop (mkF m 0 #[.val (.ref a), .val (.ref gr), .val (.ref ty), .val (.int th)] [])) t := fun t k => st t (by
      show Steps p.tables e below (T14.setTop (mkF m 22 #[.val (.ref a), .val (.ref gr), .val (.ref ty), .val (.int th)] [(.int x1)])) _
      refine XS.ifYes X.here hx rfl (pc0 := 22) (pc' := 39) rfl (hb hby d5_22) rfl ((if0 _ _).trans (feq hx1).2) (by decide) (by decide) ?_
      show Steps p.tables e below (T14.setTop (mkF m 39 #[.val (.ref a), .val (.ref gr), .val (.ref ty), .val (.int th)] [])) _
      refine XS.aloadN X.here hx rfl (hb hby d5_39) rfl rfl ?_
      show Steps p.tables e below (T14.setTop (mkF m 40 #[.val (.ref a), .val (.ref gr), .val (.ref ty), .val (.int th)] [(.ref a)])) _
      refine XS.aloadN X.here hx rfl (hb hby d5_40) rfl rfl ?_
      exact k)
  obtain ⟨T15, h16, X, eh, W17, sx⟩ := putF X hx hZ hown (host := "") (Or.inl (hw _ (List.mem_of_getElem? (i := 49) rfl))) Via.refl eh F_a_group E_a (Or.inr ⟨(hw _ (List.mem_of_getElem? (i := 50) rfl)), rfl, hnm⟩) (hw _ (List.mem_of_getElem? (i := 24) rfl)) (ty := (.object "java/lang/String")) (by decide) rfl rfl (g := (mkF m 41 #[.val (.ref a), .val (.ref gr), .val (.ref ty), .val (.int th)] [(.ref gr), (.ref a)])) rfl rfl (hb hby d5_41)
  have st : ∀ t, Steps p.tables e below (T15.setTop (mkF m 44 #[.val (.ref a), .val (.ref gr), .val (.ref ty), .val (.int th)] [])) t → Steps p.tables e below (s₁.setTop (mkF m 0 #[.val (.ref a), .val (.ref gr), .val (.ref ty), .val (.int th)] [])) t := fun t k => st t (sx t k)
  have F_a_group := F_a_group.same W17
  have F_a_tally := F_a_tally.other W17 (Or.inr (slot_ne (Or.inr (hw _ (List.mem_of_getElem? (i := 52) rfl))) (Or.inr (hw _ (List.mem_of_getElem? (i := 50) rfl))) (by decide) (t := (.object "com/example/lockstep/lockstep/core/FailFastGroup$Tally")) (t' := (.object "java/lang/String")) (by decide) (by decide)))
  have F_a_thresholdPercent := F_a_thresholdPercent.other W17 (Or.inr (slot_ne (Or.inr (hw _ (List.mem_of_getElem? (i := 54) rfl))) (Or.inr (hw _ (List.mem_of_getElem? (i := 50) rfl))) (by decide) (t := .int) (t' := (.object "java/lang/String")) (by decide) (by decide)))
  have F_ty_finished := F_ty_finished.other W17 (Or.inl ne_ty_a)
  have E_a := E_a.wr W17
  have E_ty := E_ty.wr W17
  have K := K.wr W17 (Or.inl (List.mem_of_getElem? (i := 0) rfl))
  have Z0 := Nat.le_trans Z0 (Keep.of_wr W17).1
  have hk := Nat.le_trans hk (Keep.of_wr W17).1
  have N := Fr.snoc X N g_a
  have st : ∀ t, Steps p.tables e below (T15.setTop (mkF m 46 #[.val (.ref a), .val (.ref gr), .val (.ref ty), .val (.int th)] [(.ref ty), (.ref a)])) t → Steps p.tables e below (s₁.setTop (mkF m 0 #[.val (.ref a), .val (.ref gr), .val (.ref ty), .val (.int th)] [])) t := fun t k => st t (by
      show Steps p.tables e below (T15.setTop (mkF m 44 #[.val (.ref a), .val (.ref gr), .val (.ref ty), .val (.int th)] [])) _
      refine XS.aloadN X.here hx rfl (hb hby d5_44) rfl rfl ?_
      show Steps p.tables e below (T15.setTop (mkF m 45 #[.val (.ref a), .val (.ref gr), .val (.ref ty), .val (.int th)] [(.ref a)])) _
      refine XS.aloadN X.here hx rfl (hb hby d5_45) rfl rfl ?_
      exact k)
  obtain ⟨T18, h19, X, eh, W20, sx⟩ := putF X hx hZ hown (host := "") (Or.inl (hw _ (List.mem_of_getElem? (i := 51) rfl))) Via.refl eh F_a_tally E_a (Or.inr ⟨(hw _ (List.mem_of_getElem? (i := 52) rfl)), rfl, hnm⟩) (hw _ (List.mem_of_getElem? (i := 24) rfl)) (ty := (.object "com/example/lockstep/lockstep/core/FailFastGroup$Tally")) (by decide) rfl rfl (g := (mkF m 46 #[.val (.ref a), .val (.ref gr), .val (.ref ty), .val (.int th)] [(.ref ty), (.ref a)])) rfl rfl (hb hby d5_46)
  have st : ∀ t, Steps p.tables e below (T18.setTop (mkF m 49 #[.val (.ref a), .val (.ref gr), .val (.ref ty), .val (.int th)] [])) t → Steps p.tables e below (s₁.setTop (mkF m 0 #[.val (.ref a), .val (.ref gr), .val (.ref ty), .val (.int th)] [])) t := fun t k => st t (sx t k)
  have F_a_group := F_a_group.other W20 (Or.inr (slot_ne (Or.inr (hw _ (List.mem_of_getElem? (i := 50) rfl))) (Or.inr (hw _ (List.mem_of_getElem? (i := 52) rfl))) (by decide) (t := (.object "java/lang/String")) (t' := (.object "com/example/lockstep/lockstep/core/FailFastGroup$Tally")) (by decide) (by decide)))
  have F_a_tally := F_a_tally.same W20
  have F_a_thresholdPercent := F_a_thresholdPercent.other W20 (Or.inr (slot_ne (Or.inr (hw _ (List.mem_of_getElem? (i := 54) rfl))) (Or.inr (hw _ (List.mem_of_getElem? (i := 52) rfl))) (by decide) (t := .int) (t' := (.object "com/example/lockstep/lockstep/core/FailFastGroup$Tally")) (by decide) (by decide)))
  have F_ty_finished := F_ty_finished.other W20 (Or.inl ne_ty_a)
  have E_a := E_a.wr W20
  have E_ty := E_ty.wr W20
  have K := K.wr W20 (Or.inl (List.mem_of_getElem? (i := 0) rfl))
  have Z0 := Nat.le_trans Z0 (Keep.of_wr W20).1
  have hk := Nat.le_trans hk (Keep.of_wr W20).1
  have N := Fr.snoc X N g_a
  have st : ∀ t, Steps p.tables e below (T18.setTop (mkF m 51 #[.val (.ref a), .val (.ref gr), .val (.ref ty), .val (.int th)] [(.int th), (.ref a)])) t → Steps p.tables e below (s₁.setTop (mkF m 0 #[.val (.ref a), .val (.ref gr), .val (.ref ty), .val (.int th)] [])) t := fun t k => st t (by
      show Steps p.tables e below (T18.setTop (mkF m 49 #[.val (.ref a), .val (.ref gr), .val (.ref ty), .val (.int th)] [])) _
      refine XS.aloadN X.here hx rfl (hb hby d5_49) rfl rfl ?_
      show Steps p.tables e below (T18.setTop (mkF m 50 #[.val (.ref a), .val (.ref gr), .val (.ref ty), .val (.int th)] [(.ref a)])) _
      refine XS.iloadN X.here hx rfl (hb hby d5_50) rfl ?_
      exact k)
  obtain ⟨T21, h22, X, eh, W23, sx⟩ := putF X hx hZ hown (host := "") (Or.inl (hw _ (List.mem_of_getElem? (i := 53) rfl))) Via.refl eh F_a_thresholdPercent E_a (Or.inr ⟨(hw _ (List.mem_of_getElem? (i := 54) rfl)), rfl, hnm⟩) (hw _ (List.mem_of_getElem? (i := 24) rfl)) (ty := .int) (by decide) rfl rfl (g := (mkF m 51 #[.val (.ref a), .val (.ref gr), .val (.ref ty), .val (.int th)] [(.int th), (.ref a)])) rfl rfl (hb hby d5_51)
  have st : ∀ t, Steps p.tables e below (T21.setTop (mkF m 54 #[.val (.ref a), .val (.ref gr), .val (.ref ty), .val (.int th)] [])) t → Steps p.tables e below (s₁.setTop (mkF m 0 #[.val (.ref a), .val (.ref gr), .val (.ref ty), .val (.int th)] [])) t := fun t k => st t (sx t k)
  have F_a_group := F_a_group.other W23 (Or.inr (slot_ne (Or.inr (hw _ (List.mem_of_getElem? (i := 50) rfl))) (Or.inr (hw _ (List.mem_of_getElem? (i := 54) rfl))) (by decide) (t := (.object "java/lang/String")) (t' := .int) (by decide) (by decide)))
  have F_a_tally := F_a_tally.other W23 (Or.inr (slot_ne (Or.inr (hw _ (List.mem_of_getElem? (i := 52) rfl))) (Or.inr (hw _ (List.mem_of_getElem? (i := 54) rfl))) (by decide) (t := (.object "com/example/lockstep/lockstep/core/FailFastGroup$Tally")) (t' := .int) (by decide) (by decide)))
  have F_a_thresholdPercent := F_a_thresholdPercent.same W23
  have F_ty_finished := F_ty_finished.other W23 (Or.inl ne_ty_a)
  have E_a := E_a.wr W23
  have E_ty := E_ty.wr W23
  have K := K.wr W23 (Or.inl (List.mem_of_getElem? (i := 0) rfl))
  have Z0 := Nat.le_trans Z0 (Keep.of_wr W23).1
  have hk := Nat.le_trans hk (Keep.of_wr W23).1
  have N := Fr.snoc X N g_a
  have hk0 : ∀ n, n ≤ h22.size → n ≤ T21.heap.size := fun n q => by rw [eh]; exact q
  obtain ⟨fs_, hr, hrun, hended, hRE⟩ := X.leaveW hS (hk0 _ hk) (v := none) (fun _ => rfl)
  refine ⟨_, _, pre0 _ (st _ ?_), hrun, hended, _, _, rfl, ?_, hRE.1, hRE.2.1, hRE.2.2.1, hRE.2.2.2.mono (by decide) (by decide)⟩
  · exact X.returnOut hx Bd.returns (hb hby d5_54) hr
  · show Q_rm5 Z a gr ty th x1 h0 n0 _ T21.heap _
    rw [eh]
    exact ⟨rfl, N, K, F_a_group, F_a_tally, F_a_thresholdPercent⟩
theorem d8_0 : decode prog_22_method_2_code 0 = .ok (.ldc2_w 44, 3) := by decide +kernel
theorem d8_3 : decode prog_22_method_2_code 3 = .ok (.aload_n 0, 1) := by decide +kernel
theorem d8_4 : decode prog_22_method_2_code 4 = .ok (.getfield 37, 3) := by decide +kernel
theorem d8_7 : decode prog_22_method_2_code 7 = .ok (.invokevirtual 46, 3) := by decide +kernel
theorem d8_10 : decode prog_22_method_2_code 10 = .ok (.i2l, 1) := by decide +kernel
theorem d8_11 : decode prog_22_method_2_code 11 = .ok (.lmul, 1) := by decide +kernel
theorem d8_12 : decode prog_22_method_2_code 12 = .ok (.aload_n 0, 1) := by decide +kernel
theorem d8_13 : decode prog_22_method_2_code 13 = .ok (.getfield 37, 3) := by decide +kernel
theorem d8_16 : decode prog_22_method_2_code 16 = .ok (.invokevirtual 17, 3) := by decide +kernel
theorem d8_19 : decode prog_22_method_2_code 19 = .ok (.i2l, 1) := by decide +kernel
theorem d8_20 : decode prog_22_method_2_code 20 = .ok (.ldiv, 1) := by decide +kernel
theorem d8_21 : decode prog_22_method_2_code 21 = .ok (.l2i, 1) := by decide +kernel
theorem d8_22 : decode prog_22_method_2_code 22 = .ok (.ireturn, 1) := by decide +kernel
def Q_rm8 (Z : State) (a : Addr) (ty : Addr) (x1 x2 : Int32) (h0 : Heap) (n0 : Nat) (v : Option Value) (h : Heap) (L : List Loc) : Prop := v = some (.int (((100 : Int64) * x2.toInt64) / x1.toInt64).toInt32) ∧ Fr n0 L ∧ h = h0
theorem ef_rm8 (m : MethodId) (x0 : Addr) : entryFrame m #[(.ref x0)] 1 = mkF m 0 #[.val (.ref x0)] [] := by first | (simp [entryFrame, mkF, argsToLocals, Value.category]; done) | rfl
set_option maxRecDepth 65536 in
set_option maxHeartbeats 40000000 in
theorem rm8 (l : Launch) (Z : State) (a0 : Array Value) (hw : ∀ d ∈ tables_1, d.before a0 Z = true) (ws : List Jvm.Cond) (a : Addr) (ty : Addr) (x1 x2 : Int32) (h0 : Heap) (n0 : Nat) (Z0 : n0 ≤ h0.size) (F_a_tally : Fld Z h0 a "com/example/lockstep/lockstep/core/FailFastGroup$Trip" "tally" "Lcom/example/lockstep/lockstep/core/FailFastGroup$Tally;" (.ref ty)) (E_ty : Exa Z h0 ty "com/example/lockstep/lockstep/core/FailFastGroup$Tally") (F_ty_finished : Fld Z h0 ty "com/example/lockstep/lockstep/core/FailFastGroup$Tally" "finished" "I" (.int x1)) (F_ty_failed : Fld Z h0 ty "com/example/lockstep/lockstep/core/FailFastGroup$Tally" "failed" "I" (.int x2)) (hnz20 : x1.toInt64 ≠ 0) :
    MetFree l (⟨"com/example/lockstep/lockstep/core/FailFastGroup$Trip", "percentFailed", "()I"⟩ : MethodName) (head1 (Jvm.Cond.code (⟨"com/example/lockstep/lockstep/core/FailFastGroup$Trip", "percentFailed", "()I"⟩ : MethodName) prog_22_method_2_code 1 (some .int) :: ws) ({ frames := 1, cells := 0, slots := 0, locals := 14 } : Room)) (fun a' U => a' = #[(.ref a)] ∧ Z.Warmed39 U.vm ∧ U.heap = h0) (fun _ _ _ _ _ => True) (fun _ U o U' => ∃ v L, o = .returned v ∧ Q_rm8 Z a ty x1 x2 h0 n0 v U'.heap L ∧ FrameEnd U o U' L ({ frames := 1, cells := 0, slots := 0, locals := 14 } : Room).cells ({ frames := 1, cells := 0, slots := 0, locals := 14 } : Room).slots) := by
  refine MetFree.of_bodySF (plainFor_of_name own_pn5) hisR ?_
  intro p e s m args below meth cd0 s₁ Bd hml0 hP hK
  obtain ⟨rfl, hZ, hh⟩ := hP
  have hx := Bd.exec
  have hby := Bd.bytes
  have hml : cd0.maxLocals = 1 := hml0
  have hown : s.vm.findClass "com/example/lockstep/lockstep/core/FailFastGroup$Trip" = some m.cls := findClass_of_methodNamed Bd.named
  have hnm := (name_of_methodNamed Bd.named Bd.method).1
  have X : Stand p l e ({ frames := 1, cells := 0, slots := 0, locals := 14 } : Room) s m #[(.ref a)] below meth cd0 s₁ [] 0 0 := Stand.of_body Bd
  have eh : s₁.heap = h0 := by rw [← hh, Bd.state]; rfl
  have N := Fr.nil n0
  have K : Keep h0 h0 [] := Keep.refl _ _
  have pre0 : ∀ t, Steps p.tables e below (s₁.setTop (mkF m 0 #[.val (.ref a)] [])) t → Steps p.tables e below (s₁.setTop (entryFrame m #[(.ref a)] 1)) t := fun t k => castTop (ef_rm8 m a) k
  have st : ∀ t, Steps p.tables e below (s₁.setTop (mkF m 0 #[.val (.ref a)] [])) t → Steps p.tables e below (s₁.setTop (mkF m 0 #[.val (.ref a)] [])) t := fun t k => k
  have st : ∀ t, Steps p.tables e below (s₁.setTop (mkF m 4 #[.val (.ref a)] [(.ref a), (.long (100 : Int64))])) t → Steps p.tables e below (s₁.setTop (mkF m 0 #[.val (.ref a)] [])) t := fun t k => st t (by
      show Steps p.tables e below (s₁.setTop (mkF m 0 #[.val (.ref a)] [])) _
      refine X.ldc2Long hx hown (mvT hZ (hw _ (List.mem_of_getElem? (i := 60) rfl))) (g := (mkF m 0 #[.val (.ref a)] [])) rfl (hb hby d8_0) _ ?_
      show Steps p.tables e below (s₁.setTop (mkF m 3 #[.val (.ref a)] [(.long (100 : Int64))])) _
      refine XS.aloadN X.here hx rfl (hb hby d8_3) rfl rfl ?_
      exact k)
  obtain ⟨T1, X, eh, sx⟩ := getF X hx hZ hown (host := "") (Or.inl (hw _ (List.mem_of_getElem? (i := 51) rfl))) Via.refl eh F_a_tally (g := (mkF m 4 #[.val (.ref a)] [(.ref a), (.long (100 : Int64))])) rfl rfl (hb hby d8_4)
  have st : ∀ t, Steps p.tables e below (T1.setTop (mkF m 7 #[.val (.ref a)] [(.ref ty), (.long (100 : Int64))])) t → Steps p.tables e below (s₁.setTop (mkF m 0 #[.val (.ref a)] [])) t := fun t k => st t (sx t k)
  obtain ⟨cq2, kq2, qa2, qb2, qc2⟩ := isOf hZ eh E_ty
  obtain ⟨_, _, ⟨T3, L2, k2, n2⟩, -, X, ⟨Lc2, hQ, l2, y2, z2⟩, sx⟩ := X.virtualBack hx (y := (⟨"com/example/lockstep/lockstep/core/FailFastGroup$Tally", "failed", "()I"⟩ : MethodName)) (z := (⟨"com/example/lockstep/lockstep/core/FailFastGroup$Tally", "failed", "()I"⟩ : MethodName)) hown (mvT hZ (hw _ (List.mem_of_getElem? (i := 61) rfl))) (mvT hZ (hw _ (List.mem_of_getElem? (i := 62) rfl))) (notFace_of_selects (args := #[]) (mvT hZ (hw _ (List.mem_of_getElem? (i := 64) rfl)))) (mvT hZ (hw _ (List.mem_of_getElem? (i := 64) rfl))) (mvT hZ (hw _ (List.mem_of_getElem? (i := 63) rfl))) (by decide) (backOf (W := 2) (rm9 l Z a0 hw [] ty x2 h0 n0 Z0 F_ty_failed) hZ (hw _ (List.mem_of_getElem? (i := 65) rfl)) (hw _ (List.mem_of_getElem? (i := 7) rfl)) (by decide) (by decide)) qa2 qc2 (g := (mkF m 7 #[.val (.ref a)] [(.ref ty), (.long (100 : Int64))])) rfl (by rw [hml]; rfl) (Steps.refl _) (argsL := []) (rest := [(.long (100 : Int64))]) (lenOf own_pd2 rfl) rfl (by show 2 * 0 + _ ≤ _; exact Nat.le_of_eq rfl) (hb hby d8_7) (fun _ _ => ⟨rfl, eh, (by decide : 0 + 0 ≤ _), (by decide : 0 + 0 ≤ _)⟩)
  dsimp only [Pt.U, Pt.locs, Pt.cells, Pt.slots] at X l2 y2 z2 sx hQ
  subst l2 y2 z2
  obtain ⟨rfl, Nc, hsame_⟩ := hQ
  have st : ∀ t, Steps p.tables e below (T3.setTop (mkF m 10 #[.val (.ref a)] [(.int x2), (.long (100 : Int64))])) t → Steps p.tables e below (s₁.setTop (mkF m 0 #[.val (.ref a)] [])) t := fun t k => st t (sx.trans k)
  have N := Fr.app N Nc
  have eh : T3.heap = h0 := hsame_
  have st : ∀ t, Steps p.tables e below (T3.setTop (mkF m 13 #[.val (.ref a)] [(.ref a), (.long ((100 : Int64) * (x2.toInt64)))])) t → Steps p.tables e below (s₁.setTop (mkF m 0 #[.val (.ref a)] [])) t := fun t k => st t (by
      show Steps p.tables e below (T3.setTop (mkF m 10 #[.val (.ref a)] [(.int x2), (.long (100 : Int64))])) _
      refine XS.i2l X.here hx rfl (hb hby d8_10) rfl ?_
      show Steps p.tables e below (T3.setTop (mkF m 11 #[.val (.ref a)] [(.long (x2.toInt64)), (.long (100 : Int64))])) _
      refine XS.lmul X.here hx rfl (hb hby d8_11) rfl ?_
      show Steps p.tables e below (T3.setTop (mkF m 12 #[.val (.ref a)] [(.long ((100 : Int64) * (x2.toInt64)))])) _
      refine XS.aloadN X.here hx rfl (hb hby d8_12) rfl rfl ?_
      exact k)
  obtain ⟨T4, X, eh, sx⟩ := getF X hx hZ hown (host := "") (Or.inl (hw _ (List.mem_of_getElem? (i := 51) rfl))) Via.refl eh F_a_tally (g := (mkF m 13 #[.val (.ref a)] [(.ref a), (.long ((100 : Int64) * (x2.toInt64)))])) rfl rfl (hb hby d8_13)
  have st : ∀ t, Steps p.tables e below (T4.setTop (mkF m 16 #[.val (.ref a)] [(.ref ty), (.long ((100 : Int64) * (x2.toInt64)))])) t → Steps p.tables e below (s₁.setTop (mkF m 0 #[.val (.ref a)] [])) t := fun t k => st t (sx t k)
  obtain ⟨cq5, kq5, qa5, qb5, qc5⟩ := isOf hZ eh E_ty
  obtain ⟨_, _, ⟨T6, L5, k5, n5⟩, -, X, ⟨Lc5, hQ, l5, y5, z5⟩, sx⟩ := X.virtualBack hx (y := (⟨"com/example/lockstep/lockstep/core/FailFastGroup$Tally", "finished", "()I"⟩ : MethodName)) (z := (⟨"com/example/lockstep/lockstep/core/FailFastGroup$Tally", "finished", "()I"⟩ : MethodName)) hown (mvT hZ (hw _ (List.mem_of_getElem? (i := 44) rfl))) (mvT hZ (hw _ (List.mem_of_getElem? (i := 45) rfl))) (notFace_of_selects (args := #[]) (mvT hZ (hw _ (List.mem_of_getElem? (i := 47) rfl)))) (mvT hZ (hw _ (List.mem_of_getElem? (i := 47) rfl))) (mvT hZ (hw _ (List.mem_of_getElem? (i := 46) rfl))) (by decide) (backOf (W := 2) (rm7 l Z a0 hw [] ty x1 h0 n0 Z0 F_ty_finished) hZ (hw _ (List.mem_of_getElem? (i := 48) rfl)) (hw _ (List.mem_of_getElem? (i := 7) rfl)) (by decide) (by decide)) qa5 qc5 (g := (mkF m 16 #[.val (.ref a)] [(.ref ty), (.long ((100 : Int64) * (x2.toInt64)))])) rfl (by rw [hml]; rfl) (Steps.refl _) (argsL := []) (rest := [(.long ((100 : Int64) * (x2.toInt64)))]) (lenOf own_pd2 rfl) rfl (by show 2 * 0 + _ ≤ _; exact Nat.le_of_eq rfl) (hb hby d8_16) (fun _ _ => ⟨rfl, eh, (by decide : 0 + 0 ≤ _), (by decide : 0 + 0 ≤ _)⟩)
  dsimp only [Pt.U, Pt.locs, Pt.cells, Pt.slots] at X l5 y5 z5 sx hQ
  subst l5 y5 z5
  obtain ⟨rfl, Nc, hsame_⟩ := hQ
  have st : ∀ t, Steps p.tables e below (T6.setTop (mkF m 19 #[.val (.ref a)] [(.int x1), (.long ((100 : Int64) * (x2.toInt64)))])) t → Steps p.tables e below (s₁.setTop (mkF m 0 #[.val (.ref a)] [])) t := fun t k => st t (sx.trans k)
  have N := Fr.app N Nc
  have eh : T6.heap = h0 := hsame_
  have st : ∀ t, Steps p.tables e below (T6.setTop (mkF m 22 #[.val (.ref a)] [(.int ((((100 : Int64) * (x2.toInt64)) / (x1.toInt64)).toInt32))])) t → Steps p.tables e below (s₁.setTop (mkF m 0 #[.val (.ref a)] [])) t := fun t k => st t (by
      show Steps p.tables e below (T6.setTop (mkF m 19 #[.val (.ref a)] [(.int x1), (.long ((100 : Int64) * (x2.toInt64)))])) _
      refine XS.i2l X.here hx rfl (hb hby d8_19) rfl ?_
      show Steps p.tables e below (T6.setTop (mkF m 20 #[.val (.ref a)] [(.long (x1.toInt64)), (.long ((100 : Int64) * (x2.toInt64)))])) _
      refine XS.ldiv X.here hx rfl (hb hby d8_20) rfl hnz20 ?_
      show Steps p.tables e below (T6.setTop (mkF m 21 #[.val (.ref a)] [(.long (((100 : Int64) * (x2.toInt64)) / (x1.toInt64)))])) _
      refine XS.l2i X.here hx rfl (hb hby d8_21) rfl ?_
      exact k)
  obtain ⟨fs_, hr, hrun, hended, hW, hsame⟩ := X.leave (v := some (.int ((((100 : Int64) * (x2.toInt64)) / (x1.toInt64)).toInt32))) (fun h => by rw [Bd.returns] at h; cases h)
  refine ⟨_, _, pre0 _ (st _ ?_), hrun, hended, _, _, rfl, ?_, ⟨_, rfl⟩, hW, hsame.mono (by decide) (by decide)⟩
  · exact retI X hx Bd.returns (hb hby d8_22) hr
  · show Q_rm8 Z a ty x1 x2 h0 n0 _ T6.heap _
    rw [eh]
    exact ⟨rfl, N, rfl⟩
theorem own_succL (i : Nat) : Int64.ofNat i + (1 : Int64) = Int64.ofNat (i + 1) := (Int64.ofNat_add i 1).symm
theorem own_mulL (i j : Nat) : Int64.ofNat i * Int64.ofNat j = Int64.ofNat (i * j) := (Int64.ofNat_mul i j).symm
theorem own_mul100 (i : Nat) : (100 : Int64) * Int64.ofNat i = Int64.ofNat (100 * i) := own_mulL 100 i
theorem own_pct {x f : Nat} (h1 : 0 < x) (h2 : f ≤ x) : 100 * f / x ≤ 100 := by
  have := Nat.div_le_div_right (c := x) (Nat.mul_le_mul_left 100 h2)
  rw [Nat.mul_div_cancel _ h1] at this
  exact this
theorem own_low {x f : Nat} : ¬ (100 * f) < (100 * f / x) * x := Nat.not_lt.mpr (Nat.div_mul_le_self _ _)
theorem own_high {x f : Nat} (h1 : 0 < x) : 100 * f < (100 * f / x + 1) * x := by
  have := Nat.lt_mul_div_succ (100 * f) h1
  rw [Nat.mul_comm x] at this
  exact this
theorem own_bound {x f : Nat} (h1 : 0 < x) (h2 : f ≤ x) (hx : x ≤ 2147483647) : (100 * f / x + 1) * x ≤ 101 * 2147483647 ∧ (100 * f / x) * x ≤ 101 * 2147483647 := by
  have h := own_pct h1 h2
  exact ⟨Nat.mul_le_mul (by omega) hx, Nat.mul_le_mul (by omega) hx⟩
theorem own_pn0 : plainName "com/example/lockstep/lockstep/core/TripPercentFailedPinLaw" = true := by first | (simp [plainName, overriddenIn]; done) | decide +kernel
def Q_rm0 (Z : State) (y0 : Int32) (y1 : Int32)  (h0 : Heap) (n0 : Nat) (v : Option Value) (h : Heap) (L : List Loc) : Prop := v = some (.int 1) ∧ Fr n0 L
theorem own_pd3 : parseMethodDescriptor "(II)I" = some ⟨[.int, .int], some .int⟩ := by decide +kernel
theorem own_pd4 : parseMethodDescriptor "(II)V" = some ⟨[.int, .int], none⟩ := by decide +kernel
theorem own_pd5 : parseMethodDescriptor "(Ljava/lang/String;Lcom/example/lockstep/lockstep/core/FailFastGroup$Tally;I)V" = some ⟨[(.object "java/lang/String"), (.object "com/example/lockstep/lockstep/core/FailFastGroup$Tally"), .int], none⟩ := by decide +kernel
theorem ef_rm0 (m : MethodId) (x0 : Int32) (x1 : Int32) : entryFrame m #[(.int x0), (.int x1)] maxLocals = mkF m 0 #[.val (.int x0), .val (.int x1), .unset, .unset, .unset, .unset, .unset, .unset, .unset, .unset, .unset, .unset] [] := by first | (simp [entryFrame, mkF, argsToLocals, Value.category, maxLocals]; done) | rfl
set_option maxRecDepth 65536 in
set_option maxHeartbeats 40000000 in
theorem rm0 (l : Launch) (Z : State) (a0 : Array Value) (hw : ∀ d ∈ tables_1, d.before a0 Z = true) (ws : List Jvm.Cond) (y0 : Int32) (y1 : Int32)  (h0 : Heap) (n0 : Nat) (Z0 : n0 ≤ h0.size)  :
    MetFree l x (head1 (Jvm.Cond.code x code maxLocals ret :: ws) room_1) (fun a' U => a' = #[(.int y0), (.int y1)] ∧ Z.Warmed39 U.vm ∧ U.heap = h0) (fun _ _ _ _ _ => True) (fun _ U o U' => ∃ v L, o = .returned v ∧ Q_rm0 Z y0 y1 h0 n0 v U'.heap L ∧ ReturnedEndW U o U' L room_1.cells room_1.slots) := by
  refine MetFree.of_bodySF (plainFor_of_name own_pn0) hisR ?_
  intro p e s m args below meth cd0 s₁ Bd hml0 hP hK
  obtain ⟨rfl, hZ, hh⟩ := hP
  have hx := Bd.exec
  have hby := Bd.bytes
  have hml : cd0.maxLocals = 12 := hml0
  have hown : s.vm.findClass "com/example/lockstep/lockstep/core/TripPercentFailedPinLaw" = some m.cls := findClass_of_methodNamed Bd.named
  have hnm := (name_of_methodNamed Bd.named Bd.method).1
  have X : Stand p l e room_1 s m #[(.int y0), (.int y1)] below meth cd0 s₁ [] 0 0 := Stand.of_body Bd
  have eh : s₁.heap = h0 := by rw [← hh, Bd.state]; rfl
  have N := Fr.nil n0
  have K : Keep h0 h0 [] := Keep.refl _ _
  have pre0 : ∀ t, Steps p.tables e below (s₁.setTop (mkF m 0 #[.val (.int y0), .val (.int y1), .unset, .unset, .unset, .unset, .unset, .unset, .unset, .unset, .unset, .unset] [])) t → Steps p.tables e below (s₁.setTop (entryFrame m #[(.int y0), (.int y1)] maxLocals)) t := fun t k => castTop (ef_rm0 m y0 y1) k
  have st : ∀ t, Steps p.tables e below (s₁.setTop (mkF m 0 #[.val (.int y0), .val (.int y1), .unset, .unset, .unset, .unset, .unset, .unset, .unset, .unset, .unset, .unset] [])) t → Steps p.tables e below (s₁.setTop (mkF m 0 #[.val (.int y0), .val (.int y1), .unset, .unset, .unset, .unset, .unset, .unset, .unset, .unset, .unset, .unset] [])) t := fun t k => k
  have X : Stand p l e room_1 (s.setVm s.vm) m #[(.int y0), (.int y1)] below meth cd0 s₁ [] 0 0 := by rw [State.setVm_self]; exact X
  have hZ : Z.Warmed39 (s.setVm s.vm).vm := hZ
  have hown : (s.setVm s.vm).vm.findClass "com/example/lockstep/lockstep/core/TripPercentFailedPinLaw" = some m.cls := hown
  have hS : s.Since s.vm h0.size := (State.WarmedH.refl s).since _
  have hk : h0.size ≤ h0.size := Nat.le_refl _
  have wS := own_wS hw
  have st : ∀ t, Steps p.tables e below (s₁.setTop (mkF m 5 #[.val (.int y0), .val (.int y1), .unset, .unset, .unset, .unset, .unset, .unset, .unset, .unset, .unset, .unset] [(.int (y0 &&& (2147483647 : Int32))), (.int (1 : Int32))])) t → Steps p.tables e below (s₁.setTop (mkF m 0 #[.val (.int y0), .val (.int y1), .unset, .unset, .unset, .unset, .unset, .unset, .unset, .unset, .unset, .unset] [])) t := fun t k => st t (by
      show Steps p.tables e below (s₁.setTop (mkF m 0 #[.val (.int y0), .val (.int y1), .unset, .unset, .unset, .unset, .unset, .unset, .unset, .unset, .unset, .unset] [])) _
      refine XS.iconst X.here hx rfl (hb hby at_0) ?_
      show Steps p.tables e below (s₁.setTop (mkF m 1 #[.val (.int y0), .val (.int y1), .unset, .unset, .unset, .unset, .unset, .unset, .unset, .unset, .unset, .unset] [(.int (1 : Int32))])) _
      refine XS.iloadN X.here hx rfl (hb hby at_1) rfl ?_
      show Steps p.tables e below (s₁.setTop (mkF m 2 #[.val (.int y0), .val (.int y1), .unset, .unset, .unset, .unset, .unset, .unset, .unset, .unset, .unset, .unset] [(.int y0), (.int (1 : Int32))])) _
      refine X.ldcInt hx hown (mvT hZ (hw _ (List.mem_of_getElem? (i := 0) rfl))) (g := (mkF m 2 #[.val (.int y0), .val (.int y1), .unset, .unset, .unset, .unset, .unset, .unset, .unset, .unset, .unset, .unset] [(.int y0), (.int (1 : Int32))])) rfl (hb hby at_2) _ ?_
      show Steps p.tables e below (s₁.setTop (mkF m 4 #[.val (.int y0), .val (.int y1), .unset, .unset, .unset, .unset, .unset, .unset, .unset, .unset, .unset, .unset] [(.int (2147483647 : Int32)), (.int y0), (.int (1 : Int32))])) _
      refine XS.iand X.here hx rfl (hb hby at_4) rfl ?_
      exact k)
  obtain ⟨a1, ha1, ea1⟩ := own_m31 y0
  have st : ∀ t, Steps p.tables e below (s₁.setTop (mkF m 5 #[.val (.int y0), .val (.int y1), .unset, .unset, .unset, .unset, .unset, .unset, .unset, .unset, .unset, .unset] [(.int (Int32.ofNat a1)), (.int (1 : Int32))])) t → Steps p.tables e below (s₁.setTop (mkF m 0 #[.val (.int y0), .val (.int y1), .unset, .unset, .unset, .unset, .unset, .unset, .unset, .unset, .unset, .unset] [])) t := by rw [← ea1]; exact st
  obtain ⟨_, _, ⟨T2, L1, k1, n1⟩, -, X, ⟨Lc1, hQ, l1, y1, z1⟩, sx⟩ := Jvm.LawKit.callS X hx (y := (⟨"java/lang/Math", "max", "(II)I"⟩ : MethodName)) hown (mvT hZ (hw _ (List.mem_of_getElem? (i := 1) rfl))) (mvT hZ (hw _ (List.mem_of_getElem? (i := 2) rfl))) (mvT hZ (hw _ (List.mem_of_getElem? (i := 3) rfl))) (mvT hZ (hw _ (List.mem_of_getElem? (i := 4) rfl))) (by decide) (backOf (W := 0) (rm1 l Z a0 hw [] (1 : Int32) (Int32.ofNat a1)  h0 n0 Z0 ) hZ (hw _ (List.mem_of_getElem? (i := 4) rfl)) (hw _ (List.mem_of_getElem? (i := 3) rfl)) (by decide) (by decide)) (g := (mkF m 5 #[.val (.int y0), .val (.int y1), .unset, .unset, .unset, .unset, .unset, .unset, .unset, .unset, .unset, .unset] [(.int (Int32.ofNat a1)), (.int (1 : Int32))])) rfl (by rw [hml]; rfl) (argsL := [(.int (1 : Int32)), (.int (Int32.ofNat a1))]) (rest := []) (lenOf own_pd3 rfl) rfl (by show 2 * 0 + _ ≤ _; exact Nat.le_of_eq rfl) (hb hby at_5) (fun _ _ => ⟨rfl, eh, (by decide : 0 + 0 ≤ _), (by decide : 0 + 0 ≤ _)⟩)
  dsimp only [Pt.U, Pt.locs, Pt.cells, Pt.slots] at X l1 y1 z1 sx hQ
  subst l1 y1 z1
  obtain ⟨rfl, Nc, hsame_⟩ := hQ
  have st : ∀ t, Steps p.tables e below (T2.setTop (mkF m 8 #[.val (.int y0), .val (.int y1), .unset, .unset, .unset, .unset, .unset, .unset, .unset, .unset, .unset, .unset] [(.int (own_max (1 : Int32) (Int32.ofNat a1)))])) t → Steps p.tables e below (s₁.setTop (mkF m 0 #[.val (.int y0), .val (.int y1), .unset, .unset, .unset, .unset, .unset, .unset, .unset, .unset, .unset, .unset] [])) t := fun t k => st t (sx t k)
  have N := Fr.app N Nc
  have eh : T2.heap = h0 := hsame_
  obtain ⟨x, hx0⟩ : ∃ z, z = max 1 a1 := ⟨_, rfl⟩
  have hx1 : 0 < x := by omega
  have hx2 : x ≤ 2147483647 := by omega
  have st : ∀ t, Steps p.tables e below (T2.setTop (mkF m 8 #[.val (.int y0), .val (.int y1), .unset, .unset, .unset, .unset, .unset, .unset, .unset, .unset, .unset, .unset] [(.int (Int32.ofNat x))])) t → Steps p.tables e below (s₁.setTop (mkF m 0 #[.val (.int y0), .val (.int y1), .unset, .unset, .unset, .unset, .unset, .unset, .unset, .unset, .unset, .unset] [])) t := by rw [hx0, ← own_mx ha1]; exact st
  have st : ∀ t, Steps p.tables e below (T2.setTop (mkF m 13 #[.val (.int y0), .val (.int y1), .val (.int (Int32.ofNat x)), .unset, .unset, .unset, .unset, .unset, .unset, .unset, .unset, .unset] [(.int (y1 &&& (2147483647 : Int32)))])) t → Steps p.tables e below (s₁.setTop (mkF m 0 #[.val (.int y0), .val (.int y1), .unset, .unset, .unset, .unset, .unset, .unset, .unset, .unset, .unset, .unset] [])) t := fun t k => st t (by
      show Steps p.tables e below (T2.setTop (mkF m 8 #[.val (.int y0), .val (.int y1), .unset, .unset, .unset, .unset, .unset, .unset, .unset, .unset, .unset, .unset] [(.int (Int32.ofNat x))])) _
      refine XS.istoreN X.here hx rfl (hb hby at_8) rfl (l' := #[.val (.int y0), .val (.int y1), .val (.int (Int32.ofNat x)), .unset, .unset, .unset, .unset, .unset, .unset, .unset, .unset, .unset]) rfl ?_
      show Steps p.tables e below (T2.setTop (mkF m 9 #[.val (.int y0), .val (.int y1), .val (.int (Int32.ofNat x)), .unset, .unset, .unset, .unset, .unset, .unset, .unset, .unset, .unset] [])) _
      refine XS.iloadN X.here hx rfl (hb hby at_9) rfl ?_
      show Steps p.tables e below (T2.setTop (mkF m 10 #[.val (.int y0), .val (.int y1), .val (.int (Int32.ofNat x)), .unset, .unset, .unset, .unset, .unset, .unset, .unset, .unset, .unset] [(.int y1)])) _
      refine X.ldcInt hx hown (mvT hZ (hw _ (List.mem_of_getElem? (i := 0) rfl))) (g := (mkF m 10 #[.val (.int y0), .val (.int y1), .val (.int (Int32.ofNat x)), .unset, .unset, .unset, .unset, .unset, .unset, .unset, .unset, .unset] [(.int y1)])) rfl (hb hby at_10) _ ?_
      show Steps p.tables e below (T2.setTop (mkF m 12 #[.val (.int y0), .val (.int y1), .val (.int (Int32.ofNat x)), .unset, .unset, .unset, .unset, .unset, .unset, .unset, .unset, .unset] [(.int (2147483647 : Int32)), (.int y1)])) _
      refine XS.iand X.here hx rfl (hb hby at_12) rfl ?_
      exact k)
  obtain ⟨b1, hb1, eb1⟩ := own_m31 y1
  have st : ∀ t, Steps p.tables e below (T2.setTop (mkF m 13 #[.val (.int y0), .val (.int y1), .val (.int (Int32.ofNat x)), .unset, .unset, .unset, .unset, .unset, .unset, .unset, .unset, .unset] [(.int (Int32.ofNat b1))])) t → Steps p.tables e below (s₁.setTop (mkF m 0 #[.val (.int y0), .val (.int y1), .unset, .unset, .unset, .unset, .unset, .unset, .unset, .unset, .unset, .unset] [])) t := by rw [← eb1]; exact st
  have st : ∀ t, Steps p.tables e below (T2.setTop (mkF m 18 #[.val (.int y0), .val (.int y1), .val (.int (Int32.ofNat x)), .unset, .unset, .unset, .unset, .unset, .unset, .unset, .unset, .unset] [(.long (((Int32.ofNat x).toInt64) + (1 : Int64))), (.long ((Int32.ofNat b1).toInt64))])) t → Steps p.tables e below (s₁.setTop (mkF m 0 #[.val (.int y0), .val (.int y1), .unset, .unset, .unset, .unset, .unset, .unset, .unset, .unset, .unset, .unset] [])) t := fun t k => st t (by
      show Steps p.tables e below (T2.setTop (mkF m 13 #[.val (.int y0), .val (.int y1), .val (.int (Int32.ofNat x)), .unset, .unset, .unset, .unset, .unset, .unset, .unset, .unset, .unset] [(.int (Int32.ofNat b1))])) _
      refine XS.i2l X.here hx rfl (hb hby at_13) rfl ?_
      show Steps p.tables e below (T2.setTop (mkF m 14 #[.val (.int y0), .val (.int y1), .val (.int (Int32.ofNat x)), .unset, .unset, .unset, .unset, .unset, .unset, .unset, .unset, .unset] [(.long ((Int32.ofNat b1).toInt64))])) _
      refine XS.iloadN X.here hx rfl (hb hby at_14) rfl ?_
      show Steps p.tables e below (T2.setTop (mkF m 15 #[.val (.int y0), .val (.int y1), .val (.int (Int32.ofNat x)), .unset, .unset, .unset, .unset, .unset, .unset, .unset, .unset, .unset] [(.int (Int32.ofNat x)), (.long ((Int32.ofNat b1).toInt64))])) _
      refine XS.i2l X.here hx rfl (hb hby at_15) rfl ?_
      show Steps p.tables e below (T2.setTop (mkF m 16 #[.val (.int y0), .val (.int y1), .val (.int (Int32.ofNat x)), .unset, .unset, .unset, .unset, .unset, .unset, .unset, .unset, .unset] [(.long ((Int32.ofNat x).toInt64)), (.long ((Int32.ofNat b1).toInt64))])) _
      refine XS.lconst X.here hx rfl (hb hby at_16) ?_
      show Steps p.tables e below (T2.setTop (mkF m 17 #[.val (.int y0), .val (.int y1), .val (.int (Int32.ofNat x)), .unset, .unset, .unset, .unset, .unset, .unset, .unset, .unset, .unset] [(.long (1 : Int64)), (.long ((Int32.ofNat x).toInt64)), (.long ((Int32.ofNat b1).toInt64))])) _
      refine XS.ladd X.here hx rfl (hb hby at_17) rfl ?_
      exact k)
  have st : ∀ t, Steps p.tables e below (T2.setTop (mkF m 18 #[.val (.int y0), .val (.int y1), .val (.int (Int32.ofNat x)), .unset, .unset, .unset, .unset, .unset, .unset, .unset, .unset, .unset] [(.long (Int64.ofNat (x + 1))), (.long (Int64.ofNat b1))])) t → Steps p.tables e below (s₁.setTop (mkF m 0 #[.val (.int y0), .val (.int y1), .unset, .unset, .unset, .unset, .unset, .unset, .unset, .unset, .unset, .unset] [])) t := by rw [← own_succL x, ← own_ext hx2, ← own_ext hb1]; exact st
  have hnz18 : Int64.ofNat (x + 1) ≠ 0 := fun q => by
    have q' := congrArg Int64.toInt q
    rw [own_toIntL (by omega)] at q'
    have : (0 : Int64).toInt = 0 := rfl
    omega
  have st : ∀ t, Steps p.tables e below (T2.setTop (mkF m 20 #[.val (.int y0), .val (.int y1), .val (.int (Int32.ofNat x)), .unset, .unset, .unset, .unset, .unset, .unset, .unset, .unset, .unset] [(.int (((Int64.ofNat b1) - ((Int64.ofNat b1) / (Int64.ofNat (x + 1))) * (Int64.ofNat (x + 1))).toInt32))])) t → Steps p.tables e below (s₁.setTop (mkF m 0 #[.val (.int y0), .val (.int y1), .unset, .unset, .unset, .unset, .unset, .unset, .unset, .unset, .unset, .unset] [])) t := fun t k => st t (by
      show Steps p.tables e below (T2.setTop (mkF m 18 #[.val (.int y0), .val (.int y1), .val (.int (Int32.ofNat x)), .unset, .unset, .unset, .unset, .unset, .unset, .unset, .unset, .unset] [(.long (Int64.ofNat (x + 1))), (.long (Int64.ofNat b1))])) _
      refine XS.lrem X.here hx rfl (hb hby at_18) rfl hnz18 ?_
      show Steps p.tables e below (T2.setTop (mkF m 19 #[.val (.int y0), .val (.int y1), .val (.int (Int32.ofNat x)), .unset, .unset, .unset, .unset, .unset, .unset, .unset, .unset, .unset] [(.long ((Int64.ofNat b1) - ((Int64.ofNat b1) / (Int64.ofNat (x + 1))) * (Int64.ofNat (x + 1))))])) _
      refine XS.l2i X.here hx rfl (hb hby at_19) rfl ?_
      exact k)
  obtain ⟨f, hf0⟩ : ∃ z, z = b1 % (x + 1) := ⟨_, rfl⟩
  have hf1 : f ≤ x := by rw [hf0]; exact Nat.le_of_lt_succ (Nat.mod_lt _ (by omega))
  have st : ∀ t, Steps p.tables e below (T2.setTop (mkF m 20 #[.val (.int y0), .val (.int y1), .val (.int (Int32.ofNat x)), .unset, .unset, .unset, .unset, .unset, .unset, .unset, .unset, .unset] [(.int (Int32.ofNat f))])) t → Steps p.tables e below (s₁.setTop (mkF m 0 #[.val (.int y0), .val (.int y1), .unset, .unset, .unset, .unset, .unset, .unset, .unset, .unset, .unset, .unset] [])) t := by rw [← own_narrow (i := f) (by omega), hf0, ← own_remL (i := b1) (j := x + 1) (by omega) (by omega) (by omega)]; exact st
  have st : ∀ t, Steps p.tables e below (T2.setTop (mkF m 21 #[.val (.int y0), .val (.int y1), .val (.int (Int32.ofNat x)), .val (.int (Int32.ofNat f)), .unset, .unset, .unset, .unset, .unset, .unset, .unset, .unset] [])) t → Steps p.tables e below (s₁.setTop (mkF m 0 #[.val (.int y0), .val (.int y1), .unset, .unset, .unset, .unset, .unset, .unset, .unset, .unset, .unset, .unset] [])) t := fun t k => st t (by
      show Steps p.tables e below (T2.setTop (mkF m 20 #[.val (.int y0), .val (.int y1), .val (.int (Int32.ofNat x)), .unset, .unset, .unset, .unset, .unset, .unset, .unset, .unset, .unset] [(.int (Int32.ofNat f))])) _
      refine XS.istoreN X.here hx rfl (hb hby at_20) rfl (l' := #[.val (.int y0), .val (.int y1), .val (.int (Int32.ofNat x)), .val (.int (Int32.ofNat f)), .unset, .unset, .unset, .unset, .unset, .unset, .unset, .unset]) rfl ?_
      exact k)
  obtain ⟨T3, h4, X, eh, E5, E_ty, D5, -, sx⟩ := newO X hx hZ hown (hw _ (List.mem_of_getElem? (i := 5) rfl)) (hw _ (List.mem_of_getElem? (i := 6) rfl)) (hw _ (List.mem_of_getElem? (i := 7) rfl)) eh (g := (mkF m 21 #[.val (.int y0), .val (.int y1), .val (.int (Int32.ofNat x)), .val (.int (Int32.ofNat f)), .unset, .unset, .unset, .unset, .unset, .unset, .unset, .unset] [])) rfl (hb hby at_21) (by decide) (by decide)
  obtain ⟨ty, g5⟩ : ∃ z, z = h0.size := ⟨_, rfl⟩
  have g_ty : n0 ≤ ty := Nat.le_trans Z0 (Nat.le_of_eq g5.symm)
  rw [← g5] at E_ty D5 sx
  have st : ∀ t, Steps p.tables e below (T3.setTop (mkF m 24 #[.val (.int y0), .val (.int y1), .val (.int (Int32.ofNat x)), .val (.int (Int32.ofNat f)), .unset, .unset, .unset, .unset, .unset, .unset, .unset, .unset] [(.ref ty)])) t → Steps p.tables e below (s₁.setTop (mkF m 0 #[.val (.int y0), .val (.int y1), .unset, .unset, .unset, .unset, .unset, .unset, .unset, .unset, .unset, .unset] [])) t := fun t k => st t (sx t k)
  have Z0 := Nat.le_trans Z0 E5.1
  have hk := Nat.le_trans hk E5.1
  have F_ty_finished : Fld Z h4 ty "com/example/lockstep/lockstep/core/FailFastGroup$Tally" "finished" "I" (.int (0 : Int32)) := D5 (Or.inr (hw _ (List.mem_of_getElem? (i := 20) rfl))) (ty := .int) (by decide)
  have F_ty_failed : Fld Z h4 ty "com/example/lockstep/lockstep/core/FailFastGroup$Tally" "failed" "I" (.int (0 : Int32)) := D5 (Or.inr (hw _ (List.mem_of_getElem? (i := 22) rfl))) (ty := .int) (by decide)
  have c1 : ¬ Int32.ofNat f < (0 : Int32) := fun q => by
    have := (own_lt (i := f) (j := 0) (by omega) (by decide)).mp q
    omega
  have c2 : ¬ Int32.ofNat x < Int32.ofNat f := fun q => by
    have := (own_lt (by omega) (by omega)).mp q
    omega
  have c3 : ¬ Int32.ofNat x = (0 : Int32) := fun q => by
    have q' := congrArg Int32.toInt q
    rw [own_toInt hx2] at q'
    have : (0 : Int32).toInt = 0 := rfl
    omega
  have c4 : (Int32.ofNat x).toInt64 ≠ 0 := fun q => by
    have q' := congrArg Int64.toInt q
    rw [Int32.toInt_toInt64, own_toInt hx2] at q'
    have : (0 : Int64).toInt = 0 := rfl
    omega
  have st : ∀ t, Steps p.tables e below (T3.setTop (mkF m 27 #[.val (.int y0), .val (.int y1), .val (.int (Int32.ofNat x)), .val (.int (Int32.ofNat f)), .unset, .unset, .unset, .unset, .unset, .unset, .unset, .unset] [(.int (Int32.ofNat f)), (.int (Int32.ofNat x)), (.ref ty), (.ref ty)])) t → Steps p.tables e below (s₁.setTop (mkF m 0 #[.val (.int y0), .val (.int y1), .unset, .unset, .unset, .unset, .unset, .unset, .unset, .unset, .unset, .unset] [])) t := fun t k => st t (by
      show Steps p.tables e below (T3.setTop (mkF m 24 #[.val (.int y0), .val (.int y1), .val (.int (Int32.ofNat x)), .val (.int (Int32.ofNat f)), .unset, .unset, .unset, .unset, .unset, .unset, .unset, .unset] [(.ref ty)])) _
      refine XS.dup X.here hx rfl (hb hby at_24) rfl rfl ?_
      show Steps p.tables e below (T3.setTop (mkF m 25 #[.val (.int y0), .val (.int y1), .val (.int (Int32.ofNat x)), .val (.int (Int32.ofNat f)), .unset, .unset, .unset, .unset, .unset, .unset, .unset, .unset] [(.ref ty), (.ref ty)])) _
      refine XS.iloadN X.here hx rfl (hb hby at_25) rfl ?_
      show Steps p.tables e below (T3.setTop (mkF m 26 #[.val (.int y0), .val (.int y1), .val (.int (Int32.ofNat x)), .val (.int (Int32.ofNat f)), .unset, .unset, .unset, .unset, .unset, .unset, .unset, .unset] [(.int (Int32.ofNat x)), (.ref ty), (.ref ty)])) _
      refine XS.iloadN X.here hx rfl (hb hby at_26) rfl ?_
      exact k)
  obtain ⟨_, _, ⟨T7, L6, k6, n6⟩, -, X, ⟨Lc6, hQ, l6, y6, z6⟩, sx⟩ := X.specialBack hx (y := (⟨"com/example/lockstep/lockstep/core/FailFastGroup$Tally", "<init>", "(II)V"⟩ : MethodName)) rfl hown (mvT hZ (hw _ (List.mem_of_getElem? (i := 8) rfl))) (mvT hZ (hw _ (List.mem_of_getElem? (i := 9) rfl))) (mvT hZ (hw _ (List.mem_of_getElem? (i := 10) rfl))) (by decide) (backOf (W := 1) (rm2 l Z a0 hw [] ty (Int32.ofNat x) (Int32.ofNat f)  h4 n0 Z0 E_ty g_ty F_ty_finished F_ty_failed c1 c2) hZ (hw _ (List.mem_of_getElem? (i := 10) rfl)) (hw _ (List.mem_of_getElem? (i := 7) rfl)) (by decide) (by decide)) (g := (mkF m 27 #[.val (.int y0), .val (.int y1), .val (.int (Int32.ofNat x)), .val (.int (Int32.ofNat f)), .unset, .unset, .unset, .unset, .unset, .unset, .unset, .unset] [(.int (Int32.ofNat f)), (.int (Int32.ofNat x)), (.ref ty), (.ref ty)])) rfl (by rw [hml]; rfl) (Steps.refl _) (a := ty) (argsL := [(.int (Int32.ofNat x)), (.int (Int32.ofNat f))]) (rest := [(.ref ty)]) (lenOf own_pd4 rfl) rfl (by show 2 * 0 + _ ≤ _; exact Nat.le_of_eq rfl) (hb hby at_27) (fun _ _ => ⟨rfl, eh, (by decide : 1 + 0 ≤ _), (by decide : 2 + 0 ≤ _)⟩)
  dsimp only [Pt.U, Pt.locs, Pt.cells, Pt.slots] at X l6 y6 z6 sx hQ
  subst l6 y6 z6
  obtain ⟨rfl, Nc, K1, F_ty_finished, F_ty_failed⟩ := hQ
  have st : ∀ t, Steps p.tables e below (T7.setTop (mkF m 30 #[.val (.int y0), .val (.int y1), .val (.int (Int32.ofNat x)), .val (.int (Int32.ofNat f)), .unset, .unset, .unset, .unset, .unset, .unset, .unset, .unset] [(.ref ty)])) t → Steps p.tables e below (s₁.setTop (mkF m 0 #[.val (.int y0), .val (.int y1), .unset, .unset, .unset, .unset, .unset, .unset, .unset, .unset, .unset, .unset] [])) t := fun t k => st t (sx.trans k)
  have N := Fr.app N Nc
  obtain ⟨h8, eH⟩ : ∃ z, z = T7.heap := ⟨_, rfl⟩
  rw [← eH] at K1 F_ty_finished F_ty_failed
  have eh : T7.heap = h8 := eH.symm
  have E_ty := E_ty.keep K1
  have Z0 := Nat.le_trans Z0 K1.1
  have hk := Nat.le_trans hk K1.1
  have st : ∀ t, Steps p.tables e below (T7.setTop (mkF m 32 #[.val (.int y0), .val (.int y1), .val (.int (Int32.ofNat x)), .val (.int (Int32.ofNat f)), .val (.ref ty), .unset, .unset, .unset, .unset, .unset, .unset, .unset] [])) t → Steps p.tables e below (s₁.setTop (mkF m 0 #[.val (.int y0), .val (.int y1), .unset, .unset, .unset, .unset, .unset, .unset, .unset, .unset, .unset, .unset] [])) t := fun t k => st t (by
      show Steps p.tables e below (T7.setTop (mkF m 30 #[.val (.int y0), .val (.int y1), .val (.int (Int32.ofNat x)), .val (.int (Int32.ofNat f)), .unset, .unset, .unset, .unset, .unset, .unset, .unset, .unset] [(.ref ty)])) _
      refine XS.astore X.here hx rfl (hb hby at_30) rfl rfl (l' := #[.val (.int y0), .val (.int y1), .val (.int (Int32.ofNat x)), .val (.int (Int32.ofNat f)), .val (.ref ty), .unset, .unset, .unset, .unset, .unset, .unset, .unset]) rfl ?_
      exact k)
  obtain ⟨T9, h10, X, eh, E11, E_tr, D11, -, sx⟩ := newO X hx hZ hown (hw _ (List.mem_of_getElem? (i := 23) rfl)) (hw _ (List.mem_of_getElem? (i := 24) rfl)) (hw _ (List.mem_of_getElem? (i := 25) rfl)) eh (g := (mkF m 32 #[.val (.int y0), .val (.int y1), .val (.int (Int32.ofNat x)), .val (.int (Int32.ofNat f)), .val (.ref ty), .unset, .unset, .unset, .unset, .unset, .unset, .unset] [])) rfl (hb hby at_32) (by decide) (by decide)
  obtain ⟨tr, g11⟩ : ∃ z, z = h8.size := ⟨_, rfl⟩
  have ne_ty_tr : ty ≠ tr := fun q => absurd E_ty.lt (by rw [q, g11]; exact Nat.lt_irrefl _)
  have g_tr : n0 ≤ tr := Nat.le_trans Z0 (Nat.le_of_eq g11.symm)
  rw [← g11] at E_tr D11 sx
  have st : ∀ t, Steps p.tables e below (T9.setTop (mkF m 35 #[.val (.int y0), .val (.int y1), .val (.int (Int32.ofNat x)), .val (.int (Int32.ofNat f)), .val (.ref ty), .unset, .unset, .unset, .unset, .unset, .unset, .unset] [(.ref tr)])) t → Steps p.tables e below (s₁.setTop (mkF m 0 #[.val (.int y0), .val (.int y1), .unset, .unset, .unset, .unset, .unset, .unset, .unset, .unset, .unset, .unset] [])) t := fun t k => st t (sx t k)
  have F_ty_finished := F_ty_finished.ext E11
  have F_ty_failed := F_ty_failed.ext E11
  have E_ty := E_ty.ext E11
  have Z0 := Nat.le_trans Z0 E11.1
  have hk := Nat.le_trans hk E11.1
  have F_tr_group : Fld Z h10 tr "com/example/lockstep/lockstep/core/FailFastGroup$Trip" "group" "Ljava/lang/String;" .null := D11 (Or.inr (hw _ (List.mem_of_getElem? (i := 50) rfl))) (ty := (.object "java/lang/String")) (by decide)
  have F_tr_tally : Fld Z h10 tr "com/example/lockstep/lockstep/core/FailFastGroup$Trip" "tally" "Lcom/example/lockstep/lockstep/core/FailFastGroup$Tally;" .null := D11 (Or.inr (hw _ (List.mem_of_getElem? (i := 52) rfl))) (ty := (.object "com/example/lockstep/lockstep/core/FailFastGroup$Tally")) (by decide)
  have F_tr_thresholdPercent : Fld Z h10 tr "com/example/lockstep/lockstep/core/FailFastGroup$Trip" "thresholdPercent" "I" (.int (0 : Int32)) := D11 (Or.inr (hw _ (List.mem_of_getElem? (i := 54) rfl))) (ty := .int) (by decide)
  have st : ∀ t, Steps p.tables e below (T9.setTop (mkF m 36 #[.val (.int y0), .val (.int y1), .val (.int (Int32.ofNat x)), .val (.int (Int32.ofNat f)), .val (.ref ty), .unset, .unset, .unset, .unset, .unset, .unset, .unset] [(.ref tr), (.ref tr)])) t → Steps p.tables e below (s₁.setTop (mkF m 0 #[.val (.int y0), .val (.int y1), .unset, .unset, .unset, .unset, .unset, .unset, .unset, .unset, .unset, .unset] [])) t := fun t k => st t (by
      show Steps p.tables e below (T9.setTop (mkF m 35 #[.val (.int y0), .val (.int y1), .val (.int (Int32.ofNat x)), .val (.int (Int32.ofNat f)), .val (.ref ty), .unset, .unset, .unset, .unset, .unset, .unset, .unset] [(.ref tr)])) _
      refine XS.dup X.here hx rfl (hb hby at_35) rfl rfl ?_
      exact k)
  obtain ⟨gs, T13, h14, kk12, X, eh, E12, hS, hk, hZ, hown, sx⟩ := ldcS X hx hZ hown (hw _ (List.mem_of_getElem? (i := 26) rfl)) wS eh hS hk (g := (mkF m 36 #[.val (.int y0), .val (.int y1), .val (.int (Int32.ofNat x)), .val (.int (Int32.ofNat f)), .val (.ref ty), .unset, .unset, .unset, .unset, .unset, .unset, .unset] [(.ref tr), (.ref tr)])) rfl (hb hby at_36) (n := 4) (by decide) (by decide) (by decide) (by decide)
  have st : ∀ t, Steps p.tables e below (T13.setTop (mkF m 38 #[.val (.int y0), .val (.int y1), .val (.int (Int32.ofNat x)), .val (.int (Int32.ofNat f)), .val (.ref ty), .unset, .unset, .unset, .unset, .unset, .unset, .unset] [(.ref gs), (.ref tr), (.ref tr)])) t → Steps p.tables e below (s₁.setTop (mkF m 0 #[.val (.int y0), .val (.int y1), .unset, .unset, .unset, .unset, .unset, .unset, .unset, .unset, .unset, .unset] [])) t := fun t k => st t (sx t k)
  have F_ty_finished := F_ty_finished.ext E12
  have F_ty_failed := F_ty_failed.ext E12
  have F_tr_group := F_tr_group.ext E12
  have F_tr_tally := F_tr_tally.ext E12
  have F_tr_thresholdPercent := F_tr_thresholdPercent.ext E12
  have E_ty := E_ty.ext E12
  have E_tr := E_tr.ext E12
  have Z0 := Nat.le_trans Z0 E12.1
  have st : ∀ t, Steps p.tables e below (T13.setTop (mkF m 42 #[.val (.int y0), .val (.int y1), .val (.int (Int32.ofNat x)), .val (.int (Int32.ofNat f)), .val (.ref ty), .unset, .unset, .unset, .unset, .unset, .unset, .unset] [(.int (50 : Int32)), (.ref ty), (.ref gs), (.ref tr), (.ref tr)])) t → Steps p.tables e below (s₁.setTop (mkF m 0 #[.val (.int y0), .val (.int y1), .unset, .unset, .unset, .unset, .unset, .unset, .unset, .unset, .unset, .unset] [])) t := fun t k => st t (by
      show Steps p.tables e below (T13.setTop (mkF m 38 #[.val (.int y0), .val (.int y1), .val (.int (Int32.ofNat x)), .val (.int (Int32.ofNat f)), .val (.ref ty), .unset, .unset, .unset, .unset, .unset, .unset, .unset] [(.ref gs), (.ref tr), (.ref tr)])) _
      refine XS.aload X.here hx rfl (hb hby at_38) rfl rfl ?_
      show Steps p.tables e below (T13.setTop (mkF m 40 #[.val (.int y0), .val (.int y1), .val (.int (Int32.ofNat x)), .val (.int (Int32.ofNat f)), .val (.ref ty), .unset, .unset, .unset, .unset, .unset, .unset, .unset] [(.ref ty), (.ref gs), (.ref tr), (.ref tr)])) _
      refine XS.bipush X.here hx rfl (hb hby at_40) ?_
      exact k)
  have hk0 : ∀ n, n ≤ h14.size → n ≤ T13.heap.size := fun n q => by rw [eh]; exact q
  obtain ⟨_, _, ⟨T16, L15, k15, n15⟩, -, X, hS2, hgr, ⟨Lc15, hQ, l15, y15, z15⟩, sx⟩ := X.specialBackS hx (y := (⟨"com/example/lockstep/lockstep/core/FailFastGroup$Trip", "<init>", "(Ljava/lang/String;Lcom/example/lockstep/lockstep/core/FailFastGroup$Tally;I)V"⟩ : MethodName)) rfl hown (mvT hZ (hw _ (List.mem_of_getElem? (i := 34) rfl))) (mvT hZ (hw _ (List.mem_of_getElem? (i := 35) rfl))) (mvT hZ (hw _ (List.mem_of_getElem? (i := 36) rfl))) (by decide) (backOfS (W := 1) (rm5 l Z a0 hw [] tr gs ty (50 : Int32) (Int32.ofNat x) h14 n0 Z0 E_tr g_tr F_tr_group F_tr_tally F_tr_thresholdPercent E_ty F_ty_finished ne_ty_tr c3) hZ (hw _ (List.mem_of_getElem? (i := 36) rfl)) (hw _ (List.mem_of_getElem? (i := 25) rfl)) (by decide) (by decide)) (g := (mkF m 42 #[.val (.int y0), .val (.int y1), .val (.int (Int32.ofNat x)), .val (.int (Int32.ofNat f)), .val (.ref ty), .unset, .unset, .unset, .unset, .unset, .unset, .unset] [(.int (50 : Int32)), (.ref ty), (.ref gs), (.ref tr), (.ref tr)])) rfl (by rw [hml]; rfl) (Steps.refl _) (a := tr) (argsL := [(.ref gs), (.ref ty), (.int (50 : Int32))]) (rest := [(.ref tr)]) (lenOf own_pd5 rfl) rfl (by show 2 * 0 + _ ≤ _; exact Nat.le_of_eq rfl) (hb hby at_42) (fun _ _ => ⟨rfl, eh, (by decide : 4 + 4 ≤ _), (by decide : 13 + 48 ≤ _)⟩)
  dsimp only [Pt.U] at X hS2 hgr
  dsimp only [Pt.U, Pt.locs, Pt.cells, Pt.slots] at X l15 y15 z15 sx hQ
  subst l15 y15 z15
  obtain ⟨X, hS, hZ, hown⟩ := rebS hS (hk0 _ hk) X hS2 hgr hZ hown
  obtain ⟨rfl, Nc, K1, F_tr_group, F_tr_tally, F_tr_thresholdPercent⟩ := hQ
  have st : ∀ t, Steps p.tables e below (T16.setTop (mkF m 45 #[.val (.int y0), .val (.int y1), .val (.int (Int32.ofNat x)), .val (.int (Int32.ofNat f)), .val (.ref ty), .unset, .unset, .unset, .unset, .unset, .unset, .unset] [(.ref tr)])) t → Steps p.tables e below (s₁.setTop (mkF m 0 #[.val (.int y0), .val (.int y1), .unset, .unset, .unset, .unset, .unset, .unset, .unset, .unset, .unset, .unset] [])) t := fun t k => st t (sx.trans k)
  have N := Fr.app N Nc
  obtain ⟨h17, eH⟩ : ∃ z, z = T16.heap := ⟨_, rfl⟩
  rw [← eH] at K1 F_tr_group F_tr_tally F_tr_thresholdPercent
  have eh : T16.heap = h17 := eH.symm
  have hk : T16.heap.size ≤ h17.size := by rw [eH]; exact Nat.le_refl _
  have F_ty_finished := F_ty_finished.keep K1 (ninS ne_ty_tr nin0)
  have F_ty_failed := F_ty_failed.keep K1 (ninS ne_ty_tr nin0)
  have E_ty := E_ty.keep K1
  have E_tr := E_tr.keep K1
  have Z0 := Nat.le_trans Z0 K1.1
  have st : ∀ t, Steps p.tables e below (T16.setTop (mkF m 49 #[.val (.int y0), .val (.int y1), .val (.int (Int32.ofNat x)), .val (.int (Int32.ofNat f)), .val (.ref ty), .val (.ref tr), .unset, .unset, .unset, .unset, .unset, .unset] [(.ref tr)])) t → Steps p.tables e below (s₁.setTop (mkF m 0 #[.val (.int y0), .val (.int y1), .unset, .unset, .unset, .unset, .unset, .unset, .unset, .unset, .unset, .unset] [])) t := fun t k => st t (by
      show Steps p.tables e below (T16.setTop (mkF m 45 #[.val (.int y0), .val (.int y1), .val (.int (Int32.ofNat x)), .val (.int (Int32.ofNat f)), .val (.ref ty), .unset, .unset, .unset, .unset, .unset, .unset, .unset] [(.ref tr)])) _
      refine XS.astore X.here hx rfl (hb hby at_45) rfl rfl (l' := #[.val (.int y0), .val (.int y1), .val (.int (Int32.ofNat x)), .val (.int (Int32.ofNat f)), .val (.ref ty), .val (.ref tr), .unset, .unset, .unset, .unset, .unset, .unset]) rfl ?_
      show Steps p.tables e below (T16.setTop (mkF m 47 #[.val (.int y0), .val (.int y1), .val (.int (Int32.ofNat x)), .val (.int (Int32.ofNat f)), .val (.ref ty), .val (.ref tr), .unset, .unset, .unset, .unset, .unset, .unset] [])) _
      refine XS.aload X.here hx rfl (hb hby at_47) rfl rfl ?_
      exact k)
  obtain ⟨cq18, kq18, qa18, qb18, qc18⟩ := isOf hZ eh E_tr
  obtain ⟨_, _, ⟨T19, L18, k18, n18⟩, -, X, ⟨Lc18, hQ, l18, y18, z18⟩, sx⟩ := X.virtualBack hx (y := (⟨"com/example/lockstep/lockstep/core/FailFastGroup$Trip", "percentFailed", "()I"⟩ : MethodName)) (z := (⟨"com/example/lockstep/lockstep/core/FailFastGroup$Trip", "percentFailed", "()I"⟩ : MethodName)) hown (mvT hZ (hw _ (List.mem_of_getElem? (i := 55) rfl))) (mvT hZ (hw _ (List.mem_of_getElem? (i := 56) rfl))) (notFace_of_selects (args := #[]) (mvT hZ (hw _ (List.mem_of_getElem? (i := 58) rfl)))) (mvT hZ (hw _ (List.mem_of_getElem? (i := 58) rfl))) (mvT hZ (hw _ (List.mem_of_getElem? (i := 57) rfl))) (by decide) (backOf (W := 0) (rm8 l Z a0 hw [] tr ty (Int32.ofNat x) (Int32.ofNat f) h17 n0 Z0 F_tr_tally E_ty F_ty_finished F_ty_failed c4) hZ (hw _ (List.mem_of_getElem? (i := 59) rfl)) (hw _ (List.mem_of_getElem? (i := 25) rfl)) (by decide) (by decide)) qa18 qc18 (g := (mkF m 49 #[.val (.int y0), .val (.int y1), .val (.int (Int32.ofNat x)), .val (.int (Int32.ofNat f)), .val (.ref ty), .val (.ref tr), .unset, .unset, .unset, .unset, .unset, .unset] [(.ref tr)])) rfl (by rw [hml]; rfl) (Steps.refl _) (argsL := []) (rest := []) (lenOf own_pd2 rfl) rfl (by show 2 * 0 + _ ≤ _; exact Nat.le_of_eq rfl) (hb hby at_49) (fun _ _ => ⟨rfl, eh, (by decide : 8 + 0 ≤ _), (by decide : 61 + 0 ≤ _)⟩)
  dsimp only [Pt.U, Pt.locs, Pt.cells, Pt.slots] at X l18 y18 z18 sx hQ
  subst l18 y18 z18
  obtain ⟨rfl, Nc, hsame_⟩ := hQ
  have st : ∀ t, Steps p.tables e below (T19.setTop (mkF m 52 #[.val (.int y0), .val (.int y1), .val (.int (Int32.ofNat x)), .val (.int (Int32.ofNat f)), .val (.ref ty), .val (.ref tr), .unset, .unset, .unset, .unset, .unset, .unset] [(.int (((100 : Int64) * (Int32.ofNat f).toInt64) / (Int32.ofNat x).toInt64).toInt32)])) t → Steps p.tables e below (s₁.setTop (mkF m 0 #[.val (.int y0), .val (.int y1), .unset, .unset, .unset, .unset, .unset, .unset, .unset, .unset, .unset, .unset] [])) t := fun t k => st t (sx.trans k)
  have N := Fr.app N Nc
  have eh : T19.heap = h17 := hsame_
  obtain ⟨pc1, hp0⟩ : ∃ z, z = 100 * f / x := ⟨_, rfl⟩
  have hp1 : pc1 ≤ 100 := by rw [hp0]; exact own_pct hx1 hf1
  have hlow : ¬ 100 * f < pc1 * x := by rw [hp0]; exact own_low
  have hhigh : 100 * f < (pc1 + 1) * x := by rw [hp0]; exact own_high hx1
  have hbd : (pc1 + 1) * x ≤ 101 * 2147483647 ∧ pc1 * x ≤ 101 * 2147483647 := by rw [hp0]; exact own_bound hx1 hf1 hx2
  have st : ∀ t, Steps p.tables e below (T19.setTop (mkF m 52 #[.val (.int y0), .val (.int y1), .val (.int (Int32.ofNat x)), .val (.int (Int32.ofNat f)), .val (.ref ty), .val (.ref tr), .unset, .unset, .unset, .unset, .unset, .unset] [(.int (Int32.ofNat pc1))])) t → Steps p.tables e below (s₁.setTop (mkF m 0 #[.val (.int y0), .val (.int y1), .unset, .unset, .unset, .unset, .unset, .unset, .unset, .unset, .unset, .unset] [])) t := by rw [← own_narrow (i := pc1) (by omega), hp0, ← own_divL (i := 100 * f) (j := x) (by omega) (by omega), ← own_mul100 f, ← own_ext (i := f) (by omega), ← own_ext hx2]; exact st
  have st : ∀ t, Steps p.tables e below (T19.setTop (mkF m 53 #[.val (.int y0), .val (.int y1), .val (.int (Int32.ofNat x)), .val (.int (Int32.ofNat f)), .val (.ref ty), .val (.ref tr), .unset, .unset, .unset, .unset, .unset, .unset] [(.long ((Int32.ofNat pc1).toInt64))])) t → Steps p.tables e below (s₁.setTop (mkF m 0 #[.val (.int y0), .val (.int y1), .unset, .unset, .unset, .unset, .unset, .unset, .unset, .unset, .unset, .unset] [])) t := fun t k => st t (by
      show Steps p.tables e below (T19.setTop (mkF m 52 #[.val (.int y0), .val (.int y1), .val (.int (Int32.ofNat x)), .val (.int (Int32.ofNat f)), .val (.ref ty), .val (.ref tr), .unset, .unset, .unset, .unset, .unset, .unset] [(.int (Int32.ofNat pc1))])) _
      refine XS.i2l X.here hx rfl (hb hby at_52) rfl ?_
      exact k)
  have st : ∀ t, Steps p.tables e below (T19.setTop (mkF m 53 #[.val (.int y0), .val (.int y1), .val (.int (Int32.ofNat x)), .val (.int (Int32.ofNat f)), .val (.ref ty), .val (.ref tr), .unset, .unset, .unset, .unset, .unset, .unset] [(.long (Int64.ofNat pc1))])) t → Steps p.tables e below (s₁.setTop (mkF m 0 #[.val (.int y0), .val (.int y1), .unset, .unset, .unset, .unset, .unset, .unset, .unset, .unset, .unset, .unset] [])) t := by rw [← own_ext (by omega)]; exact st
  have st : ∀ t, Steps p.tables e below (T19.setTop (mkF m 57 #[.val (.int y0), .val (.int y1), .val (.int (Int32.ofNat x)), .val (.int (Int32.ofNat f)), .val (.ref ty), .val (.ref tr), .val (.long (Int64.ofNat pc1)), .second, .unset, .unset, .unset, .unset] [(.long ((Int32.ofNat x).toInt64))])) t → Steps p.tables e below (s₁.setTop (mkF m 0 #[.val (.int y0), .val (.int y1), .unset, .unset, .unset, .unset, .unset, .unset, .unset, .unset, .unset, .unset] [])) t := fun t k => st t (by
      show Steps p.tables e below (T19.setTop (mkF m 53 #[.val (.int y0), .val (.int y1), .val (.int (Int32.ofNat x)), .val (.int (Int32.ofNat f)), .val (.ref ty), .val (.ref tr), .unset, .unset, .unset, .unset, .unset, .unset] [(.long (Int64.ofNat pc1))])) _
      refine XS.lstore X.here hx rfl (hb hby at_53) rfl (l' := #[.val (.int y0), .val (.int y1), .val (.int (Int32.ofNat x)), .val (.int (Int32.ofNat f)), .val (.ref ty), .val (.ref tr), .val (.long (Int64.ofNat pc1)), .second, .unset, .unset, .unset, .unset]) rfl ?_
      show Steps p.tables e below (T19.setTop (mkF m 55 #[.val (.int y0), .val (.int y1), .val (.int (Int32.ofNat x)), .val (.int (Int32.ofNat f)), .val (.ref ty), .val (.ref tr), .val (.long (Int64.ofNat pc1)), .second, .unset, .unset, .unset, .unset] [])) _
      refine XS.iloadN X.here hx rfl (hb hby at_55) rfl ?_
      show Steps p.tables e below (T19.setTop (mkF m 56 #[.val (.int y0), .val (.int y1), .val (.int (Int32.ofNat x)), .val (.int (Int32.ofNat f)), .val (.ref ty), .val (.ref tr), .val (.long (Int64.ofNat pc1)), .second, .unset, .unset, .unset, .unset] [(.int (Int32.ofNat x))])) _
      refine XS.i2l X.here hx rfl (hb hby at_56) rfl ?_
      exact k)
  have st : ∀ t, Steps p.tables e below (T19.setTop (mkF m 57 #[.val (.int y0), .val (.int y1), .val (.int (Int32.ofNat x)), .val (.int (Int32.ofNat f)), .val (.ref ty), .val (.ref tr), .val (.long (Int64.ofNat pc1)), .second, .unset, .unset, .unset, .unset] [(.long (Int64.ofNat x))])) t → Steps p.tables e below (s₁.setTop (mkF m 0 #[.val (.int y0), .val (.int y1), .unset, .unset, .unset, .unset, .unset, .unset, .unset, .unset, .unset, .unset] [])) t := by rw [← own_ext hx2]; exact st
  have st : ∀ t, Steps p.tables e below (T19.setTop (mkF m 65 #[.val (.int y0), .val (.int y1), .val (.int (Int32.ofNat x)), .val (.int (Int32.ofNat f)), .val (.ref ty), .val (.ref tr), .val (.long (Int64.ofNat pc1)), .second, .val (.long (Int64.ofNat x)), .second, .unset, .unset] [(.long ((100 : Int64) * ((Int32.ofNat f).toInt64)))])) t → Steps p.tables e below (s₁.setTop (mkF m 0 #[.val (.int y0), .val (.int y1), .unset, .unset, .unset, .unset, .unset, .unset, .unset, .unset, .unset, .unset] [])) t := fun t k => st t (by
      show Steps p.tables e below (T19.setTop (mkF m 57 #[.val (.int y0), .val (.int y1), .val (.int (Int32.ofNat x)), .val (.int (Int32.ofNat f)), .val (.ref ty), .val (.ref tr), .val (.long (Int64.ofNat pc1)), .second, .unset, .unset, .unset, .unset] [(.long (Int64.ofNat x))])) _
      refine XS.lstore X.here hx rfl (hb hby at_57) rfl (l' := #[.val (.int y0), .val (.int y1), .val (.int (Int32.ofNat x)), .val (.int (Int32.ofNat f)), .val (.ref ty), .val (.ref tr), .val (.long (Int64.ofNat pc1)), .second, .val (.long (Int64.ofNat x)), .second, .unset, .unset]) rfl ?_
      show Steps p.tables e below (T19.setTop (mkF m 59 #[.val (.int y0), .val (.int y1), .val (.int (Int32.ofNat x)), .val (.int (Int32.ofNat f)), .val (.ref ty), .val (.ref tr), .val (.long (Int64.ofNat pc1)), .second, .val (.long (Int64.ofNat x)), .second, .unset, .unset] [])) _
      refine X.ldc2Long hx hown (mvT hZ (hw _ (List.mem_of_getElem? (i := 66) rfl))) (g := (mkF m 59 #[.val (.int y0), .val (.int y1), .val (.int (Int32.ofNat x)), .val (.int (Int32.ofNat f)), .val (.ref ty), .val (.ref tr), .val (.long (Int64.ofNat pc1)), .second, .val (.long (Int64.ofNat x)), .second, .unset, .unset] [])) rfl (hb hby at_59) _ ?_
      show Steps p.tables e below (T19.setTop (mkF m 62 #[.val (.int y0), .val (.int y1), .val (.int (Int32.ofNat x)), .val (.int (Int32.ofNat f)), .val (.ref ty), .val (.ref tr), .val (.long (Int64.ofNat pc1)), .second, .val (.long (Int64.ofNat x)), .second, .unset, .unset] [(.long (100 : Int64))])) _
      refine XS.iloadN X.here hx rfl (hb hby at_62) rfl ?_
      show Steps p.tables e below (T19.setTop (mkF m 63 #[.val (.int y0), .val (.int y1), .val (.int (Int32.ofNat x)), .val (.int (Int32.ofNat f)), .val (.ref ty), .val (.ref tr), .val (.long (Int64.ofNat pc1)), .second, .val (.long (Int64.ofNat x)), .second, .unset, .unset] [(.int (Int32.ofNat f)), (.long (100 : Int64))])) _
      refine XS.i2l X.here hx rfl (hb hby at_63) rfl ?_
      show Steps p.tables e below (T19.setTop (mkF m 64 #[.val (.int y0), .val (.int y1), .val (.int (Int32.ofNat x)), .val (.int (Int32.ofNat f)), .val (.ref ty), .val (.ref tr), .val (.long (Int64.ofNat pc1)), .second, .val (.long (Int64.ofNat x)), .second, .unset, .unset] [(.long ((Int32.ofNat f).toInt64)), (.long (100 : Int64))])) _
      refine XS.lmul X.here hx rfl (hb hby at_64) rfl ?_
      exact k)
  have st : ∀ t, Steps p.tables e below (T19.setTop (mkF m 65 #[.val (.int y0), .val (.int y1), .val (.int (Int32.ofNat x)), .val (.int (Int32.ofNat f)), .val (.ref ty), .val (.ref tr), .val (.long (Int64.ofNat pc1)), .second, .val (.long (Int64.ofNat x)), .second, .unset, .unset] [(.long (Int64.ofNat (100 * f)))])) t → Steps p.tables e below (s₁.setTop (mkF m 0 #[.val (.int y0), .val (.int y1), .unset, .unset, .unset, .unset, .unset, .unset, .unset, .unset, .unset, .unset] [])) t := by rw [← own_mul100, ← own_ext (i := f) (by omega)]; exact st
  have st : ∀ t, Steps p.tables e below (T19.setTop (mkF m 90 #[.val (.int y0), .val (.int y1), .val (.int (Int32.ofNat x)), .val (.int (Int32.ofNat f)), .val (.ref ty), .val (.ref tr), .val (.long (Int64.ofNat pc1)), .second, .val (.long (Int64.ofNat x)), .second, .val (.long (Int64.ofNat (100 * f))), .second] [(.long ((Int64.ofNat pc1) * (Int64.ofNat x)))])) t → Steps p.tables e below (s₁.setTop (mkF m 0 #[.val (.int y0), .val (.int y1), .unset, .unset, .unset, .unset, .unset, .unset, .unset, .unset, .unset, .unset] [])) t := fun t k => st t (by
      show Steps p.tables e below (T19.setTop (mkF m 65 #[.val (.int y0), .val (.int y1), .val (.int (Int32.ofNat x)), .val (.int (Int32.ofNat f)), .val (.ref ty), .val (.ref tr), .val (.long (Int64.ofNat pc1)), .second, .val (.long (Int64.ofNat x)), .second, .unset, .unset] [(.long (Int64.ofNat (100 * f)))])) _
      refine XS.lstore X.here hx rfl (hb hby at_65) rfl (l' := #[.val (.int y0), .val (.int y1), .val (.int (Int32.ofNat x)), .val (.int (Int32.ofNat f)), .val (.ref ty), .val (.ref tr), .val (.long (Int64.ofNat pc1)), .second, .val (.long (Int64.ofNat x)), .second, .val (.long (Int64.ofNat (100 * f))), .second]) rfl ?_
      show Steps p.tables e below (T19.setTop (mkF m 67 #[.val (.int y0), .val (.int y1), .val (.int (Int32.ofNat x)), .val (.int (Int32.ofNat f)), .val (.ref ty), .val (.ref tr), .val (.long (Int64.ofNat pc1)), .second, .val (.long (Int64.ofNat x)), .second, .val (.long (Int64.ofNat (100 * f))), .second] [])) _
      refine XS.lload X.here hx rfl (hb hby at_67) rfl ?_
      show Steps p.tables e below (T19.setTop (mkF m 69 #[.val (.int y0), .val (.int y1), .val (.int (Int32.ofNat x)), .val (.int (Int32.ofNat f)), .val (.ref ty), .val (.ref tr), .val (.long (Int64.ofNat pc1)), .second, .val (.long (Int64.ofNat x)), .second, .val (.long (Int64.ofNat (100 * f))), .second] [(.long (Int64.ofNat pc1))])) _
      refine XS.lconst X.here hx rfl (hb hby at_69) ?_
      show Steps p.tables e below (T19.setTop (mkF m 70 #[.val (.int y0), .val (.int y1), .val (.int (Int32.ofNat x)), .val (.int (Int32.ofNat f)), .val (.ref ty), .val (.ref tr), .val (.long (Int64.ofNat pc1)), .second, .val (.long (Int64.ofNat x)), .second, .val (.long (Int64.ofNat (100 * f))), .second] [(.long (0 : Int64)), (.long (Int64.ofNat pc1))])) _
      refine XS.lcmp X.here hx rfl (hb hby at_70) rfl ?_
      show Steps p.tables e below (T19.setTop (mkF m 71 #[.val (.int y0), .val (.int y1), .val (.int (Int32.ofNat x)), .val (.int (Int32.ofNat f)), .val (.ref ty), .val (.ref tr), .val (.long (Int64.ofNat pc1)), .second, .val (.long (Int64.ofNat x)), .second, .val (.long (Int64.ofNat (100 * f))), .second] [(.int (lcmpW (Int64.ofNat pc1) (0 : Int64)))])) _
      refine XS.ifNo X.here hx rfl (hb hby at_71) rfl ((if0 _ _).trans (flt (fun q => (fun q => Nat.not_lt_zero _ ((own_ltL (i := pc1) (j := 0) (by omega) (by decide)).mp q)) ((lw_lt (Int64.ofNat pc1) (0 : Int64)).mp q))).1) ?_
      show Steps p.tables e below (T19.setTop (mkF m 74 #[.val (.int y0), .val (.int y1), .val (.int (Int32.ofNat x)), .val (.int (Int32.ofNat f)), .val (.ref ty), .val (.ref tr), .val (.long (Int64.ofNat pc1)), .second, .val (.long (Int64.ofNat x)), .second, .val (.long (Int64.ofNat (100 * f))), .second] [])) _
      refine XS.lload X.here hx rfl (hb hby at_74) rfl ?_
      show Steps p.tables e below (T19.setTop (mkF m 76 #[.val (.int y0), .val (.int y1), .val (.int (Int32.ofNat x)), .val (.int (Int32.ofNat f)), .val (.ref ty), .val (.ref tr), .val (.long (Int64.ofNat pc1)), .second, .val (.long (Int64.ofNat x)), .second, .val (.long (Int64.ofNat (100 * f))), .second] [(.long (Int64.ofNat pc1))])) _
      refine X.ldc2Long hx hown (mvT hZ (hw _ (List.mem_of_getElem? (i := 66) rfl))) (g := (mkF m 76 #[.val (.int y0), .val (.int y1), .val (.int (Int32.ofNat x)), .val (.int (Int32.ofNat f)), .val (.ref ty), .val (.ref tr), .val (.long (Int64.ofNat pc1)), .second, .val (.long (Int64.ofNat x)), .second, .val (.long (Int64.ofNat (100 * f))), .second] [(.long (Int64.ofNat pc1))])) rfl (hb hby at_76) _ ?_
      show Steps p.tables e below (T19.setTop (mkF m 79 #[.val (.int y0), .val (.int y1), .val (.int (Int32.ofNat x)), .val (.int (Int32.ofNat f)), .val (.ref ty), .val (.ref tr), .val (.long (Int64.ofNat pc1)), .second, .val (.long (Int64.ofNat x)), .second, .val (.long (Int64.ofNat (100 * f))), .second] [(.long (100 : Int64)), (.long (Int64.ofNat pc1))])) _
      refine XS.lcmp X.here hx rfl (hb hby at_79) rfl ?_
      show Steps p.tables e below (T19.setTop (mkF m 80 #[.val (.int y0), .val (.int y1), .val (.int (Int32.ofNat x)), .val (.int (Int32.ofNat f)), .val (.ref ty), .val (.ref tr), .val (.long (Int64.ofNat pc1)), .second, .val (.long (Int64.ofNat x)), .second, .val (.long (Int64.ofNat (100 * f))), .second] [(.int (lcmpW (Int64.ofNat pc1) (100 : Int64)))])) _
      refine XS.ifYes X.here hx rfl (pc0 := 80) (pc' := 85) rfl (hb hby at_80) rfl ((if0 _ _).trans (flt (fun q => (fun q => absurd ((own_ltL (i := 100) (j := pc1) (by decide) (by omega)).mp q) (by omega)) ((lw_gt (Int64.ofNat pc1) (100 : Int64)).mp q))).2.2.2) (by decide) (by decide) ?_
      show Steps p.tables e below (T19.setTop (mkF m 85 #[.val (.int y0), .val (.int y1), .val (.int (Int32.ofNat x)), .val (.int (Int32.ofNat f)), .val (.ref ty), .val (.ref tr), .val (.long (Int64.ofNat pc1)), .second, .val (.long (Int64.ofNat x)), .second, .val (.long (Int64.ofNat (100 * f))), .second] [])) _
      refine XS.lload X.here hx rfl (hb hby at_85) rfl ?_
      show Steps p.tables e below (T19.setTop (mkF m 87 #[.val (.int y0), .val (.int y1), .val (.int (Int32.ofNat x)), .val (.int (Int32.ofNat f)), .val (.ref ty), .val (.ref tr), .val (.long (Int64.ofNat pc1)), .second, .val (.long (Int64.ofNat x)), .second, .val (.long (Int64.ofNat (100 * f))), .second] [(.long (Int64.ofNat pc1))])) _
      refine XS.lload X.here hx rfl (hb hby at_87) rfl ?_
      show Steps p.tables e below (T19.setTop (mkF m 89 #[.val (.int y0), .val (.int y1), .val (.int (Int32.ofNat x)), .val (.int (Int32.ofNat f)), .val (.ref ty), .val (.ref tr), .val (.long (Int64.ofNat pc1)), .second, .val (.long (Int64.ofNat x)), .second, .val (.long (Int64.ofNat (100 * f))), .second] [(.long (Int64.ofNat x)), (.long (Int64.ofNat pc1))])) _
      refine XS.lmul X.here hx rfl (hb hby at_89) rfl ?_
      exact k)
  have st : ∀ t, Steps p.tables e below (T19.setTop (mkF m 90 #[.val (.int y0), .val (.int y1), .val (.int (Int32.ofNat x)), .val (.int (Int32.ofNat f)), .val (.ref ty), .val (.ref tr), .val (.long (Int64.ofNat pc1)), .second, .val (.long (Int64.ofNat x)), .second, .val (.long (Int64.ofNat (100 * f))), .second] [(.long (Int64.ofNat (pc1 * x)))])) t → Steps p.tables e below (s₁.setTop (mkF m 0 #[.val (.int y0), .val (.int y1), .unset, .unset, .unset, .unset, .unset, .unset, .unset, .unset, .unset, .unset] [])) t := by rw [← own_mulL pc1 x]; exact st
  have st : ∀ t, Steps p.tables e below (T19.setTop (mkF m 105 #[.val (.int y0), .val (.int y1), .val (.int (Int32.ofNat x)), .val (.int (Int32.ofNat f)), .val (.ref ty), .val (.ref tr), .val (.long (Int64.ofNat pc1)), .second, .val (.long (Int64.ofNat x)), .second, .val (.long (Int64.ofNat (100 * f))), .second] [(.long (((Int64.ofNat pc1) + (1 : Int64)) * (Int64.ofNat x))), (.long (Int64.ofNat (100 * f)))])) t → Steps p.tables e below (s₁.setTop (mkF m 0 #[.val (.int y0), .val (.int y1), .unset, .unset, .unset, .unset, .unset, .unset, .unset, .unset, .unset, .unset] [])) t := fun t k => st t (by
      show Steps p.tables e below (T19.setTop (mkF m 90 #[.val (.int y0), .val (.int y1), .val (.int (Int32.ofNat x)), .val (.int (Int32.ofNat f)), .val (.ref ty), .val (.ref tr), .val (.long (Int64.ofNat pc1)), .second, .val (.long (Int64.ofNat x)), .second, .val (.long (Int64.ofNat (100 * f))), .second] [(.long (Int64.ofNat (pc1 * x)))])) _
      refine XS.lload X.here hx rfl (hb hby at_90) rfl ?_
      show Steps p.tables e below (T19.setTop (mkF m 92 #[.val (.int y0), .val (.int y1), .val (.int (Int32.ofNat x)), .val (.int (Int32.ofNat f)), .val (.ref ty), .val (.ref tr), .val (.long (Int64.ofNat pc1)), .second, .val (.long (Int64.ofNat x)), .second, .val (.long (Int64.ofNat (100 * f))), .second] [(.long (Int64.ofNat (100 * f))), (.long (Int64.ofNat (pc1 * x)))])) _
      refine XS.lcmp X.here hx rfl (hb hby at_92) rfl ?_
      show Steps p.tables e below (T19.setTop (mkF m 93 #[.val (.int y0), .val (.int y1), .val (.int (Int32.ofNat x)), .val (.int (Int32.ofNat f)), .val (.ref ty), .val (.ref tr), .val (.long (Int64.ofNat pc1)), .second, .val (.long (Int64.ofNat x)), .second, .val (.long (Int64.ofNat (100 * f))), .second] [(.int (lcmpW (Int64.ofNat (pc1 * x)) (Int64.ofNat (100 * f))))])) _
      refine XS.ifNo X.here hx rfl (hb hby at_93) rfl ((if0 _ _).trans (flt (fun q => (fun q => hlow ((own_ltL (by omega) (by omega)).mp q)) ((lw_gt (Int64.ofNat (pc1 * x)) (Int64.ofNat (100 * f))).mp q))).2.2.1) ?_
      show Steps p.tables e below (T19.setTop (mkF m 96 #[.val (.int y0), .val (.int y1), .val (.int (Int32.ofNat x)), .val (.int (Int32.ofNat f)), .val (.ref ty), .val (.ref tr), .val (.long (Int64.ofNat pc1)), .second, .val (.long (Int64.ofNat x)), .second, .val (.long (Int64.ofNat (100 * f))), .second] [])) _
      refine XS.lload X.here hx rfl (hb hby at_96) rfl ?_
      show Steps p.tables e below (T19.setTop (mkF m 98 #[.val (.int y0), .val (.int y1), .val (.int (Int32.ofNat x)), .val (.int (Int32.ofNat f)), .val (.ref ty), .val (.ref tr), .val (.long (Int64.ofNat pc1)), .second, .val (.long (Int64.ofNat x)), .second, .val (.long (Int64.ofNat (100 * f))), .second] [(.long (Int64.ofNat (100 * f)))])) _
      refine XS.lload X.here hx rfl (hb hby at_98) rfl ?_
      show Steps p.tables e below (T19.setTop (mkF m 100 #[.val (.int y0), .val (.int y1), .val (.int (Int32.ofNat x)), .val (.int (Int32.ofNat f)), .val (.ref ty), .val (.ref tr), .val (.long (Int64.ofNat pc1)), .second, .val (.long (Int64.ofNat x)), .second, .val (.long (Int64.ofNat (100 * f))), .second] [(.long (Int64.ofNat pc1)), (.long (Int64.ofNat (100 * f)))])) _
      refine XS.lconst X.here hx rfl (hb hby at_100) ?_
      show Steps p.tables e below (T19.setTop (mkF m 101 #[.val (.int y0), .val (.int y1), .val (.int (Int32.ofNat x)), .val (.int (Int32.ofNat f)), .val (.ref ty), .val (.ref tr), .val (.long (Int64.ofNat pc1)), .second, .val (.long (Int64.ofNat x)), .second, .val (.long (Int64.ofNat (100 * f))), .second] [(.long (1 : Int64)), (.long (Int64.ofNat pc1)), (.long (Int64.ofNat (100 * f)))])) _
      refine XS.ladd X.here hx rfl (hb hby at_101) rfl ?_
      show Steps p.tables e below (T19.setTop (mkF m 102 #[.val (.int y0), .val (.int y1), .val (.int (Int32.ofNat x)), .val (.int (Int32.ofNat f)), .val (.ref ty), .val (.ref tr), .val (.long (Int64.ofNat pc1)), .second, .val (.long (Int64.ofNat x)), .second, .val (.long (Int64.ofNat (100 * f))), .second] [(.long ((Int64.ofNat pc1) + (1 : Int64))), (.long (Int64.ofNat (100 * f)))])) _
      refine XS.lload X.here hx rfl (hb hby at_102) rfl ?_
      show Steps p.tables e below (T19.setTop (mkF m 104 #[.val (.int y0), .val (.int y1), .val (.int (Int32.ofNat x)), .val (.int (Int32.ofNat f)), .val (.ref ty), .val (.ref tr), .val (.long (Int64.ofNat pc1)), .second, .val (.long (Int64.ofNat x)), .second, .val (.long (Int64.ofNat (100 * f))), .second] [(.long (Int64.ofNat x)), (.long ((Int64.ofNat pc1) + (1 : Int64))), (.long (Int64.ofNat (100 * f)))])) _
      refine XS.lmul X.here hx rfl (hb hby at_104) rfl ?_
      exact k)
  have st : ∀ t, Steps p.tables e below (T19.setTop (mkF m 105 #[.val (.int y0), .val (.int y1), .val (.int (Int32.ofNat x)), .val (.int (Int32.ofNat f)), .val (.ref ty), .val (.ref tr), .val (.long (Int64.ofNat pc1)), .second, .val (.long (Int64.ofNat x)), .second, .val (.long (Int64.ofNat (100 * f))), .second] [(.long (Int64.ofNat ((pc1 + 1) * x))), (.long (Int64.ofNat (100 * f)))])) t → Steps p.tables e below (s₁.setTop (mkF m 0 #[.val (.int y0), .val (.int y1), .unset, .unset, .unset, .unset, .unset, .unset, .unset, .unset, .unset, .unset] [])) t := by rw [← own_mulL (pc1 + 1) x, ← own_succL pc1]; exact st
  have st : ∀ t, Steps p.tables e below (T19.setTop (mkF m 114 #[.val (.int y0), .val (.int y1), .val (.int (Int32.ofNat x)), .val (.int (Int32.ofNat f)), .val (.ref ty), .val (.ref tr), .val (.long (Int64.ofNat pc1)), .second, .val (.long (Int64.ofNat x)), .second, .val (.long (Int64.ofNat (100 * f))), .second] [(.int (1 : Int32))])) t → Steps p.tables e below (s₁.setTop (mkF m 0 #[.val (.int y0), .val (.int y1), .unset, .unset, .unset, .unset, .unset, .unset, .unset, .unset, .unset, .unset] [])) t := fun t k => st t (by
      show Steps p.tables e below (T19.setTop (mkF m 105 #[.val (.int y0), .val (.int y1), .val (.int (Int32.ofNat x)), .val (.int (Int32.ofNat f)), .val (.ref ty), .val (.ref tr), .val (.long (Int64.ofNat pc1)), .second, .val (.long (Int64.ofNat x)), .second, .val (.long (Int64.ofNat (100 * f))), .second] [(.long (Int64.ofNat ((pc1 + 1) * x))), (.long (Int64.ofNat (100 * f)))])) _
      refine XS.lcmp X.here hx rfl (hb hby at_105) rfl ?_
      show Steps p.tables e below (T19.setTop (mkF m 106 #[.val (.int y0), .val (.int y1), .val (.int (Int32.ofNat x)), .val (.int (Int32.ofNat f)), .val (.ref ty), .val (.ref tr), .val (.long (Int64.ofNat pc1)), .second, .val (.long (Int64.ofNat x)), .second, .val (.long (Int64.ofNat (100 * f))), .second] [(.int (lcmpW (Int64.ofNat (100 * f)) (Int64.ofNat ((pc1 + 1) * x))))])) _
      refine XS.ifNo X.here hx rfl (hb hby at_106) rfl ((if0 _ _).trans (tlt ((lw_lt (Int64.ofNat (100 * f)) (Int64.ofNat ((pc1 + 1) * x))).mpr ((own_ltL (by omega) (by omega)).mpr hhigh))).2.1) ?_
      show Steps p.tables e below (T19.setTop (mkF m 109 #[.val (.int y0), .val (.int y1), .val (.int (Int32.ofNat x)), .val (.int (Int32.ofNat f)), .val (.ref ty), .val (.ref tr), .val (.long (Int64.ofNat pc1)), .second, .val (.long (Int64.ofNat x)), .second, .val (.long (Int64.ofNat (100 * f))), .second] [])) _
      refine XS.iconst X.here hx rfl (hb hby at_109) ?_
      show Steps p.tables e below (T19.setTop (mkF m 110 #[.val (.int y0), .val (.int y1), .val (.int (Int32.ofNat x)), .val (.int (Int32.ofNat f)), .val (.ref ty), .val (.ref tr), .val (.long (Int64.ofNat pc1)), .second, .val (.long (Int64.ofNat x)), .second, .val (.long (Int64.ofNat (100 * f))), .second] [(.int (1 : Int32))])) _
      refine XS.goto X.here hx rfl (pc0 := 110) (pc' := 114) rfl (hb hby at_110) (by decide) (by decide) ?_
      exact k)
  have hk0 : ∀ n, n ≤ h17.size → n ≤ T19.heap.size := fun n q => by rw [eh]; exact q
  obtain ⟨fs_, hr, hrun, hended, hRE⟩ := X.leaveW hS (hk0 _ hk) (v := some (.int (1 : Int32))) (fun h => by rw [Bd.returns] at h; cases h)
  refine ⟨_, _, pre0 _ (st _ ?_), hrun, hended, _, _, rfl, ?_, hRE.1, hRE.2.1, hRE.2.2.1, hRE.2.2.2.mono (by decide) (by decide)⟩
  · exact retN X hx (t := .boolean) Bd.returns (by simp) (hb hby at_114) hr
  · show Q_rm0 Z y0 y1 h0 n0 _ T19.heap _
    rw [eh]
    exact ⟨rfl, N⟩
set_option maxRecDepth 65536 in
set_option maxHeartbeats 40000000 in
theorem comes_1 {Post : Tables → Env → Array Value → State → Outcome → State → Prop} (hpost : ∀ tb e args s v u, (limb_1_1.after args s (.returned v) u = true ∧ limb_1_2.after args s (.returned v) u = true ∧ True) → ReturnedEndW s (.returned v) u (Jvm.fieldLocs frame_1_writes args s ++ Jvm.arrayLocs frame_1_arrays args s ++ Jvm.staticLocs frame_1_statics s) 24 3200 → Post tb e args s (.returned v) u) :
    ArmFor flags0 classFile x code maxLocals ret World_1 tables_1 room_1 Calls_1 rest_1 Pre_1 Post := by
  intro l hfl _ _ p e ha hc hk s m args below hf hA hF happ hP
  obtain ⟨hcalls, hrest, hpre⟩ := hP
  obtain ⟨-, -, -, hnamed, -, -, -, hat⟩ := (Spec.applies_iff hf).mp happ
  obtain ⟨hg, hn⟩ := and_e (Cond.before_iff.mp (show (Jvm.Cond.and given_1 narrow_1).before args s = true from hpre))
  obtain ⟨g0, hg1⟩ := and_e hg
  obtain ⟨ha0, hg2⟩ := and_e hg1
  have ha1 := hg2
  obtain ⟨w0, w1, rfl⟩ : ∃ w0 w1 : Value, args = #[w0, w1] := by
    have hs : args.size = 2 := by simpa [Cond.value, given_1] using g0
    obtain ⟨L⟩ := args
    match L, hs with
    | [w0, w1], _ => exact ⟨w0, w1, rfl⟩
  have hw := fun d (hd : d ∈ tables_1) => atoms_spec (ws := Jvm.Cond.code x code maxLocals ret :: tables_1) hat d (List.mem_cons_of_mem _ hd)
  obtain ⟨i0, ei0⟩ := is_v ha0
  obtain rfl : w0 = (.int i0) := Option.some.inj ei0
  obtain ⟨i1, ei1⟩ := is_v ha1
  obtain rfl : w1 = (.int i1) := Option.some.inj ei1
  obtain ⟨n, o, h1, h2, h3, _, L, rfl, ⟨rfl, N⟩, hq⟩ := rm0 l s _ hw tables_1 i0 i1 s.heap s.heap.size (Nat.le_refl _) p e ha hc hk s m _ below hf ((Spec.applies_iff_loose hf).mp happ).1 ⟨rfl, State.Warmed39.refl s, rfl⟩ trivial
  refine ⟨n, _, h1, h2, h3, hpost _ _ _ _ _ _ ⟨Cond.after_iff.mpr rfl, Cond.after_iff.mpr (eq_i res_at (Term.int_eval (1)) rfl), trivial⟩ ⟨hq.1, hq.2.1, hq.2.2.1, (hq.2.2.2.sift fun y hy => Or.inr (N y hy)).mono (by decide) (by decide)⟩⟩
theorem main_1_1 : Claimed_1_1 := comes_1 fun _ _ _ _ _ _ h hF => ⟨h.1, hF⟩
theorem main_1_2 : Claimed_1_2 := comes_1 fun _ _ _ _ _ _ h hF => ⟨h.2.1, hF⟩
end Jvm.Pilot.@@N@@
namespace Jvm.Pilot.@@N@@
open Jvm Jvm.ClassFile Sem Op Lib Jvm.Free Jvm.Stand Jvm.Pilot.@@N@@.Jvm.D
/-! MADE BY PROGRAM (witnessworld.py) out of the Statement's table words and the real class files: 18 classes; the members and pool entries that the words name. The judged class is class 1, her method 1. -/
namespace start1
open Jvm.ClassFile
def u (s : String) : CpInfo := .utf8 (stringToUtf16 s)
/-- a pool by its gaps: so many unusable entries, then the entry; so many at the end -/
def gap : Nat → List CpInfo → List CpInfo
  | 0, r => r
  | n + 1, r => .unusable :: gap n r
def poolList (es : List (Nat × CpInfo)) (last : Nat) : List CpInfo := es.foldr (fun e r => gap e.1 (e.2 :: r)) (gap last [])
def pool (es : List (Nat × CpInfo)) (last : Nat) : Array CpInfo := ⟨poolList es last⟩
def fileOf (pool : Array CpInfo) (this : Nat) (attrs : Array Attribute := #[]) (ms : Array MethodInfo := #[]) (fl : Nat := 33) (sup : Nat := 0) (ifs : Array Nat := #[]) (fds : Array FieldInfo := #[]) : ClassFile where
  minorVersion := 0
  majorVersion := 65
  constantPool := pool
  accessFlags := fl
  thisClass := this
  superClass := sup
  interfaces := ifs
  fields := fds
  methods := ms
  attributes := attrs
def plain (name : String) (sup : Option ClassId) : Class where
  name := name
  kind := .ordinary
  loader := none
  accessFlags := 33
  super := sup
  interfaces := #[]
  cf := none
  fields := #[]
  methods := #[]
  instanceTypes := #[]
  staticTypes := #[]
  resolved := #[]
  callSites := []
  init := .initialized
  statics := none
  mirror := none

def pool0 : Array CpInfo := pool [(5, u "<init>"), (0, u "()V"), (1, .class_ 10), (1, u "java/lang/Object")] 113

def k0c0 : Code := { maxStack := 0, maxLocals := 1, code := object_method_1_code, exceptionTable := #[], attributes := #[] }
def k0m0 : Method := { name := "<init>", desc := "()V", sig := { parameters := [], returnType := none }, accessFlags := 1, code := some k0c0 }
/-- java/lang/Object -/
def k0 : Class := { plain "java/lang/Object" none with
  accessFlags := 33
  interfaces := #[]
  cf := some (fileOf pool0 8 #[] #[{ accessFlags := 1, nameIndex := 5, descriptorIndex := 6, attributes := #[] }] 33 0 #[] #[])
  fields := #[]
  methods := #[k0m0]
  instanceTypes := #[]
  staticTypes := #[]
  resolved := Array.replicate 124 none
  statics := none }

def pool1 : Array CpInfo := pool [(2, .class_ 4), (1, u "java/lang/Object"), (0, u "<init>"), (0, u "()V"), (0, .integer 2147483647), (0, .methodref 9 10), (0, .class_ 11), (0, .nameAndType 12 13), (0, u "java/lang/Math"), (0, u "max"), (0, u "(II)I"), (0, .class_ 15), (0, u "com/example/lockstep/lockstep/core/FailFastGroup$Tally"), (0, .methodref 14 17), (0, .nameAndType 5 18), (0, u "(II)V"), (0, .class_ 20), (0, u "com/example/lockstep/lockstep/core/FailFastGroup$Trip"), (0, .string 22), (0, u "g"), (0, .methodref 19 24), (0, .nameAndType 5 25), (0, u "(Ljava/lang/String;Lcom/example/lockstep/lockstep/core/FailFastGroup$Tally;I)V"), (0, .methodref 19 27), (0, .nameAndType 28 29), (0, u "percentFailed"), (0, u "()I"), (0, .long 100), (1, .class_ 33), (0, u "com/example/lockstep/lockstep/core/TripPercentFailedPinLaw"), (2, u "law"), (0, u "(II)Z")] 8

def k1m0 : Method := { name := "<init>", desc := "()V", sig := { parameters := [], returnType := none }, accessFlags := 1, code := none }
def k1c1 : Code := { maxStack := 6, maxLocals := 12, code := code, exceptionTable := #[], attributes := #[] }
def k1m1 : Method := { name := "law", desc := "(II)Z", sig := { parameters := [.int, .int], returnType := some .boolean }, accessFlags := 9, code := some k1c1 }
/-- com/example/lockstep/lockstep/core/TripPercentFailedPinLaw -/
def k1 : Class := { plain "com/example/lockstep/lockstep/core/TripPercentFailedPinLaw" (some 0) with
  accessFlags := 49
  interfaces := #[]
  cf := some (fileOf pool1 32 #[] #[{ accessFlags := 1, nameIndex := 5, descriptorIndex := 6, attributes := #[] }, { accessFlags := 9, nameIndex := 36, descriptorIndex := 37, attributes := #[] }] 49 2 #[] #[])
  fields := #[]
  methods := #[k1m0, k1m1]
  instanceTypes := #[]
  staticTypes := #[]
  resolved := Array.replicate 46 none
  statics := none }

def pool2 : Array CpInfo := pool [(1, .class_ 2), (0, u "java/lang/Math"), (1, .class_ 6), (1, u "java/lang/Object"), (0, u "<init>"), (0, u "()V"), (89, .class_ 100), (1, u "java/lang/Math$RandomNumberGeneratorHolder"), (71, u "negativeZeroFloatBits"), (0, u "J"), (2, u "negativeZeroDoubleBits"), (21, u "max"), (46, u "$assertionsDisabled"), (0, u "Z"), (88, u "(II)I"), (2, u "twoToTheDoubleScaleDown"), (0, u "D"), (4, u "twoToTheDoubleScaleUp"), (9, u "E"), (3, u "PI"), (2, u "TAU"), (2, u "DEGREES_TO_RADIANS"), (0, u "RADIANS_TO_DEGREES")] 94

def k2m0 : Method := { name := "<init>", desc := "()V", sig := { parameters := [], returnType := none }, accessFlags := 2, code := none }
def k2c1 : Code := { maxStack := 2, maxLocals := 2, code := jdk_29_method_65_code, exceptionTable := #[], attributes := #[] }
def k2m1 : Method := { name := "max", desc := "(II)I", sig := { parameters := [.int, .int], returnType := some .int }, accessFlags := 9, code := some k2c1 }
/-- java/lang/Math -/
def k2 : Class := { plain "java/lang/Math" (some 0) with
  accessFlags := 49
  interfaces := #[]
  cf := some (fileOf pool2 1 #[.nestMembers #[98]] #[{ accessFlags := 2, nameIndex := 7, descriptorIndex := 8, attributes := #[] }, { accessFlags := 9, nameIndex := 198, descriptorIndex := 335, attributes := #[] }] 49 4 #[] #[{ accessFlags := 25, nameIndex := 354, descriptorIndex := 339, attributes := #[] }, { accessFlags := 25, nameIndex := 358, descriptorIndex := 339, attributes := #[] }, { accessFlags := 25, nameIndex := 361, descriptorIndex := 339, attributes := #[] }, { accessFlags := 26, nameIndex := 364, descriptorIndex := 339, attributes := #[] }, { accessFlags := 26, nameIndex := 365, descriptorIndex := 339, attributes := #[] }, { accessFlags := 26, nameIndex := 172, descriptorIndex := 173, attributes := #[] }, { accessFlags := 26, nameIndex := 176, descriptorIndex := 173, attributes := #[] }, { accessFlags := 8, nameIndex := 344, descriptorIndex := 339, attributes := #[] }, { accessFlags := 8, nameIndex := 338, descriptorIndex := 339, attributes := #[] }, { accessFlags := 4120, nameIndex := 245, descriptorIndex := 246, attributes := #[] }])
  fields := #[{ name := "E", type := .double, accessFlags := 25, slot := 0, constantValue := 0 }, { name := "PI", type := .double, accessFlags := 25, slot := 1, constantValue := 0 }, { name := "TAU", type := .double, accessFlags := 25, slot := 2, constantValue := 0 }, { name := "DEGREES_TO_RADIANS", type := .double, accessFlags := 26, slot := 3, constantValue := 0 }, { name := "RADIANS_TO_DEGREES", type := .double, accessFlags := 26, slot := 4, constantValue := 0 }, { name := "negativeZeroFloatBits", type := .long, accessFlags := 26, slot := 5, constantValue := 0 }, { name := "negativeZeroDoubleBits", type := .long, accessFlags := 26, slot := 6, constantValue := 0 }, { name := "twoToTheDoubleScaleUp", type := .double, accessFlags := 8, slot := 7, constantValue := 0 }, { name := "twoToTheDoubleScaleDown", type := .double, accessFlags := 8, slot := 8, constantValue := 0 }, { name := "$assertionsDisabled", type := .boolean, accessFlags := 4120, slot := 9, constantValue := 0 }]
  methods := #[k2m0, k2m1]
  instanceTypes := #[]
  staticTypes := #[.double, .double, .double, .double, .double, .long, .long, .double, .double, .boolean]
  resolved := Array.replicate 460 none
  statics := none }

def pool3 : Array CpInfo := pool [(1, .methodref 2 3), (0, .class_ 4), (0, .nameAndType 5 6), (0, u "java/lang/Object"), (0, u "<init>"), (0, u "()V"), (0, .class_ 8), (0, u "java/lang/Record")] 13

def k3c0 : Code := { maxStack := 1, maxLocals := 1, code := jdk_30_method_1_code, exceptionTable := #[], attributes := #[] }
def k3m0 : Method := { name := "<init>", desc := "()V", sig := { parameters := [], returnType := none }, accessFlags := 4, code := some k3c0 }
/-- java/lang/Record -/
def k3 : Class := { plain "java/lang/Record" (some 0) with
  accessFlags := 1057
  interfaces := #[]
  cf := some (fileOf pool3 7 #[] #[{ accessFlags := 4, nameIndex := 5, descriptorIndex := 6, attributes := #[] }] 1057 2 #[] #[])
  fields := #[]
  methods := #[k3m0]
  instanceTypes := #[]
  staticTypes := #[]
  resolved := Array.replicate 22 none
  statics := none }

def pool4 : Array CpInfo := pool [(1, .methodref 2 3), (0, .class_ 4), (0, .nameAndType 5 6), (0, u "java/lang/Record"), (0, u "<init>"), (0, u "()V"), (9, .fieldref 17 18), (0, .class_ 19), (0, .nameAndType 20 21), (0, u "com/example/lockstep/lockstep/core/FailFastGroup$Tally"), (0, u "finished"), (0, u "I"), (0, .fieldref 17 23), (0, .nameAndType 24 21), (0, u "failed"), (19, u "()I"), (7, u "(II)V"), (14, u "NONE"), (0, u "Lcom/example/lockstep/lockstep/core/FailFastGroup$Tally;"), (12, .class_ 82), (0, u "com/example/lockstep/lockstep/core/FailFastGroup")] 28

def k4c0 : Code := { maxStack := 4, maxLocals := 3, code := prog_21_method_1_code, exceptionTable := #[], attributes := #[] }
def k4m0 : Method := { name := "<init>", desc := "(II)V", sig := { parameters := [.int, .int], returnType := none }, accessFlags := 1, code := some k4c0 }
def k4c1 : Code := { maxStack := 1, maxLocals := 1, code := prog_21_method_6_code, exceptionTable := #[], attributes := #[] }
def k4m1 : Method := { name := "finished", desc := "()I", sig := { parameters := [], returnType := some .int }, accessFlags := 1, code := some k4c1 }
def k4c2 : Code := { maxStack := 1, maxLocals := 1, code := prog_21_method_7_code, exceptionTable := #[], attributes := #[] }
def k4m2 : Method := { name := "failed", desc := "()I", sig := { parameters := [], returnType := some .int }, accessFlags := 1, code := some k4c2 }
/-- com/example/lockstep/lockstep/core/FailFastGroup$Tally -/
def k4 : Class := { plain "com/example/lockstep/lockstep/core/FailFastGroup$Tally" (some 3) with
  accessFlags := 49
  interfaces := #[]
  cf := some (fileOf pool4 17 #[.nestHost 81] #[{ accessFlags := 1, nameIndex := 5, descriptorIndex := 52, attributes := #[] }, { accessFlags := 1, nameIndex := 20, descriptorIndex := 44, attributes := #[] }, { accessFlags := 1, nameIndex := 24, descriptorIndex := 44, attributes := #[] }] 49 2 #[] #[{ accessFlags := 18, nameIndex := 20, descriptorIndex := 21, attributes := #[] }, { accessFlags := 18, nameIndex := 24, descriptorIndex := 21, attributes := #[] }, { accessFlags := 25, nameIndex := 67, descriptorIndex := 68, attributes := #[] }])
  fields := #[{ name := "finished", type := .int, accessFlags := 18, slot := 0, constantValue := 0 }, { name := "failed", type := .int, accessFlags := 18, slot := 1, constantValue := 0 }, { name := "NONE", type := (.object "com/example/lockstep/lockstep/core/FailFastGroup$Tally"), accessFlags := 25, slot := 0, constantValue := 0 }]
  methods := #[k4m0, k4m1, k4m2]
  instanceTypes := #[.int, .int]
  staticTypes := #[(.object "com/example/lockstep/lockstep/core/FailFastGroup$Tally")]
  resolved := Array.replicate 111 none
  statics := none }

def pool5 : Array CpInfo := pool [(1, .methodref 2 3), (0, .class_ 4), (0, .nameAndType 5 6), (0, u "java/lang/Record"), (0, u "<init>"), (0, u "()V"), (0, .string 8), (0, u "group"), (0, .methodref 10 11), (0, .class_ 12), (0, .nameAndType 13 14), (0, u "java/util/Objects"), (0, u "requireNonNull"), (0, u "(Ljava/lang/Object;Ljava/lang/String;)Ljava/lang/Object;"), (0, .string 16), (0, u "tally"), (0, .methodref 18 19), (0, .class_ 20), (0, .nameAndType 21 22), (0, u "com/example/lockstep/lockstep/core/FailFastGroup$Tally"), (0, u "finished"), (0, u "()I"), (9, .fieldref 33 34), (0, .class_ 35), (0, .nameAndType 8 36), (0, u "com/example/lockstep/lockstep/core/FailFastGroup$Trip"), (0, u "Ljava/lang/String;"), (0, .fieldref 33 38), (0, .nameAndType 16 39), (0, u "Lcom/example/lockstep/lockstep/core/FailFastGroup$Tally;"), (0, .fieldref 33 41), (0, .nameAndType 42 43), (0, u "thresholdPercent"), (0, u "I"), (0, .long 100), (1, .methodref 18 47), (0, .nameAndType 48 22), (0, u "failed"), (12, u "(Ljava/lang/String;Lcom/example/lockstep/lockstep/core/FailFastGroup$Tally;I)V"), (6, u "percentFailed"), (6, .class_ 76), (0, u "com/example/lockstep/lockstep/core/FailFastGroup")] 30

def k5c0 : Code := { maxStack := 3, maxLocals := 4, code := prog_22_method_1_code, exceptionTable := #[], attributes := #[] }
def k5m0 : Method := { name := "<init>", desc := "(Ljava/lang/String;Lcom/example/lockstep/lockstep/core/FailFastGroup$Tally;I)V", sig := { parameters := [(.object "java/lang/String"), (.object "com/example/lockstep/lockstep/core/FailFastGroup$Tally"), .int], returnType := none }, accessFlags := 1, code := some k5c0 }
def k5c1 : Code := { maxStack := 4, maxLocals := 1, code := prog_22_method_2_code, exceptionTable := #[], attributes := #[] }
def k5m1 : Method := { name := "percentFailed", desc := "()I", sig := { parameters := [], returnType := some .int }, accessFlags := 1, code := some k5c1 }
/-- com/example/lockstep/lockstep/core/FailFastGroup$Trip -/
def k5 : Class := { plain "com/example/lockstep/lockstep/core/FailFastGroup$Trip" (some 3) with
  accessFlags := 49
  interfaces := #[]
  cf := some (fileOf pool5 33 #[.nestHost 75] #[{ accessFlags := 1, nameIndex := 5, descriptorIndex := 61, attributes := #[] }, { accessFlags := 1, nameIndex := 68, descriptorIndex := 22, attributes := #[] }] 49 2 #[] #[{ accessFlags := 18, nameIndex := 8, descriptorIndex := 36, attributes := #[] }, { accessFlags := 18, nameIndex := 16, descriptorIndex := 39, attributes := #[] }, { accessFlags := 18, nameIndex := 42, descriptorIndex := 43, attributes := #[] }])
  fields := #[{ name := "group", type := (.object "java/lang/String"), accessFlags := 18, slot := 0, constantValue := 0 }, { name := "tally", type := (.object "com/example/lockstep/lockstep/core/FailFastGroup$Tally"), accessFlags := 18, slot := 1, constantValue := 0 }, { name := "thresholdPercent", type := .int, accessFlags := 18, slot := 2, constantValue := 0 }]
  methods := #[k5m0, k5m1]
  instanceTypes := #[(.object "java/lang/String"), (.object "com/example/lockstep/lockstep/core/FailFastGroup$Tally"), .int]
  staticTypes := #[]
  resolved := Array.replicate 107 none
  statics := none }

def pool6 : Array CpInfo := pool [(1, .class_ 2), (0, u "java/io/Serializable"), (0, .class_ 4), (0, u "java/lang/Object")] 2

/-- java/io/Serializable -/
def k6 : Class := { plain "java/io/Serializable" (some 0) with
  accessFlags := 1537
  interfaces := #[]
  cf := some (fileOf pool6 1 #[] #[] 1537 3 #[] #[])
  fields := #[]
  methods := #[]
  instanceTypes := #[]
  staticTypes := #[]
  resolved := Array.replicate 7 none
  statics := none }

def pool7 : Array CpInfo := pool [(1, .class_ 2), (0, u "java/lang/Comparable"), (0, .class_ 4), (0, u "java/lang/Object")] 7

/-- java/lang/Comparable -/
def k7 : Class := { plain "java/lang/Comparable" (some 0) with
  accessFlags := 1537
  interfaces := #[]
  cf := some (fileOf pool7 1 #[] #[] 1537 3 #[] #[])
  fields := #[]
  methods := #[]
  instanceTypes := #[]
  staticTypes := #[]
  resolved := Array.replicate 12 none
  statics := none }

def pool8 : Array CpInfo := pool [(2, .class_ 4), (1, u "java/lang/CharSequence"), (42, .class_ 48), (0, u "java/lang/CharSequence$1CodePointIterator"), (10, .class_ 60), (0, u "java/lang/CharSequence$1CharIterator"), (5, .class_ 67), (0, u "java/lang/Object")] 63

/-- java/lang/CharSequence -/
def k8 : Class := { plain "java/lang/CharSequence" (some 0) with
  accessFlags := 1537
  interfaces := #[]
  cf := some (fileOf pool8 2 #[.nestMembers #[47, 59]] #[] 1537 66 #[] #[])
  fields := #[]
  methods := #[]
  instanceTypes := #[]
  staticTypes := #[]
  resolved := Array.replicate 131 none
  statics := none }

def pool9 : Array CpInfo := pool [(1, .class_ 2), (0, u "java/lang/constant/Constable"), (0, .class_ 4), (0, u "java/lang/Object")] 6

/-- java/lang/constant/Constable -/
def k9 : Class := { plain "java/lang/constant/Constable" (some 0) with
  accessFlags := 1537
  interfaces := #[]
  cf := some (fileOf pool9 1 #[] #[] 1537 3 #[] #[])
  fields := #[]
  methods := #[]
  instanceTypes := #[]
  staticTypes := #[]
  resolved := Array.replicate 11 none
  statics := none }

def pool10 : Array CpInfo := pool [(1, .class_ 2), (0, u "java/lang/constant/ConstantDesc"), (0, .class_ 4), (0, u "java/lang/Object")] 32

/-- java/lang/constant/ConstantDesc -/
def k10 : Class := { plain "java/lang/constant/ConstantDesc" (some 0) with
  accessFlags := 1537
  interfaces := #[]
  cf := some (fileOf pool10 1 #[] #[] 1537 3 #[] #[])
  fields := #[]
  methods := #[]
  instanceTypes := #[]
  staticTypes := #[]
  resolved := Array.replicate 37 none
  statics := none }

def pool11 : Array CpInfo := pool [(2, .class_ 4), (1, u "java/lang/Object"), (0, u "<init>"), (0, u "()V"), (3, .class_ 12), (1, u "java/lang/String"), (0, u "value"), (0, u "[B"), (2, u "coder"), (0, u "B"), (2, u "hash"), (0, u "I"), (2, u "hashIsZero"), (0, u "Z"), (13, u "COMPACT_STRINGS"), (534, .class_ 576), (0, u "java/lang/CharSequence"), (22, u "CASE_INSENSITIVE_ORDER"), (0, u "Ljava/util/Comparator;"), (500, u "serialPersistentFields"), (0, u "[Ljava/io/ObjectStreamField;"), (0, .class_ 1104), (0, u "java/lang/String$CaseInsensitiveComparator"), (1, .class_ 1107), (0, u "java/io/Serializable"), (0, .class_ 1109), (0, u "java/lang/Comparable"), (0, .class_ 1111), (0, u "java/lang/constant/Constable"), (0, .class_ 1113), (0, u "java/lang/constant/ConstantDesc"), (2, u "serialVersionUID"), (0, u "J"), (3, u "REPL"), (0, u "C"), (2, u "LATIN1"), (1, u "UTF16")] 323

def k11m0 : Method := { name := "<init>", desc := "()V", sig := { parameters := [], returnType := none }, accessFlags := 1, code := none }
/-- java/lang/String -/
def k11 : Class := { plain "java/lang/String" (some 0) with
  accessFlags := 49
  interfaces := #[6, 7, 8, 9, 10]
  cf := some (fileOf pool11 10 #[.nestMembers #[1103]] #[{ accessFlags := 1, nameIndex := 5, descriptorIndex := 6, attributes := #[] }] 49 2 #[1106, 1108, 575, 1110, 1112] #[{ accessFlags := 18, nameIndex := 13, descriptorIndex := 14, attributes := #[] }, { accessFlags := 18, nameIndex := 17, descriptorIndex := 18, attributes := #[] }, { accessFlags := 2, nameIndex := 21, descriptorIndex := 22, attributes := #[] }, { accessFlags := 2, nameIndex := 25, descriptorIndex := 26, attributes := #[] }, { accessFlags := 26, nameIndex := 1116, descriptorIndex := 1117, attributes := #[] }, { accessFlags := 24, nameIndex := 40, descriptorIndex := 26, attributes := #[] }, { accessFlags := 26, nameIndex := 1101, descriptorIndex := 1102, attributes := #[] }, { accessFlags := 26, nameIndex := 1121, descriptorIndex := 1122, attributes := #[] }, { accessFlags := 25, nameIndex := 599, descriptorIndex := 600, attributes := #[] }, { accessFlags := 24, nameIndex := 1125, descriptorIndex := 18, attributes := #[] }, { accessFlags := 24, nameIndex := 1127, descriptorIndex := 18, attributes := #[] }])
  fields := #[{ name := "value", type := (.array .byte), accessFlags := 18, slot := 0, constantValue := 0 }, { name := "coder", type := .byte, accessFlags := 18, slot := 1, constantValue := 0 }, { name := "hash", type := .int, accessFlags := 2, slot := 2, constantValue := 0 }, { name := "hashIsZero", type := .boolean, accessFlags := 2, slot := 3, constantValue := 0 }, { name := "serialVersionUID", type := .long, accessFlags := 26, slot := 0, constantValue := 0 }, { name := "COMPACT_STRINGS", type := .boolean, accessFlags := 24, slot := 1, constantValue := 0 }, { name := "serialPersistentFields", type := (.array (.object "java/io/ObjectStreamField")), accessFlags := 26, slot := 2, constantValue := 0 }, { name := "REPL", type := .char, accessFlags := 26, slot := 3, constantValue := 0 }, { name := "CASE_INSENSITIVE_ORDER", type := (.object "java/util/Comparator"), accessFlags := 25, slot := 4, constantValue := 0 }, { name := "LATIN1", type := .byte, accessFlags := 24, slot := 5, constantValue := 0 }, { name := "UTF16", type := .byte, accessFlags := 24, slot := 6, constantValue := 0 }]
  methods := #[k11m0]
  instanceTypes := #[(.array .byte), .byte, .int, .boolean]
  staticTypes := #[.long, .boolean, (.array (.object "java/io/ObjectStreamField")), .char, (.object "java/util/Comparator"), .byte, .byte]
  resolved := Array.replicate 1451 none
  statics := none }

def pool12 : Array CpInfo := pool [(2, .class_ 4), (1, u "java/lang/Object"), (0, u "<init>"), (0, u "()V"), (35, .class_ 44), (1, u "java/util/Objects"), (0, u "requireNonNull"), (48, u "(Ljava/lang/Object;Ljava/lang/String;)Ljava/lang/Object;")] 89

def k12m0 : Method := { name := "<init>", desc := "()V", sig := { parameters := [], returnType := none }, accessFlags := 2, code := none }
def k12c1 : Code := { maxStack := 3, maxLocals := 2, code := jdk_31_method_11_code, exceptionTable := #[], attributes := #[] }
def k12m1 : Method := { name := "requireNonNull", desc := "(Ljava/lang/Object;Ljava/lang/String;)Ljava/lang/Object;", sig := { parameters := [(.object "java/lang/Object"), (.object "java/lang/String")], returnType := some (.object "java/lang/Object") }, accessFlags := 9, code := some k12c1 }
/-- java/util/Objects -/
def k12 : Class := { plain "java/util/Objects" (some 0) with
  accessFlags := 49
  interfaces := #[]
  cf := some (fileOf pool12 42 #[] #[{ accessFlags := 2, nameIndex := 5, descriptorIndex := 6, attributes := #[] }, { accessFlags := 9, nameIndex := 45, descriptorIndex := 94, attributes := #[] }] 49 2 #[] #[])
  fields := #[]
  methods := #[k12m0, k12m1]
  instanceTypes := #[]
  staticTypes := #[]
  resolved := Array.replicate 184 none
  statics := none }

def pool13 : Array CpInfo := pool [(1, u "java/lang/Cloneable"), (0, .class_ 1), (0, u "java/lang/Object"), (0, .class_ 3)] 3

/-- java/lang/Cloneable -/
def k13 : Class := { plain "java/lang/Cloneable" (some 0) with
  accessFlags := 1537
  interfaces := #[]
  cf := some (fileOf pool13 2 #[] #[] 1537 4 #[] #[])
  fields := #[]
  methods := #[]
  instanceTypes := #[]
  staticTypes := #[]
  resolved := Array.replicate 8 none
  statics := none }

/-- the primitive byte -/
def k14 : Class := { plain "byte" none with kind := .primitive 'B', accessFlags := 0x411 }
/-- [B -/
def k15 : Class := { plain "[B" (some 0) with kind := .array 14 .byte, interfaces := #[13, 6], accessFlags := 1041 }

/-- the primitive int -/
def k16 : Class := { plain "int" none with kind := .primitive 'I', accessFlags := 0x411 }
/-- [I -/
def k17 : Class := { plain "[I" (some 0) with kind := .array 16 .int, interfaces := #[13, 6], accessFlags := 1041 }

def heap : Heap := #[]
def classes : Array Class := #[k0, k1, k2, k3, k4, k5, k6, k7, k8, k9, k10, k11, k12, k13, k14, k15, k16, k17]
def interned : List (Array UInt16 × Addr) := []
def slotsUsed : Nat := 0
def theMethod : MethodId := ⟨1, 1⟩
def args0 : Array Value := #[.int 7, .int 3]
def aboutOver (below : List Frame) : State where
  vm := { classes := classes, interned := interned.toArray }
  heap := heap
  slotsUsed := slotsUsed
  threads := #[{ frames := .invoking theMethod args0 :: below }]
def below0 : List Frame := [.native { method := ⟨0, 0⟩, args := #[] }]
def about1 : State := aboutOver below0
def p0 : Program := .bare "" "" ""
def e0 : Env := launch0.env 0 0 0
theorem w_frames : about1.frames = Frame.invoking theMethod args0 :: below0 := rfl
set_option maxRecDepth 65536 in
theorem w_args : argsFit about1.vm theMethod args0 = true := by decide +kernel
set_option maxRecDepth 65536 in
theorem w_heap : heapFits about1 = true := by decide +kernel
set_option maxRecDepth 65536 in
theorem w_runnable : about1.curStatus? = some .runnable := by decide +kernel
set_option maxRecDepth 65536 in
theorem w_alone : about1.alone = true := by decide +kernel
set_option maxRecDepth 65536 in
theorem w_named : about1.methodNamed? x = some theMethod := by decide +kernel
set_option maxRecDepth 65536 in
theorem w_hears : about1.hears theMethod below0 = true := by decide +kernel
set_option maxRecDepth 65536 in
theorem w_ripe : about1.ripe theMethod args0 below0 = true := by decide +kernel
theorem w_running : about1.status = .running := rfl
set_option maxRecDepth 65536 in
theorem w_room : about1.hasRoom e0.platform room_1 = true :=
  launch0.hasRoom_least _ room_1 (by decide +kernel) (by decide +kernel) (by decide +kernel) (by decide +kernel) (by decide +kernel) (by decide +kernel)
theorem allAtoms_all (ts : List Jvm.Cond) (a : Array Jvm.Value) (st : Jvm.State) : (allAtoms ts).before a st = ts.all (fun c => c.before a st) := by
  induction ts with
  | nil => rfl
  | cons c t ih =>
    show (Jvm.Cond.and c (allAtoms t)).before a st = _
    rw [Jvm.Cond.before_and, ih, List.all_cons]
def words1 : List Jvm.Cond := Jvm.Cond.code x code maxLocals ret :: tables_1
/-- a 'code' word, met by the world's own term for the bytes: nothing is compared byte by byte -/
theorem code_word {y : MethodName} {bytes : ByteArray} {mx : Nat} {rt : Option FieldType} {a : Array Value} {s : State} {m : MethodId} {meth : Method} {c : Code} (h1 : s.methodNamed? y = some m) (h2 : s.vm.method? m = some meth) (h3 : meth.code = some c) (h4 : c.code = bytes)
    (h5 : (c.maxLocals == mx && c.exceptionTable.isEmpty && decide (c.maxStack ≤ mostOperands) && decide (meth.sig.returnType = rt) && !meth.locks && decide (parseMethodDescriptor y.desc = some meth.sig)) = true) : (Jvm.Cond.code y bytes mx rt).before a s = true := by
  simp only [Bool.and_eq_true, beq_iff_eq, Bool.not_eq_true', decide_eq_true_eq] at h5
  obtain ⟨⟨⟨⟨⟨g1, g2⟩, g3⟩, g4⟩, g5⟩, g6⟩ := h5
  simp [Cond.before, Cond.holds, Cond.value, h1, h2, h3, h4, g1, g2, g3, g4, g5, g6]
def isCode : Jvm.Cond → Bool
  | .code _ _ _ _ => true
  | _ => false
theorem all_split {L : List Jvm.Cond} {P : Jvm.Cond → Bool} (h1 : L.all (fun c => isCode c || P c) = true) (h2 : ∀ c ∈ L.filter isCode, P c = true) : L.all P = true := by
  refine List.all_eq_true.mpr fun c hc => ?_
  have h := List.all_eq_true.mp h1 c hc
  rcases Bool.eq_false_or_eq_true (isCode c) with hi | hi
  · exact h2 c (List.mem_filter.mpr ⟨hc, hi⟩)
  · simpa [hi] using h
set_option maxRecDepth 65536 in
theorem w_c0 : (Jvm.Cond.code x code maxLocals ret).before args0 about1 = true := code_word (m := ⟨1, 1⟩) (meth := k1m1) (c := k1c1) (by decide +kernel) rfl rfl rfl (by decide +kernel)
set_option maxRecDepth 65536 in
theorem w_c1 : (Jvm.Cond.code ({ cls := "java/lang/Math", name := "max", desc := "(II)I" } : Jvm.MethodName) jdk_29_method_65_code (2 : Nat) (Option.some Jvm.ClassFile.FieldType.int)).before args0 about1 = true := code_word (m := ⟨2, 1⟩) (meth := k2m1) (c := k2c1) (by decide +kernel) rfl rfl rfl (by decide +kernel)
set_option maxRecDepth 65536 in
theorem w_c2 : (Jvm.Cond.code ({ cls := "com/example/lockstep/lockstep/core/FailFastGroup$Tally", name := "<init>", desc := "(II)V" } : Jvm.MethodName) prog_21_method_1_code (3 : Nat) (Option.none : Option Jvm.ClassFile.FieldType)).before args0 about1 = true := code_word (m := ⟨4, 0⟩) (meth := k4m0) (c := k4c0) (by decide +kernel) rfl rfl rfl (by decide +kernel)
set_option maxRecDepth 65536 in
theorem w_c3 : (Jvm.Cond.code ({ cls := "java/lang/Record", name := "<init>", desc := "()V" } : Jvm.MethodName) jdk_30_method_1_code (1 : Nat) (Option.none : Option Jvm.ClassFile.FieldType)).before args0 about1 = true := code_word (m := ⟨3, 0⟩) (meth := k3m0) (c := k3c0) (by decide +kernel) rfl rfl rfl (by decide +kernel)
set_option maxRecDepth 65536 in
theorem w_c4 : (Jvm.Cond.code ({ cls := "java/lang/Object", name := "<init>", desc := "()V" } : Jvm.MethodName) object_method_1_code (1 : Nat) (Option.none : Option Jvm.ClassFile.FieldType)).before args0 about1 = true := code_word (m := ⟨0, 0⟩) (meth := k0m0) (c := k0c0) (by decide +kernel) rfl rfl rfl (by decide +kernel)
set_option maxRecDepth 65536 in
theorem w_c5 : (Jvm.Cond.code ({ cls := "com/example/lockstep/lockstep/core/FailFastGroup$Trip", name := "<init>", desc := "(Ljava/lang/String;Lcom/example/lockstep/lockstep/core/FailFastGroup$Tally;I)V" } : Jvm.MethodName) prog_22_method_1_code (4 : Nat) (Option.none : Option Jvm.ClassFile.FieldType)).before args0 about1 = true := code_word (m := ⟨5, 0⟩) (meth := k5m0) (c := k5c0) (by decide +kernel) rfl rfl rfl (by decide +kernel)
set_option maxRecDepth 65536 in
theorem w_c6 : (Jvm.Cond.code ({ cls := "java/util/Objects", name := "requireNonNull", desc := "(Ljava/lang/Object;Ljava/lang/String;)Ljava/lang/Object;" } : Jvm.MethodName) jdk_31_method_11_code (2 : Nat) (Option.some (Jvm.ClassFile.FieldType.object "java/lang/Object"))).before args0 about1 = true := code_word (m := ⟨12, 1⟩) (meth := k12m1) (c := k12c1) (by decide +kernel) rfl rfl rfl (by decide +kernel)
set_option maxRecDepth 65536 in
theorem w_c7 : (Jvm.Cond.code ({ cls := "com/example/lockstep/lockstep/core/FailFastGroup$Tally", name := "finished", desc := "()I" } : Jvm.MethodName) prog_21_method_6_code (1 : Nat) (Option.some Jvm.ClassFile.FieldType.int)).before args0 about1 = true := code_word (m := ⟨4, 1⟩) (meth := k4m1) (c := k4c1) (by decide +kernel) rfl rfl rfl (by decide +kernel)
set_option maxRecDepth 65536 in
theorem w_c8 : (Jvm.Cond.code ({ cls := "com/example/lockstep/lockstep/core/FailFastGroup$Trip", name := "percentFailed", desc := "()I" } : Jvm.MethodName) prog_22_method_2_code (1 : Nat) (Option.some Jvm.ClassFile.FieldType.int)).before args0 about1 = true := code_word (m := ⟨5, 1⟩) (meth := k5m1) (c := k5c1) (by decide +kernel) rfl rfl rfl (by decide +kernel)
set_option maxRecDepth 65536 in
theorem w_c9 : (Jvm.Cond.code ({ cls := "com/example/lockstep/lockstep/core/FailFastGroup$Tally", name := "failed", desc := "()I" } : Jvm.MethodName) prog_21_method_7_code (1 : Nat) (Option.some Jvm.ClassFile.FieldType.int)).before args0 about1 = true := code_word (m := ⟨4, 2⟩) (meth := k4m2) (c := k4c2) (by decide +kernel) rfl rfl rfl (by decide +kernel)
def codes1 : List Jvm.Cond := [Jvm.Cond.code x code maxLocals ret, Jvm.Cond.code ({ cls := "java/lang/Math", name := "max", desc := "(II)I" } : Jvm.MethodName) jdk_29_method_65_code (2 : Nat) (Option.some Jvm.ClassFile.FieldType.int), Jvm.Cond.code ({ cls := "com/example/lockstep/lockstep/core/FailFastGroup$Tally", name := "<init>", desc := "(II)V" } : Jvm.MethodName) prog_21_method_1_code (3 : Nat) (Option.none : Option Jvm.ClassFile.FieldType), Jvm.Cond.code ({ cls := "java/lang/Record", name := "<init>", desc := "()V" } : Jvm.MethodName) jdk_30_method_1_code (1 : Nat) (Option.none : Option Jvm.ClassFile.FieldType), Jvm.Cond.code ({ cls := "java/lang/Object", name := "<init>", desc := "()V" } : Jvm.MethodName) object_method_1_code (1 : Nat) (Option.none : Option Jvm.ClassFile.FieldType), Jvm.Cond.code ({ cls := "com/example/lockstep/lockstep/core/FailFastGroup$Trip", name := "<init>", desc := "(Ljava/lang/String;Lcom/example/lockstep/lockstep/core/FailFastGroup$Tally;I)V" } : Jvm.MethodName) prog_22_method_1_code (4 : Nat) (Option.none : Option Jvm.ClassFile.FieldType), Jvm.Cond.code ({ cls := "java/util/Objects", name := "requireNonNull", desc := "(Ljava/lang/Object;Ljava/lang/String;)Ljava/lang/Object;" } : Jvm.MethodName) jdk_31_method_11_code (2 : Nat) (Option.some (Jvm.ClassFile.FieldType.object "java/lang/Object")), Jvm.Cond.code ({ cls := "com/example/lockstep/lockstep/core/FailFastGroup$Tally", name := "finished", desc := "()I" } : Jvm.MethodName) prog_21_method_6_code (1 : Nat) (Option.some Jvm.ClassFile.FieldType.int), Jvm.Cond.code ({ cls := "com/example/lockstep/lockstep/core/FailFastGroup$Trip", name := "percentFailed", desc := "()I" } : Jvm.MethodName) prog_22_method_2_code (1 : Nat) (Option.some Jvm.ClassFile.FieldType.int), Jvm.Cond.code ({ cls := "com/example/lockstep/lockstep/core/FailFastGroup$Tally", name := "failed", desc := "()I" } : Jvm.MethodName) prog_21_method_7_code (1 : Nat) (Option.some Jvm.ClassFile.FieldType.int)]
set_option maxRecDepth 65536 in
theorem codes_eq : words1.filter isCode = codes1 := rfl
theorem w_codes : ∀ c ∈ words1.filter isCode, c.before args0 about1 = true := by
  rw [codes_eq]
  intro c hc
  simp only [codes1, List.mem_cons, List.not_mem_nil, or_false] at hc
  rcases hc with rfl | rfl | rfl | rfl | rfl | rfl | rfl | rfl | rfl | rfl
  · exact w_c0
  · exact w_c1
  · exact w_c2
  · exact w_c3
  · exact w_c4
  · exact w_c5
  · exact w_c6
  · exact w_c7
  · exact w_c8
  · exact w_c9
set_option maxRecDepth 65536 in
theorem w_t1 : (words1.take 24).all (fun c => isCode c || c.before args0 about1) = true := by decide +kernel
set_option maxRecDepth 65536 in
theorem w_t2 : ((words1.drop 24).take 24).all (fun c => isCode c || c.before args0 about1) = true := by decide +kernel
set_option maxRecDepth 65536 in
theorem w_t3 : ((words1.drop 24).drop 24).all (fun c => isCode c || c.before args0 about1) = true := by decide +kernel
theorem w_tables : (allAtoms (Jvm.Cond.code x code maxLocals ret :: tables_1)).before args0 about1 = true := by
  rw [allAtoms_all]
  show words1.all (fun c => c.before args0 about1) = true
  refine all_split ?_ w_codes
  rw [← List.take_append_drop 24 words1, List.all_append, w_t1, ← List.take_append_drop 24 (words1.drop 24), List.all_append, w_t2, w_t3]
  rfl
set_option maxRecDepth 65536 in
theorem w_case : (Jvm.Cond.and given_1 narrow_1).before args0 about1 = true := by decide +kernel
theorem w_applies : (headSpec (Jvm.Cond.code x code maxLocals ret :: tables_1) room_1).applies x e0.platform about1 = true :=
  (Spec.applies_iff w_frames).mpr ⟨w_running, w_runnable, w_alone, w_named, w_hears, w_ripe, w_room, w_tables⟩
theorem atStart : AtStart classFile x code maxLocals ret World_1 tables_1 room_1 Calls_1 rest_1 Pre_1 launch0 p0 e0 about1 theMethod args0 below0 :=
  ⟨lists_1, trivial, launch0.admits_env _ _ _, launch0.least_env, fairChoices_fair.cas, fairChoices_fair.clock, w_frames, w_args, w_heap, w_applies, trivial, trivial, w_case⟩
end start1
theorem witness_1 : WitnessClaimed_1 := ⟨start1.p0, start1.e0, start1.about1, start1.theMethod, start1.args0, start1.below0, start1.atStart⟩
end Jvm.Pilot.@@N@@
