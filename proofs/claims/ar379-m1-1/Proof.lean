import JvmDerived
import JvmDerived.Pilot.@@N@@Statement
import JvmDerived.Pilot.@@N@@Code
set_option linter.unusedVariables false
set_option linter.unusedSimpArgs false
namespace Jvm.RoadKit
open Sem ClassFile Op Lib Jvm.Stand Jvm.Free Jvm.LawKit
section New
variable {p : Program} {l : Launch} {e : Env} {R : Room} {s : State} {m : MethodId} {args : Array Value} {below : List Frame} {meth : Method} {c : Code} {T : State} {locs : List Loc} {cells slots : Nat}
theorem retI (X : Stand p l e R s m args below meth c T locs cells slots) (hx : p.tables.exec = Jvm.exec) {pc : Nat} {Ls : Array Slot} {z : Int32} {rest : List Value} (hret : meth.sig.returnType = some .int) (hd : decode c.code pc = .ok (.ireturn, 1)) {fs : List Frame}
    (hl : ∀ (f : JFrame) (acts : List Action), f.method = m → f.locked = none → f.entered = [] → (doReturn e (T.setTop f) acts (some (.int z))).1 = T.setFrames fs) : Steps p.tables e below (T.setTop (mkF m pc Ls (.int z :: rest))) (T.setFrames fs) := by
  have hm' : T.vm.method? m = some meth := X.method'
  have hn : narrow .int (.int z) = .int z := rfl
  show Steps p.tables e below (T.setTop { method := m, pc := pc, locals := Ls, stack := _ :: rest, locked := none }) _
  jvm_step X.here [X.here.top, hx, hd, hm', hret, hn]
  first | (intro acts; rw [hl _ acts rfl rfl rfl]) | rw [hl _ _ rfl rfl rfl]
  exact Steps.refl _
end New
end Jvm.RoadKit
namespace Jvm.Pilot.@@N@@
open Jvm Jvm.ClassFile Sem Op Lib Jvm.Free Jvm.Stand Jvm.LawKit Jvm.RoadKit Bundle Jvm.Pilot.@@N@@.Jvm.D
def own_low (c : Int32) : Int32 := if c < (65 : Int32) then c else (if (90 : Int32) < c then c else ((c + (32 : Int32)).toUInt32.toUInt16.toUInt32.toInt32))
theorem own_ch (u : UInt16) : nar .char (u.toUInt32.toInt32) = u.toUInt32.toInt32 := by simp [nar]
theorem own_chInt (u : UInt16) : (u.toUInt32.toInt32).toInt = u.toNat := by
  have hu := u.toNat_lt
  have e : (u.toUInt32.toInt32).toInt = (u.toUInt32.toInt32).toBitVec.toInt := rfl
  have e2 : (u.toUInt32.toInt32).toBitVec.toNat = u.toUInt32.toNat := rfl
  rw [e, BitVec.toInt_eq_toNat_cond, e2, UInt16.toNat_toUInt32]
  split <;> omega
def own_v4 (c : Int32) : Int32 := if c < (65 : Int32) then (0 : Int32) else (if (90 : Int32) < c then (0 : Int32) else (1 : Int32))
def own_mid (n : Nat) : Bool :=
  let c : Int32 := (UInt16.ofNat n).toUInt32.toInt32
  let r := nar .char (own_low c)
  decide (r = (c ||| (32 : Int32))) && decide ((90 : Int32) < r) && decide (nar .char (own_low r) = r) && !decide (r < (65 : Int32))
set_option maxRecDepth 65536 in
theorem own_mids : ∀ k : Fin 26, own_mid (65 + k.val) = true := by decide +kernel
theorem own_law (u : UInt16) (c r d v4 v5 v6 v7 v8 v9 : Int32) (hc : c = u.toUInt32.toInt32) (hr : r = nar .char (own_low c)) (hd : d = nar .char (own_low r))
    (h4 : v4 = (if c < (65 : Int32) then (0 : Int32) else (if (90 : Int32) < c then (0 : Int32) else (1 : Int32)))) (h5 : v5 = (if v4 = (0 : Int32) then c else (c ||| (32 : Int32)))) (h6 : v6 = (if r = v5 then (1 : Int32) else (0 : Int32)))
    (h7 : v7 = (if r < (65 : Int32) then (1 : Int32) else (if (90 : Int32) < r then (1 : Int32) else (0 : Int32)))) (h8 : v8 = (if d = r then (1 : Int32) else (0 : Int32)))
    (h9 : v9 = (if v6 = (0 : Int32) then (0 : Int32) else (if v7 = (0 : Int32) then (0 : Int32) else (if v8 = (0 : Int32) then (0 : Int32) else (1 : Int32))))) : v9 = 1 := by
  have hn : nar .char c = c := by rw [hc]; exact own_ch u
  have fin : r = v5 → (r < (65 : Int32) ∨ (90 : Int32) < r) → d = r → v9 = 1 := fun q1 q2 q3 => by
    have e6 : v6 = 1 := by rw [h6, if_pos q1]
    have e8 : v8 = 1 := by rw [h8, if_pos q3]
    have e7 : v7 = 1 := by
      rw [h7]
      rcases q2 with q | q
      · rw [if_pos q]
      · rw [if_pos q]; split <;> rfl
    rw [h9, e6, e7, e8]; decide
  by_cases a : c < (65 : Int32)
  · have e1 : own_low c = c := by rw [own_low, if_pos a]
    have er : r = c := by rw [hr, e1, hn]
    have ed : d = r := by rw [hd, er, e1, hn]
    have e4 : v4 = 0 := by rw [h4, if_pos a]
    exact fin (by rw [er, h5, if_pos e4]) (Or.inl (by rw [er]; exact a)) ed
  · by_cases b : (90 : Int32) < c
    · have e1 : own_low c = c := by rw [own_low, if_neg a, if_pos b]
      have er : r = c := by rw [hr, e1, hn]
      have ed : d = r := by rw [hd, er, e1, hn]
      have e4 : v4 = 0 := by rw [h4, if_neg a, if_pos b]
      exact fin (by rw [er, h5, if_pos e4]) (Or.inr (by rw [er]; exact b)) ed
    · have e4 : ¬ v4 = 0 := by rw [h4, if_neg a, if_neg b]; decide
      have hu := own_chInt u
      rw [← hc] at hu
      have a' : ¬ c.toInt < 65 := fun q => a (Int32.lt_iff_toInt_lt.mpr q)
      have b' : ¬ 90 < c.toInt := fun q => b (Int32.lt_iff_toInt_lt.mpr q)
      have m := own_mids ⟨u.toNat - 65, by omega⟩
      have eu : UInt16.ofNat (65 + (u.toNat - 65)) = u := by
        rw [show 65 + (u.toNat - 65) = u.toNat from by omega]; simp
      simp only [own_mid, eu, ← hc, ← hr, ← hd, Bool.and_eq_true, decide_eq_true_eq] at m
      exact fin (by rw [h5, if_neg e4]; exact m.1.1.1) (Or.inr m.1.1.2) m.1.2
theorem d1_0 : decode prog_64_method_6_code 0 = .ok (.iload_n 0, 1) := by decide +kernel
theorem d1_1 : decode prog_64_method_6_code 1 = .ok (.bipush 65, 2) := by decide +kernel
theorem d1_3 : decode prog_64_method_6_code 3 = .ok (.if_icmp .lt 17, 3) := by decide +kernel
theorem d1_6 : decode prog_64_method_6_code 6 = .ok (.iload_n 0, 1) := by decide +kernel
theorem d1_7 : decode prog_64_method_6_code 7 = .ok (.bipush 90, 2) := by decide +kernel
theorem d1_9 : decode prog_64_method_6_code 9 = .ok (.if_icmp .gt 11, 3) := by decide +kernel
theorem d1_12 : decode prog_64_method_6_code 12 = .ok (.iload_n 0, 1) := by decide +kernel
theorem d1_13 : decode prog_64_method_6_code 13 = .ok (.bipush 32, 2) := by decide +kernel
theorem d1_15 : decode prog_64_method_6_code 15 = .ok (.iadd, 1) := by decide +kernel
theorem d1_16 : decode prog_64_method_6_code 16 = .ok (.i2c, 1) := by decide +kernel
theorem d1_17 : decode prog_64_method_6_code 17 = .ok (.goto 4, 3) := by decide +kernel
theorem d1_20 : decode prog_64_method_6_code 20 = .ok (.iload_n 0, 1) := by decide +kernel
theorem d1_21 : decode prog_64_method_6_code 21 = .ok (.ireturn, 1) := by decide +kernel
theorem own_pn1 : plainName "com/example/amendtrail/amendtrail/Words" = true := by first | (simp [plainName, overriddenIn]; done) | decide +kernel
def Q_rm1 (Z : State) (c : Int32)  (h0 : Heap) (n0 : Nat) (v : Option Value) (h : Heap) (L : List Loc) : Prop := v = some (.int (nar .char (own_low c))) ∧ Fr n0 L ∧ h = h0
theorem ef_rm1 (m : MethodId) (x0 : Int32) : entryFrame m #[(.int x0)] 1 = mkF m 0 #[.val (.int x0)] [] := by first | (simp [entryFrame, mkF, argsToLocals, Value.category]; done) | rfl
set_option maxRecDepth 65536 in
set_option maxHeartbeats 40000000 in
theorem rm1 (l : Launch) (Z : State) (a0 : Array Value) (hw : ∀ d ∈ tables_1, d.before a0 Z = true) (ws : List Jvm.Cond) (c : Int32)  (h0 : Heap) (n0 : Nat) (Z0 : n0 ≤ h0.size)  :
    MetFree l (⟨"com/example/amendtrail/amendtrail/Words", "asciiLower", "(C)C"⟩ : MethodName) (head1 (Jvm.Cond.code (⟨"com/example/amendtrail/amendtrail/Words", "asciiLower", "(C)C"⟩ : MethodName) prog_64_method_6_code 1 (some .char) :: ws) ({ frames := 0, cells := 0, slots := 0, locals := 0 } : Room)) (fun a' U => a' = #[(.int c)] ∧ Z.Warmed39 U.vm ∧ U.heap = h0) (fun _ _ _ _ _ => True) (fun _ U o U' => ∃ v L, o = .returned v ∧ Q_rm1 Z c h0 n0 v U'.heap L ∧ FrameEnd U o U' L ({ frames := 0, cells := 0, slots := 0, locals := 0 } : Room).cells ({ frames := 0, cells := 0, slots := 0, locals := 0 } : Room).slots) := by
  refine MetFree.of_bodySF (plainFor_of_name own_pn1) hisR ?_
  intro p e s m args below meth cd0 s₁ Bd hml0 hP hK
  obtain ⟨rfl, hZ, hh⟩ := hP
  have hx := Bd.exec
  have hby := Bd.bytes
  have hml : cd0.maxLocals = 1 := hml0
  have hown : s.vm.findClass "com/example/amendtrail/amendtrail/Words" = some m.cls := findClass_of_methodNamed Bd.named
  have hnm := (name_of_methodNamed Bd.named Bd.method).1
  have X : Stand p l e ({ frames := 0, cells := 0, slots := 0, locals := 0 } : Room) s m #[(.int c)] below meth cd0 s₁ [] 0 0 := Stand.of_body Bd
  have eh : s₁.heap = h0 := by rw [← hh, Bd.state]; rfl
  have N := Fr.nil n0
  have K : Keep h0 h0 [] := Keep.refl _ _
  have pre0 : ∀ t, Steps p.tables e below (s₁.setTop (mkF m 0 #[.val (.int c)] [])) t → Steps p.tables e below (s₁.setTop (entryFrame m #[(.int c)] 1)) t := fun t k => castTop (ef_rm1 m c) k
  have st : ∀ t, Steps p.tables e below (s₁.setTop (mkF m 0 #[.val (.int c)] [])) t → Steps p.tables e below (s₁.setTop (mkF m 0 #[.val (.int c)] [])) t := fun t k => k
  obtain ⟨r, hv_r, sx⟩ : ∃ (r : Int32), r = (if c < (65 : Int32) then c else (if (90 : Int32) < c then c else ((c + (32 : Int32)).toUInt32.toUInt16.toUInt32.toInt32))) ∧ ∀ t, Steps p.tables e below (s₁.setTop (mkF m 21 #[.val (.int c)] [(.int r)])) t → Steps p.tables e below (s₁.setTop (mkF m 0 #[.val (.int c)] [])) t := by
    by_cases hj1 : c < (65 : Int32)
    · refine ⟨c, by rw [if_pos hj1], fun t k => ?_⟩
      show Steps p.tables e below (s₁.setTop (mkF m 0 #[.val (.int c)] [])) _
      refine XS.iloadN X.here hx rfl (hb hby d1_0) rfl ?_
      show Steps p.tables e below (s₁.setTop (mkF m 1 #[.val (.int c)] [(.int c)])) _
      refine XS.bipush X.here hx rfl (hb hby d1_1) ?_
      show Steps p.tables e below (s₁.setTop (mkF m 3 #[.val (.int c)] [(.int (65 : Int32)), (.int c)])) _
      refine XS.icmpYes X.here hx rfl (pc0 := 3) (pc' := 20) rfl (hb hby d1_3) rfl (tlt hj1).1 (by decide) (by decide) ?_
      show Steps p.tables e below (s₁.setTop (mkF m 20 #[.val (.int c)] [])) _
      refine XS.iloadN X.here hx rfl (hb hby d1_20) rfl ?_
      exact k
    · by_cases hj2 : (90 : Int32) < c
      · refine ⟨c, by rw [if_neg hj1, if_pos hj2], fun t k => ?_⟩
        show Steps p.tables e below (s₁.setTop (mkF m 0 #[.val (.int c)] [])) _
        refine XS.iloadN X.here hx rfl (hb hby d1_0) rfl ?_
        show Steps p.tables e below (s₁.setTop (mkF m 1 #[.val (.int c)] [(.int c)])) _
        refine XS.bipush X.here hx rfl (hb hby d1_1) ?_
        show Steps p.tables e below (s₁.setTop (mkF m 3 #[.val (.int c)] [(.int (65 : Int32)), (.int c)])) _
        refine XS.icmpNo X.here hx rfl (hb hby d1_3) rfl (flt hj1).1 ?_
        show Steps p.tables e below (s₁.setTop (mkF m 6 #[.val (.int c)] [])) _
        refine XS.iloadN X.here hx rfl (hb hby d1_6) rfl ?_
        show Steps p.tables e below (s₁.setTop (mkF m 7 #[.val (.int c)] [(.int c)])) _
        refine XS.bipush X.here hx rfl (hb hby d1_7) ?_
        show Steps p.tables e below (s₁.setTop (mkF m 9 #[.val (.int c)] [(.int (90 : Int32)), (.int c)])) _
        refine XS.icmpYes X.here hx rfl (pc0 := 9) (pc' := 20) rfl (hb hby d1_9) rfl (tlt hj2).2.2.1 (by decide) (by decide) ?_
        show Steps p.tables e below (s₁.setTop (mkF m 20 #[.val (.int c)] [])) _
        refine XS.iloadN X.here hx rfl (hb hby d1_20) rfl ?_
        exact k
      · refine ⟨((c + (32 : Int32)).toUInt32.toUInt16.toUInt32.toInt32), by rw [if_neg hj1, if_neg hj2], fun t k => ?_⟩
        show Steps p.tables e below (s₁.setTop (mkF m 0 #[.val (.int c)] [])) _
        refine XS.iloadN X.here hx rfl (hb hby d1_0) rfl ?_
        show Steps p.tables e below (s₁.setTop (mkF m 1 #[.val (.int c)] [(.int c)])) _
        refine XS.bipush X.here hx rfl (hb hby d1_1) ?_
        show Steps p.tables e below (s₁.setTop (mkF m 3 #[.val (.int c)] [(.int (65 : Int32)), (.int c)])) _
        refine XS.icmpNo X.here hx rfl (hb hby d1_3) rfl (flt hj1).1 ?_
        show Steps p.tables e below (s₁.setTop (mkF m 6 #[.val (.int c)] [])) _
        refine XS.iloadN X.here hx rfl (hb hby d1_6) rfl ?_
        show Steps p.tables e below (s₁.setTop (mkF m 7 #[.val (.int c)] [(.int c)])) _
        refine XS.bipush X.here hx rfl (hb hby d1_7) ?_
        show Steps p.tables e below (s₁.setTop (mkF m 9 #[.val (.int c)] [(.int (90 : Int32)), (.int c)])) _
        refine XS.icmpNo X.here hx rfl (hb hby d1_9) rfl (flt hj2).2.2.1 ?_
        show Steps p.tables e below (s₁.setTop (mkF m 12 #[.val (.int c)] [])) _
        refine XS.iloadN X.here hx rfl (hb hby d1_12) rfl ?_
        show Steps p.tables e below (s₁.setTop (mkF m 13 #[.val (.int c)] [(.int c)])) _
        refine XS.bipush X.here hx rfl (hb hby d1_13) ?_
        show Steps p.tables e below (s₁.setTop (mkF m 15 #[.val (.int c)] [(.int (32 : Int32)), (.int c)])) _
        refine XS.iadd X.here hx rfl (hb hby d1_15) rfl ?_
        show Steps p.tables e below (s₁.setTop (mkF m 16 #[.val (.int c)] [(.int (c + (32 : Int32)))])) _
        refine XS.i2c X.here hx rfl (hb hby d1_16) rfl ?_
        show Steps p.tables e below (s₁.setTop (mkF m 17 #[.val (.int c)] [(.int ((c + (32 : Int32)).toUInt32.toUInt16.toUInt32.toInt32))])) _
        refine XS.goto X.here hx rfl (pc0 := 17) (pc' := 21) rfl (hb hby d1_17) (by decide) (by decide) ?_
        exact k
  have st : ∀ t, Steps p.tables e below (s₁.setTop (mkF m 21 #[.val (.int c)] [(.int r)])) t → Steps p.tables e below (s₁.setTop (mkF m 0 #[.val (.int c)] [])) t := fun t k => st t (sx t k)
  have hr0 : r = own_low c := hv_r
  subst hr0
  obtain ⟨fs_, hr, hrun, hended, hW, hsame⟩ := X.leave (v := some (.int (nar .char (own_low c)))) (fun h => by rw [Bd.returns] at h; cases h)
  refine ⟨_, _, pre0 _ (st _ ?_), hrun, hended, _, _, rfl, ?_, ⟨_, rfl⟩, hW, hsame.mono (by decide) (by decide)⟩
  · exact retN X hx (t := .char) Bd.returns (by simp) (hb hby d1_21) hr
  · show Q_rm1 Z c h0 n0 _ s₁.heap _
    rw [eh]
    exact ⟨rfl, N, rfl⟩
theorem own_pn0 : plainName "com/example/amendtrail/amendtrail/WordsAsciiLowerPinLaw" = true := by first | (simp [plainName, overriddenIn]; done) | decide +kernel
def Q_rm0 (Z : State) (x0 : Int32)  (h0 : Heap) (n0 : Nat) (v : Option Value) (h : Heap) (L : List Loc) : Prop := v = some (.int 1) ∧ Fr n0 L
theorem own_pd0 : parseMethodDescriptor "(C)C" = some ⟨[.char], some .char⟩ := by decide +kernel
theorem ef_rm0 (m : MethodId) (x0 : Int32) : entryFrame m #[(.int x0)] maxLocals = mkF m 0 #[.val (.int x0), .unset, .unset, .unset, .unset, .unset, .unset, .unset, .unset] [] := by first | (simp [entryFrame, mkF, argsToLocals, Value.category, maxLocals]; done) | rfl
set_option maxRecDepth 65536 in
set_option maxHeartbeats 40000000 in
theorem rm0 (l : Launch) (Z : State) (a0 : Array Value) (hw : ∀ d ∈ tables_1, d.before a0 Z = true) (ws : List Jvm.Cond) (x0 : Int32)  (h0 : Heap) (n0 : Nat) (Z0 : n0 ≤ h0.size)  :
    MetFree l x (head1 (Jvm.Cond.code x code maxLocals ret :: ws) room_1) (fun a' U => a' = #[(.int x0)] ∧ Z.Warmed39 U.vm ∧ U.heap = h0) (fun _ _ _ _ _ => True) (fun _ U o U' => ∃ v L, o = .returned v ∧ Q_rm0 Z x0 h0 n0 v U'.heap L ∧ FrameEnd U o U' L room_1.cells room_1.slots) := by
  refine MetFree.of_bodySF (plainFor_of_name own_pn0) hisR ?_
  intro p e s m args below meth cd0 s₁ Bd hml0 hP hK
  obtain ⟨rfl, hZ, hh⟩ := hP
  have hx := Bd.exec
  have hby := Bd.bytes
  have hml : cd0.maxLocals = 9 := hml0
  have hown : s.vm.findClass "com/example/amendtrail/amendtrail/WordsAsciiLowerPinLaw" = some m.cls := findClass_of_methodNamed Bd.named
  have hnm := (name_of_methodNamed Bd.named Bd.method).1
  have X : Stand p l e room_1 s m #[(.int x0)] below meth cd0 s₁ [] 0 0 := Stand.of_body Bd
  have eh : s₁.heap = h0 := by rw [← hh, Bd.state]; rfl
  have N := Fr.nil n0
  have K : Keep h0 h0 [] := Keep.refl _ _
  have pre0 : ∀ t, Steps p.tables e below (s₁.setTop (mkF m 0 #[.val (.int x0), .unset, .unset, .unset, .unset, .unset, .unset, .unset, .unset] [])) t → Steps p.tables e below (s₁.setTop (entryFrame m #[(.int x0)] maxLocals)) t := fun t k => castTop (ef_rm0 m x0) k
  have st : ∀ t, Steps p.tables e below (s₁.setTop (mkF m 0 #[.val (.int x0), .unset, .unset, .unset, .unset, .unset, .unset, .unset, .unset] [])) t → Steps p.tables e below (s₁.setTop (mkF m 0 #[.val (.int x0), .unset, .unset, .unset, .unset, .unset, .unset, .unset, .unset] [])) t := fun t k => k
  have st : ∀ t, Steps p.tables e below (s₁.setTop (mkF m 5 #[.val (.int x0), .unset, .unset, .unset, .unset, .unset, .unset, .unset, .unset] [(.int ((x0 &&& (65535 : Int32)).toUInt32.toUInt16.toUInt32.toInt32))])) t → Steps p.tables e below (s₁.setTop (mkF m 0 #[.val (.int x0), .unset, .unset, .unset, .unset, .unset, .unset, .unset, .unset] [])) t := fun t k => st t (by
      show Steps p.tables e below (s₁.setTop (mkF m 0 #[.val (.int x0), .unset, .unset, .unset, .unset, .unset, .unset, .unset, .unset] [])) _
      refine XS.iloadN X.here hx rfl (hb hby at_0) rfl ?_
      show Steps p.tables e below (s₁.setTop (mkF m 1 #[.val (.int x0), .unset, .unset, .unset, .unset, .unset, .unset, .unset, .unset] [(.int x0)])) _
      refine X.ldcInt hx hown (mvT hZ (hw _ (List.mem_of_getElem? (i := 0) rfl))) (g := (mkF m 1 #[.val (.int x0), .unset, .unset, .unset, .unset, .unset, .unset, .unset, .unset] [(.int x0)])) rfl (hb hby at_1) _ ?_
      show Steps p.tables e below (s₁.setTop (mkF m 3 #[.val (.int x0), .unset, .unset, .unset, .unset, .unset, .unset, .unset, .unset] [(.int (65535 : Int32)), (.int x0)])) _
      refine XS.iand X.here hx rfl (hb hby at_3) rfl ?_
      show Steps p.tables e below (s₁.setTop (mkF m 4 #[.val (.int x0), .unset, .unset, .unset, .unset, .unset, .unset, .unset, .unset] [(.int (x0 &&& (65535 : Int32)))])) _
      refine XS.i2c X.here hx rfl (hb hby at_4) rfl ?_
      exact k)
  obtain ⟨u, hu⟩ : ∃ u : UInt16, u = (x0 &&& (65535 : Int32)).toUInt32.toUInt16 := ⟨_, rfl⟩
  rw [← hu] at st
  obtain ⟨c, hc⟩ : ∃ z : Int32, z = u.toUInt32.toInt32 := ⟨_, rfl⟩
  rw [← hc] at st
  have st : ∀ t, Steps p.tables e below (s₁.setTop (mkF m 7 #[.val (.int x0), .val (.int c), .unset, .unset, .unset, .unset, .unset, .unset, .unset] [(.int c)])) t → Steps p.tables e below (s₁.setTop (mkF m 0 #[.val (.int x0), .unset, .unset, .unset, .unset, .unset, .unset, .unset, .unset] [])) t := fun t k => st t (by
      show Steps p.tables e below (s₁.setTop (mkF m 5 #[.val (.int x0), .unset, .unset, .unset, .unset, .unset, .unset, .unset, .unset] [(.int c)])) _
      refine XS.istoreN X.here hx rfl (hb hby at_5) rfl (l' := #[.val (.int x0), .val (.int c), .unset, .unset, .unset, .unset, .unset, .unset, .unset]) rfl ?_
      show Steps p.tables e below (s₁.setTop (mkF m 6 #[.val (.int x0), .val (.int c), .unset, .unset, .unset, .unset, .unset, .unset, .unset] [])) _
      refine XS.iloadN X.here hx rfl (hb hby at_6) rfl ?_
      exact k)
  obtain ⟨_, _, ⟨T2, L1, k1, n1⟩, -, X, ⟨Lc1, hQ, l1, y1, z1⟩, sx⟩ := Jvm.LawKit.callS X hx (y := (⟨"com/example/amendtrail/amendtrail/Words", "asciiLower", "(C)C"⟩ : MethodName)) hown (mvT hZ (hw _ (List.mem_of_getElem? (i := 1) rfl))) (mvT hZ (hw _ (List.mem_of_getElem? (i := 2) rfl))) (mvT hZ (hw _ (List.mem_of_getElem? (i := 3) rfl))) (mvT hZ (hw _ (List.mem_of_getElem? (i := 4) rfl))) (by decide) (backOf (W := 0) (rm1 l Z a0 hw [] c  h0 n0 Z0 ) hZ (hw _ (List.mem_of_getElem? (i := 4) rfl)) (hw _ (List.mem_of_getElem? (i := 3) rfl)) (by decide) (by decide)) (g := (mkF m 7 #[.val (.int x0), .val (.int c), .unset, .unset, .unset, .unset, .unset, .unset, .unset] [(.int c)])) rfl (by rw [hml]; rfl) (argsL := [(.int c)]) (rest := []) (lenOf own_pd0 rfl) rfl (by show 2 * 0 + _ ≤ _; exact Nat.le_of_eq rfl) (hb hby at_7) (fun _ _ => ⟨rfl, eh, (by decide : 0 + 0 ≤ _), (by decide : 0 + 0 ≤ _)⟩)
  dsimp only [Pt.U, Pt.locs, Pt.cells, Pt.slots] at X l1 y1 z1 sx hQ
  subst l1 y1 z1
  obtain ⟨rfl, Nc, hsame_⟩ := hQ
  have st : ∀ t, Steps p.tables e below (T2.setTop (mkF m 10 #[.val (.int x0), .val (.int c), .unset, .unset, .unset, .unset, .unset, .unset, .unset] [(.int (nar .char (own_low c)))])) t → Steps p.tables e below (s₁.setTop (mkF m 0 #[.val (.int x0), .unset, .unset, .unset, .unset, .unset, .unset, .unset, .unset] [])) t := fun t k => st t (sx t k)
  have N := Fr.app N Nc
  have eh : T2.heap = h0 := hsame_
  obtain ⟨r, hr⟩ : ∃ z : Int32, z = nar .char (own_low c) := ⟨_, rfl⟩
  rw [← hr] at st
  have st : ∀ t, Steps p.tables e below (T2.setTop (mkF m 13 #[.val (.int x0), .val (.int c), .val (.int r), .val (.int c), .unset, .unset, .unset, .unset, .unset] [])) t → Steps p.tables e below (s₁.setTop (mkF m 0 #[.val (.int x0), .unset, .unset, .unset, .unset, .unset, .unset, .unset, .unset] [])) t := fun t k => st t (by
      show Steps p.tables e below (T2.setTop (mkF m 10 #[.val (.int x0), .val (.int c), .unset, .unset, .unset, .unset, .unset, .unset, .unset] [(.int r)])) _
      refine XS.istoreN X.here hx rfl (hb hby at_10) rfl (l' := #[.val (.int x0), .val (.int c), .val (.int r), .unset, .unset, .unset, .unset, .unset, .unset]) rfl ?_
      show Steps p.tables e below (T2.setTop (mkF m 11 #[.val (.int x0), .val (.int c), .val (.int r), .unset, .unset, .unset, .unset, .unset, .unset] [])) _
      refine XS.iloadN X.here hx rfl (hb hby at_11) rfl ?_
      show Steps p.tables e below (T2.setTop (mkF m 12 #[.val (.int x0), .val (.int c), .val (.int r), .unset, .unset, .unset, .unset, .unset, .unset] [(.int c)])) _
      refine XS.istoreN X.here hx rfl (hb hby at_12) rfl (l' := #[.val (.int x0), .val (.int c), .val (.int r), .val (.int c), .unset, .unset, .unset, .unset, .unset]) rfl ?_
      exact k)
  obtain ⟨v4, hv_v4, sx⟩ : ∃ (v4 : Int32), v4 = (if c < (65 : Int32) then (0 : Int32) else (if (90 : Int32) < c then (0 : Int32) else (1 : Int32))) ∧ ∀ t, Steps p.tables e below (T2.setTop (mkF m 30 #[.val (.int x0), .val (.int c), .val (.int r), .val (.int c), .unset, .unset, .unset, .unset, .unset] [(.int v4)])) t → Steps p.tables e below (T2.setTop (mkF m 13 #[.val (.int x0), .val (.int c), .val (.int r), .val (.int c), .unset, .unset, .unset, .unset, .unset] [])) t := by
    by_cases hj1 : c < (65 : Int32)
    · refine ⟨(0 : Int32), by rw [if_pos hj1], fun t k => ?_⟩
      show Steps p.tables e below (T2.setTop (mkF m 13 #[.val (.int x0), .val (.int c), .val (.int r), .val (.int c), .unset, .unset, .unset, .unset, .unset] [])) _
      refine XS.iloadN X.here hx rfl (hb hby at_13) rfl ?_
      show Steps p.tables e below (T2.setTop (mkF m 14 #[.val (.int x0), .val (.int c), .val (.int r), .val (.int c), .unset, .unset, .unset, .unset, .unset] [(.int c)])) _
      refine XS.bipush X.here hx rfl (hb hby at_14) ?_
      show Steps p.tables e below (T2.setTop (mkF m 16 #[.val (.int x0), .val (.int c), .val (.int r), .val (.int c), .unset, .unset, .unset, .unset, .unset] [(.int (65 : Int32)), (.int c)])) _
      refine XS.icmpYes X.here hx rfl (pc0 := 16) (pc' := 29) rfl (hb hby at_16) rfl (tlt hj1).1 (by decide) (by decide) ?_
      show Steps p.tables e below (T2.setTop (mkF m 29 #[.val (.int x0), .val (.int c), .val (.int r), .val (.int c), .unset, .unset, .unset, .unset, .unset] [])) _
      refine XS.iconst X.here hx rfl (hb hby at_29) ?_
      exact k
    · by_cases hj2 : (90 : Int32) < c
      · refine ⟨(0 : Int32), by rw [if_neg hj1, if_pos hj2], fun t k => ?_⟩
        show Steps p.tables e below (T2.setTop (mkF m 13 #[.val (.int x0), .val (.int c), .val (.int r), .val (.int c), .unset, .unset, .unset, .unset, .unset] [])) _
        refine XS.iloadN X.here hx rfl (hb hby at_13) rfl ?_
        show Steps p.tables e below (T2.setTop (mkF m 14 #[.val (.int x0), .val (.int c), .val (.int r), .val (.int c), .unset, .unset, .unset, .unset, .unset] [(.int c)])) _
        refine XS.bipush X.here hx rfl (hb hby at_14) ?_
        show Steps p.tables e below (T2.setTop (mkF m 16 #[.val (.int x0), .val (.int c), .val (.int r), .val (.int c), .unset, .unset, .unset, .unset, .unset] [(.int (65 : Int32)), (.int c)])) _
        refine XS.icmpNo X.here hx rfl (hb hby at_16) rfl (flt hj1).1 ?_
        show Steps p.tables e below (T2.setTop (mkF m 19 #[.val (.int x0), .val (.int c), .val (.int r), .val (.int c), .unset, .unset, .unset, .unset, .unset] [])) _
        refine XS.iloadN X.here hx rfl (hb hby at_19) rfl ?_
        show Steps p.tables e below (T2.setTop (mkF m 20 #[.val (.int x0), .val (.int c), .val (.int r), .val (.int c), .unset, .unset, .unset, .unset, .unset] [(.int c)])) _
        refine XS.bipush X.here hx rfl (hb hby at_20) ?_
        show Steps p.tables e below (T2.setTop (mkF m 22 #[.val (.int x0), .val (.int c), .val (.int r), .val (.int c), .unset, .unset, .unset, .unset, .unset] [(.int (90 : Int32)), (.int c)])) _
        refine XS.icmpYes X.here hx rfl (pc0 := 22) (pc' := 29) rfl (hb hby at_22) rfl (tlt hj2).2.2.1 (by decide) (by decide) ?_
        show Steps p.tables e below (T2.setTop (mkF m 29 #[.val (.int x0), .val (.int c), .val (.int r), .val (.int c), .unset, .unset, .unset, .unset, .unset] [])) _
        refine XS.iconst X.here hx rfl (hb hby at_29) ?_
        exact k
      · refine ⟨(1 : Int32), by rw [if_neg hj1, if_neg hj2], fun t k => ?_⟩
        show Steps p.tables e below (T2.setTop (mkF m 13 #[.val (.int x0), .val (.int c), .val (.int r), .val (.int c), .unset, .unset, .unset, .unset, .unset] [])) _
        refine XS.iloadN X.here hx rfl (hb hby at_13) rfl ?_
        show Steps p.tables e below (T2.setTop (mkF m 14 #[.val (.int x0), .val (.int c), .val (.int r), .val (.int c), .unset, .unset, .unset, .unset, .unset] [(.int c)])) _
        refine XS.bipush X.here hx rfl (hb hby at_14) ?_
        show Steps p.tables e below (T2.setTop (mkF m 16 #[.val (.int x0), .val (.int c), .val (.int r), .val (.int c), .unset, .unset, .unset, .unset, .unset] [(.int (65 : Int32)), (.int c)])) _
        refine XS.icmpNo X.here hx rfl (hb hby at_16) rfl (flt hj1).1 ?_
        show Steps p.tables e below (T2.setTop (mkF m 19 #[.val (.int x0), .val (.int c), .val (.int r), .val (.int c), .unset, .unset, .unset, .unset, .unset] [])) _
        refine XS.iloadN X.here hx rfl (hb hby at_19) rfl ?_
        show Steps p.tables e below (T2.setTop (mkF m 20 #[.val (.int x0), .val (.int c), .val (.int r), .val (.int c), .unset, .unset, .unset, .unset, .unset] [(.int c)])) _
        refine XS.bipush X.here hx rfl (hb hby at_20) ?_
        show Steps p.tables e below (T2.setTop (mkF m 22 #[.val (.int x0), .val (.int c), .val (.int r), .val (.int c), .unset, .unset, .unset, .unset, .unset] [(.int (90 : Int32)), (.int c)])) _
        refine XS.icmpNo X.here hx rfl (hb hby at_22) rfl (flt hj2).2.2.1 ?_
        show Steps p.tables e below (T2.setTop (mkF m 25 #[.val (.int x0), .val (.int c), .val (.int r), .val (.int c), .unset, .unset, .unset, .unset, .unset] [])) _
        refine XS.iconst X.here hx rfl (hb hby at_25) ?_
        show Steps p.tables e below (T2.setTop (mkF m 26 #[.val (.int x0), .val (.int c), .val (.int r), .val (.int c), .unset, .unset, .unset, .unset, .unset] [(.int (1 : Int32))])) _
        refine XS.goto X.here hx rfl (pc0 := 26) (pc' := 30) rfl (hb hby at_26) (by decide) (by decide) ?_
        exact k
  have st : ∀ t, Steps p.tables e below (T2.setTop (mkF m 30 #[.val (.int x0), .val (.int c), .val (.int r), .val (.int c), .unset, .unset, .unset, .unset, .unset] [(.int v4)])) t → Steps p.tables e below (s₁.setTop (mkF m 0 #[.val (.int x0), .unset, .unset, .unset, .unset, .unset, .unset, .unset, .unset] [])) t := fun t k => st t (sx t k)
  have st : ∀ t, Steps p.tables e below (T2.setTop (mkF m 32 #[.val (.int x0), .val (.int c), .val (.int r), .val (.int c), .val (.int v4), .unset, .unset, .unset, .unset] [])) t → Steps p.tables e below (s₁.setTop (mkF m 0 #[.val (.int x0), .unset, .unset, .unset, .unset, .unset, .unset, .unset, .unset] [])) t := fun t k => st t (by
      show Steps p.tables e below (T2.setTop (mkF m 30 #[.val (.int x0), .val (.int c), .val (.int r), .val (.int c), .unset, .unset, .unset, .unset, .unset] [(.int v4)])) _
      refine XS.istore X.here hx rfl (hb hby at_30) rfl (l' := #[.val (.int x0), .val (.int c), .val (.int r), .val (.int c), .val (.int v4), .unset, .unset, .unset, .unset]) rfl ?_
      exact k)
  obtain ⟨v5, hv_v5, sx⟩ : ∃ (v5 : Int32), v5 = (if v4 = (0 : Int32) then c else (c ||| (32 : Int32))) ∧ ∀ t, Steps p.tables e below (T2.setTop (mkF m 45 #[.val (.int x0), .val (.int c), .val (.int r), .val (.int c), .val (.int v4), .unset, .unset, .unset, .unset] [(.int v5)])) t → Steps p.tables e below (T2.setTop (mkF m 32 #[.val (.int x0), .val (.int c), .val (.int r), .val (.int c), .val (.int v4), .unset, .unset, .unset, .unset] [])) t := by
    by_cases hj1 : v4 = (0 : Int32)
    · refine ⟨c, by rw [if_pos hj1], fun t k => ?_⟩
      show Steps p.tables e below (T2.setTop (mkF m 32 #[.val (.int x0), .val (.int c), .val (.int r), .val (.int c), .val (.int v4), .unset, .unset, .unset, .unset] [])) _
      refine XS.iload X.here hx rfl (hb hby at_32) rfl ?_
      show Steps p.tables e below (T2.setTop (mkF m 34 #[.val (.int x0), .val (.int c), .val (.int r), .val (.int c), .val (.int v4), .unset, .unset, .unset, .unset] [(.int v4)])) _
      refine XS.ifYes X.here hx rfl (pc0 := 34) (pc' := 44) rfl (hb hby at_34) rfl ((if0 _ _).trans (teq hj1).1) (by decide) (by decide) ?_
      show Steps p.tables e below (T2.setTop (mkF m 44 #[.val (.int x0), .val (.int c), .val (.int r), .val (.int c), .val (.int v4), .unset, .unset, .unset, .unset] [])) _
      refine XS.iloadN X.here hx rfl (hb hby at_44) rfl ?_
      exact k
    · refine ⟨(c ||| (32 : Int32)), by rw [if_neg hj1], fun t k => ?_⟩
      show Steps p.tables e below (T2.setTop (mkF m 32 #[.val (.int x0), .val (.int c), .val (.int r), .val (.int c), .val (.int v4), .unset, .unset, .unset, .unset] [])) _
      refine XS.iload X.here hx rfl (hb hby at_32) rfl ?_
      show Steps p.tables e below (T2.setTop (mkF m 34 #[.val (.int x0), .val (.int c), .val (.int r), .val (.int c), .val (.int v4), .unset, .unset, .unset, .unset] [(.int v4)])) _
      refine XS.ifNo X.here hx rfl (hb hby at_34) rfl ((if0 _ _).trans (feq hj1).1) ?_
      show Steps p.tables e below (T2.setTop (mkF m 37 #[.val (.int x0), .val (.int c), .val (.int r), .val (.int c), .val (.int v4), .unset, .unset, .unset, .unset] [])) _
      refine XS.iloadN X.here hx rfl (hb hby at_37) rfl ?_
      show Steps p.tables e below (T2.setTop (mkF m 38 #[.val (.int x0), .val (.int c), .val (.int r), .val (.int c), .val (.int v4), .unset, .unset, .unset, .unset] [(.int c)])) _
      refine XS.bipush X.here hx rfl (hb hby at_38) ?_
      show Steps p.tables e below (T2.setTop (mkF m 40 #[.val (.int x0), .val (.int c), .val (.int r), .val (.int c), .val (.int v4), .unset, .unset, .unset, .unset] [(.int (32 : Int32)), (.int c)])) _
      refine XS.ior X.here hx rfl (hb hby at_40) rfl ?_
      show Steps p.tables e below (T2.setTop (mkF m 41 #[.val (.int x0), .val (.int c), .val (.int r), .val (.int c), .val (.int v4), .unset, .unset, .unset, .unset] [(.int (c ||| (32 : Int32)))])) _
      refine XS.goto X.here hx rfl (pc0 := 41) (pc' := 45) rfl (hb hby at_41) (by decide) (by decide) ?_
      exact k
  have st : ∀ t, Steps p.tables e below (T2.setTop (mkF m 45 #[.val (.int x0), .val (.int c), .val (.int r), .val (.int c), .val (.int v4), .unset, .unset, .unset, .unset] [(.int v5)])) t → Steps p.tables e below (s₁.setTop (mkF m 0 #[.val (.int x0), .unset, .unset, .unset, .unset, .unset, .unset, .unset, .unset] [])) t := fun t k => st t (sx t k)
  have st : ∀ t, Steps p.tables e below (T2.setTop (mkF m 47 #[.val (.int x0), .val (.int c), .val (.int r), .val (.int c), .val (.int v4), .val (.int v5), .unset, .unset, .unset] [])) t → Steps p.tables e below (s₁.setTop (mkF m 0 #[.val (.int x0), .unset, .unset, .unset, .unset, .unset, .unset, .unset, .unset] [])) t := fun t k => st t (by
      show Steps p.tables e below (T2.setTop (mkF m 45 #[.val (.int x0), .val (.int c), .val (.int r), .val (.int c), .val (.int v4), .unset, .unset, .unset, .unset] [(.int v5)])) _
      refine XS.istore X.here hx rfl (hb hby at_45) rfl (l' := #[.val (.int x0), .val (.int c), .val (.int r), .val (.int c), .val (.int v4), .val (.int v5), .unset, .unset, .unset]) rfl ?_
      exact k)
  obtain ⟨v6, hv_v6, sx⟩ : ∃ (v6 : Int32), v6 = (if r = v5 then (1 : Int32) else (0 : Int32)) ∧ ∀ t, Steps p.tables e below (T2.setTop (mkF m 58 #[.val (.int x0), .val (.int c), .val (.int r), .val (.int c), .val (.int v4), .val (.int v5), .unset, .unset, .unset] [(.int v6)])) t → Steps p.tables e below (T2.setTop (mkF m 47 #[.val (.int x0), .val (.int c), .val (.int r), .val (.int c), .val (.int v4), .val (.int v5), .unset, .unset, .unset] [])) t := by
    by_cases hj1 : r = v5
    · refine ⟨(1 : Int32), by rw [if_pos hj1], fun t k => ?_⟩
      show Steps p.tables e below (T2.setTop (mkF m 47 #[.val (.int x0), .val (.int c), .val (.int r), .val (.int c), .val (.int v4), .val (.int v5), .unset, .unset, .unset] [])) _
      refine XS.iloadN X.here hx rfl (hb hby at_47) rfl ?_
      show Steps p.tables e below (T2.setTop (mkF m 48 #[.val (.int x0), .val (.int c), .val (.int r), .val (.int c), .val (.int v4), .val (.int v5), .unset, .unset, .unset] [(.int r)])) _
      refine XS.iload X.here hx rfl (hb hby at_48) rfl ?_
      show Steps p.tables e below (T2.setTop (mkF m 50 #[.val (.int x0), .val (.int c), .val (.int r), .val (.int c), .val (.int v4), .val (.int v5), .unset, .unset, .unset] [(.int v5), (.int r)])) _
      refine XS.icmpNo X.here hx rfl (hb hby at_50) rfl (teq hj1).2 ?_
      show Steps p.tables e below (T2.setTop (mkF m 53 #[.val (.int x0), .val (.int c), .val (.int r), .val (.int c), .val (.int v4), .val (.int v5), .unset, .unset, .unset] [])) _
      refine XS.iconst X.here hx rfl (hb hby at_53) ?_
      show Steps p.tables e below (T2.setTop (mkF m 54 #[.val (.int x0), .val (.int c), .val (.int r), .val (.int c), .val (.int v4), .val (.int v5), .unset, .unset, .unset] [(.int (1 : Int32))])) _
      refine XS.goto X.here hx rfl (pc0 := 54) (pc' := 58) rfl (hb hby at_54) (by decide) (by decide) ?_
      exact k
    · refine ⟨(0 : Int32), by rw [if_neg hj1], fun t k => ?_⟩
      show Steps p.tables e below (T2.setTop (mkF m 47 #[.val (.int x0), .val (.int c), .val (.int r), .val (.int c), .val (.int v4), .val (.int v5), .unset, .unset, .unset] [])) _
      refine XS.iloadN X.here hx rfl (hb hby at_47) rfl ?_
      show Steps p.tables e below (T2.setTop (mkF m 48 #[.val (.int x0), .val (.int c), .val (.int r), .val (.int c), .val (.int v4), .val (.int v5), .unset, .unset, .unset] [(.int r)])) _
      refine XS.iload X.here hx rfl (hb hby at_48) rfl ?_
      show Steps p.tables e below (T2.setTop (mkF m 50 #[.val (.int x0), .val (.int c), .val (.int r), .val (.int c), .val (.int v4), .val (.int v5), .unset, .unset, .unset] [(.int v5), (.int r)])) _
      refine XS.icmpYes X.here hx rfl (pc0 := 50) (pc' := 57) rfl (hb hby at_50) rfl (feq hj1).2 (by decide) (by decide) ?_
      show Steps p.tables e below (T2.setTop (mkF m 57 #[.val (.int x0), .val (.int c), .val (.int r), .val (.int c), .val (.int v4), .val (.int v5), .unset, .unset, .unset] [])) _
      refine XS.iconst X.here hx rfl (hb hby at_57) ?_
      exact k
  have st : ∀ t, Steps p.tables e below (T2.setTop (mkF m 58 #[.val (.int x0), .val (.int c), .val (.int r), .val (.int c), .val (.int v4), .val (.int v5), .unset, .unset, .unset] [(.int v6)])) t → Steps p.tables e below (s₁.setTop (mkF m 0 #[.val (.int x0), .unset, .unset, .unset, .unset, .unset, .unset, .unset, .unset] [])) t := fun t k => st t (sx t k)
  have st : ∀ t, Steps p.tables e below (T2.setTop (mkF m 60 #[.val (.int x0), .val (.int c), .val (.int r), .val (.int c), .val (.int v4), .val (.int v5), .val (.int v6), .unset, .unset] [])) t → Steps p.tables e below (s₁.setTop (mkF m 0 #[.val (.int x0), .unset, .unset, .unset, .unset, .unset, .unset, .unset, .unset] [])) t := fun t k => st t (by
      show Steps p.tables e below (T2.setTop (mkF m 58 #[.val (.int x0), .val (.int c), .val (.int r), .val (.int c), .val (.int v4), .val (.int v5), .unset, .unset, .unset] [(.int v6)])) _
      refine XS.istore X.here hx rfl (hb hby at_58) rfl (l' := #[.val (.int x0), .val (.int c), .val (.int r), .val (.int c), .val (.int v4), .val (.int v5), .val (.int v6), .unset, .unset]) rfl ?_
      exact k)
  obtain ⟨v7, hv_v7, sx⟩ : ∃ (v7 : Int32), v7 = (if r < (65 : Int32) then (1 : Int32) else (if (90 : Int32) < r then (1 : Int32) else (0 : Int32))) ∧ ∀ t, Steps p.tables e below (T2.setTop (mkF m 77 #[.val (.int x0), .val (.int c), .val (.int r), .val (.int c), .val (.int v4), .val (.int v5), .val (.int v6), .unset, .unset] [(.int v7)])) t → Steps p.tables e below (T2.setTop (mkF m 60 #[.val (.int x0), .val (.int c), .val (.int r), .val (.int c), .val (.int v4), .val (.int v5), .val (.int v6), .unset, .unset] [])) t := by
    by_cases hj1 : r < (65 : Int32)
    · refine ⟨(1 : Int32), by rw [if_pos hj1], fun t k => ?_⟩
      show Steps p.tables e below (T2.setTop (mkF m 60 #[.val (.int x0), .val (.int c), .val (.int r), .val (.int c), .val (.int v4), .val (.int v5), .val (.int v6), .unset, .unset] [])) _
      refine XS.iloadN X.here hx rfl (hb hby at_60) rfl ?_
      show Steps p.tables e below (T2.setTop (mkF m 61 #[.val (.int x0), .val (.int c), .val (.int r), .val (.int c), .val (.int v4), .val (.int v5), .val (.int v6), .unset, .unset] [(.int r)])) _
      refine XS.bipush X.here hx rfl (hb hby at_61) ?_
      show Steps p.tables e below (T2.setTop (mkF m 63 #[.val (.int x0), .val (.int c), .val (.int r), .val (.int c), .val (.int v4), .val (.int v5), .val (.int v6), .unset, .unset] [(.int (65 : Int32)), (.int r)])) _
      refine XS.icmpYes X.here hx rfl (pc0 := 63) (pc' := 72) rfl (hb hby at_63) rfl (tlt hj1).1 (by decide) (by decide) ?_
      show Steps p.tables e below (T2.setTop (mkF m 72 #[.val (.int x0), .val (.int c), .val (.int r), .val (.int c), .val (.int v4), .val (.int v5), .val (.int v6), .unset, .unset] [])) _
      refine XS.iconst X.here hx rfl (hb hby at_72) ?_
      show Steps p.tables e below (T2.setTop (mkF m 73 #[.val (.int x0), .val (.int c), .val (.int r), .val (.int c), .val (.int v4), .val (.int v5), .val (.int v6), .unset, .unset] [(.int (1 : Int32))])) _
      refine XS.goto X.here hx rfl (pc0 := 73) (pc' := 77) rfl (hb hby at_73) (by decide) (by decide) ?_
      exact k
    · by_cases hj2 : (90 : Int32) < r
      · refine ⟨(1 : Int32), by rw [if_neg hj1, if_pos hj2], fun t k => ?_⟩
        show Steps p.tables e below (T2.setTop (mkF m 60 #[.val (.int x0), .val (.int c), .val (.int r), .val (.int c), .val (.int v4), .val (.int v5), .val (.int v6), .unset, .unset] [])) _
        refine XS.iloadN X.here hx rfl (hb hby at_60) rfl ?_
        show Steps p.tables e below (T2.setTop (mkF m 61 #[.val (.int x0), .val (.int c), .val (.int r), .val (.int c), .val (.int v4), .val (.int v5), .val (.int v6), .unset, .unset] [(.int r)])) _
        refine XS.bipush X.here hx rfl (hb hby at_61) ?_
        show Steps p.tables e below (T2.setTop (mkF m 63 #[.val (.int x0), .val (.int c), .val (.int r), .val (.int c), .val (.int v4), .val (.int v5), .val (.int v6), .unset, .unset] [(.int (65 : Int32)), (.int r)])) _
        refine XS.icmpNo X.here hx rfl (hb hby at_63) rfl (flt hj1).1 ?_
        show Steps p.tables e below (T2.setTop (mkF m 66 #[.val (.int x0), .val (.int c), .val (.int r), .val (.int c), .val (.int v4), .val (.int v5), .val (.int v6), .unset, .unset] [])) _
        refine XS.iloadN X.here hx rfl (hb hby at_66) rfl ?_
        show Steps p.tables e below (T2.setTop (mkF m 67 #[.val (.int x0), .val (.int c), .val (.int r), .val (.int c), .val (.int v4), .val (.int v5), .val (.int v6), .unset, .unset] [(.int r)])) _
        refine XS.bipush X.here hx rfl (hb hby at_67) ?_
        show Steps p.tables e below (T2.setTop (mkF m 69 #[.val (.int x0), .val (.int c), .val (.int r), .val (.int c), .val (.int v4), .val (.int v5), .val (.int v6), .unset, .unset] [(.int (90 : Int32)), (.int r)])) _
        refine XS.icmpNo X.here hx rfl (hb hby at_69) rfl (tlt hj2).2.2.2 ?_
        show Steps p.tables e below (T2.setTop (mkF m 72 #[.val (.int x0), .val (.int c), .val (.int r), .val (.int c), .val (.int v4), .val (.int v5), .val (.int v6), .unset, .unset] [])) _
        refine XS.iconst X.here hx rfl (hb hby at_72) ?_
        show Steps p.tables e below (T2.setTop (mkF m 73 #[.val (.int x0), .val (.int c), .val (.int r), .val (.int c), .val (.int v4), .val (.int v5), .val (.int v6), .unset, .unset] [(.int (1 : Int32))])) _
        refine XS.goto X.here hx rfl (pc0 := 73) (pc' := 77) rfl (hb hby at_73) (by decide) (by decide) ?_
        exact k
      · refine ⟨(0 : Int32), by rw [if_neg hj1, if_neg hj2], fun t k => ?_⟩
        show Steps p.tables e below (T2.setTop (mkF m 60 #[.val (.int x0), .val (.int c), .val (.int r), .val (.int c), .val (.int v4), .val (.int v5), .val (.int v6), .unset, .unset] [])) _
        refine XS.iloadN X.here hx rfl (hb hby at_60) rfl ?_
        show Steps p.tables e below (T2.setTop (mkF m 61 #[.val (.int x0), .val (.int c), .val (.int r), .val (.int c), .val (.int v4), .val (.int v5), .val (.int v6), .unset, .unset] [(.int r)])) _
        refine XS.bipush X.here hx rfl (hb hby at_61) ?_
        show Steps p.tables e below (T2.setTop (mkF m 63 #[.val (.int x0), .val (.int c), .val (.int r), .val (.int c), .val (.int v4), .val (.int v5), .val (.int v6), .unset, .unset] [(.int (65 : Int32)), (.int r)])) _
        refine XS.icmpNo X.here hx rfl (hb hby at_63) rfl (flt hj1).1 ?_
        show Steps p.tables e below (T2.setTop (mkF m 66 #[.val (.int x0), .val (.int c), .val (.int r), .val (.int c), .val (.int v4), .val (.int v5), .val (.int v6), .unset, .unset] [])) _
        refine XS.iloadN X.here hx rfl (hb hby at_66) rfl ?_
        show Steps p.tables e below (T2.setTop (mkF m 67 #[.val (.int x0), .val (.int c), .val (.int r), .val (.int c), .val (.int v4), .val (.int v5), .val (.int v6), .unset, .unset] [(.int r)])) _
        refine XS.bipush X.here hx rfl (hb hby at_67) ?_
        show Steps p.tables e below (T2.setTop (mkF m 69 #[.val (.int x0), .val (.int c), .val (.int r), .val (.int c), .val (.int v4), .val (.int v5), .val (.int v6), .unset, .unset] [(.int (90 : Int32)), (.int r)])) _
        refine XS.icmpYes X.here hx rfl (pc0 := 69) (pc' := 76) rfl (hb hby at_69) rfl (flt hj2).2.2.2 (by decide) (by decide) ?_
        show Steps p.tables e below (T2.setTop (mkF m 76 #[.val (.int x0), .val (.int c), .val (.int r), .val (.int c), .val (.int v4), .val (.int v5), .val (.int v6), .unset, .unset] [])) _
        refine XS.iconst X.here hx rfl (hb hby at_76) ?_
        exact k
  have st : ∀ t, Steps p.tables e below (T2.setTop (mkF m 77 #[.val (.int x0), .val (.int c), .val (.int r), .val (.int c), .val (.int v4), .val (.int v5), .val (.int v6), .unset, .unset] [(.int v7)])) t → Steps p.tables e below (s₁.setTop (mkF m 0 #[.val (.int x0), .unset, .unset, .unset, .unset, .unset, .unset, .unset, .unset] [])) t := fun t k => st t (sx t k)
  have st : ∀ t, Steps p.tables e below (T2.setTop (mkF m 80 #[.val (.int x0), .val (.int c), .val (.int r), .val (.int c), .val (.int v4), .val (.int v5), .val (.int v6), .val (.int v7), .unset] [(.int r)])) t → Steps p.tables e below (s₁.setTop (mkF m 0 #[.val (.int x0), .unset, .unset, .unset, .unset, .unset, .unset, .unset, .unset] [])) t := fun t k => st t (by
      show Steps p.tables e below (T2.setTop (mkF m 77 #[.val (.int x0), .val (.int c), .val (.int r), .val (.int c), .val (.int v4), .val (.int v5), .val (.int v6), .unset, .unset] [(.int v7)])) _
      refine XS.istore X.here hx rfl (hb hby at_77) rfl (l' := #[.val (.int x0), .val (.int c), .val (.int r), .val (.int c), .val (.int v4), .val (.int v5), .val (.int v6), .val (.int v7), .unset]) rfl ?_
      show Steps p.tables e below (T2.setTop (mkF m 79 #[.val (.int x0), .val (.int c), .val (.int r), .val (.int c), .val (.int v4), .val (.int v5), .val (.int v6), .val (.int v7), .unset] [])) _
      refine XS.iloadN X.here hx rfl (hb hby at_79) rfl ?_
      exact k)
  obtain ⟨_, _, ⟨T4, L3, k3, n3⟩, -, X, ⟨Lc3, hQ, l3, y3, z3⟩, sx⟩ := Jvm.LawKit.callS X hx (y := (⟨"com/example/amendtrail/amendtrail/Words", "asciiLower", "(C)C"⟩ : MethodName)) hown (mvT hZ (hw _ (List.mem_of_getElem? (i := 1) rfl))) (mvT hZ (hw _ (List.mem_of_getElem? (i := 2) rfl))) (mvT hZ (hw _ (List.mem_of_getElem? (i := 3) rfl))) (mvT hZ (hw _ (List.mem_of_getElem? (i := 4) rfl))) (by decide) (backOf (W := 0) (rm1 l Z a0 hw [] r  h0 n0 Z0 ) hZ (hw _ (List.mem_of_getElem? (i := 4) rfl)) (hw _ (List.mem_of_getElem? (i := 3) rfl)) (by decide) (by decide)) (g := (mkF m 80 #[.val (.int x0), .val (.int c), .val (.int r), .val (.int c), .val (.int v4), .val (.int v5), .val (.int v6), .val (.int v7), .unset] [(.int r)])) rfl (by rw [hml]; rfl) (argsL := [(.int r)]) (rest := []) (lenOf own_pd0 rfl) rfl (by show 2 * 0 + _ ≤ _; exact Nat.le_of_eq rfl) (hb hby at_80) (fun _ _ => ⟨rfl, eh, (by decide : 0 + 0 ≤ _), (by decide : 0 + 0 ≤ _)⟩)
  dsimp only [Pt.U, Pt.locs, Pt.cells, Pt.slots] at X l3 y3 z3 sx hQ
  subst l3 y3 z3
  obtain ⟨rfl, Nc, hsame_⟩ := hQ
  have st : ∀ t, Steps p.tables e below (T4.setTop (mkF m 83 #[.val (.int x0), .val (.int c), .val (.int r), .val (.int c), .val (.int v4), .val (.int v5), .val (.int v6), .val (.int v7), .unset] [(.int (nar .char (own_low r)))])) t → Steps p.tables e below (s₁.setTop (mkF m 0 #[.val (.int x0), .unset, .unset, .unset, .unset, .unset, .unset, .unset, .unset] [])) t := fun t k => st t (sx t k)
  have N := Fr.app N Nc
  have eh : T4.heap = h0 := hsame_
  obtain ⟨d, hd⟩ : ∃ z : Int32, z = nar .char (own_low r) := ⟨_, rfl⟩
  rw [← hd] at st
  obtain ⟨v8, hv_v8, sx⟩ : ∃ (v8 : Int32), v8 = (if d = r then (1 : Int32) else (0 : Int32)) ∧ ∀ t, Steps p.tables e below (T4.setTop (mkF m 92 #[.val (.int x0), .val (.int c), .val (.int r), .val (.int c), .val (.int v4), .val (.int v5), .val (.int v6), .val (.int v7), .unset] [(.int v8)])) t → Steps p.tables e below (T4.setTop (mkF m 83 #[.val (.int x0), .val (.int c), .val (.int r), .val (.int c), .val (.int v4), .val (.int v5), .val (.int v6), .val (.int v7), .unset] [(.int d)])) t := by
    by_cases hj1 : d = r
    · refine ⟨(1 : Int32), by rw [if_pos hj1], fun t k => ?_⟩
      show Steps p.tables e below (T4.setTop (mkF m 83 #[.val (.int x0), .val (.int c), .val (.int r), .val (.int c), .val (.int v4), .val (.int v5), .val (.int v6), .val (.int v7), .unset] [(.int d)])) _
      refine XS.iloadN X.here hx rfl (hb hby at_83) rfl ?_
      show Steps p.tables e below (T4.setTop (mkF m 84 #[.val (.int x0), .val (.int c), .val (.int r), .val (.int c), .val (.int v4), .val (.int v5), .val (.int v6), .val (.int v7), .unset] [(.int r), (.int d)])) _
      refine XS.icmpNo X.here hx rfl (hb hby at_84) rfl (teq hj1).2 ?_
      show Steps p.tables e below (T4.setTop (mkF m 87 #[.val (.int x0), .val (.int c), .val (.int r), .val (.int c), .val (.int v4), .val (.int v5), .val (.int v6), .val (.int v7), .unset] [])) _
      refine XS.iconst X.here hx rfl (hb hby at_87) ?_
      show Steps p.tables e below (T4.setTop (mkF m 88 #[.val (.int x0), .val (.int c), .val (.int r), .val (.int c), .val (.int v4), .val (.int v5), .val (.int v6), .val (.int v7), .unset] [(.int (1 : Int32))])) _
      refine XS.goto X.here hx rfl (pc0 := 88) (pc' := 92) rfl (hb hby at_88) (by decide) (by decide) ?_
      exact k
    · refine ⟨(0 : Int32), by rw [if_neg hj1], fun t k => ?_⟩
      show Steps p.tables e below (T4.setTop (mkF m 83 #[.val (.int x0), .val (.int c), .val (.int r), .val (.int c), .val (.int v4), .val (.int v5), .val (.int v6), .val (.int v7), .unset] [(.int d)])) _
      refine XS.iloadN X.here hx rfl (hb hby at_83) rfl ?_
      show Steps p.tables e below (T4.setTop (mkF m 84 #[.val (.int x0), .val (.int c), .val (.int r), .val (.int c), .val (.int v4), .val (.int v5), .val (.int v6), .val (.int v7), .unset] [(.int r), (.int d)])) _
      refine XS.icmpYes X.here hx rfl (pc0 := 84) (pc' := 91) rfl (hb hby at_84) rfl (feq hj1).2 (by decide) (by decide) ?_
      show Steps p.tables e below (T4.setTop (mkF m 91 #[.val (.int x0), .val (.int c), .val (.int r), .val (.int c), .val (.int v4), .val (.int v5), .val (.int v6), .val (.int v7), .unset] [])) _
      refine XS.iconst X.here hx rfl (hb hby at_91) ?_
      exact k
  have st : ∀ t, Steps p.tables e below (T4.setTop (mkF m 92 #[.val (.int x0), .val (.int c), .val (.int r), .val (.int c), .val (.int v4), .val (.int v5), .val (.int v6), .val (.int v7), .unset] [(.int v8)])) t → Steps p.tables e below (s₁.setTop (mkF m 0 #[.val (.int x0), .unset, .unset, .unset, .unset, .unset, .unset, .unset, .unset] [])) t := fun t k => st t (sx t k)
  have st : ∀ t, Steps p.tables e below (T4.setTop (mkF m 94 #[.val (.int x0), .val (.int c), .val (.int r), .val (.int c), .val (.int v4), .val (.int v5), .val (.int v6), .val (.int v7), .val (.int v8)] [])) t → Steps p.tables e below (s₁.setTop (mkF m 0 #[.val (.int x0), .unset, .unset, .unset, .unset, .unset, .unset, .unset, .unset] [])) t := fun t k => st t (by
      show Steps p.tables e below (T4.setTop (mkF m 92 #[.val (.int x0), .val (.int c), .val (.int r), .val (.int c), .val (.int v4), .val (.int v5), .val (.int v6), .val (.int v7), .unset] [(.int v8)])) _
      refine XS.istore X.here hx rfl (hb hby at_92) rfl (l' := #[.val (.int x0), .val (.int c), .val (.int r), .val (.int c), .val (.int v4), .val (.int v5), .val (.int v6), .val (.int v7), .val (.int v8)]) rfl ?_
      exact k)
  obtain ⟨v9, hv_v9, sx⟩ : ∃ (v9 : Int32), v9 = (if v6 = (0 : Int32) then (0 : Int32) else (if v7 = (0 : Int32) then (0 : Int32) else (if v8 = (0 : Int32) then (0 : Int32) else (1 : Int32)))) ∧ ∀ t, Steps p.tables e below (T4.setTop (mkF m 114 #[.val (.int x0), .val (.int c), .val (.int r), .val (.int c), .val (.int v4), .val (.int v5), .val (.int v6), .val (.int v7), .val (.int v8)] [(.int v9)])) t → Steps p.tables e below (T4.setTop (mkF m 94 #[.val (.int x0), .val (.int c), .val (.int r), .val (.int c), .val (.int v4), .val (.int v5), .val (.int v6), .val (.int v7), .val (.int v8)] [])) t := by
    by_cases hj1 : v6 = (0 : Int32)
    · refine ⟨(0 : Int32), by rw [if_pos hj1], fun t k => ?_⟩
      show Steps p.tables e below (T4.setTop (mkF m 94 #[.val (.int x0), .val (.int c), .val (.int r), .val (.int c), .val (.int v4), .val (.int v5), .val (.int v6), .val (.int v7), .val (.int v8)] [])) _
      refine XS.iload X.here hx rfl (hb hby at_94) rfl ?_
      show Steps p.tables e below (T4.setTop (mkF m 96 #[.val (.int x0), .val (.int c), .val (.int r), .val (.int c), .val (.int v4), .val (.int v5), .val (.int v6), .val (.int v7), .val (.int v8)] [(.int v6)])) _
      refine XS.ifYes X.here hx rfl (pc0 := 96) (pc' := 113) rfl (hb hby at_96) rfl ((if0 _ _).trans (teq hj1).1) (by decide) (by decide) ?_
      show Steps p.tables e below (T4.setTop (mkF m 113 #[.val (.int x0), .val (.int c), .val (.int r), .val (.int c), .val (.int v4), .val (.int v5), .val (.int v6), .val (.int v7), .val (.int v8)] [])) _
      refine XS.iconst X.here hx rfl (hb hby at_113) ?_
      exact k
    · by_cases hj2 : v7 = (0 : Int32)
      · refine ⟨(0 : Int32), by rw [if_neg hj1, if_pos hj2], fun t k => ?_⟩
        show Steps p.tables e below (T4.setTop (mkF m 94 #[.val (.int x0), .val (.int c), .val (.int r), .val (.int c), .val (.int v4), .val (.int v5), .val (.int v6), .val (.int v7), .val (.int v8)] [])) _
        refine XS.iload X.here hx rfl (hb hby at_94) rfl ?_
        show Steps p.tables e below (T4.setTop (mkF m 96 #[.val (.int x0), .val (.int c), .val (.int r), .val (.int c), .val (.int v4), .val (.int v5), .val (.int v6), .val (.int v7), .val (.int v8)] [(.int v6)])) _
        refine XS.ifNo X.here hx rfl (hb hby at_96) rfl ((if0 _ _).trans (feq hj1).1) ?_
        show Steps p.tables e below (T4.setTop (mkF m 99 #[.val (.int x0), .val (.int c), .val (.int r), .val (.int c), .val (.int v4), .val (.int v5), .val (.int v6), .val (.int v7), .val (.int v8)] [])) _
        refine XS.iload X.here hx rfl (hb hby at_99) rfl ?_
        show Steps p.tables e below (T4.setTop (mkF m 101 #[.val (.int x0), .val (.int c), .val (.int r), .val (.int c), .val (.int v4), .val (.int v5), .val (.int v6), .val (.int v7), .val (.int v8)] [(.int v7)])) _
        refine XS.ifYes X.here hx rfl (pc0 := 101) (pc' := 113) rfl (hb hby at_101) rfl ((if0 _ _).trans (teq hj2).1) (by decide) (by decide) ?_
        show Steps p.tables e below (T4.setTop (mkF m 113 #[.val (.int x0), .val (.int c), .val (.int r), .val (.int c), .val (.int v4), .val (.int v5), .val (.int v6), .val (.int v7), .val (.int v8)] [])) _
        refine XS.iconst X.here hx rfl (hb hby at_113) ?_
        exact k
      · by_cases hj3 : v8 = (0 : Int32)
        · refine ⟨(0 : Int32), by rw [if_neg hj1, if_neg hj2, if_pos hj3], fun t k => ?_⟩
          show Steps p.tables e below (T4.setTop (mkF m 94 #[.val (.int x0), .val (.int c), .val (.int r), .val (.int c), .val (.int v4), .val (.int v5), .val (.int v6), .val (.int v7), .val (.int v8)] [])) _
          refine XS.iload X.here hx rfl (hb hby at_94) rfl ?_
          show Steps p.tables e below (T4.setTop (mkF m 96 #[.val (.int x0), .val (.int c), .val (.int r), .val (.int c), .val (.int v4), .val (.int v5), .val (.int v6), .val (.int v7), .val (.int v8)] [(.int v6)])) _
          refine XS.ifNo X.here hx rfl (hb hby at_96) rfl ((if0 _ _).trans (feq hj1).1) ?_
          show Steps p.tables e below (T4.setTop (mkF m 99 #[.val (.int x0), .val (.int c), .val (.int r), .val (.int c), .val (.int v4), .val (.int v5), .val (.int v6), .val (.int v7), .val (.int v8)] [])) _
          refine XS.iload X.here hx rfl (hb hby at_99) rfl ?_
          show Steps p.tables e below (T4.setTop (mkF m 101 #[.val (.int x0), .val (.int c), .val (.int r), .val (.int c), .val (.int v4), .val (.int v5), .val (.int v6), .val (.int v7), .val (.int v8)] [(.int v7)])) _
          refine XS.ifNo X.here hx rfl (hb hby at_101) rfl ((if0 _ _).trans (feq hj2).1) ?_
          show Steps p.tables e below (T4.setTop (mkF m 104 #[.val (.int x0), .val (.int c), .val (.int r), .val (.int c), .val (.int v4), .val (.int v5), .val (.int v6), .val (.int v7), .val (.int v8)] [])) _
          refine XS.iload X.here hx rfl (hb hby at_104) rfl ?_
          show Steps p.tables e below (T4.setTop (mkF m 106 #[.val (.int x0), .val (.int c), .val (.int r), .val (.int c), .val (.int v4), .val (.int v5), .val (.int v6), .val (.int v7), .val (.int v8)] [(.int v8)])) _
          refine XS.ifYes X.here hx rfl (pc0 := 106) (pc' := 113) rfl (hb hby at_106) rfl ((if0 _ _).trans (teq hj3).1) (by decide) (by decide) ?_
          show Steps p.tables e below (T4.setTop (mkF m 113 #[.val (.int x0), .val (.int c), .val (.int r), .val (.int c), .val (.int v4), .val (.int v5), .val (.int v6), .val (.int v7), .val (.int v8)] [])) _
          refine XS.iconst X.here hx rfl (hb hby at_113) ?_
          exact k
        · refine ⟨(1 : Int32), by rw [if_neg hj1, if_neg hj2, if_neg hj3], fun t k => ?_⟩
          show Steps p.tables e below (T4.setTop (mkF m 94 #[.val (.int x0), .val (.int c), .val (.int r), .val (.int c), .val (.int v4), .val (.int v5), .val (.int v6), .val (.int v7), .val (.int v8)] [])) _
          refine XS.iload X.here hx rfl (hb hby at_94) rfl ?_
          show Steps p.tables e below (T4.setTop (mkF m 96 #[.val (.int x0), .val (.int c), .val (.int r), .val (.int c), .val (.int v4), .val (.int v5), .val (.int v6), .val (.int v7), .val (.int v8)] [(.int v6)])) _
          refine XS.ifNo X.here hx rfl (hb hby at_96) rfl ((if0 _ _).trans (feq hj1).1) ?_
          show Steps p.tables e below (T4.setTop (mkF m 99 #[.val (.int x0), .val (.int c), .val (.int r), .val (.int c), .val (.int v4), .val (.int v5), .val (.int v6), .val (.int v7), .val (.int v8)] [])) _
          refine XS.iload X.here hx rfl (hb hby at_99) rfl ?_
          show Steps p.tables e below (T4.setTop (mkF m 101 #[.val (.int x0), .val (.int c), .val (.int r), .val (.int c), .val (.int v4), .val (.int v5), .val (.int v6), .val (.int v7), .val (.int v8)] [(.int v7)])) _
          refine XS.ifNo X.here hx rfl (hb hby at_101) rfl ((if0 _ _).trans (feq hj2).1) ?_
          show Steps p.tables e below (T4.setTop (mkF m 104 #[.val (.int x0), .val (.int c), .val (.int r), .val (.int c), .val (.int v4), .val (.int v5), .val (.int v6), .val (.int v7), .val (.int v8)] [])) _
          refine XS.iload X.here hx rfl (hb hby at_104) rfl ?_
          show Steps p.tables e below (T4.setTop (mkF m 106 #[.val (.int x0), .val (.int c), .val (.int r), .val (.int c), .val (.int v4), .val (.int v5), .val (.int v6), .val (.int v7), .val (.int v8)] [(.int v8)])) _
          refine XS.ifNo X.here hx rfl (hb hby at_106) rfl ((if0 _ _).trans (feq hj3).1) ?_
          show Steps p.tables e below (T4.setTop (mkF m 109 #[.val (.int x0), .val (.int c), .val (.int r), .val (.int c), .val (.int v4), .val (.int v5), .val (.int v6), .val (.int v7), .val (.int v8)] [])) _
          refine XS.iconst X.here hx rfl (hb hby at_109) ?_
          show Steps p.tables e below (T4.setTop (mkF m 110 #[.val (.int x0), .val (.int c), .val (.int r), .val (.int c), .val (.int v4), .val (.int v5), .val (.int v6), .val (.int v7), .val (.int v8)] [(.int (1 : Int32))])) _
          refine XS.goto X.here hx rfl (pc0 := 110) (pc' := 114) rfl (hb hby at_110) (by decide) (by decide) ?_
          exact k
  have st : ∀ t, Steps p.tables e below (T4.setTop (mkF m 114 #[.val (.int x0), .val (.int c), .val (.int r), .val (.int c), .val (.int v4), .val (.int v5), .val (.int v6), .val (.int v7), .val (.int v8)] [(.int v9)])) t → Steps p.tables e below (s₁.setTop (mkF m 0 #[.val (.int x0), .unset, .unset, .unset, .unset, .unset, .unset, .unset, .unset] [])) t := fun t k => st t (sx t k)
  obtain rfl : v9 = 1 := own_law u c r d v4 v5 v6 v7 v8 v9 hc hr hd hv_v4 hv_v5 hv_v6 hv_v7 hv_v8 hv_v9
  obtain ⟨fs_, hr, hrun, hended, hW, hsame⟩ := X.leave (v := some (.int (1 : Int32))) (fun h => by rw [Bd.returns] at h; cases h)
  refine ⟨_, _, pre0 _ (st _ ?_), hrun, hended, _, _, rfl, ?_, ⟨_, rfl⟩, hW, hsame.mono (by decide) (by decide)⟩
  · exact retN X hx (t := .boolean) Bd.returns (by simp) (hb hby at_114) hr
  · show Q_rm0 Z x0 h0 n0 _ T4.heap _
    rw [eh]
    exact ⟨rfl, N⟩
set_option maxRecDepth 65536 in
set_option maxHeartbeats 40000000 in
theorem comes_1 {Post : Tables → Env → Array Value → State → Outcome → State → Prop} (hpost : ∀ tb e args s v u, (limb_1_1.after args s (.returned v) u = true ∧ limb_1_2.after args s (.returned v) u = true ∧ True) → FrameEnd s (.returned v) u (Jvm.fieldLocs frame_1_writes args s ++ Jvm.arrayLocs frame_1_arrays args s ++ Jvm.staticLocs frame_1_statics s) 0 0 → Post tb e args s (.returned v) u) :
    ArmFor flags0 classFile x code maxLocals ret World_1 tables_1 room_1 Calls_1 rest_1 Pre_1 Post := by
  intro l hfl _ _ p e ha hc hk s m args below hf hA hF happ hP
  obtain ⟨hcalls, hrest, hpre⟩ := hP
  obtain ⟨-, -, -, hnamed, -, -, -, hat⟩ := (Spec.applies_iff hf).mp happ
  obtain ⟨hg, hn⟩ := and_e (Cond.before_iff.mp (show (Jvm.Cond.and given_1 narrow_1).before args s = true from hpre))
  obtain ⟨g0, hg1⟩ := and_e hg
  have ha0 := hg1
  obtain ⟨w0, rfl⟩ : ∃ w0 : Value, args = #[w0] := by
    have hs : args.size = 1 := by simpa [Cond.value, given_1] using g0
    obtain ⟨L⟩ := args
    match L, hs with
    | [w0], _ => exact ⟨w0, rfl⟩
  have hw := fun d (hd : d ∈ tables_1) => atoms_spec (ws := Jvm.Cond.code x code maxLocals ret :: tables_1) hat d (List.mem_cons_of_mem _ hd)
  obtain ⟨i0, ei0⟩ := is_v ha0
  obtain rfl : w0 = (.int i0) := Option.some.inj ei0
  obtain ⟨n, o, h1, h2, h3, _, L, rfl, ⟨rfl, N⟩, hq⟩ := rm0 l s _ hw tables_1 i0 s.heap s.heap.size (Nat.le_refl _) p e ha hc hk s m _ below hf ((Spec.applies_iff_loose hf).mp happ).1 ⟨rfl, State.Warmed39.refl s, rfl⟩ trivial
  refine ⟨n, _, h1, h2, h3, hpost _ _ _ _ _ _ ⟨Cond.after_iff.mpr rfl, Cond.after_iff.mpr (eq_i res_at (Term.int_eval (1)) rfl), trivial⟩ ⟨hq.1, hq.2.1, (hq.2.2.sift fun y hy => Or.inr (N y hy)).mono (by decide) (by decide)⟩⟩
theorem main_1_1 : Claimed_1_1 := comes_1 fun _ _ _ _ _ _ h hF => ⟨h.1, hF⟩
theorem main_1_2 : Claimed_1_2 := comes_1 fun _ _ _ _ _ _ h hF => ⟨h.2.1, hF⟩
end Jvm.Pilot.@@N@@
namespace Jvm.Pilot.@@N@@
open Jvm Jvm.ClassFile Sem Op Lib Jvm.Free Jvm.Stand Jvm.Pilot.@@N@@.Jvm.D
/-! MADE BY PROGRAM (witnessworld.py) out of the Statement's table words and the real class files: 9 classes; the members and pool entries that the words name. The judged class is class 1, her method 1. -/
namespace start1
open Jvm.ClassFile
def u (s : String) : CpInfo := .utf8 (stringToUtf16 s)
/-- a pool by its gaps: so many unusable entries, then the entry; so many at the end -/
def gap : Nat → List CpInfo → List CpInfo
  | 0, r => r
  | n + 1, r => .unusable :: gap n r
def poolList (es : List (Nat × CpInfo)) (last : Nat) : List CpInfo := es.foldr (fun e r => gap e.1 (e.2 :: r)) (gap last [])
def pool (es : List (Nat × CpInfo)) (last : Nat) : Array CpInfo := ⟨poolList es last⟩
def fileOf (pool : Array CpInfo) (this : Nat) (attrs : Array Attribute := #[]) (ms : Array MethodInfo := #[]) (fl : Nat := 33) (sup : Nat := 0) (ifs : Array Nat := #[]) (fds : Array FieldInfo := #[]) : ClassFile where
  minorVersion := 0
  majorVersion := 65
  constantPool := pool
  accessFlags := fl
  thisClass := this
  superClass := sup
  interfaces := ifs
  fields := fds
  methods := ms
  attributes := attrs
def plain (name : String) (sup : Option ClassId) : Class where
  name := name
  kind := .ordinary
  loader := none
  accessFlags := 33
  super := sup
  interfaces := #[]
  cf := none
  fields := #[]
  methods := #[]
  instanceTypes := #[]
  staticTypes := #[]
  resolved := #[]
  callSites := []
  init := .initialized
  statics := none
  mirror := none

def pool0 : Array CpInfo := pool [(5, u "<init>"), (0, u "()V"), (1, .class_ 10), (1, u "java/lang/Object")] 113

def k0m0 : Method := { name := "<init>", desc := "()V", sig := { parameters := [], returnType := none }, accessFlags := 1, code := none }
/-- java/lang/Object -/
def k0 : Class := { plain "java/lang/Object" none with
  accessFlags := 33
  interfaces := #[]
  cf := some (fileOf pool0 8 #[] #[{ accessFlags := 1, nameIndex := 5, descriptorIndex := 6, attributes := #[] }] 33 0 #[] #[])
  fields := #[]
  methods := #[k0m0]
  instanceTypes := #[]
  staticTypes := #[]
  resolved := Array.replicate 124 none
  statics := none }

def pool1 : Array CpInfo := pool [(2, .class_ 4), (1, u "java/lang/Object"), (0, u "<init>"), (0, u "()V"), (0, .integer 65535), (0, .methodref 9 10), (0, .class_ 11), (0, .nameAndType 12 13), (0, u "com/example/amendtrail/amendtrail/Words"), (0, u "asciiLower"), (0, u "(C)C"), (0, .class_ 15), (0, u "com/example/amendtrail/amendtrail/WordsAsciiLowerPinLaw"), (2, u "law"), (0, u "(I)Z")] 3

def k1m0 : Method := { name := "<init>", desc := "()V", sig := { parameters := [], returnType := none }, accessFlags := 2, code := none }
def k1c1 : Code := { maxStack := 2, maxLocals := 9, code := code, exceptionTable := #[], attributes := #[] }
def k1m1 : Method := { name := "law", desc := "(I)Z", sig := { parameters := [.int], returnType := some .boolean }, accessFlags := 9, code := some k1c1 }
/-- com/example/amendtrail/amendtrail/WordsAsciiLowerPinLaw -/
def k1 : Class := { plain "com/example/amendtrail/amendtrail/WordsAsciiLowerPinLaw" (some 0) with
  accessFlags := 49
  interfaces := #[]
  cf := some (fileOf pool1 14 #[] #[{ accessFlags := 2, nameIndex := 5, descriptorIndex := 6, attributes := #[] }, { accessFlags := 9, nameIndex := 18, descriptorIndex := 19, attributes := #[] }] 49 2 #[] #[])
  fields := #[]
  methods := #[k1m0, k1m1]
  instanceTypes := #[]
  staticTypes := #[]
  resolved := Array.replicate 23 none
  statics := none }

def pool2 : Array CpInfo := pool [(2, .class_ 4), (1, u "java/lang/Object"), (0, u "<init>"), (0, u "()V"), (17, .class_ 26), (1, u "com/example/amendtrail/amendtrail/Words"), (5, u "(C)C"), (2, u "asciiLower"), (18, u "JOINING_NAMES"), (0, u "Lcom/example/amendtrail/amendtrail/Words$Group;"), (1, .class_ 59), (1, u "com/example/amendtrail/amendtrail/Words$Group"), (31, u "DETERMINERS"), (0, u "Ljava/util/Set;"), (30, .class_ 124), (0, u "com/example/amendtrail/amendtrail/Words$Group$1")] 2

def k2m0 : Method := { name := "<init>", desc := "()V", sig := { parameters := [], returnType := none }, accessFlags := 2, code := none }
def k2c1 : Code := { maxStack := 2, maxLocals := 1, code := prog_64_method_6_code, exceptionTable := #[], attributes := #[] }
def k2m1 : Method := { name := "asciiLower", desc := "(C)C", sig := { parameters := [.char], returnType := some .char }, accessFlags := 8, code := some k2c1 }
/-- com/example/amendtrail/amendtrail/Words -/
def k2 : Class := { plain "com/example/amendtrail/amendtrail/Words" (some 0) with
  accessFlags := 48
  interfaces := #[]
  cf := some (fileOf pool2 24 #[.nestMembers #[57, 123]] #[{ accessFlags := 2, nameIndex := 5, descriptorIndex := 6, attributes := #[] }, { accessFlags := 8, nameIndex := 35, descriptorIndex := 32, attributes := #[] }] 48 2 #[] #[{ accessFlags := 24, nameIndex := 91, descriptorIndex := 92, attributes := #[] }, { accessFlags := 26, nameIndex := 54, descriptorIndex := 55, attributes := #[] }])
  fields := #[{ name := "DETERMINERS", type := (.object "java/util/Set"), accessFlags := 24, slot := 0, constantValue := 0 }, { name := "JOINING_NAMES", type := (.object "com/example/amendtrail/amendtrail/Words$Group"), accessFlags := 26, slot := 1, constantValue := 0 }]
  methods := #[k2m0, k2m1]
  instanceTypes := #[]
  staticTypes := #[(.object "java/util/Set"), (.object "com/example/amendtrail/amendtrail/Words$Group")]
  resolved := Array.replicate 127 none
  statics := none }

def pool3 : Array CpInfo := pool [(1, u "java/lang/Cloneable"), (0, .class_ 1), (0, u "java/lang/Object"), (0, .class_ 3)] 3

/-- java/lang/Cloneable -/
def k3 : Class := { plain "java/lang/Cloneable" (some 0) with
  accessFlags := 1537
  interfaces := #[]
  cf := some (fileOf pool3 2 #[] #[] 1537 4 #[] #[])
  fields := #[]
  methods := #[]
  instanceTypes := #[]
  staticTypes := #[]
  resolved := Array.replicate 8 none
  statics := none }

def pool4 : Array CpInfo := pool [(1, u "java/io/Serializable"), (0, .class_ 1), (0, u "java/lang/Object"), (0, .class_ 3)] 3

/-- java/io/Serializable -/
def k4 : Class := { plain "java/io/Serializable" (some 0) with
  accessFlags := 1537
  interfaces := #[]
  cf := some (fileOf pool4 2 #[] #[] 1537 4 #[] #[])
  fields := #[]
  methods := #[]
  instanceTypes := #[]
  staticTypes := #[]
  resolved := Array.replicate 8 none
  statics := none }

/-- the primitive byte -/
def k5 : Class := { plain "byte" none with kind := .primitive 'B', accessFlags := 0x411 }
/-- [B -/
def k6 : Class := { plain "[B" (some 0) with kind := .array 5 .byte, interfaces := #[3, 4], accessFlags := 1041 }

/-- the primitive int -/
def k7 : Class := { plain "int" none with kind := .primitive 'I', accessFlags := 0x411 }
/-- [I -/
def k8 : Class := { plain "[I" (some 0) with kind := .array 7 .int, interfaces := #[3, 4], accessFlags := 1041 }

def heap : Heap := #[]
def classes : Array Class := #[k0, k1, k2, k3, k4, k5, k6, k7, k8]
def interned : List (Array UInt16 × Addr) := []
def slotsUsed : Nat := 0
def theMethod : MethodId := ⟨1, 1⟩
def args0 : Array Value := #[.int 70]
def aboutOver (below : List Frame) : State where
  vm := { classes := classes, interned := interned.toArray }
  heap := heap
  slotsUsed := slotsUsed
  threads := #[{ frames := .invoking theMethod args0 :: below }]
def below0 : List Frame := [.native { method := ⟨0, 0⟩, args := #[] }]
def about1 : State := aboutOver below0
def p0 : Program := .bare "" "" ""
def e0 : Env := launch0.env 0 0 0
theorem w_frames : about1.frames = Frame.invoking theMethod args0 :: below0 := rfl
set_option maxRecDepth 65536 in
theorem w_args : argsFit about1.vm theMethod args0 = true := by decide +kernel
set_option maxRecDepth 65536 in
theorem w_heap : heapFits about1 = true := by decide +kernel
set_option maxRecDepth 65536 in
theorem w_runnable : about1.curStatus? = some .runnable := by decide +kernel
set_option maxRecDepth 65536 in
theorem w_alone : about1.alone = true := by decide +kernel
set_option maxRecDepth 65536 in
theorem w_named : about1.methodNamed? x = some theMethod := by decide +kernel
set_option maxRecDepth 65536 in
theorem w_hears : about1.hears theMethod below0 = true := by decide +kernel
set_option maxRecDepth 65536 in
theorem w_ripe : about1.ripe theMethod args0 below0 = true := by decide +kernel
theorem w_running : about1.status = .running := rfl
set_option maxRecDepth 65536 in
theorem w_room : about1.hasRoom e0.platform room_1 = true :=
  launch0.hasRoom_least _ room_1 (by decide +kernel) (by decide +kernel) (by decide +kernel) (by decide +kernel) (by decide +kernel) (by decide +kernel)
theorem allAtoms_all (ts : List Jvm.Cond) (a : Array Jvm.Value) (st : Jvm.State) : (allAtoms ts).before a st = ts.all (fun c => c.before a st) := by
  induction ts with
  | nil => rfl
  | cons c t ih =>
    show (Jvm.Cond.and c (allAtoms t)).before a st = _
    rw [Jvm.Cond.before_and, ih, List.all_cons]
def words1 : List Jvm.Cond := Jvm.Cond.code x code maxLocals ret :: tables_1
/-- a 'code' word, met by the world's own term for the bytes: nothing is compared byte by byte -/
theorem code_word {y : MethodName} {bytes : ByteArray} {mx : Nat} {rt : Option FieldType} {a : Array Value} {s : State} {m : MethodId} {meth : Method} {c : Code} (h1 : s.methodNamed? y = some m) (h2 : s.vm.method? m = some meth) (h3 : meth.code = some c) (h4 : c.code = bytes)
    (h5 : (c.maxLocals == mx && c.exceptionTable.isEmpty && decide (c.maxStack ≤ mostOperands) && decide (meth.sig.returnType = rt) && !meth.locks && decide (parseMethodDescriptor y.desc = some meth.sig)) = true) : (Jvm.Cond.code y bytes mx rt).before a s = true := by
  simp only [Bool.and_eq_true, beq_iff_eq, Bool.not_eq_true', decide_eq_true_eq] at h5
  obtain ⟨⟨⟨⟨⟨g1, g2⟩, g3⟩, g4⟩, g5⟩, g6⟩ := h5
  simp [Cond.before, Cond.holds, Cond.value, h1, h2, h3, h4, g1, g2, g3, g4, g5, g6]
def isCode : Jvm.Cond → Bool
  | .code _ _ _ _ => true
  | _ => false
theorem all_split {L : List Jvm.Cond} {P : Jvm.Cond → Bool} (h1 : L.all (fun c => isCode c || P c) = true) (h2 : ∀ c ∈ L.filter isCode, P c = true) : L.all P = true := by
  refine List.all_eq_true.mpr fun c hc => ?_
  have h := List.all_eq_true.mp h1 c hc
  rcases Bool.eq_false_or_eq_true (isCode c) with hi | hi
  · exact h2 c (List.mem_filter.mpr ⟨hc, hi⟩)
  · simpa [hi] using h
set_option maxRecDepth 65536 in
theorem w_c0 : (Jvm.Cond.code x code maxLocals ret).before args0 about1 = true := code_word (m := ⟨1, 1⟩) (meth := k1m1) (c := k1c1) (by decide +kernel) rfl rfl rfl (by decide +kernel)
set_option maxRecDepth 65536 in
theorem w_c1 : (Jvm.Cond.code ({ cls := "com/example/amendtrail/amendtrail/Words", name := "asciiLower", desc := "(C)C" } : Jvm.MethodName) prog_64_method_6_code (1 : Nat) (Option.some Jvm.ClassFile.FieldType.char)).before args0 about1 = true := code_word (m := ⟨2, 1⟩) (meth := k2m1) (c := k2c1) (by decide +kernel) rfl rfl rfl (by decide +kernel)
def codes1 : List Jvm.Cond := [Jvm.Cond.code x code maxLocals ret, Jvm.Cond.code ({ cls := "com/example/amendtrail/amendtrail/Words", name := "asciiLower", desc := "(C)C" } : Jvm.MethodName) prog_64_method_6_code (1 : Nat) (Option.some Jvm.ClassFile.FieldType.char)]
set_option maxRecDepth 65536 in
theorem codes_eq : words1.filter isCode = codes1 := rfl
theorem w_codes : ∀ c ∈ words1.filter isCode, c.before args0 about1 = true := by
  rw [codes_eq]
  intro c hc
  simp only [codes1, List.mem_cons, List.not_mem_nil, or_false] at hc
  rcases hc with rfl | rfl
  · exact w_c0
  · exact w_c1
set_option maxRecDepth 65536 in
theorem w_t1 : words1.all (fun c => isCode c || c.before args0 about1) = true := by decide +kernel
theorem w_tables : (allAtoms (Jvm.Cond.code x code maxLocals ret :: tables_1)).before args0 about1 = true := by
  rw [allAtoms_all]
  show words1.all (fun c => c.before args0 about1) = true
  refine all_split ?_ w_codes
  rw [w_t1]
set_option maxRecDepth 65536 in
theorem w_case : (Jvm.Cond.and given_1 narrow_1).before args0 about1 = true := by decide +kernel
theorem w_applies : (headSpec (Jvm.Cond.code x code maxLocals ret :: tables_1) room_1).applies x e0.platform about1 = true :=
  (Spec.applies_iff w_frames).mpr ⟨w_running, w_runnable, w_alone, w_named, w_hears, w_ripe, w_room, w_tables⟩
theorem atStart : AtStart classFile x code maxLocals ret World_1 tables_1 room_1 Calls_1 rest_1 Pre_1 launch0 p0 e0 about1 theMethod args0 below0 :=
  ⟨lists_1, trivial, launch0.admits_env _ _ _, launch0.least_env, fairChoices_fair.cas, fairChoices_fair.clock, w_frames, w_args, w_heap, w_applies, trivial, trivial, w_case⟩
end start1
theorem witness_1 : WitnessClaimed_1 := ⟨start1.p0, start1.e0, start1.about1, start1.theMethod, start1.args0, start1.below0, start1.atStart⟩
end Jvm.Pilot.@@N@@
