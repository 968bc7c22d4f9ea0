import JvmDerived
import JvmDerived.Pilot.@@N@@Statement
import JvmDerived.Pilot.@@N@@Code
set_option linter.unusedVariables false
set_option linter.unusedSimpArgs false
namespace Jvm.RoadKit
open Sem ClassFile Op Lib Jvm.Stand Jvm.Free Jvm.LawKit
section New
variable {p : Program} {l : Launch} {e : Env} {R : Room} {s : State} {m : MethodId} {args : Array Value} {below : List Frame} {meth : Method} {c : Code} {T : State} {locs : List Loc} {cells slots : Nat}
theorem retI (X : Stand p l e R s m args below meth c T locs cells slots) (hx : p.tables.exec = Jvm.exec) {pc : Nat} {Ls : Array Slot} {z : Int32} {rest : List Value} (hret : meth.sig.returnType = some .int) (hd : decode c.code pc = .ok (.ireturn, 1)) {fs : List Frame}
    (hl : ∀ (f : JFrame) (acts : List Action), f.method = m → f.locked = none → f.entered = [] → (doReturn e (T.setTop f) acts (some (.int z))).1 = T.setFrames fs) : Steps p.tables e below (T.setTop (mkF m pc Ls (.int z :: rest))) (T.setFrames fs) := by
  have hm' : T.vm.method? m = some meth := X.method'
  have hn : narrow .int (.int z) = .int z := rfl
  show Steps p.tables e below (T.setTop { method := m, pc := pc, locals := Ls, stack := _ :: rest, locked := none }) _
  jvm_step X.here [X.here.top, hx, hd, hm', hret, hn]
  first | (intro acts; rw [hl _ acts rfl rfl rfl]) | rw [hl _ _ rfl rfl rfl]
  exact Steps.refl _
end New
end Jvm.RoadKit
namespace Jvm.Pilot.@@N@@
open Jvm Jvm.ClassFile Sem Op Lib Jvm.Free Jvm.Stand Jvm.LawKit Jvm.RoadKit Bundle Jvm.Pilot.@@N@@.Jvm.D
def own_rng (mn mx : Int32) : Int32 := if mn < (1 : Int32) then (0 : Int32) else (if mx < mn then (0 : Int32) else (1 : Int32))
theorem own_rng01 (mn mx : Int32) : nar .boolean (own_rng mn mx) = own_rng mn mx := by
  simp only [own_rng]; split <;> (try split) <;> rfl
theorem own_u32 (x : Int32) : (x.toInt64 &&& (4294967295 : Int64)).toInt = x.toInt % 4294967296 := by
  have h1 : (x.toInt64 &&& (4294967295 : Int64)).toBitVec.toNat = x.toInt64.toBitVec.toNat % 4294967296 := by
    rw [Int64.toBitVec_and, BitVec.toNat_and]
    exact Nat.and_two_pow_sub_one_eq_mod _ 32
  have h2 : x.toInt64.toInt = x.toInt := Int32.toInt_toInt64 x
  have h3 : x.toInt64.toInt = x.toInt64.toBitVec.toInt := rfl
  have h4 : (x.toInt64 &&& (4294967295 : Int64)).toInt = (x.toInt64 &&& (4294967295 : Int64)).toBitVec.toInt := rfl
  rw [h4, BitVec.toInt_eq_toNat_cond, h1]
  rw [h3, BitVec.toInt_eq_toNat_cond] at h2
  have hx1 := x.toInt_lt
  have hx2 := x.le_toInt
  have hb := x.toInt64.toBitVec.isLt
  split at h2 <;> split <;> omega
theorem own_law (mn mx v14 : Int32) (um ux top : Int64) (hum : um = (mn.toInt64 &&& (4294967295 : Int64))) (hux : ux = (mx.toInt64 &&& (4294967295 : Int64))) (ht : top = (2147483647 : Int64))
    (h : v14 = (if um < (1 : Int64) then (0 : Int32) else (if top < um then (0 : Int32) else (if top < ux then (0 : Int32) else (if ux < um then (0 : Int32) else (1 : Int32)))))) : own_rng mn mx = v14 := by
  have e1 := own_u32 mn
  have e2 := own_u32 mx
  rw [← hum] at e1
  rw [← hux] at e2
  have a1 := mn.toInt_lt
  have a2 := mn.le_toInt
  have a3 := mx.toInt_lt
  have a4 := mx.le_toInt
  have t1 : top.toInt = 2147483647 := by rw [ht]; rfl
  have o1 : (1 : Int64).toInt = 1 := rfl
  have o2 : (1 : Int32).toInt = 1 := rfl
  rw [h]
  simp only [own_rng, Int32.lt_iff_toInt_lt, Int64.lt_iff_toInt_lt, o1, o2, t1]
  repeat' split
  all_goals first | rfl | (exfalso; omega)
theorem d1_0 : decode prog_68_method_1_code 0 = .ok (.aload_n 0, 1) := by decide +kernel
theorem d1_1 : decode prog_68_method_1_code 1 = .ok (.invokespecial 1, 3) := by decide +kernel
theorem d1_4 : decode prog_68_method_1_code 4 = .ok (.aload_n 0, 1) := by decide +kernel
theorem d1_5 : decode prog_68_method_1_code 5 = .ok (.iload_n 1, 1) := by decide +kernel
theorem d1_6 : decode prog_68_method_1_code 6 = .ok (.putfield 7, 3) := by decide +kernel
theorem d1_9 : decode prog_68_method_1_code 9 = .ok (.aload_n 0, 1) := by decide +kernel
theorem d1_10 : decode prog_68_method_1_code 10 = .ok (.iload_n 2, 1) := by decide +kernel
theorem d1_11 : decode prog_68_method_1_code 11 = .ok (.putfield 13, 3) := by decide +kernel
theorem d1_14 : decode prog_68_method_1_code 14 = .ok (.return_, 1) := by decide +kernel
theorem own_pn1 : plainName "com/example/attest/attest/scheme/SdkVersionRange" = true := by first | (simp [plainName, overriddenIn]; done) | decide +kernel
def Q_rm1 (Z : State) (a : Addr) (mn : Int32) (mx : Int32)  (h0 : Heap) (n0 : Nat) (v : Option Value) (h : Heap) (L : List Loc) : Prop := v = none ∧ Fr n0 L ∧ Keep h0 h [a] ∧ Fld Z h a "com/example/attest/attest/scheme/SdkVersionRange" "minSdkVersion" "I" (.int mn) ∧ Fld Z h a "com/example/attest/attest/scheme/SdkVersionRange" "maxSdkVersion" "I" (.int mx)
theorem ef_rm1 (m : MethodId) (x0 : Addr) (x1 : Int32) (x2 : Int32) : entryFrame m #[(.ref x0), (.int x1), (.int x2)] 3 = mkF m 0 #[.val (.ref x0), .val (.int x1), .val (.int x2)] [] := by first | (simp [entryFrame, mkF, argsToLocals, Value.category]; done) | rfl
set_option maxRecDepth 65536 in
set_option maxHeartbeats 40000000 in
theorem rm1 (l : Launch) (Z : State) (a0 : Array Value) (hw : ∀ d ∈ tables_1, d.before a0 Z = true) (ws : List Jvm.Cond) (a : Addr) (mn : Int32) (mx : Int32)  (h0 : Heap) (n0 : Nat) (Z0 : n0 ≤ h0.size) (E_a : Exa Z h0 a "com/example/attest/attest/scheme/SdkVersionRange") (g_a : n0 ≤ a) (F_a_minSdkVersion : Fld Z h0 a "com/example/attest/attest/scheme/SdkVersionRange" "minSdkVersion" "I" (.int (0 : Int32))) (F_a_maxSdkVersion : Fld Z h0 a "com/example/attest/attest/scheme/SdkVersionRange" "maxSdkVersion" "I" (.int (0 : Int32))) :
    MetFree l (⟨"com/example/attest/attest/scheme/SdkVersionRange", "<init>", "(II)V"⟩ : MethodName) (head1 (Jvm.Cond.code (⟨"com/example/attest/attest/scheme/SdkVersionRange", "<init>", "(II)V"⟩ : MethodName) prog_68_method_1_code 3 none :: ws) ({ frames := 1, cells := 0, slots := 0, locals := 12 } : Room)) (fun a' U => a' = #[(.ref a), (.int mn), (.int mx)] ∧ Z.Warmed39 U.vm ∧ U.heap = h0) (fun _ _ _ _ _ => True) (fun _ U o U' => ∃ v L, o = .returned v ∧ Q_rm1 Z a mn mx h0 n0 v U'.heap L ∧ FrameEnd U o U' L ({ frames := 1, cells := 0, slots := 0, locals := 12 } : Room).cells ({ frames := 1, cells := 0, slots := 0, locals := 12 } : Room).slots) := by
  refine MetFree.of_bodySF (plainFor_of_name own_pn1) hisR ?_
  intro p e s m args below meth cd0 s₁ Bd hml0 hP hK
  obtain ⟨rfl, hZ, hh⟩ := hP
  have hx := Bd.exec
  have hby := Bd.bytes
  have hml : cd0.maxLocals = 3 := hml0
  have hown : s.vm.findClass "com/example/attest/attest/scheme/SdkVersionRange" = some m.cls := findClass_of_methodNamed Bd.named
  have hnm := (name_of_methodNamed Bd.named Bd.method).1
  have X : Stand p l e ({ frames := 1, cells := 0, slots := 0, locals := 12 } : Room) s m #[(.ref a), (.int mn), (.int mx)] below meth cd0 s₁ [] 0 0 := Stand.of_body Bd
  have eh : s₁.heap = h0 := by rw [← hh, Bd.state]; rfl
  have N := Fr.nil n0
  have K : Keep h0 h0 [a] := Keep.refl _ _
  have pre0 : ∀ t, Steps p.tables e below (s₁.setTop (mkF m 0 #[.val (.ref a), .val (.int mn), .val (.int mx)] [])) t → Steps p.tables e below (s₁.setTop (entryFrame m #[(.ref a), (.int mn), (.int mx)] 3)) t := fun t k => castTop (ef_rm1 m a mn mx) k
  have st : ∀ t, Steps p.tables e below (s₁.setTop (mkF m 0 #[.val (.ref a), .val (.int mn), .val (.int mx)] [])) t → Steps p.tables e below (s₁.setTop (mkF m 0 #[.val (.ref a), .val (.int mn), .val (.int mx)] [])) t := fun t k => k
  have st : ∀ t, Steps p.tables e below (s₁.setTop (mkF m 1 #[.val (.ref a), .val (.int mn), .val (.int mx)] [(.ref a)])) t → Steps p.tables e below (s₁.setTop (mkF m 0 #[.val (.ref a), .val (.int mn), .val (.int mx)] [])) t := fun t k => st t (by
      show Steps p.tables e below (s₁.setTop (mkF m 0 #[.val (.ref a), .val (.int mn), .val (.int mx)] [])) _
      refine XS.aloadN X.here hx rfl (hb hby d1_0) rfl rfl ?_
      exact k)
  obtain ⟨T1, X, eh, sx⟩ := initO X hx hZ hown (hw _ (List.mem_of_getElem? (i := 6) rfl)) (hw _ (List.mem_of_getElem? (i := 7) rfl)) (hw _ (List.mem_of_getElem? (i := 8) rfl)) eh (g := (mkF m 1 #[.val (.ref a), .val (.int mn), .val (.int mx)] [(.ref a)])) rfl (by rw [hml]; rfl) rfl (hb hby d1_1) (by decide) (W := 0) (by show 2 * 0 + _ ≤ _; exact Nat.le_of_eq rfl) (by decide)
  have st : ∀ t, Steps p.tables e below (T1.setTop (mkF m 4 #[.val (.ref a), .val (.int mn), .val (.int mx)] [])) t → Steps p.tables e below (s₁.setTop (mkF m 0 #[.val (.ref a), .val (.int mn), .val (.int mx)] [])) t := fun t k => st t (sx t k)
  have st : ∀ t, Steps p.tables e below (T1.setTop (mkF m 6 #[.val (.ref a), .val (.int mn), .val (.int mx)] [(.int mn), (.ref a)])) t → Steps p.tables e below (s₁.setTop (mkF m 0 #[.val (.ref a), .val (.int mn), .val (.int mx)] [])) t := fun t k => st t (by
      show Steps p.tables e below (T1.setTop (mkF m 4 #[.val (.ref a), .val (.int mn), .val (.int mx)] [])) _
      refine XS.aloadN X.here hx rfl (hb hby d1_4) rfl rfl ?_
      show Steps p.tables e below (T1.setTop (mkF m 5 #[.val (.ref a), .val (.int mn), .val (.int mx)] [(.ref a)])) _
      refine XS.iloadN X.here hx rfl (hb hby d1_5) rfl ?_
      exact k)
  obtain ⟨T2, h3, X, eh, W4, sx⟩ := putF X hx hZ hown (host := "") (Or.inl (hw _ (List.mem_of_getElem? (i := 9) rfl))) Via.refl eh F_a_minSdkVersion E_a (Or.inr ⟨(hw _ (List.mem_of_getElem? (i := 10) rfl)), rfl, hnm⟩) (hw _ (List.mem_of_getElem? (i := 1) rfl)) (ty := .int) (by decide) rfl rfl (g := (mkF m 6 #[.val (.ref a), .val (.int mn), .val (.int mx)] [(.int mn), (.ref a)])) rfl rfl (hb hby d1_6)
  have st : ∀ t, Steps p.tables e below (T2.setTop (mkF m 9 #[.val (.ref a), .val (.int mn), .val (.int mx)] [])) t → Steps p.tables e below (s₁.setTop (mkF m 0 #[.val (.ref a), .val (.int mn), .val (.int mx)] [])) t := fun t k => st t (sx t k)
  have F_a_minSdkVersion := F_a_minSdkVersion.same W4
  have F_a_maxSdkVersion := F_a_maxSdkVersion.other W4 (Or.inr (slot_ne (Or.inr (hw _ (List.mem_of_getElem? (i := 12) rfl))) (Or.inr (hw _ (List.mem_of_getElem? (i := 10) rfl))) (by decide) (t := .int) (t' := .int) (by decide) (by decide)))
  have E_a := E_a.wr W4
  have K := K.wr W4 (Or.inl (List.mem_of_getElem? (i := 0) rfl))
  have Z0 := Nat.le_trans Z0 (Keep.of_wr W4).1
  have N := Fr.snoc X N g_a
  have st : ∀ t, Steps p.tables e below (T2.setTop (mkF m 11 #[.val (.ref a), .val (.int mn), .val (.int mx)] [(.int mx), (.ref a)])) t → Steps p.tables e below (s₁.setTop (mkF m 0 #[.val (.ref a), .val (.int mn), .val (.int mx)] [])) t := fun t k => st t (by
      show Steps p.tables e below (T2.setTop (mkF m 9 #[.val (.ref a), .val (.int mn), .val (.int mx)] [])) _
      refine XS.aloadN X.here hx rfl (hb hby d1_9) rfl rfl ?_
      show Steps p.tables e below (T2.setTop (mkF m 10 #[.val (.ref a), .val (.int mn), .val (.int mx)] [(.ref a)])) _
      refine XS.iloadN X.here hx rfl (hb hby d1_10) rfl ?_
      exact k)
  obtain ⟨T5, h6, X, eh, W7, sx⟩ := putF X hx hZ hown (host := "") (Or.inl (hw _ (List.mem_of_getElem? (i := 11) rfl))) Via.refl eh F_a_maxSdkVersion E_a (Or.inr ⟨(hw _ (List.mem_of_getElem? (i := 12) rfl)), rfl, hnm⟩) (hw _ (List.mem_of_getElem? (i := 1) rfl)) (ty := .int) (by decide) rfl rfl (g := (mkF m 11 #[.val (.ref a), .val (.int mn), .val (.int mx)] [(.int mx), (.ref a)])) rfl rfl (hb hby d1_11)
  have st : ∀ t, Steps p.tables e below (T5.setTop (mkF m 14 #[.val (.ref a), .val (.int mn), .val (.int mx)] [])) t → Steps p.tables e below (s₁.setTop (mkF m 0 #[.val (.ref a), .val (.int mn), .val (.int mx)] [])) t := fun t k => st t (sx t k)
  have F_a_minSdkVersion := F_a_minSdkVersion.other W7 (Or.inr (slot_ne (Or.inr (hw _ (List.mem_of_getElem? (i := 10) rfl))) (Or.inr (hw _ (List.mem_of_getElem? (i := 12) rfl))) (by decide) (t := .int) (t' := .int) (by decide) (by decide)))
  have F_a_maxSdkVersion := F_a_maxSdkVersion.same W7
  have E_a := E_a.wr W7
  have K := K.wr W7 (Or.inl (List.mem_of_getElem? (i := 0) rfl))
  have Z0 := Nat.le_trans Z0 (Keep.of_wr W7).1
  have N := Fr.snoc X N g_a
  obtain ⟨fs_, hr, hrun, hended, hW, hsame⟩ := X.leave (v := none) (fun _ => rfl)
  refine ⟨_, _, pre0 _ (st _ ?_), hrun, hended, _, _, rfl, ?_, ⟨_, rfl⟩, hW, hsame.mono (by decide) (by decide)⟩
  · exact X.returnOut hx Bd.returns (hb hby d1_14) hr
  · show Q_rm1 Z a mn mx h0 n0 _ T5.heap _
    rw [eh]
    exact ⟨rfl, N, K, F_a_minSdkVersion, F_a_maxSdkVersion⟩
theorem d3_0 : decode prog_68_method_5_code 0 = .ok (.aload_n 0, 1) := by decide +kernel
theorem d3_1 : decode prog_68_method_5_code 1 = .ok (.getfield 7, 3) := by decide +kernel
theorem d3_4 : decode prog_68_method_5_code 4 = .ok (.iconst 1, 1) := by decide +kernel
theorem d3_5 : decode prog_68_method_5_code 5 = .ok (.if_icmp .lt 18, 3) := by decide +kernel
theorem d3_8 : decode prog_68_method_5_code 8 = .ok (.aload_n 0, 1) := by decide +kernel
theorem d3_9 : decode prog_68_method_5_code 9 = .ok (.getfield 7, 3) := by decide +kernel
theorem d3_12 : decode prog_68_method_5_code 12 = .ok (.aload_n 0, 1) := by decide +kernel
theorem d3_13 : decode prog_68_method_5_code 13 = .ok (.getfield 13, 3) := by decide +kernel
theorem d3_16 : decode prog_68_method_5_code 16 = .ok (.if_icmp .gt 7, 3) := by decide +kernel
theorem d3_19 : decode prog_68_method_5_code 19 = .ok (.iconst 1, 1) := by decide +kernel
theorem d3_20 : decode prog_68_method_5_code 20 = .ok (.goto 4, 3) := by decide +kernel
theorem d3_23 : decode prog_68_method_5_code 23 = .ok (.iconst 0, 1) := by decide +kernel
theorem d3_24 : decode prog_68_method_5_code 24 = .ok (.ireturn, 1) := by decide +kernel
def Q_rm3 (Z : State) (a : Addr) (mn mx : Int32) (h0 : Heap) (n0 : Nat) (v : Option Value) (h : Heap) (L : List Loc) : Prop := v = some (.int (own_rng mn mx)) ∧ Fr n0 L ∧ h = h0
theorem ef_rm3 (m : MethodId) (x0 : Addr) : entryFrame m #[(.ref x0)] 1 = mkF m 0 #[.val (.ref x0)] [] := by first | (simp [entryFrame, mkF, argsToLocals, Value.category]; done) | rfl
set_option maxRecDepth 65536 in
set_option maxHeartbeats 40000000 in
theorem rm3 (l : Launch) (Z : State) (a0 : Array Value) (hw : ∀ d ∈ tables_1, d.before a0 Z = true) (ws : List Jvm.Cond) (a : Addr) (mn mx : Int32) (h0 : Heap) (n0 : Nat) (Z0 : n0 ≤ h0.size) (F_a_minSdkVersion : Fld Z h0 a "com/example/attest/attest/scheme/SdkVersionRange" "minSdkVersion" "I" (.int mn)) (F_a_maxSdkVersion : Fld Z h0 a "com/example/attest/attest/scheme/SdkVersionRange" "maxSdkVersion" "I" (.int mx)) :
    MetFree l (⟨"com/example/attest/attest/scheme/SdkVersionRange", "isRangeOfApiLevels", "()Z"⟩ : MethodName) (head1 (Jvm.Cond.code (⟨"com/example/attest/attest/scheme/SdkVersionRange", "isRangeOfApiLevels", "()Z"⟩ : MethodName) prog_68_method_5_code 1 (some .boolean) :: ws) ({ frames := 0, cells := 0, slots := 0, locals := 0 } : Room)) (fun a' U => a' = #[(.ref a)] ∧ Z.Warmed39 U.vm ∧ U.heap = h0) (fun _ _ _ _ _ => True) (fun _ U o U' => ∃ v L, o = .returned v ∧ Q_rm3 Z a mn mx h0 n0 v U'.heap L ∧ FrameEnd U o U' L ({ frames := 0, cells := 0, slots := 0, locals := 0 } : Room).cells ({ frames := 0, cells := 0, slots := 0, locals := 0 } : Room).slots) := by
  refine MetFree.of_bodySF (plainFor_of_name own_pn1) hisR ?_
  intro p e s m args below meth cd0 s₁ Bd hml0 hP hK
  obtain ⟨rfl, hZ, hh⟩ := hP
  have hx := Bd.exec
  have hby := Bd.bytes
  have hml : cd0.maxLocals = 1 := hml0
  have hown : s.vm.findClass "com/example/attest/attest/scheme/SdkVersionRange" = some m.cls := findClass_of_methodNamed Bd.named
  have hnm := (name_of_methodNamed Bd.named Bd.method).1
  have X : Stand p l e ({ frames := 0, cells := 0, slots := 0, locals := 0 } : Room) s m #[(.ref a)] below meth cd0 s₁ [] 0 0 := Stand.of_body Bd
  have eh : s₁.heap = h0 := by rw [← hh, Bd.state]; rfl
  have N := Fr.nil n0
  have K : Keep h0 h0 [] := Keep.refl _ _
  have pre0 : ∀ t, Steps p.tables e below (s₁.setTop (mkF m 0 #[.val (.ref a)] [])) t → Steps p.tables e below (s₁.setTop (entryFrame m #[(.ref a)] 1)) t := fun t k => castTop (ef_rm3 m a) k
  have st : ∀ t, Steps p.tables e below (s₁.setTop (mkF m 0 #[.val (.ref a)] [])) t → Steps p.tables e below (s₁.setTop (mkF m 0 #[.val (.ref a)] [])) t := fun t k => k
  have st : ∀ t, Steps p.tables e below (s₁.setTop (mkF m 1 #[.val (.ref a)] [(.ref a)])) t → Steps p.tables e below (s₁.setTop (mkF m 0 #[.val (.ref a)] [])) t := fun t k => st t (by
      show Steps p.tables e below (s₁.setTop (mkF m 0 #[.val (.ref a)] [])) _
      refine XS.aloadN X.here hx rfl (hb hby d3_0) rfl rfl ?_
      exact k)
  obtain ⟨T1, X, eh, sx⟩ := getF X hx hZ hown (host := "") (Or.inl (hw _ (List.mem_of_getElem? (i := 9) rfl))) Via.refl eh F_a_minSdkVersion (g := (mkF m 1 #[.val (.ref a)] [(.ref a)])) rfl rfl (hb hby d3_1)
  have st : ∀ t, Steps p.tables e below (T1.setTop (mkF m 4 #[.val (.ref a)] [(.int mn)])) t → Steps p.tables e below (s₁.setTop (mkF m 0 #[.val (.ref a)] [])) t := fun t k => st t (sx t k)
  have st : ∀ t, Steps p.tables e below (T1.setTop (mkF m 5 #[.val (.ref a)] [(.int (1 : Int32)), (.int mn)])) t → Steps p.tables e below (s₁.setTop (mkF m 0 #[.val (.ref a)] [])) t := fun t k => st t (by
      show Steps p.tables e below (T1.setTop (mkF m 4 #[.val (.ref a)] [(.int mn)])) _
      refine XS.iconst X.here hx rfl (hb hby d3_4) ?_
      exact k)
  by_cases ht5 : mn < (1 : Int32)
  · have st : ∀ t, Steps p.tables e below (T1.setTop (mkF m 24 #[.val (.ref a)] [(.int (0 : Int32))])) t → Steps p.tables e below (s₁.setTop (mkF m 0 #[.val (.ref a)] [])) t := fun t k => st t (by
        show Steps p.tables e below (T1.setTop (mkF m 5 #[.val (.ref a)] [(.int (1 : Int32)), (.int mn)])) _
        refine XS.icmpYes X.here hx rfl (pc0 := 5) (pc' := 23) rfl (hb hby d3_5) rfl (tlt ht5).1 (by decide) (by decide) ?_
        show Steps p.tables e below (T1.setTop (mkF m 23 #[.val (.ref a)] [])) _
        refine XS.iconst X.here hx rfl (hb hby d3_23) ?_
        exact k)
    obtain ⟨fs_, hr, hrun, hended, hW, hsame⟩ := X.leave (v := some (.int (0 : Int32))) (fun h => by rw [Bd.returns] at h; cases h)
    refine ⟨_, _, pre0 _ (st _ ?_), hrun, hended, _, _, rfl, ?_, ⟨_, rfl⟩, hW, hsame.mono (by decide) (by decide)⟩
    · exact retN X hx (t := .boolean) Bd.returns (by simp) (hb hby d3_24) hr
    · show Q_rm3 Z a mn mx h0 n0 _ T1.heap _
      rw [eh]
      exact ⟨by rw [own_rng, if_pos ht5], N, rfl⟩
  · have st : ∀ t, Steps p.tables e below (T1.setTop (mkF m 9 #[.val (.ref a)] [(.ref a)])) t → Steps p.tables e below (s₁.setTop (mkF m 0 #[.val (.ref a)] [])) t := fun t k => st t (by
        show Steps p.tables e below (T1.setTop (mkF m 5 #[.val (.ref a)] [(.int (1 : Int32)), (.int mn)])) _
        refine XS.icmpNo X.here hx rfl (hb hby d3_5) rfl (flt ht5).1 ?_
        show Steps p.tables e below (T1.setTop (mkF m 8 #[.val (.ref a)] [])) _
        refine XS.aloadN X.here hx rfl (hb hby d3_8) rfl rfl ?_
        exact k)
    obtain ⟨T2, X, eh, sx⟩ := getF X hx hZ hown (host := "") (Or.inl (hw _ (List.mem_of_getElem? (i := 9) rfl))) Via.refl eh F_a_minSdkVersion (g := (mkF m 9 #[.val (.ref a)] [(.ref a)])) rfl rfl (hb hby d3_9)
    have st : ∀ t, Steps p.tables e below (T2.setTop (mkF m 12 #[.val (.ref a)] [(.int mn)])) t → Steps p.tables e below (s₁.setTop (mkF m 0 #[.val (.ref a)] [])) t := fun t k => st t (sx t k)
    have st : ∀ t, Steps p.tables e below (T2.setTop (mkF m 13 #[.val (.ref a)] [(.ref a), (.int mn)])) t → Steps p.tables e below (s₁.setTop (mkF m 0 #[.val (.ref a)] [])) t := fun t k => st t (by
        show Steps p.tables e below (T2.setTop (mkF m 12 #[.val (.ref a)] [(.int mn)])) _
        refine XS.aloadN X.here hx rfl (hb hby d3_12) rfl rfl ?_
        exact k)
    obtain ⟨T3, X, eh, sx⟩ := getF X hx hZ hown (host := "") (Or.inl (hw _ (List.mem_of_getElem? (i := 11) rfl))) Via.refl eh F_a_maxSdkVersion (g := (mkF m 13 #[.val (.ref a)] [(.ref a), (.int mn)])) rfl rfl (hb hby d3_13)
    have st : ∀ t, Steps p.tables e below (T3.setTop (mkF m 16 #[.val (.ref a)] [(.int mx), (.int mn)])) t → Steps p.tables e below (s₁.setTop (mkF m 0 #[.val (.ref a)] [])) t := fun t k => st t (sx t k)
    by_cases ht16 : mx < mn
    · have st : ∀ t, Steps p.tables e below (T3.setTop (mkF m 24 #[.val (.ref a)] [(.int (0 : Int32))])) t → Steps p.tables e below (s₁.setTop (mkF m 0 #[.val (.ref a)] [])) t := fun t k => st t (by
          show Steps p.tables e below (T3.setTop (mkF m 16 #[.val (.ref a)] [(.int mx), (.int mn)])) _
          refine XS.icmpYes X.here hx rfl (pc0 := 16) (pc' := 23) rfl (hb hby d3_16) rfl (tlt ht16).2.2.1 (by decide) (by decide) ?_
          show Steps p.tables e below (T3.setTop (mkF m 23 #[.val (.ref a)] [])) _
          refine XS.iconst X.here hx rfl (hb hby d3_23) ?_
          exact k)
      obtain ⟨fs_, hr, hrun, hended, hW, hsame⟩ := X.leave (v := some (.int (0 : Int32))) (fun h => by rw [Bd.returns] at h; cases h)
      refine ⟨_, _, pre0 _ (st _ ?_), hrun, hended, _, _, rfl, ?_, ⟨_, rfl⟩, hW, hsame.mono (by decide) (by decide)⟩
      · exact retN X hx (t := .boolean) Bd.returns (by simp) (hb hby d3_24) hr
      · show Q_rm3 Z a mn mx h0 n0 _ T3.heap _
        rw [eh]
        exact ⟨by rw [own_rng, if_neg ht5, if_pos ht16], N, rfl⟩
    · have st : ∀ t, Steps p.tables e below (T3.setTop (mkF m 24 #[.val (.ref a)] [(.int (1 : Int32))])) t → Steps p.tables e below (s₁.setTop (mkF m 0 #[.val (.ref a)] [])) t := fun t k => st t (by
          show Steps p.tables e below (T3.setTop (mkF m 16 #[.val (.ref a)] [(.int mx), (.int mn)])) _
          refine XS.icmpNo X.here hx rfl (hb hby d3_16) rfl (flt ht16).2.2.1 ?_
          show Steps p.tables e below (T3.setTop (mkF m 19 #[.val (.ref a)] [])) _
          refine XS.iconst X.here hx rfl (hb hby d3_19) ?_
          show Steps p.tables e below (T3.setTop (mkF m 20 #[.val (.ref a)] [(.int (1 : Int32))])) _
          refine XS.goto X.here hx rfl (pc0 := 20) (pc' := 24) rfl (hb hby d3_20) (by decide) (by decide) ?_
          exact k)
      obtain ⟨fs_, hr, hrun, hended, hW, hsame⟩ := X.leave (v := some (.int (1 : Int32))) (fun h => by rw [Bd.returns] at h; cases h)
      refine ⟨_, _, pre0 _ (st _ ?_), hrun, hended, _, _, rfl, ?_, ⟨_, rfl⟩, hW, hsame.mono (by decide) (by decide)⟩
      · exact retN X hx (t := .boolean) Bd.returns (by simp) (hb hby d3_24) hr
      · show Q_rm3 Z a mn mx h0 n0 _ T3.heap _
        rw [eh]
        exact ⟨by rw [own_rng, if_neg ht5, if_neg ht16], N, rfl⟩
theorem own_pn0 : plainName "com/example/attest/attest/scheme/SdkVersionRangeIsRangeOfApiLevelsPinLaw" = true := by first | (simp [plainName, overriddenIn]; done) | decide +kernel
def Q_rm0 (Z : State) (qa : Int32) (qb : Int32) (sel : Int32)  (h0 : Heap) (n0 : Nat) (v : Option Value) (h : Heap) (L : List Loc) : Prop := v = some (.int 1) ∧ Fr n0 L
theorem own_pd0 : parseMethodDescriptor "(II)V" = some ⟨[.int, .int], none⟩ := by decide +kernel
theorem own_pd1 : parseMethodDescriptor "()Z" = some ⟨[], some .boolean⟩ := by decide +kernel
theorem ef_rm0 (m : MethodId) (x0 : Int32) (x1 : Int32) (x2 : Int32) : entryFrame m #[(.int x0), (.int x1), (.int x2)] maxLocals = mkF m 0 #[.val (.int x0), .val (.int x1), .val (.int x2), .unset, .unset, .unset, .unset, .unset, .unset, .unset, .unset, .unset, .unset, .unset, .unset] [] := by first | (simp [entryFrame, mkF, argsToLocals, Value.category, maxLocals]; done) | rfl
set_option maxRecDepth 65536 in
set_option maxHeartbeats 40000000 in
theorem rm0 (l : Launch) (Z : State) (a0 : Array Value) (hw : ∀ d ∈ tables_1, d.before a0 Z = true) (ws : List Jvm.Cond) (qa : Int32) (qb : Int32) (sel : Int32)  (h0 : Heap) (n0 : Nat) (Z0 : n0 ≤ h0.size)  :
    MetFree l x (head1 (Jvm.Cond.code x code maxLocals ret :: ws) room_1) (fun a' U => a' = #[(.int qa), (.int qb), (.int sel)] ∧ Z.Warmed39 U.vm ∧ U.heap = h0) (fun _ _ _ _ _ => True) (fun _ U o U' => ∃ v L, o = .returned v ∧ Q_rm0 Z qa qb sel h0 n0 v U'.heap L ∧ FrameEnd U o U' L room_1.cells room_1.slots) := by
  refine MetFree.of_bodySF (plainFor_of_name own_pn0) hisR ?_
  intro p e s m args below meth cd0 s₁ Bd hml0 hP hK
  obtain ⟨rfl, hZ, hh⟩ := hP
  have hx := Bd.exec
  have hby := Bd.bytes
  have hml : cd0.maxLocals = 15 := hml0
  have hown : s.vm.findClass "com/example/attest/attest/scheme/SdkVersionRangeIsRangeOfApiLevelsPinLaw" = some m.cls := findClass_of_methodNamed Bd.named
  have hnm := (name_of_methodNamed Bd.named Bd.method).1
  have X : Stand p l e room_1 s m #[(.int qa), (.int qb), (.int sel)] below meth cd0 s₁ [] 0 0 := Stand.of_body Bd
  have eh : s₁.heap = h0 := by rw [← hh, Bd.state]; rfl
  have N := Fr.nil n0
  have K : Keep h0 h0 [] := Keep.refl _ _
  have pre0 : ∀ t, Steps p.tables e below (s₁.setTop (mkF m 0 #[.val (.int qa), .val (.int qb), .val (.int sel), .unset, .unset, .unset, .unset, .unset, .unset, .unset, .unset, .unset, .unset, .unset, .unset] [])) t → Steps p.tables e below (s₁.setTop (entryFrame m #[(.int qa), (.int qb), (.int sel)] maxLocals)) t := fun t k => castTop (ef_rm0 m qa qb sel) k
  have st : ∀ t, Steps p.tables e below (s₁.setTop (mkF m 0 #[.val (.int qa), .val (.int qb), .val (.int sel), .unset, .unset, .unset, .unset, .unset, .unset, .unset, .unset, .unset, .unset, .unset, .unset] [])) t → Steps p.tables e below (s₁.setTop (mkF m 0 #[.val (.int qa), .val (.int qb), .val (.int sel), .unset, .unset, .unset, .unset, .unset, .unset, .unset, .unset, .unset, .unset, .unset, .unset] [])) t := fun t k => k
  obtain ⟨mn, hv_mn, sx⟩ : ∃ (mn : Int32), mn = (if (sel &&& (4 : Int32)) = (0 : Int32) then qa else (qa - (qa / (3 : Int32)) * (3 : Int32))) ∧ ∀ t, Steps p.tables e below (s₁.setTop (mkF m 13 #[.val (.int qa), .val (.int qb), .val (.int sel), .unset, .unset, .unset, .unset, .unset, .unset, .unset, .unset, .unset, .unset, .unset, .unset] [(.int mn)])) t → Steps p.tables e below (s₁.setTop (mkF m 0 #[.val (.int qa), .val (.int qb), .val (.int sel), .unset, .unset, .unset, .unset, .unset, .unset, .unset, .unset, .unset, .unset, .unset, .unset] [])) t := by
    by_cases hj1 : (sel &&& (4 : Int32)) = (0 : Int32)
    · refine ⟨qa, by rw [if_pos hj1], fun t k => ?_⟩
      show Steps p.tables e below (s₁.setTop (mkF m 0 #[.val (.int qa), .val (.int qb), .val (.int sel), .unset, .unset, .unset, .unset, .unset, .unset, .unset, .unset, .unset, .unset, .unset, .unset] [])) _
      refine XS.iloadN X.here hx rfl (hb hby at_0) rfl ?_
      show Steps p.tables e below (s₁.setTop (mkF m 1 #[.val (.int qa), .val (.int qb), .val (.int sel), .unset, .unset, .unset, .unset, .unset, .unset, .unset, .unset, .unset, .unset, .unset, .unset] [(.int sel)])) _
      refine XS.iconst X.here hx rfl (hb hby at_1) ?_
      show Steps p.tables e below (s₁.setTop (mkF m 2 #[.val (.int qa), .val (.int qb), .val (.int sel), .unset, .unset, .unset, .unset, .unset, .unset, .unset, .unset, .unset, .unset, .unset, .unset] [(.int (4 : Int32)), (.int sel)])) _
      refine XS.iand X.here hx rfl (hb hby at_2) rfl ?_
      show Steps p.tables e below (s₁.setTop (mkF m 3 #[.val (.int qa), .val (.int qb), .val (.int sel), .unset, .unset, .unset, .unset, .unset, .unset, .unset, .unset, .unset, .unset, .unset, .unset] [(.int (sel &&& (4 : Int32)))])) _
      refine XS.ifYes X.here hx rfl (pc0 := 3) (pc' := 12) rfl (hb hby at_3) rfl ((if0 _ _).trans (teq hj1).1) (by decide) (by decide) ?_
      show Steps p.tables e below (s₁.setTop (mkF m 12 #[.val (.int qa), .val (.int qb), .val (.int sel), .unset, .unset, .unset, .unset, .unset, .unset, .unset, .unset, .unset, .unset, .unset, .unset] [])) _
      refine XS.iloadN X.here hx rfl (hb hby at_12) rfl ?_
      exact k
    · refine ⟨(qa - (qa / (3 : Int32)) * (3 : Int32)), by rw [if_neg hj1], fun t k => ?_⟩
      show Steps p.tables e below (s₁.setTop (mkF m 0 #[.val (.int qa), .val (.int qb), .val (.int sel), .unset, .unset, .unset, .unset, .unset, .unset, .unset, .unset, .unset, .unset, .unset, .unset] [])) _
      refine XS.iloadN X.here hx rfl (hb hby at_0) rfl ?_
      show Steps p.tables e below (s₁.setTop (mkF m 1 #[.val (.int qa), .val (.int qb), .val (.int sel), .unset, .unset, .unset, .unset, .unset, .unset, .unset, .unset, .unset, .unset, .unset, .unset] [(.int sel)])) _
      refine XS.iconst X.here hx rfl (hb hby at_1) ?_
      show Steps p.tables e below (s₁.setTop (mkF m 2 #[.val (.int qa), .val (.int qb), .val (.int sel), .unset, .unset, .unset, .unset, .unset, .unset, .unset, .unset, .unset, .unset, .unset, .unset] [(.int (4 : Int32)), (.int sel)])) _
      refine XS.iand X.here hx rfl (hb hby at_2) rfl ?_
      show Steps p.tables e below (s₁.setTop (mkF m 3 #[.val (.int qa), .val (.int qb), .val (.int sel), .unset, .unset, .unset, .unset, .unset, .unset, .unset, .unset, .unset, .unset, .unset, .unset] [(.int (sel &&& (4 : Int32)))])) _
      refine XS.ifNo X.here hx rfl (hb hby at_3) rfl ((if0 _ _).trans (feq hj1).1) ?_
      show Steps p.tables e below (s₁.setTop (mkF m 6 #[.val (.int qa), .val (.int qb), .val (.int sel), .unset, .unset, .unset, .unset, .unset, .unset, .unset, .unset, .unset, .unset, .unset, .unset] [])) _
      refine XS.iloadN X.here hx rfl (hb hby at_6) rfl ?_
      show Steps p.tables e below (s₁.setTop (mkF m 7 #[.val (.int qa), .val (.int qb), .val (.int sel), .unset, .unset, .unset, .unset, .unset, .unset, .unset, .unset, .unset, .unset, .unset, .unset] [(.int qa)])) _
      refine XS.iconst X.here hx rfl (hb hby at_7) ?_
      show Steps p.tables e below (s₁.setTop (mkF m 8 #[.val (.int qa), .val (.int qb), .val (.int sel), .unset, .unset, .unset, .unset, .unset, .unset, .unset, .unset, .unset, .unset, .unset, .unset] [(.int (3 : Int32)), (.int qa)])) _
      refine XS.irem X.here hx rfl (hb hby at_8) rfl (by decide) ?_
      show Steps p.tables e below (s₁.setTop (mkF m 9 #[.val (.int qa), .val (.int qb), .val (.int sel), .unset, .unset, .unset, .unset, .unset, .unset, .unset, .unset, .unset, .unset, .unset, .unset] [(.int (qa - (qa / (3 : Int32)) * (3 : Int32)))])) _
      refine XS.goto X.here hx rfl (pc0 := 9) (pc' := 13) rfl (hb hby at_9) (by decide) (by decide) ?_
      exact k
  have st : ∀ t, Steps p.tables e below (s₁.setTop (mkF m 13 #[.val (.int qa), .val (.int qb), .val (.int sel), .unset, .unset, .unset, .unset, .unset, .unset, .unset, .unset, .unset, .unset, .unset, .unset] [(.int mn)])) t → Steps p.tables e below (s₁.setTop (mkF m 0 #[.val (.int qa), .val (.int qb), .val (.int sel), .unset, .unset, .unset, .unset, .unset, .unset, .unset, .unset, .unset, .unset, .unset, .unset] [])) t := fun t k => st t (sx t k)
  have st : ∀ t, Steps p.tables e below (s₁.setTop (mkF m 19 #[.val (.int qa), .val (.int qb), .val (.int sel), .val (.int mn), .val (.int (sel &&& (3 : Int32))), .unset, .unset, .unset, .unset, .unset, .unset, .unset, .unset, .unset, .unset] [])) t → Steps p.tables e below (s₁.setTop (mkF m 0 #[.val (.int qa), .val (.int qb), .val (.int sel), .unset, .unset, .unset, .unset, .unset, .unset, .unset, .unset, .unset, .unset, .unset, .unset] [])) t := fun t k => st t (by
      show Steps p.tables e below (s₁.setTop (mkF m 13 #[.val (.int qa), .val (.int qb), .val (.int sel), .unset, .unset, .unset, .unset, .unset, .unset, .unset, .unset, .unset, .unset, .unset, .unset] [(.int mn)])) _
      refine XS.istoreN X.here hx rfl (hb hby at_13) rfl (l' := #[.val (.int qa), .val (.int qb), .val (.int sel), .val (.int mn), .unset, .unset, .unset, .unset, .unset, .unset, .unset, .unset, .unset, .unset, .unset]) rfl ?_
      show Steps p.tables e below (s₁.setTop (mkF m 14 #[.val (.int qa), .val (.int qb), .val (.int sel), .val (.int mn), .unset, .unset, .unset, .unset, .unset, .unset, .unset, .unset, .unset, .unset, .unset] [])) _
      refine XS.iloadN X.here hx rfl (hb hby at_14) rfl ?_
      show Steps p.tables e below (s₁.setTop (mkF m 15 #[.val (.int qa), .val (.int qb), .val (.int sel), .val (.int mn), .unset, .unset, .unset, .unset, .unset, .unset, .unset, .unset, .unset, .unset, .unset] [(.int sel)])) _
      refine XS.iconst X.here hx rfl (hb hby at_15) ?_
      show Steps p.tables e below (s₁.setTop (mkF m 16 #[.val (.int qa), .val (.int qb), .val (.int sel), .val (.int mn), .unset, .unset, .unset, .unset, .unset, .unset, .unset, .unset, .unset, .unset, .unset] [(.int (3 : Int32)), (.int sel)])) _
      refine XS.iand X.here hx rfl (hb hby at_16) rfl ?_
      show Steps p.tables e below (s₁.setTop (mkF m 17 #[.val (.int qa), .val (.int qb), .val (.int sel), .val (.int mn), .unset, .unset, .unset, .unset, .unset, .unset, .unset, .unset, .unset, .unset, .unset] [(.int (sel &&& (3 : Int32)))])) _
      refine XS.istore X.here hx rfl (hb hby at_17) rfl (l' := #[.val (.int qa), .val (.int qb), .val (.int sel), .val (.int mn), .val (.int (sel &&& (3 : Int32))), .unset, .unset, .unset, .unset, .unset, .unset, .unset, .unset, .unset, .unset]) rfl ?_
      exact k)
  obtain ⟨mx, hv_mx, sx⟩ : ∃ (mx : Int32), mx = (if (sel &&& (3 : Int32)) = (0 : Int32) then qb else (if (sel &&& (3 : Int32)) = (1 : Int32) then (mn + (qb - (qb / (2 : Int32)) * (2 : Int32))) else (if (sel &&& (3 : Int32)) = (2 : Int32) then mn else (qb ||| (-2147483648 : Int32))))) ∧ ∀ t, Steps p.tables e below (s₁.setTop (mkF m 64 #[.val (.int qa), .val (.int qb), .val (.int sel), .val (.int mn), .val (.int (sel &&& (3 : Int32))), .val (.int mx), .unset, .unset, .unset, .unset, .unset, .unset, .unset, .unset, .unset] [])) t → Steps p.tables e below (s₁.setTop (mkF m 19 #[.val (.int qa), .val (.int qb), .val (.int sel), .val (.int mn), .val (.int (sel &&& (3 : Int32))), .unset, .unset, .unset, .unset, .unset, .unset, .unset, .unset, .unset, .unset] [])) t := by
    by_cases hj1 : (sel &&& (3 : Int32)) = (0 : Int32)
    · refine ⟨qb, by rw [if_pos hj1], fun t k => ?_⟩
      show Steps p.tables e below (s₁.setTop (mkF m 19 #[.val (.int qa), .val (.int qb), .val (.int sel), .val (.int mn), .val (.int (sel &&& (3 : Int32))), .unset, .unset, .unset, .unset, .unset, .unset, .unset, .unset, .unset, .unset] [])) _
      refine XS.iload X.here hx rfl (hb hby at_19) rfl ?_
      show Steps p.tables e below (s₁.setTop (mkF m 21 #[.val (.int qa), .val (.int qb), .val (.int sel), .val (.int mn), .val (.int (sel &&& (3 : Int32))), .unset, .unset, .unset, .unset, .unset, .unset, .unset, .unset, .unset, .unset] [(.int (sel &&& (3 : Int32)))])) _
      refine XS.ifNo X.here hx rfl (hb hby at_21) rfl ((if0 _ _).trans (teq hj1).2) ?_
      show Steps p.tables e below (s₁.setTop (mkF m 24 #[.val (.int qa), .val (.int qb), .val (.int sel), .val (.int mn), .val (.int (sel &&& (3 : Int32))), .unset, .unset, .unset, .unset, .unset, .unset, .unset, .unset, .unset, .unset] [])) _
      refine XS.iloadN X.here hx rfl (hb hby at_24) rfl ?_
      show Steps p.tables e below (s₁.setTop (mkF m 25 #[.val (.int qa), .val (.int qb), .val (.int sel), .val (.int mn), .val (.int (sel &&& (3 : Int32))), .unset, .unset, .unset, .unset, .unset, .unset, .unset, .unset, .unset, .unset] [(.int qb)])) _
      refine XS.istore X.here hx rfl (hb hby at_25) rfl (l' := #[.val (.int qa), .val (.int qb), .val (.int sel), .val (.int mn), .val (.int (sel &&& (3 : Int32))), .val (.int qb), .unset, .unset, .unset, .unset, .unset, .unset, .unset, .unset, .unset]) rfl ?_
      show Steps p.tables e below (s₁.setTop (mkF m 27 #[.val (.int qa), .val (.int qb), .val (.int sel), .val (.int mn), .val (.int (sel &&& (3 : Int32))), .val (.int qb), .unset, .unset, .unset, .unset, .unset, .unset, .unset, .unset, .unset] [])) _
      refine XS.goto X.here hx rfl (pc0 := 27) (pc' := 64) rfl (hb hby at_27) (by decide) (by decide) ?_
      exact k
    · by_cases hj2 : (sel &&& (3 : Int32)) = (1 : Int32)
      · refine ⟨(mn + (qb - (qb / (2 : Int32)) * (2 : Int32))), by rw [if_neg hj1, if_pos hj2], fun t k => ?_⟩
        show Steps p.tables e below (s₁.setTop (mkF m 19 #[.val (.int qa), .val (.int qb), .val (.int sel), .val (.int mn), .val (.int (sel &&& (3 : Int32))), .unset, .unset, .unset, .unset, .unset, .unset, .unset, .unset, .unset, .unset] [])) _
        refine XS.iload X.here hx rfl (hb hby at_19) rfl ?_
        show Steps p.tables e below (s₁.setTop (mkF m 21 #[.val (.int qa), .val (.int qb), .val (.int sel), .val (.int mn), .val (.int (sel &&& (3 : Int32))), .unset, .unset, .unset, .unset, .unset, .unset, .unset, .unset, .unset, .unset] [(.int (sel &&& (3 : Int32)))])) _
        refine XS.ifYes X.here hx rfl (pc0 := 21) (pc' := 30) rfl (hb hby at_21) rfl ((if0 _ _).trans (feq hj1).2) (by decide) (by decide) ?_
        show Steps p.tables e below (s₁.setTop (mkF m 30 #[.val (.int qa), .val (.int qb), .val (.int sel), .val (.int mn), .val (.int (sel &&& (3 : Int32))), .unset, .unset, .unset, .unset, .unset, .unset, .unset, .unset, .unset, .unset] [])) _
        refine XS.iload X.here hx rfl (hb hby at_30) rfl ?_
        show Steps p.tables e below (s₁.setTop (mkF m 32 #[.val (.int qa), .val (.int qb), .val (.int sel), .val (.int mn), .val (.int (sel &&& (3 : Int32))), .unset, .unset, .unset, .unset, .unset, .unset, .unset, .unset, .unset, .unset] [(.int (sel &&& (3 : Int32)))])) _
        refine XS.iconst X.here hx rfl (hb hby at_32) ?_
        show Steps p.tables e below (s₁.setTop (mkF m 33 #[.val (.int qa), .val (.int qb), .val (.int sel), .val (.int mn), .val (.int (sel &&& (3 : Int32))), .unset, .unset, .unset, .unset, .unset, .unset, .unset, .unset, .unset, .unset] [(.int (1 : Int32)), (.int (sel &&& (3 : Int32)))])) _
        refine XS.icmpNo X.here hx rfl (hb hby at_33) rfl (teq hj2).2 ?_
        show Steps p.tables e below (s₁.setTop (mkF m 36 #[.val (.int qa), .val (.int qb), .val (.int sel), .val (.int mn), .val (.int (sel &&& (3 : Int32))), .unset, .unset, .unset, .unset, .unset, .unset, .unset, .unset, .unset, .unset] [])) _
        refine XS.iloadN X.here hx rfl (hb hby at_36) rfl ?_
        show Steps p.tables e below (s₁.setTop (mkF m 37 #[.val (.int qa), .val (.int qb), .val (.int sel), .val (.int mn), .val (.int (sel &&& (3 : Int32))), .unset, .unset, .unset, .unset, .unset, .unset, .unset, .unset, .unset, .unset] [(.int mn)])) _
        refine XS.iloadN X.here hx rfl (hb hby at_37) rfl ?_
        show Steps p.tables e below (s₁.setTop (mkF m 38 #[.val (.int qa), .val (.int qb), .val (.int sel), .val (.int mn), .val (.int (sel &&& (3 : Int32))), .unset, .unset, .unset, .unset, .unset, .unset, .unset, .unset, .unset, .unset] [(.int qb), (.int mn)])) _
        refine XS.iconst X.here hx rfl (hb hby at_38) ?_
        show Steps p.tables e below (s₁.setTop (mkF m 39 #[.val (.int qa), .val (.int qb), .val (.int sel), .val (.int mn), .val (.int (sel &&& (3 : Int32))), .unset, .unset, .unset, .unset, .unset, .unset, .unset, .unset, .unset, .unset] [(.int (2 : Int32)), (.int qb), (.int mn)])) _
        refine XS.irem X.here hx rfl (hb hby at_39) rfl (by decide) ?_
        show Steps p.tables e below (s₁.setTop (mkF m 40 #[.val (.int qa), .val (.int qb), .val (.int sel), .val (.int mn), .val (.int (sel &&& (3 : Int32))), .unset, .unset, .unset, .unset, .unset, .unset, .unset, .unset, .unset, .unset] [(.int (qb - (qb / (2 : Int32)) * (2 : Int32))), (.int mn)])) _
        refine XS.iadd X.here hx rfl (hb hby at_40) rfl ?_
        show Steps p.tables e below (s₁.setTop (mkF m 41 #[.val (.int qa), .val (.int qb), .val (.int sel), .val (.int mn), .val (.int (sel &&& (3 : Int32))), .unset, .unset, .unset, .unset, .unset, .unset, .unset, .unset, .unset, .unset] [(.int (mn + (qb - (qb / (2 : Int32)) * (2 : Int32))))])) _
        refine XS.istore X.here hx rfl (hb hby at_41) rfl (l' := #[.val (.int qa), .val (.int qb), .val (.int sel), .val (.int mn), .val (.int (sel &&& (3 : Int32))), .val (.int (mn + (qb - (qb / (2 : Int32)) * (2 : Int32)))), .unset, .unset, .unset, .unset, .unset, .unset, .unset, .unset, .unset]) rfl ?_
        show Steps p.tables e below (s₁.setTop (mkF m 43 #[.val (.int qa), .val (.int qb), .val (.int sel), .val (.int mn), .val (.int (sel &&& (3 : Int32))), .val (.int (mn + (qb - (qb / (2 : Int32)) * (2 : Int32)))), .unset, .unset, .unset, .unset, .unset, .unset, .unset, .unset, .unset] [])) _
        refine XS.goto X.here hx rfl (pc0 := 43) (pc' := 64) rfl (hb hby at_43) (by decide) (by decide) ?_
        exact k
      · by_cases hj3 : (sel &&& (3 : Int32)) = (2 : Int32)
        · refine ⟨mn, by rw [if_neg hj1, if_neg hj2, if_pos hj3], fun t k => ?_⟩
          show Steps p.tables e below (s₁.setTop (mkF m 19 #[.val (.int qa), .val (.int qb), .val (.int sel), .val (.int mn), .val (.int (sel &&& (3 : Int32))), .unset, .unset, .unset, .unset, .unset, .unset, .unset, .unset, .unset, .unset] [])) _
          refine XS.iload X.here hx rfl (hb hby at_19) rfl ?_
          show Steps p.tables e below (s₁.setTop (mkF m 21 #[.val (.int qa), .val (.int qb), .val (.int sel), .val (.int mn), .val (.int (sel &&& (3 : Int32))), .unset, .unset, .unset, .unset, .unset, .unset, .unset, .unset, .unset, .unset] [(.int (sel &&& (3 : Int32)))])) _
          refine XS.ifYes X.here hx rfl (pc0 := 21) (pc' := 30) rfl (hb hby at_21) rfl ((if0 _ _).trans (feq hj1).2) (by decide) (by decide) ?_
          show Steps p.tables e below (s₁.setTop (mkF m 30 #[.val (.int qa), .val (.int qb), .val (.int sel), .val (.int mn), .val (.int (sel &&& (3 : Int32))), .unset, .unset, .unset, .unset, .unset, .unset, .unset, .unset, .unset, .unset] [])) _
          refine XS.iload X.here hx rfl (hb hby at_30) rfl ?_
          show Steps p.tables e below (s₁.setTop (mkF m 32 #[.val (.int qa), .val (.int qb), .val (.int sel), .val (.int mn), .val (.int (sel &&& (3 : Int32))), .unset, .unset, .unset, .unset, .unset, .unset, .unset, .unset, .unset, .unset] [(.int (sel &&& (3 : Int32)))])) _
          refine XS.iconst X.here hx rfl (hb hby at_32) ?_
          show Steps p.tables e below (s₁.setTop (mkF m 33 #[.val (.int qa), .val (.int qb), .val (.int sel), .val (.int mn), .val (.int (sel &&& (3 : Int32))), .unset, .unset, .unset, .unset, .unset, .unset, .unset, .unset, .unset, .unset] [(.int (1 : Int32)), (.int (sel &&& (3 : Int32)))])) _
          refine XS.icmpYes X.here hx rfl (pc0 := 33) (pc' := 46) rfl (hb hby at_33) rfl (feq hj2).2 (by decide) (by decide) ?_
          show Steps p.tables e below (s₁.setTop (mkF m 46 #[.val (.int qa), .val (.int qb), .val (.int sel), .val (.int mn), .val (.int (sel &&& (3 : Int32))), .unset, .unset, .unset, .unset, .unset, .unset, .unset, .unset, .unset, .unset] [])) _
          refine XS.iload X.here hx rfl (hb hby at_46) rfl ?_
          show Steps p.tables e below (s₁.setTop (mkF m 48 #[.val (.int qa), .val (.int qb), .val (.int sel), .val (.int mn), .val (.int (sel &&& (3 : Int32))), .unset, .unset, .unset, .unset, .unset, .unset, .unset, .unset, .unset, .unset] [(.int (sel &&& (3 : Int32)))])) _
          refine XS.iconst X.here hx rfl (hb hby at_48) ?_
          show Steps p.tables e below (s₁.setTop (mkF m 49 #[.val (.int qa), .val (.int qb), .val (.int sel), .val (.int mn), .val (.int (sel &&& (3 : Int32))), .unset, .unset, .unset, .unset, .unset, .unset, .unset, .unset, .unset, .unset] [(.int (2 : Int32)), (.int (sel &&& (3 : Int32)))])) _
          refine XS.icmpNo X.here hx rfl (hb hby at_49) rfl (teq hj3).2 ?_
          show Steps p.tables e below (s₁.setTop (mkF m 52 #[.val (.int qa), .val (.int qb), .val (.int sel), .val (.int mn), .val (.int (sel &&& (3 : Int32))), .unset, .unset, .unset, .unset, .unset, .unset, .unset, .unset, .unset, .unset] [])) _
          refine XS.iloadN X.here hx rfl (hb hby at_52) rfl ?_
          show Steps p.tables e below (s₁.setTop (mkF m 53 #[.val (.int qa), .val (.int qb), .val (.int sel), .val (.int mn), .val (.int (sel &&& (3 : Int32))), .unset, .unset, .unset, .unset, .unset, .unset, .unset, .unset, .unset, .unset] [(.int mn)])) _
          refine XS.istore X.here hx rfl (hb hby at_53) rfl (l' := #[.val (.int qa), .val (.int qb), .val (.int sel), .val (.int mn), .val (.int (sel &&& (3 : Int32))), .val (.int mn), .unset, .unset, .unset, .unset, .unset, .unset, .unset, .unset, .unset]) rfl ?_
          show Steps p.tables e below (s₁.setTop (mkF m 55 #[.val (.int qa), .val (.int qb), .val (.int sel), .val (.int mn), .val (.int (sel &&& (3 : Int32))), .val (.int mn), .unset, .unset, .unset, .unset, .unset, .unset, .unset, .unset, .unset] [])) _
          refine XS.goto X.here hx rfl (pc0 := 55) (pc' := 64) rfl (hb hby at_55) (by decide) (by decide) ?_
          exact k
        · refine ⟨(qb ||| (-2147483648 : Int32)), by rw [if_neg hj1, if_neg hj2, if_neg hj3], fun t k => ?_⟩
          show Steps p.tables e below (s₁.setTop (mkF m 19 #[.val (.int qa), .val (.int qb), .val (.int sel), .val (.int mn), .val (.int (sel &&& (3 : Int32))), .unset, .unset, .unset, .unset, .unset, .unset, .unset, .unset, .unset, .unset] [])) _
          refine XS.iload X.here hx rfl (hb hby at_19) rfl ?_
          show Steps p.tables e below (s₁.setTop (mkF m 21 #[.val (.int qa), .val (.int qb), .val (.int sel), .val (.int mn), .val (.int (sel &&& (3 : Int32))), .unset, .unset, .unset, .unset, .unset, .unset, .unset, .unset, .unset, .unset] [(.int (sel &&& (3 : Int32)))])) _
          refine XS.ifYes X.here hx rfl (pc0 := 21) (pc' := 30) rfl (hb hby at_21) rfl ((if0 _ _).trans (feq hj1).2) (by decide) (by decide) ?_
          show Steps p.tables e below (s₁.setTop (mkF m 30 #[.val (.int qa), .val (.int qb), .val (.int sel), .val (.int mn), .val (.int (sel &&& (3 : Int32))), .unset, .unset, .unset, .unset, .unset, .unset, .unset, .unset, .unset, .unset] [])) _
          refine XS.iload X.here hx rfl (hb hby at_30) rfl ?_
          show Steps p.tables e below (s₁.setTop (mkF m 32 #[.val (.int qa), .val (.int qb), .val (.int sel), .val (.int mn), .val (.int (sel &&& (3 : Int32))), .unset, .unset, .unset, .unset, .unset, .unset, .unset, .unset, .unset, .unset] [(.int (sel &&& (3 : Int32)))])) _
          refine XS.iconst X.here hx rfl (hb hby at_32) ?_
          show Steps p.tables e below (s₁.setTop (mkF m 33 #[.val (.int qa), .val (.int qb), .val (.int sel), .val (.int mn), .val (.int (sel &&& (3 : Int32))), .unset, .unset, .unset, .unset, .unset, .unset, .unset, .unset, .unset, .unset] [(.int (1 : Int32)), (.int (sel &&& (3 : Int32)))])) _
          refine XS.icmpYes X.here hx rfl (pc0 := 33) (pc' := 46) rfl (hb hby at_33) rfl (feq hj2).2 (by decide) (by decide) ?_
          show Steps p.tables e below (s₁.setTop (mkF m 46 #[.val (.int qa), .val (.int qb), .val (.int sel), .val (.int mn), .val (.int (sel &&& (3 : Int32))), .unset, .unset, .unset, .unset, .unset, .unset, .unset, .unset, .unset, .unset] [])) _
          refine XS.iload X.here hx rfl (hb hby at_46) rfl ?_
          show Steps p.tables e below (s₁.setTop (mkF m 48 #[.val (.int qa), .val (.int qb), .val (.int sel), .val (.int mn), .val (.int (sel &&& (3 : Int32))), .unset, .unset, .unset, .unset, .unset, .unset, .unset, .unset, .unset, .unset] [(.int (sel &&& (3 : Int32)))])) _
          refine XS.iconst X.here hx rfl (hb hby at_48) ?_
          show Steps p.tables e below (s₁.setTop (mkF m 49 #[.val (.int qa), .val (.int qb), .val (.int sel), .val (.int mn), .val (.int (sel &&& (3 : Int32))), .unset, .unset, .unset, .unset, .unset, .unset, .unset, .unset, .unset, .unset] [(.int (2 : Int32)), (.int (sel &&& (3 : Int32)))])) _
          refine XS.icmpYes X.here hx rfl (pc0 := 49) (pc' := 58) rfl (hb hby at_49) rfl (feq hj3).2 (by decide) (by decide) ?_
          show Steps p.tables e below (s₁.setTop (mkF m 58 #[.val (.int qa), .val (.int qb), .val (.int sel), .val (.int mn), .val (.int (sel &&& (3 : Int32))), .unset, .unset, .unset, .unset, .unset, .unset, .unset, .unset, .unset, .unset] [])) _
          refine XS.iloadN X.here hx rfl (hb hby at_58) rfl ?_
          show Steps p.tables e below (s₁.setTop (mkF m 59 #[.val (.int qa), .val (.int qb), .val (.int sel), .val (.int mn), .val (.int (sel &&& (3 : Int32))), .unset, .unset, .unset, .unset, .unset, .unset, .unset, .unset, .unset, .unset] [(.int qb)])) _
          refine X.ldcInt hx hown (mvT hZ (hw _ (List.mem_of_getElem? (i := 20) rfl))) (g := (mkF m 59 #[.val (.int qa), .val (.int qb), .val (.int sel), .val (.int mn), .val (.int (sel &&& (3 : Int32))), .unset, .unset, .unset, .unset, .unset, .unset, .unset, .unset, .unset, .unset] [(.int qb)])) rfl (hb hby at_59) _ ?_
          show Steps p.tables e below (s₁.setTop (mkF m 61 #[.val (.int qa), .val (.int qb), .val (.int sel), .val (.int mn), .val (.int (sel &&& (3 : Int32))), .unset, .unset, .unset, .unset, .unset, .unset, .unset, .unset, .unset, .unset] [(.int (-2147483648 : Int32)), (.int qb)])) _
          refine XS.ior X.here hx rfl (hb hby at_61) rfl ?_
          show Steps p.tables e below (s₁.setTop (mkF m 62 #[.val (.int qa), .val (.int qb), .val (.int sel), .val (.int mn), .val (.int (sel &&& (3 : Int32))), .unset, .unset, .unset, .unset, .unset, .unset, .unset, .unset, .unset, .unset] [(.int (qb ||| (-2147483648 : Int32)))])) _
          refine XS.istore X.here hx rfl (hb hby at_62) rfl (l' := #[.val (.int qa), .val (.int qb), .val (.int sel), .val (.int mn), .val (.int (sel &&& (3 : Int32))), .val (.int (qb ||| (-2147483648 : Int32))), .unset, .unset, .unset, .unset, .unset, .unset, .unset, .unset, .unset]) rfl ?_
          exact k
  have st : ∀ t, Steps p.tables e below (s₁.setTop (mkF m 64 #[.val (.int qa), .val (.int qb), .val (.int sel), .val (.int mn), .val (.int (sel &&& (3 : Int32))), .val (.int mx), .unset, .unset, .unset, .unset, .unset, .unset, .unset, .unset, .unset] [])) t → Steps p.tables e below (s₁.setTop (mkF m 0 #[.val (.int qa), .val (.int qb), .val (.int sel), .unset, .unset, .unset, .unset, .unset, .unset, .unset, .unset, .unset, .unset, .unset, .unset] [])) t := fun t k => st t (sx t k)
  obtain ⟨T1, h2, X, eh, E3, E_sq, D3, -, sx⟩ := newO X hx hZ hown (hw _ (List.mem_of_getElem? (i := 0) rfl)) (hw _ (List.mem_of_getElem? (i := 1) rfl)) (hw _ (List.mem_of_getElem? (i := 2) rfl)) eh (g := (mkF m 64 #[.val (.int qa), .val (.int qb), .val (.int sel), .val (.int mn), .val (.int (sel &&& (3 : Int32))), .val (.int mx), .unset, .unset, .unset, .unset, .unset, .unset, .unset, .unset, .unset] [])) rfl (hb hby at_64) (by decide) (by decide)
  obtain ⟨sq, g3⟩ : ∃ z, z = h0.size := ⟨_, rfl⟩
  have g_sq : n0 ≤ sq := Nat.le_trans Z0 (Nat.le_of_eq g3.symm)
  have sz_sq : h0.size ≤ sq := Nat.le_trans K.1 (Nat.le_of_eq g3.symm)
  rw [← g3] at E_sq D3 sx
  have st : ∀ t, Steps p.tables e below (T1.setTop (mkF m 67 #[.val (.int qa), .val (.int qb), .val (.int sel), .val (.int mn), .val (.int (sel &&& (3 : Int32))), .val (.int mx), .unset, .unset, .unset, .unset, .unset, .unset, .unset, .unset, .unset] [(.ref sq)])) t → Steps p.tables e below (s₁.setTop (mkF m 0 #[.val (.int qa), .val (.int qb), .val (.int sel), .unset, .unset, .unset, .unset, .unset, .unset, .unset, .unset, .unset, .unset, .unset, .unset] [])) t := fun t k => st t (sx t k)
  have K := K.ext E3
  have Z0 := Nat.le_trans Z0 E3.1
  have F_sq_minSdkVersion : Fld Z h2 sq "com/example/attest/attest/scheme/SdkVersionRange" "minSdkVersion" "I" (.int (0 : Int32)) := D3 (Or.inr (hw _ (List.mem_of_getElem? (i := 10) rfl))) (ty := .int) (by decide)
  have F_sq_maxSdkVersion : Fld Z h2 sq "com/example/attest/attest/scheme/SdkVersionRange" "maxSdkVersion" "I" (.int (0 : Int32)) := D3 (Or.inr (hw _ (List.mem_of_getElem? (i := 12) rfl))) (ty := .int) (by decide)
  have st : ∀ t, Steps p.tables e below (T1.setTop (mkF m 71 #[.val (.int qa), .val (.int qb), .val (.int sel), .val (.int mn), .val (.int (sel &&& (3 : Int32))), .val (.int mx), .unset, .unset, .unset, .unset, .unset, .unset, .unset, .unset, .unset] [(.int mx), (.int mn), (.ref sq), (.ref sq)])) t → Steps p.tables e below (s₁.setTop (mkF m 0 #[.val (.int qa), .val (.int qb), .val (.int sel), .unset, .unset, .unset, .unset, .unset, .unset, .unset, .unset, .unset, .unset, .unset, .unset] [])) t := fun t k => st t (by
      show Steps p.tables e below (T1.setTop (mkF m 67 #[.val (.int qa), .val (.int qb), .val (.int sel), .val (.int mn), .val (.int (sel &&& (3 : Int32))), .val (.int mx), .unset, .unset, .unset, .unset, .unset, .unset, .unset, .unset, .unset] [(.ref sq)])) _
      refine XS.dup X.here hx rfl (hb hby at_67) rfl rfl ?_
      show Steps p.tables e below (T1.setTop (mkF m 68 #[.val (.int qa), .val (.int qb), .val (.int sel), .val (.int mn), .val (.int (sel &&& (3 : Int32))), .val (.int mx), .unset, .unset, .unset, .unset, .unset, .unset, .unset, .unset, .unset] [(.ref sq), (.ref sq)])) _
      refine XS.iloadN X.here hx rfl (hb hby at_68) rfl ?_
      show Steps p.tables e below (T1.setTop (mkF m 69 #[.val (.int qa), .val (.int qb), .val (.int sel), .val (.int mn), .val (.int (sel &&& (3 : Int32))), .val (.int mx), .unset, .unset, .unset, .unset, .unset, .unset, .unset, .unset, .unset] [(.int mn), (.ref sq), (.ref sq)])) _
      refine XS.iload X.here hx rfl (hb hby at_69) rfl ?_
      exact k)
  obtain ⟨_, _, ⟨T5, L4, k4, n4⟩, -, X, ⟨Lc4, hQ, l4, y4, z4⟩, sx⟩ := X.specialBack hx (y := (⟨"com/example/attest/attest/scheme/SdkVersionRange", "<init>", "(II)V"⟩ : MethodName)) rfl hown (mvT hZ (hw _ (List.mem_of_getElem? (i := 3) rfl))) (mvT hZ (hw _ (List.mem_of_getElem? (i := 4) rfl))) (mvT hZ (hw _ (List.mem_of_getElem? (i := 5) rfl))) (by decide) (backOf (W := 1) (rm1 l Z a0 hw [] sq mn mx  h2 n0 Z0 E_sq g_sq F_sq_minSdkVersion F_sq_maxSdkVersion) hZ (hw _ (List.mem_of_getElem? (i := 5) rfl)) (hw _ (List.mem_of_getElem? (i := 2) rfl)) (by decide) (by decide)) (g := (mkF m 71 #[.val (.int qa), .val (.int qb), .val (.int sel), .val (.int mn), .val (.int (sel &&& (3 : Int32))), .val (.int mx), .unset, .unset, .unset, .unset, .unset, .unset, .unset, .unset, .unset] [(.int mx), (.int mn), (.ref sq), (.ref sq)])) rfl (by rw [hml]; rfl) (Steps.refl _) (a := sq) (argsL := [(.int mn), (.int mx)]) (rest := [(.ref sq)]) (lenOf own_pd0 rfl) rfl (by show 2 * 0 + _ ≤ _; exact Nat.le_of_eq rfl) (hb hby at_71) (fun _ _ => ⟨rfl, eh, (by decide : 1 + 0 ≤ _), (by decide : 2 + 0 ≤ _)⟩)
  dsimp only [Pt.U, Pt.locs, Pt.cells, Pt.slots] at X l4 y4 z4 sx hQ
  subst l4 y4 z4
  obtain ⟨rfl, Nc, K1, F_sq_minSdkVersion, F_sq_maxSdkVersion⟩ := hQ
  have st : ∀ t, Steps p.tables e below (T5.setTop (mkF m 74 #[.val (.int qa), .val (.int qb), .val (.int sel), .val (.int mn), .val (.int (sel &&& (3 : Int32))), .val (.int mx), .unset, .unset, .unset, .unset, .unset, .unset, .unset, .unset, .unset] [(.ref sq)])) t → Steps p.tables e below (s₁.setTop (mkF m 0 #[.val (.int qa), .val (.int qb), .val (.int sel), .unset, .unset, .unset, .unset, .unset, .unset, .unset, .unset, .unset, .unset, .unset, .unset] [])) t := fun t k => st t (sx.trans k)
  have N := Fr.app N Nc
  obtain ⟨h6, eH⟩ : ∃ z, z = T5.heap := ⟨_, rfl⟩
  rw [← eH] at K1 F_sq_minSdkVersion F_sq_maxSdkVersion
  have eh : T5.heap = h6 := eH.symm
  have E_sq := E_sq.keep K1
  have K := K.trans K1 (allS (Or.inr sz_sq) all0)
  have Z0 := Nat.le_trans Z0 K1.1
  have st : ∀ t, Steps p.tables e below (T5.setTop (mkF m 78 #[.val (.int qa), .val (.int qb), .val (.int sel), .val (.int mn), .val (.int (sel &&& (3 : Int32))), .val (.int mx), .val (.ref sq), .unset, .unset, .unset, .unset, .unset, .unset, .unset, .unset] [(.ref sq)])) t → Steps p.tables e below (s₁.setTop (mkF m 0 #[.val (.int qa), .val (.int qb), .val (.int sel), .unset, .unset, .unset, .unset, .unset, .unset, .unset, .unset, .unset, .unset, .unset, .unset] [])) t := fun t k => st t (by
      show Steps p.tables e below (T5.setTop (mkF m 74 #[.val (.int qa), .val (.int qb), .val (.int sel), .val (.int mn), .val (.int (sel &&& (3 : Int32))), .val (.int mx), .unset, .unset, .unset, .unset, .unset, .unset, .unset, .unset, .unset] [(.ref sq)])) _
      refine XS.astore X.here hx rfl (hb hby at_74) rfl rfl (l' := #[.val (.int qa), .val (.int qb), .val (.int sel), .val (.int mn), .val (.int (sel &&& (3 : Int32))), .val (.int mx), .val (.ref sq), .unset, .unset, .unset, .unset, .unset, .unset, .unset, .unset]) rfl ?_
      show Steps p.tables e below (T5.setTop (mkF m 76 #[.val (.int qa), .val (.int qb), .val (.int sel), .val (.int mn), .val (.int (sel &&& (3 : Int32))), .val (.int mx), .val (.ref sq), .unset, .unset, .unset, .unset, .unset, .unset, .unset, .unset] [])) _
      refine XS.aload X.here hx rfl (hb hby at_76) rfl rfl ?_
      exact k)
  obtain ⟨cq7, kq7, qa7, qb7, qc7⟩ := isOf hZ eh E_sq
  obtain ⟨_, _, ⟨T8, L7, k7, n7⟩, -, X, ⟨Lc7, hQ, l7, y7, z7⟩, sx⟩ := X.virtualBack hx (y := (⟨"com/example/attest/attest/scheme/SdkVersionRange", "isRangeOfApiLevels", "()Z"⟩ : MethodName)) (z := (⟨"com/example/attest/attest/scheme/SdkVersionRange", "isRangeOfApiLevels", "()Z"⟩ : MethodName)) hown (mvT hZ (hw _ (List.mem_of_getElem? (i := 13) rfl))) (mvT hZ (hw _ (List.mem_of_getElem? (i := 14) rfl))) (notFace_of_selects (args := #[]) (mvT hZ (hw _ (List.mem_of_getElem? (i := 16) rfl)))) (mvT hZ (hw _ (List.mem_of_getElem? (i := 16) rfl))) (mvT hZ (hw _ (List.mem_of_getElem? (i := 15) rfl))) (by decide) (backOf (W := 0) (rm3 l Z a0 hw [] sq mn mx h6 n0 Z0 F_sq_minSdkVersion F_sq_maxSdkVersion) hZ (hw _ (List.mem_of_getElem? (i := 17) rfl)) (hw _ (List.mem_of_getElem? (i := 2) rfl)) (by decide) (by decide)) qa7 qc7 (g := (mkF m 78 #[.val (.int qa), .val (.int qb), .val (.int sel), .val (.int mn), .val (.int (sel &&& (3 : Int32))), .val (.int mx), .val (.ref sq), .unset, .unset, .unset, .unset, .unset, .unset, .unset, .unset] [(.ref sq)])) rfl (by rw [hml]; rfl) (Steps.refl _) (argsL := []) (rest := []) (lenOf own_pd1 rfl) rfl (by show 2 * 0 + _ ≤ _; exact Nat.le_of_eq rfl) (hb hby at_78) (fun _ _ => ⟨rfl, eh, (by decide : 1 + 0 ≤ _), (by decide : 2 + 0 ≤ _)⟩)
  dsimp only [Pt.U, Pt.locs, Pt.cells, Pt.slots] at X l7 y7 z7 sx hQ
  subst l7 y7 z7
  obtain ⟨rfl, Nc, hsame_⟩ := hQ
  have st : ∀ t, Steps p.tables e below (T8.setTop (mkF m 81 #[.val (.int qa), .val (.int qb), .val (.int sel), .val (.int mn), .val (.int (sel &&& (3 : Int32))), .val (.int mx), .val (.ref sq), .unset, .unset, .unset, .unset, .unset, .unset, .unset, .unset] [(.int (own_rng mn mx))])) t → Steps p.tables e below (s₁.setTop (mkF m 0 #[.val (.int qa), .val (.int qb), .val (.int sel), .unset, .unset, .unset, .unset, .unset, .unset, .unset, .unset, .unset, .unset, .unset, .unset] [])) t := fun t k => st t (sx.trans k)
  have N := Fr.app N Nc
  have eh : T8.heap = h6 := hsame_
  have st : ∀ t, Steps p.tables e below (T8.setTop (mkF m 105 #[.val (.int qa), .val (.int qb), .val (.int sel), .val (.int mn), .val (.int (sel &&& (3 : Int32))), .val (.int mx), .val (.ref sq), .val (.int (own_rng mn mx)), .val (.long ((mn.toInt64) &&& (4294967295 : Int64))), .second, .val (.long ((mx.toInt64) &&& (4294967295 : Int64))), .second, .val (.long (2147483647 : Int64)), .second, .unset] [])) t → Steps p.tables e below (s₁.setTop (mkF m 0 #[.val (.int qa), .val (.int qb), .val (.int sel), .unset, .unset, .unset, .unset, .unset, .unset, .unset, .unset, .unset, .unset, .unset, .unset] [])) t := fun t k => st t (by
      show Steps p.tables e below (T8.setTop (mkF m 81 #[.val (.int qa), .val (.int qb), .val (.int sel), .val (.int mn), .val (.int (sel &&& (3 : Int32))), .val (.int mx), .val (.ref sq), .unset, .unset, .unset, .unset, .unset, .unset, .unset, .unset] [(.int (own_rng mn mx))])) _
      refine XS.istore X.here hx rfl (hb hby at_81) rfl (l' := #[.val (.int qa), .val (.int qb), .val (.int sel), .val (.int mn), .val (.int (sel &&& (3 : Int32))), .val (.int mx), .val (.ref sq), .val (.int (own_rng mn mx)), .unset, .unset, .unset, .unset, .unset, .unset, .unset]) rfl ?_
      show Steps p.tables e below (T8.setTop (mkF m 83 #[.val (.int qa), .val (.int qb), .val (.int sel), .val (.int mn), .val (.int (sel &&& (3 : Int32))), .val (.int mx), .val (.ref sq), .val (.int (own_rng mn mx)), .unset, .unset, .unset, .unset, .unset, .unset, .unset] [])) _
      refine XS.iloadN X.here hx rfl (hb hby at_83) rfl ?_
      show Steps p.tables e below (T8.setTop (mkF m 84 #[.val (.int qa), .val (.int qb), .val (.int sel), .val (.int mn), .val (.int (sel &&& (3 : Int32))), .val (.int mx), .val (.ref sq), .val (.int (own_rng mn mx)), .unset, .unset, .unset, .unset, .unset, .unset, .unset] [(.int mn)])) _
      refine XS.i2l X.here hx rfl (hb hby at_84) rfl ?_
      show Steps p.tables e below (T8.setTop (mkF m 85 #[.val (.int qa), .val (.int qb), .val (.int sel), .val (.int mn), .val (.int (sel &&& (3 : Int32))), .val (.int mx), .val (.ref sq), .val (.int (own_rng mn mx)), .unset, .unset, .unset, .unset, .unset, .unset, .unset] [(.long (mn.toInt64))])) _
      refine X.ldc2Long hx hown (mvT hZ (hw _ (List.mem_of_getElem? (i := 18) rfl))) (g := (mkF m 85 #[.val (.int qa), .val (.int qb), .val (.int sel), .val (.int mn), .val (.int (sel &&& (3 : Int32))), .val (.int mx), .val (.ref sq), .val (.int (own_rng mn mx)), .unset, .unset, .unset, .unset, .unset, .unset, .unset] [(.long (mn.toInt64))])) rfl (hb hby at_85) _ ?_
      show Steps p.tables e below (T8.setTop (mkF m 88 #[.val (.int qa), .val (.int qb), .val (.int sel), .val (.int mn), .val (.int (sel &&& (3 : Int32))), .val (.int mx), .val (.ref sq), .val (.int (own_rng mn mx)), .unset, .unset, .unset, .unset, .unset, .unset, .unset] [(.long (4294967295 : Int64)), (.long (mn.toInt64))])) _
      refine XS.land X.here hx rfl (hb hby at_88) rfl ?_
      show Steps p.tables e below (T8.setTop (mkF m 89 #[.val (.int qa), .val (.int qb), .val (.int sel), .val (.int mn), .val (.int (sel &&& (3 : Int32))), .val (.int mx), .val (.ref sq), .val (.int (own_rng mn mx)), .unset, .unset, .unset, .unset, .unset, .unset, .unset] [(.long ((mn.toInt64) &&& (4294967295 : Int64)))])) _
      refine XS.lstore X.here hx rfl (hb hby at_89) rfl (l' := #[.val (.int qa), .val (.int qb), .val (.int sel), .val (.int mn), .val (.int (sel &&& (3 : Int32))), .val (.int mx), .val (.ref sq), .val (.int (own_rng mn mx)), .val (.long ((mn.toInt64) &&& (4294967295 : Int64))), .second, .unset, .unset, .unset, .unset, .unset]) rfl ?_
      show Steps p.tables e below (T8.setTop (mkF m 91 #[.val (.int qa), .val (.int qb), .val (.int sel), .val (.int mn), .val (.int (sel &&& (3 : Int32))), .val (.int mx), .val (.ref sq), .val (.int (own_rng mn mx)), .val (.long ((mn.toInt64) &&& (4294967295 : Int64))), .second, .unset, .unset, .unset, .unset, .unset] [])) _
      refine XS.iload X.here hx rfl (hb hby at_91) rfl ?_
      show Steps p.tables e below (T8.setTop (mkF m 93 #[.val (.int qa), .val (.int qb), .val (.int sel), .val (.int mn), .val (.int (sel &&& (3 : Int32))), .val (.int mx), .val (.ref sq), .val (.int (own_rng mn mx)), .val (.long ((mn.toInt64) &&& (4294967295 : Int64))), .second, .unset, .unset, .unset, .unset, .unset] [(.int mx)])) _
      refine XS.i2l X.here hx rfl (hb hby at_93) rfl ?_
      show Steps p.tables e below (T8.setTop (mkF m 94 #[.val (.int qa), .val (.int qb), .val (.int sel), .val (.int mn), .val (.int (sel &&& (3 : Int32))), .val (.int mx), .val (.ref sq), .val (.int (own_rng mn mx)), .val (.long ((mn.toInt64) &&& (4294967295 : Int64))), .second, .unset, .unset, .unset, .unset, .unset] [(.long (mx.toInt64))])) _
      refine X.ldc2Long hx hown (mvT hZ (hw _ (List.mem_of_getElem? (i := 18) rfl))) (g := (mkF m 94 #[.val (.int qa), .val (.int qb), .val (.int sel), .val (.int mn), .val (.int (sel &&& (3 : Int32))), .val (.int mx), .val (.ref sq), .val (.int (own_rng mn mx)), .val (.long ((mn.toInt64) &&& (4294967295 : Int64))), .second, .unset, .unset, .unset, .unset, .unset] [(.long (mx.toInt64))])) rfl (hb hby at_94) _ ?_
      show Steps p.tables e below (T8.setTop (mkF m 97 #[.val (.int qa), .val (.int qb), .val (.int sel), .val (.int mn), .val (.int (sel &&& (3 : Int32))), .val (.int mx), .val (.ref sq), .val (.int (own_rng mn mx)), .val (.long ((mn.toInt64) &&& (4294967295 : Int64))), .second, .unset, .unset, .unset, .unset, .unset] [(.long (4294967295 : Int64)), (.long (mx.toInt64))])) _
      refine XS.land X.here hx rfl (hb hby at_97) rfl ?_
      show Steps p.tables e below (T8.setTop (mkF m 98 #[.val (.int qa), .val (.int qb), .val (.int sel), .val (.int mn), .val (.int (sel &&& (3 : Int32))), .val (.int mx), .val (.ref sq), .val (.int (own_rng mn mx)), .val (.long ((mn.toInt64) &&& (4294967295 : Int64))), .second, .unset, .unset, .unset, .unset, .unset] [(.long ((mx.toInt64) &&& (4294967295 : Int64)))])) _
      refine XS.lstore X.here hx rfl (hb hby at_98) rfl (l' := #[.val (.int qa), .val (.int qb), .val (.int sel), .val (.int mn), .val (.int (sel &&& (3 : Int32))), .val (.int mx), .val (.ref sq), .val (.int (own_rng mn mx)), .val (.long ((mn.toInt64) &&& (4294967295 : Int64))), .second, .val (.long ((mx.toInt64) &&& (4294967295 : Int64))), .second, .unset, .unset, .unset]) rfl ?_
      show Steps p.tables e below (T8.setTop (mkF m 100 #[.val (.int qa), .val (.int qb), .val (.int sel), .val (.int mn), .val (.int (sel &&& (3 : Int32))), .val (.int mx), .val (.ref sq), .val (.int (own_rng mn mx)), .val (.long ((mn.toInt64) &&& (4294967295 : Int64))), .second, .val (.long ((mx.toInt64) &&& (4294967295 : Int64))), .second, .unset, .unset, .unset] [])) _
      refine X.ldc2Long hx hown (mvT hZ (hw _ (List.mem_of_getElem? (i := 19) rfl))) (g := (mkF m 100 #[.val (.int qa), .val (.int qb), .val (.int sel), .val (.int mn), .val (.int (sel &&& (3 : Int32))), .val (.int mx), .val (.ref sq), .val (.int (own_rng mn mx)), .val (.long ((mn.toInt64) &&& (4294967295 : Int64))), .second, .val (.long ((mx.toInt64) &&& (4294967295 : Int64))), .second, .unset, .unset, .unset] [])) rfl (hb hby at_100) _ ?_
      show Steps p.tables e below (T8.setTop (mkF m 103 #[.val (.int qa), .val (.int qb), .val (.int sel), .val (.int mn), .val (.int (sel &&& (3 : Int32))), .val (.int mx), .val (.ref sq), .val (.int (own_rng mn mx)), .val (.long ((mn.toInt64) &&& (4294967295 : Int64))), .second, .val (.long ((mx.toInt64) &&& (4294967295 : Int64))), .second, .unset, .unset, .unset] [(.long (2147483647 : Int64))])) _
      refine XS.lstore X.here hx rfl (hb hby at_103) rfl (l' := #[.val (.int qa), .val (.int qb), .val (.int sel), .val (.int mn), .val (.int (sel &&& (3 : Int32))), .val (.int mx), .val (.ref sq), .val (.int (own_rng mn mx)), .val (.long ((mn.toInt64) &&& (4294967295 : Int64))), .second, .val (.long ((mx.toInt64) &&& (4294967295 : Int64))), .second, .val (.long (2147483647 : Int64)), .second, .unset]) rfl ?_
      exact k)
  obtain ⟨um, hum⟩ : ∃ z : Int64, z = (mn.toInt64 &&& (4294967295 : Int64)) := ⟨_, rfl⟩
  obtain ⟨ux, hux⟩ : ∃ z : Int64, z = (mx.toInt64 &&& (4294967295 : Int64)) := ⟨_, rfl⟩
  obtain ⟨top, htop⟩ : ∃ z : Int64, z = (2147483647 : Int64) := ⟨_, rfl⟩
  have st : ∀ t, Steps p.tables e below (T8.setTop (mkF m 105 #[.val (.int qa), .val (.int qb), .val (.int sel), .val (.int mn), .val (.int (sel &&& (3 : Int32))), .val (.int mx), .val (.ref sq), .val (.int (own_rng mn mx)), .val (.long um), .second, .val (.long ux), .second, .val (.long top), .second, .unset] [])) t → Steps p.tables e below (s₁.setTop (mkF m 0 #[.val (.int qa), .val (.int qb), .val (.int sel), .unset, .unset, .unset, .unset, .unset, .unset, .unset, .unset, .unset, .unset, .unset, .unset] [])) t := by rw [hum, hux, htop]; exact st
  obtain ⟨v14, hv_v14, sx⟩ : ∃ (v14 : Int32), v14 = (if um < (1 : Int64) then (0 : Int32) else (if top < um then (0 : Int32) else (if top < ux then (0 : Int32) else (if ux < um then (0 : Int32) else (1 : Int32))))) ∧ ∀ t, Steps p.tables e below (T8.setTop (mkF m 141 #[.val (.int qa), .val (.int qb), .val (.int sel), .val (.int mn), .val (.int (sel &&& (3 : Int32))), .val (.int mx), .val (.ref sq), .val (.int (own_rng mn mx)), .val (.long um), .second, .val (.long ux), .second, .val (.long top), .second, .unset] [(.int v14)])) t → Steps p.tables e below (T8.setTop (mkF m 105 #[.val (.int qa), .val (.int qb), .val (.int sel), .val (.int mn), .val (.int (sel &&& (3 : Int32))), .val (.int mx), .val (.ref sq), .val (.int (own_rng mn mx)), .val (.long um), .second, .val (.long ux), .second, .val (.long top), .second, .unset] [])) t := by
    by_cases hj1 : um < (1 : Int64)
    · refine ⟨(0 : Int32), by rw [if_pos hj1], fun t k => ?_⟩
      show Steps p.tables e below (T8.setTop (mkF m 105 #[.val (.int qa), .val (.int qb), .val (.int sel), .val (.int mn), .val (.int (sel &&& (3 : Int32))), .val (.int mx), .val (.ref sq), .val (.int (own_rng mn mx)), .val (.long um), .second, .val (.long ux), .second, .val (.long top), .second, .unset] [])) _
      refine XS.lload X.here hx rfl (hb hby at_105) rfl ?_
      show Steps p.tables e below (T8.setTop (mkF m 107 #[.val (.int qa), .val (.int qb), .val (.int sel), .val (.int mn), .val (.int (sel &&& (3 : Int32))), .val (.int mx), .val (.ref sq), .val (.int (own_rng mn mx)), .val (.long um), .second, .val (.long ux), .second, .val (.long top), .second, .unset] [(.long um)])) _
      refine XS.lconst X.here hx rfl (hb hby at_107) ?_
      show Steps p.tables e below (T8.setTop (mkF m 108 #[.val (.int qa), .val (.int qb), .val (.int sel), .val (.int mn), .val (.int (sel &&& (3 : Int32))), .val (.int mx), .val (.ref sq), .val (.int (own_rng mn mx)), .val (.long um), .second, .val (.long ux), .second, .val (.long top), .second, .unset] [(.long (1 : Int64)), (.long um)])) _
      refine XS.lcmp X.here hx rfl (hb hby at_108) rfl ?_
      show Steps p.tables e below (T8.setTop (mkF m 109 #[.val (.int qa), .val (.int qb), .val (.int sel), .val (.int mn), .val (.int (sel &&& (3 : Int32))), .val (.int mx), .val (.ref sq), .val (.int (own_rng mn mx)), .val (.long um), .second, .val (.long ux), .second, .val (.long top), .second, .unset] [(.int (lcmpW um (1 : Int64)))])) _
      refine XS.ifYes X.here hx rfl (pc0 := 109) (pc' := 140) rfl (hb hby at_109) rfl ((if0 _ _).trans (tlt ((lw_lt um (1 : Int64)).mpr hj1)).1) (by decide) (by decide) ?_
      show Steps p.tables e below (T8.setTop (mkF m 140 #[.val (.int qa), .val (.int qb), .val (.int sel), .val (.int mn), .val (.int (sel &&& (3 : Int32))), .val (.int mx), .val (.ref sq), .val (.int (own_rng mn mx)), .val (.long um), .second, .val (.long ux), .second, .val (.long top), .second, .unset] [])) _
      refine XS.iconst X.here hx rfl (hb hby at_140) ?_
      exact k
    · by_cases hj2 : top < um
      · refine ⟨(0 : Int32), by rw [if_neg hj1, if_pos hj2], fun t k => ?_⟩
        show Steps p.tables e below (T8.setTop (mkF m 105 #[.val (.int qa), .val (.int qb), .val (.int sel), .val (.int mn), .val (.int (sel &&& (3 : Int32))), .val (.int mx), .val (.ref sq), .val (.int (own_rng mn mx)), .val (.long um), .second, .val (.long ux), .second, .val (.long top), .second, .unset] [])) _
        refine XS.lload X.here hx rfl (hb hby at_105) rfl ?_
        show Steps p.tables e below (T8.setTop (mkF m 107 #[.val (.int qa), .val (.int qb), .val (.int sel), .val (.int mn), .val (.int (sel &&& (3 : Int32))), .val (.int mx), .val (.ref sq), .val (.int (own_rng mn mx)), .val (.long um), .second, .val (.long ux), .second, .val (.long top), .second, .unset] [(.long um)])) _
        refine XS.lconst X.here hx rfl (hb hby at_107) ?_
        show Steps p.tables e below (T8.setTop (mkF m 108 #[.val (.int qa), .val (.int qb), .val (.int sel), .val (.int mn), .val (.int (sel &&& (3 : Int32))), .val (.int mx), .val (.ref sq), .val (.int (own_rng mn mx)), .val (.long um), .second, .val (.long ux), .second, .val (.long top), .second, .unset] [(.long (1 : Int64)), (.long um)])) _
        refine XS.lcmp X.here hx rfl (hb hby at_108) rfl ?_
        show Steps p.tables e below (T8.setTop (mkF m 109 #[.val (.int qa), .val (.int qb), .val (.int sel), .val (.int mn), .val (.int (sel &&& (3 : Int32))), .val (.int mx), .val (.ref sq), .val (.int (own_rng mn mx)), .val (.long um), .second, .val (.long ux), .second, .val (.long top), .second, .unset] [(.int (lcmpW um (1 : Int64)))])) _
        refine XS.ifNo X.here hx rfl (hb hby at_109) rfl ((if0 _ _).trans (flt (fun q => hj1 ((lw_lt um (1 : Int64)).mp q))).1) ?_
        show Steps p.tables e below (T8.setTop (mkF m 112 #[.val (.int qa), .val (.int qb), .val (.int sel), .val (.int mn), .val (.int (sel &&& (3 : Int32))), .val (.int mx), .val (.ref sq), .val (.int (own_rng mn mx)), .val (.long um), .second, .val (.long ux), .second, .val (.long top), .second, .unset] [])) _
        refine XS.lload X.here hx rfl (hb hby at_112) rfl ?_
        show Steps p.tables e below (T8.setTop (mkF m 114 #[.val (.int qa), .val (.int qb), .val (.int sel), .val (.int mn), .val (.int (sel &&& (3 : Int32))), .val (.int mx), .val (.ref sq), .val (.int (own_rng mn mx)), .val (.long um), .second, .val (.long ux), .second, .val (.long top), .second, .unset] [(.long um)])) _
        refine XS.lload X.here hx rfl (hb hby at_114) rfl ?_
        show Steps p.tables e below (T8.setTop (mkF m 116 #[.val (.int qa), .val (.int qb), .val (.int sel), .val (.int mn), .val (.int (sel &&& (3 : Int32))), .val (.int mx), .val (.ref sq), .val (.int (own_rng mn mx)), .val (.long um), .second, .val (.long ux), .second, .val (.long top), .second, .unset] [(.long top), (.long um)])) _
        refine XS.lcmp X.here hx rfl (hb hby at_116) rfl ?_
        show Steps p.tables e below (T8.setTop (mkF m 117 #[.val (.int qa), .val (.int qb), .val (.int sel), .val (.int mn), .val (.int (sel &&& (3 : Int32))), .val (.int mx), .val (.ref sq), .val (.int (own_rng mn mx)), .val (.long um), .second, .val (.long ux), .second, .val (.long top), .second, .unset] [(.int (lcmpW um top))])) _
        refine XS.ifYes X.here hx rfl (pc0 := 117) (pc' := 140) rfl (hb hby at_117) rfl ((if0 _ _).trans (tlt ((lw_gt um top).mpr hj2)).2.2.1) (by decide) (by decide) ?_
        show Steps p.tables e below (T8.setTop (mkF m 140 #[.val (.int qa), .val (.int qb), .val (.int sel), .val (.int mn), .val (.int (sel &&& (3 : Int32))), .val (.int mx), .val (.ref sq), .val (.int (own_rng mn mx)), .val (.long um), .second, .val (.long ux), .second, .val (.long top), .second, .unset] [])) _
        refine XS.iconst X.here hx rfl (hb hby at_140) ?_
        exact k
      · by_cases hj3 : top < ux
        · refine ⟨(0 : Int32), by rw [if_neg hj1, if_neg hj2, if_pos hj3], fun t k => ?_⟩
          show Steps p.tables e below (T8.setTop (mkF m 105 #[.val (.int qa), .val (.int qb), .val (.int sel), .val (.int mn), .val (.int (sel &&& (3 : Int32))), .val (.int mx), .val (.ref sq), .val (.int (own_rng mn mx)), .val (.long um), .second, .val (.long ux), .second, .val (.long top), .second, .unset] [])) _
          refine XS.lload X.here hx rfl (hb hby at_105) rfl ?_
          show Steps p.tables e below (T8.setTop (mkF m 107 #[.val (.int qa), .val (.int qb), .val (.int sel), .val (.int mn), .val (.int (sel &&& (3 : Int32))), .val (.int mx), .val (.ref sq), .val (.int (own_rng mn mx)), .val (.long um), .second, .val (.long ux), .second, .val (.long top), .second, .unset] [(.long um)])) _
          refine XS.lconst X.here hx rfl (hb hby at_107) ?_
          show Steps p.tables e below (T8.setTop (mkF m 108 #[.val (.int qa), .val (.int qb), .val (.int sel), .val (.int mn), .val (.int (sel &&& (3 : Int32))), .val (.int mx), .val (.ref sq), .val (.int (own_rng mn mx)), .val (.long um), .second, .val (.long ux), .second, .val (.long top), .second, .unset] [(.long (1 : Int64)), (.long um)])) _
          refine XS.lcmp X.here hx rfl (hb hby at_108) rfl ?_
          show Steps p.tables e below (T8.setTop (mkF m 109 #[.val (.int qa), .val (.int qb), .val (.int sel), .val (.int mn), .val (.int (sel &&& (3 : Int32))), .val (.int mx), .val (.ref sq), .val (.int (own_rng mn mx)), .val (.long um), .second, .val (.long ux), .second, .val (.long top), .second, .unset] [(.int (lcmpW um (1 : Int64)))])) _
          refine XS.ifNo X.here hx rfl (hb hby at_109) rfl ((if0 _ _).trans (flt (fun q => hj1 ((lw_lt um (1 : Int64)).mp q))).1) ?_
          show Steps p.tables e below (T8.setTop (mkF m 112 #[.val (.int qa), .val (.int qb), .val (.int sel), .val (.int mn), .val (.int (sel &&& (3 : Int32))), .val (.int mx), .val (.ref sq), .val (.int (own_rng mn mx)), .val (.long um), .second, .val (.long ux), .second, .val (.long top), .second, .unset] [])) _
          refine XS.lload X.here hx rfl (hb hby at_112) rfl ?_
          show Steps p.tables e below (T8.setTop (mkF m 114 #[.val (.int qa), .val (.int qb), .val (.int sel), .val (.int mn), .val (.int (sel &&& (3 : Int32))), .val (.int mx), .val (.ref sq), .val (.int (own_rng mn mx)), .val (.long um), .second, .val (.long ux), .second, .val (.long top), .second, .unset] [(.long um)])) _
          refine XS.lload X.here hx rfl (hb hby at_114) rfl ?_
          show Steps p.tables e below (T8.setTop (mkF m 116 #[.val (.int qa), .val (.int qb), .val (.int sel), .val (.int mn), .val (.int (sel &&& (3 : Int32))), .val (.int mx), .val (.ref sq), .val (.int (own_rng mn mx)), .val (.long um), .second, .val (.long ux), .second, .val (.long top), .second, .unset] [(.long top), (.long um)])) _
          refine XS.lcmp X.here hx rfl (hb hby at_116) rfl ?_
          show Steps p.tables e below (T8.setTop (mkF m 117 #[.val (.int qa), .val (.int qb), .val (.int sel), .val (.int mn), .val (.int (sel &&& (3 : Int32))), .val (.int mx), .val (.ref sq), .val (.int (own_rng mn mx)), .val (.long um), .second, .val (.long ux), .second, .val (.long top), .second, .unset] [(.int (lcmpW um top))])) _
          refine XS.ifNo X.here hx rfl (hb hby at_117) rfl ((if0 _ _).trans (flt (fun q => hj2 ((lw_gt um top).mp q))).2.2.1) ?_
          show Steps p.tables e below (T8.setTop (mkF m 120 #[.val (.int qa), .val (.int qb), .val (.int sel), .val (.int mn), .val (.int (sel &&& (3 : Int32))), .val (.int mx), .val (.ref sq), .val (.int (own_rng mn mx)), .val (.long um), .second, .val (.long ux), .second, .val (.long top), .second, .unset] [])) _
          refine XS.lload X.here hx rfl (hb hby at_120) rfl ?_
          show Steps p.tables e below (T8.setTop (mkF m 122 #[.val (.int qa), .val (.int qb), .val (.int sel), .val (.int mn), .val (.int (sel &&& (3 : Int32))), .val (.int mx), .val (.ref sq), .val (.int (own_rng mn mx)), .val (.long um), .second, .val (.long ux), .second, .val (.long top), .second, .unset] [(.long ux)])) _
          refine XS.lload X.here hx rfl (hb hby at_122) rfl ?_
          show Steps p.tables e below (T8.setTop (mkF m 124 #[.val (.int qa), .val (.int qb), .val (.int sel), .val (.int mn), .val (.int (sel &&& (3 : Int32))), .val (.int mx), .val (.ref sq), .val (.int (own_rng mn mx)), .val (.long um), .second, .val (.long ux), .second, .val (.long top), .second, .unset] [(.long top), (.long ux)])) _
          refine XS.lcmp X.here hx rfl (hb hby at_124) rfl ?_
          show Steps p.tables e below (T8.setTop (mkF m 125 #[.val (.int qa), .val (.int qb), .val (.int sel), .val (.int mn), .val (.int (sel &&& (3 : Int32))), .val (.int mx), .val (.ref sq), .val (.int (own_rng mn mx)), .val (.long um), .second, .val (.long ux), .second, .val (.long top), .second, .unset] [(.int (lcmpW ux top))])) _
          refine XS.ifYes X.here hx rfl (pc0 := 125) (pc' := 140) rfl (hb hby at_125) rfl ((if0 _ _).trans (tlt ((lw_gt ux top).mpr hj3)).2.2.1) (by decide) (by decide) ?_
          show Steps p.tables e below (T8.setTop (mkF m 140 #[.val (.int qa), .val (.int qb), .val (.int sel), .val (.int mn), .val (.int (sel &&& (3 : Int32))), .val (.int mx), .val (.ref sq), .val (.int (own_rng mn mx)), .val (.long um), .second, .val (.long ux), .second, .val (.long top), .second, .unset] [])) _
          refine XS.iconst X.here hx rfl (hb hby at_140) ?_
          exact k
        · by_cases hj4 : ux < um
          · refine ⟨(0 : Int32), by rw [if_neg hj1, if_neg hj2, if_neg hj3, if_pos hj4], fun t k => ?_⟩
            show Steps p.tables e below (T8.setTop (mkF m 105 #[.val (.int qa), .val (.int qb), .val (.int sel), .val (.int mn), .val (.int (sel &&& (3 : Int32))), .val (.int mx), .val (.ref sq), .val (.int (own_rng mn mx)), .val (.long um), .second, .val (.long ux), .second, .val (.long top), .second, .unset] [])) _
            refine XS.lload X.here hx rfl (hb hby at_105) rfl ?_
            show Steps p.tables e below (T8.setTop (mkF m 107 #[.val (.int qa), .val (.int qb), .val (.int sel), .val (.int mn), .val (.int (sel &&& (3 : Int32))), .val (.int mx), .val (.ref sq), .val (.int (own_rng mn mx)), .val (.long um), .second, .val (.long ux), .second, .val (.long top), .second, .unset] [(.long um)])) _
            refine XS.lconst X.here hx rfl (hb hby at_107) ?_
            show Steps p.tables e below (T8.setTop (mkF m 108 #[.val (.int qa), .val (.int qb), .val (.int sel), .val (.int mn), .val (.int (sel &&& (3 : Int32))), .val (.int mx), .val (.ref sq), .val (.int (own_rng mn mx)), .val (.long um), .second, .val (.long ux), .second, .val (.long top), .second, .unset] [(.long (1 : Int64)), (.long um)])) _
            refine XS.lcmp X.here hx rfl (hb hby at_108) rfl ?_
            show Steps p.tables e below (T8.setTop (mkF m 109 #[.val (.int qa), .val (.int qb), .val (.int sel), .val (.int mn), .val (.int (sel &&& (3 : Int32))), .val (.int mx), .val (.ref sq), .val (.int (own_rng mn mx)), .val (.long um), .second, .val (.long ux), .second, .val (.long top), .second, .unset] [(.int (lcmpW um (1 : Int64)))])) _
            refine XS.ifNo X.here hx rfl (hb hby at_109) rfl ((if0 _ _).trans (flt (fun q => hj1 ((lw_lt um (1 : Int64)).mp q))).1) ?_
            show Steps p.tables e below (T8.setTop (mkF m 112 #[.val (.int qa), .val (.int qb), .val (.int sel), .val (.int mn), .val (.int (sel &&& (3 : Int32))), .val (.int mx), .val (.ref sq), .val (.int (own_rng mn mx)), .val (.long um), .second, .val (.long ux), .second, .val (.long top), .second, .unset] [])) _
            refine XS.lload X.here hx rfl (hb hby at_112) rfl ?_
            show Steps p.tables e below (T8.setTop (mkF m 114 #[.val (.int qa), .val (.int qb), .val (.int sel), .val (.int mn), .val (.int (sel &&& (3 : Int32))), .val (.int mx), .val (.ref sq), .val (.int (own_rng mn mx)), .val (.long um), .second, .val (.long ux), .second, .val (.long top), .second, .unset] [(.long um)])) _
            refine XS.lload X.here hx rfl (hb hby at_114) rfl ?_
            show Steps p.tables e below (T8.setTop (mkF m 116 #[.val (.int qa), .val (.int qb), .val (.int sel), .val (.int mn), .val (.int (sel &&& (3 : Int32))), .val (.int mx), .val (.ref sq), .val (.int (own_rng mn mx)), .val (.long um), .second, .val (.long ux), .second, .val (.long top), .second, .unset] [(.long top), (.long um)])) _
            refine XS.lcmp X.here hx rfl (hb hby at_116) rfl ?_
            show Steps p.tables e below (T8.setTop (mkF m 117 #[.val (.int qa), .val (.int qb), .val (.int sel), .val (.int mn), .val (.int (sel &&& (3 : Int32))), .val (.int mx), .val (.ref sq), .val (.int (own_rng mn mx)), .val (.long um), .second, .val (.long ux), .second, .val (.long top), .second, .unset] [(.int (lcmpW um top))])) _
            refine XS.ifNo X.here hx rfl (hb hby at_117) rfl ((if0 _ _).trans (flt (fun q => hj2 ((lw_gt um top).mp q))).2.2.1) ?_
            show Steps p.tables e below (T8.setTop (mkF m 120 #[.val (.int qa), .val (.int qb), .val (.int sel), .val (.int mn), .val (.int (sel &&& (3 : Int32))), .val (.int mx), .val (.ref sq), .val (.int (own_rng mn mx)), .val (.long um), .second, .val (.long ux), .second, .val (.long top), .second, .unset] [])) _
            refine XS.lload X.here hx rfl (hb hby at_120) rfl ?_
            show Steps p.tables e below (T8.setTop (mkF m 122 #[.val (.int qa), .val (.int qb), .val (.int sel), .val (.int mn), .val (.int (sel &&& (3 : Int32))), .val (.int mx), .val (.ref sq), .val (.int (own_rng mn mx)), .val (.long um), .second, .val (.long ux), .second, .val (.long top), .second, .unset] [(.long ux)])) _
            refine XS.lload X.here hx rfl (hb hby at_122) rfl ?_
            show Steps p.tables e below (T8.setTop (mkF m 124 #[.val (.int qa), .val (.int qb), .val (.int sel), .val (.int mn), .val (.int (sel &&& (3 : Int32))), .val (.int mx), .val (.ref sq), .val (.int (own_rng mn mx)), .val (.long um), .second, .val (.long ux), .second, .val (.long top), .second, .unset] [(.long top), (.long ux)])) _
            refine XS.lcmp X.here hx rfl (hb hby at_124) rfl ?_
            show Steps p.tables e below (T8.setTop (mkF m 125 #[.val (.int qa), .val (.int qb), .val (.int sel), .val (.int mn), .val (.int (sel &&& (3 : Int32))), .val (.int mx), .val (.ref sq), .val (.int (own_rng mn mx)), .val (.long um), .second, .val (.long ux), .second, .val (.long top), .second, .unset] [(.int (lcmpW ux top))])) _
            refine XS.ifNo X.here hx rfl (hb hby at_125) rfl ((if0 _ _).trans (flt (fun q => hj3 ((lw_gt ux top).mp q))).2.2.1) ?_
            show Steps p.tables e below (T8.setTop (mkF m 128 #[.val (.int qa), .val (.int qb), .val (.int sel), .val (.int mn), .val (.int (sel &&& (3 : Int32))), .val (.int mx), .val (.ref sq), .val (.int (own_rng mn mx)), .val (.long um), .second, .val (.long ux), .second, .val (.long top), .second, .unset] [])) _
            refine XS.lload X.here hx rfl (hb hby at_128) rfl ?_
            show Steps p.tables e below (T8.setTop (mkF m 130 #[.val (.int qa), .val (.int qb), .val (.int sel), .val (.int mn), .val (.int (sel &&& (3 : Int32))), .val (.int mx), .val (.ref sq), .val (.int (own_rng mn mx)), .val (.long um), .second, .val (.long ux), .second, .val (.long top), .second, .unset] [(.long um)])) _
            refine XS.lload X.here hx rfl (hb hby at_130) rfl ?_
            show Steps p.tables e below (T8.setTop (mkF m 132 #[.val (.int qa), .val (.int qb), .val (.int sel), .val (.int mn), .val (.int (sel &&& (3 : Int32))), .val (.int mx), .val (.ref sq), .val (.int (own_rng mn mx)), .val (.long um), .second, .val (.long ux), .second, .val (.long top), .second, .unset] [(.long ux), (.long um)])) _
            refine XS.lcmp X.here hx rfl (hb hby at_132) rfl ?_
            show Steps p.tables e below (T8.setTop (mkF m 133 #[.val (.int qa), .val (.int qb), .val (.int sel), .val (.int mn), .val (.int (sel &&& (3 : Int32))), .val (.int mx), .val (.ref sq), .val (.int (own_rng mn mx)), .val (.long um), .second, .val (.long ux), .second, .val (.long top), .second, .unset] [(.int (lcmpW um ux))])) _
            refine XS.ifYes X.here hx rfl (pc0 := 133) (pc' := 140) rfl (hb hby at_133) rfl ((if0 _ _).trans (tlt ((lw_gt um ux).mpr hj4)).2.2.1) (by decide) (by decide) ?_
            show Steps p.tables e below (T8.setTop (mkF m 140 #[.val (.int qa), .val (.int qb), .val (.int sel), .val (.int mn), .val (.int (sel &&& (3 : Int32))), .val (.int mx), .val (.ref sq), .val (.int (own_rng mn mx)), .val (.long um), .second, .val (.long ux), .second, .val (.long top), .second, .unset] [])) _
            refine XS.iconst X.here hx rfl (hb hby at_140) ?_
            exact k
          · refine ⟨(1 : Int32), by rw [if_neg hj1, if_neg hj2, if_neg hj3, if_neg hj4], fun t k => ?_⟩
            show Steps p.tables e below (T8.setTop (mkF m 105 #[.val (.int qa), .val (.int qb), .val (.int sel), .val (.int mn), .val (.int (sel &&& (3 : Int32))), .val (.int mx), .val (.ref sq), .val (.int (own_rng mn mx)), .val (.long um), .second, .val (.long ux), .second, .val (.long top), .second, .unset] [])) _
            refine XS.lload X.here hx rfl (hb hby at_105) rfl ?_
            show Steps p.tables e below (T8.setTop (mkF m 107 #[.val (.int qa), .val (.int qb), .val (.int sel), .val (.int mn), .val (.int (sel &&& (3 : Int32))), .val (.int mx), .val (.ref sq), .val (.int (own_rng mn mx)), .val (.long um), .second, .val (.long ux), .second, .val (.long top), .second, .unset] [(.long um)])) _
            refine XS.lconst X.here hx rfl (hb hby at_107) ?_
            show Steps p.tables e below (T8.setTop (mkF m 108 #[.val (.int qa), .val (.int qb), .val (.int sel), .val (.int mn), .val (.int (sel &&& (3 : Int32))), .val (.int mx), .val (.ref sq), .val (.int (own_rng mn mx)), .val (.long um), .second, .val (.long ux), .second, .val (.long top), .second, .unset] [(.long (1 : Int64)), (.long um)])) _
            refine XS.lcmp X.here hx rfl (hb hby at_108) rfl ?_
            show Steps p.tables e below (T8.setTop (mkF m 109 #[.val (.int qa), .val (.int qb), .val (.int sel), .val (.int mn), .val (.int (sel &&& (3 : Int32))), .val (.int mx), .val (.ref sq), .val (.int (own_rng mn mx)), .val (.long um), .second, .val (.long ux), .second, .val (.long top), .second, .unset] [(.int (lcmpW um (1 : Int64)))])) _
            refine XS.ifNo X.here hx rfl (hb hby at_109) rfl ((if0 _ _).trans (flt (fun q => hj1 ((lw_lt um (1 : Int64)).mp q))).1) ?_
            show Steps p.tables e below (T8.setTop (mkF m 112 #[.val (.int qa), .val (.int qb), .val (.int sel), .val (.int mn), .val (.int (sel &&& (3 : Int32))), .val (.int mx), .val (.ref sq), .val (.int (own_rng mn mx)), .val (.long um), .second, .val (.long ux), .second, .val (.long top), .second, .unset] [])) _
            refine XS.lload X.here hx rfl (hb hby at_112) rfl ?_
            show Steps p.tables e below (T8.setTop (mkF m 114 #[.val (.int qa), .val (.int qb), .val (.int sel), .val (.int mn), .val (.int (sel &&& (3 : Int32))), .val (.int mx), .val (.ref sq), .val (.int (own_rng mn mx)), .val (.long um), .second, .val (.long ux), .second, .val (.long top), .second, .unset] [(.long um)])) _
            refine XS.lload X.here hx rfl (hb hby at_114) rfl ?_
            show Steps p.tables e below (T8.setTop (mkF m 116 #[.val (.int qa), .val (.int qb), .val (.int sel), .val (.int mn), .val (.int (sel &&& (3 : Int32))), .val (.int mx), .val (.ref sq), .val (.int (own_rng mn mx)), .val (.long um), .second, .val (.long ux), .second, .val (.long top), .second, .unset] [(.long top), (.long um)])) _
            refine XS.lcmp X.here hx rfl (hb hby at_116) rfl ?_
            show Steps p.tables e below (T8.setTop (mkF m 117 #[.val (.int qa), .val (.int qb), .val (.int sel), .val (.int mn), .val (.int (sel &&& (3 : Int32))), .val (.int mx), .val (.ref sq), .val (.int (own_rng mn mx)), .val (.long um), .second, .val (.long ux), .second, .val (.long top), .second, .unset] [(.int (lcmpW um top))])) _
            refine XS.ifNo X.here hx rfl (hb hby at_117) rfl ((if0 _ _).trans (flt (fun q => hj2 ((lw_gt um top).mp q))).2.2.1) ?_
            show Steps p.tables e below (T8.setTop (mkF m 120 #[.val (.int qa), .val (.int qb), .val (.int sel), .val (.int mn), .val (.int (sel &&& (3 : Int32))), .val (.int mx), .val (.ref sq), .val (.int (own_rng mn mx)), .val (.long um), .second, .val (.long ux), .second, .val (.long top), .second, .unset] [])) _
            refine XS.lload X.here hx rfl (hb hby at_120) rfl ?_
            show Steps p.tables e below (T8.setTop (mkF m 122 #[.val (.int qa), .val (.int qb), .val (.int sel), .val (.int mn), .val (.int (sel &&& (3 : Int32))), .val (.int mx), .val (.ref sq), .val (.int (own_rng mn mx)), .val (.long um), .second, .val (.long ux), .second, .val (.long top), .second, .unset] [(.long ux)])) _
            refine XS.lload X.here hx rfl (hb hby at_122) rfl ?_
            show Steps p.tables e below (T8.setTop (mkF m 124 #[.val (.int qa), .val (.int qb), .val (.int sel), .val (.int mn), .val (.int (sel &&& (3 : Int32))), .val (.int mx), .val (.ref sq), .val (.int (own_rng mn mx)), .val (.long um), .second, .val (.long ux), .second, .val (.long top), .second, .unset] [(.long top), (.long ux)])) _
            refine XS.lcmp X.here hx rfl (hb hby at_124) rfl ?_
            show Steps p.tables e below (T8.setTop (mkF m 125 #[.val (.int qa), .val (.int qb), .val (.int sel), .val (.int mn), .val (.int (sel &&& (3 : Int32))), .val (.int mx), .val (.ref sq), .val (.int (own_rng mn mx)), .val (.long um), .second, .val (.long ux), .second, .val (.long top), .second, .unset] [(.int (lcmpW ux top))])) _
            refine XS.ifNo X.here hx rfl (hb hby at_125) rfl ((if0 _ _).trans (flt (fun q => hj3 ((lw_gt ux top).mp q))).2.2.1) ?_
            show Steps p.tables e below (T8.setTop (mkF m 128 #[.val (.int qa), .val (.int qb), .val (.int sel), .val (.int mn), .val (.int (sel &&& (3 : Int32))), .val (.int mx), .val (.ref sq), .val (.int (own_rng mn mx)), .val (.long um), .second, .val (.long ux), .second, .val (.long top), .second, .unset] [])) _
            refine XS.lload X.here hx rfl (hb hby at_128) rfl ?_
            show Steps p.tables e below (T8.setTop (mkF m 130 #[.val (.int qa), .val (.int qb), .val (.int sel), .val (.int mn), .val (.int (sel &&& (3 : Int32))), .val (.int mx), .val (.ref sq), .val (.int (own_rng mn mx)), .val (.long um), .second, .val (.long ux), .second, .val (.long top), .second, .unset] [(.long um)])) _
            refine XS.lload X.here hx rfl (hb hby at_130) rfl ?_
            show Steps p.tables e below (T8.setTop (mkF m 132 #[.val (.int qa), .val (.int qb), .val (.int sel), .val (.int mn), .val (.int (sel &&& (3 : Int32))), .val (.int mx), .val (.ref sq), .val (.int (own_rng mn mx)), .val (.long um), .second, .val (.long ux), .second, .val (.long top), .second, .unset] [(.long ux), (.long um)])) _
            refine XS.lcmp X.here hx rfl (hb hby at_132) rfl ?_
            show Steps p.tables e below (T8.setTop (mkF m 133 #[.val (.int qa), .val (.int qb), .val (.int sel), .val (.int mn), .val (.int (sel &&& (3 : Int32))), .val (.int mx), .val (.ref sq), .val (.int (own_rng mn mx)), .val (.long um), .second, .val (.long ux), .second, .val (.long top), .second, .unset] [(.int (lcmpW um ux))])) _
            refine XS.ifNo X.here hx rfl (hb hby at_133) rfl ((if0 _ _).trans (flt (fun q => hj4 ((lw_gt um ux).mp q))).2.2.1) ?_
            show Steps p.tables e below (T8.setTop (mkF m 136 #[.val (.int qa), .val (.int qb), .val (.int sel), .val (.int mn), .val (.int (sel &&& (3 : Int32))), .val (.int mx), .val (.ref sq), .val (.int (own_rng mn mx)), .val (.long um), .second, .val (.long ux), .second, .val (.long top), .second, .unset] [])) _
            refine XS.iconst X.here hx rfl (hb hby at_136) ?_
            show Steps p.tables e below (T8.setTop (mkF m 137 #[.val (.int qa), .val (.int qb), .val (.int sel), .val (.int mn), .val (.int (sel &&& (3 : Int32))), .val (.int mx), .val (.ref sq), .val (.int (own_rng mn mx)), .val (.long um), .second, .val (.long ux), .second, .val (.long top), .second, .unset] [(.int (1 : Int32))])) _
            refine XS.goto X.here hx rfl (pc0 := 137) (pc' := 141) rfl (hb hby at_137) (by decide) (by decide) ?_
            exact k
  have st : ∀ t, Steps p.tables e below (T8.setTop (mkF m 141 #[.val (.int qa), .val (.int qb), .val (.int sel), .val (.int mn), .val (.int (sel &&& (3 : Int32))), .val (.int mx), .val (.ref sq), .val (.int (own_rng mn mx)), .val (.long um), .second, .val (.long ux), .second, .val (.long top), .second, .unset] [(.int v14)])) t → Steps p.tables e below (s₁.setTop (mkF m 0 #[.val (.int qa), .val (.int qb), .val (.int sel), .unset, .unset, .unset, .unset, .unset, .unset, .unset, .unset, .unset, .unset, .unset, .unset] [])) t := fun t k => st t (sx t k)
  have st : ∀ t, Steps p.tables e below (T8.setTop (mkF m 155 #[.val (.int qa), .val (.int qb), .val (.int sel), .val (.int mn), .val (.int (sel &&& (3 : Int32))), .val (.int mx), .val (.ref sq), .val (.int (own_rng mn mx)), .val (.long um), .second, .val (.long ux), .second, .val (.long top), .second, .val (.int v14)] [(.int (1 : Int32))])) t → Steps p.tables e below (s₁.setTop (mkF m 0 #[.val (.int qa), .val (.int qb), .val (.int sel), .unset, .unset, .unset, .unset, .unset, .unset, .unset, .unset, .unset, .unset, .unset, .unset] [])) t := fun t k => st t (by
      show Steps p.tables e below (T8.setTop (mkF m 141 #[.val (.int qa), .val (.int qb), .val (.int sel), .val (.int mn), .val (.int (sel &&& (3 : Int32))), .val (.int mx), .val (.ref sq), .val (.int (own_rng mn mx)), .val (.long um), .second, .val (.long ux), .second, .val (.long top), .second, .unset] [(.int v14)])) _
      refine XS.istore X.here hx rfl (hb hby at_141) rfl (l' := #[.val (.int qa), .val (.int qb), .val (.int sel), .val (.int mn), .val (.int (sel &&& (3 : Int32))), .val (.int mx), .val (.ref sq), .val (.int (own_rng mn mx)), .val (.long um), .second, .val (.long ux), .second, .val (.long top), .second, .val (.int v14)]) rfl ?_
      show Steps p.tables e below (T8.setTop (mkF m 143 #[.val (.int qa), .val (.int qb), .val (.int sel), .val (.int mn), .val (.int (sel &&& (3 : Int32))), .val (.int mx), .val (.ref sq), .val (.int (own_rng mn mx)), .val (.long um), .second, .val (.long ux), .second, .val (.long top), .second, .val (.int v14)] [])) _
      refine XS.iload X.here hx rfl (hb hby at_143) rfl ?_
      show Steps p.tables e below (T8.setTop (mkF m 145 #[.val (.int qa), .val (.int qb), .val (.int sel), .val (.int mn), .val (.int (sel &&& (3 : Int32))), .val (.int mx), .val (.ref sq), .val (.int (own_rng mn mx)), .val (.long um), .second, .val (.long ux), .second, .val (.long top), .second, .val (.int v14)] [(.int (own_rng mn mx))])) _
      refine XS.iload X.here hx rfl (hb hby at_145) rfl ?_
      show Steps p.tables e below (T8.setTop (mkF m 147 #[.val (.int qa), .val (.int qb), .val (.int sel), .val (.int mn), .val (.int (sel &&& (3 : Int32))), .val (.int mx), .val (.ref sq), .val (.int (own_rng mn mx)), .val (.long um), .second, .val (.long ux), .second, .val (.long top), .second, .val (.int v14)] [(.int v14), (.int (own_rng mn mx))])) _
      refine XS.icmpNo X.here hx rfl (hb hby at_147) rfl (teq (own_law mn mx v14 um ux top hum hux htop hv_v14)).2 ?_
      show Steps p.tables e below (T8.setTop (mkF m 150 #[.val (.int qa), .val (.int qb), .val (.int sel), .val (.int mn), .val (.int (sel &&& (3 : Int32))), .val (.int mx), .val (.ref sq), .val (.int (own_rng mn mx)), .val (.long um), .second, .val (.long ux), .second, .val (.long top), .second, .val (.int v14)] [])) _
      refine XS.iconst X.here hx rfl (hb hby at_150) ?_
      show Steps p.tables e below (T8.setTop (mkF m 151 #[.val (.int qa), .val (.int qb), .val (.int sel), .val (.int mn), .val (.int (sel &&& (3 : Int32))), .val (.int mx), .val (.ref sq), .val (.int (own_rng mn mx)), .val (.long um), .second, .val (.long ux), .second, .val (.long top), .second, .val (.int v14)] [(.int (1 : Int32))])) _
      refine XS.goto X.here hx rfl (pc0 := 151) (pc' := 155) rfl (hb hby at_151) (by decide) (by decide) ?_
      exact k)
  obtain ⟨fs_, hr, hrun, hended, hW, hsame⟩ := X.leave (v := some (.int (1 : Int32))) (fun h => by rw [Bd.returns] at h; cases h)
  refine ⟨_, _, pre0 _ (st _ ?_), hrun, hended, _, _, rfl, ?_, ⟨_, rfl⟩, hW, hsame.mono (by decide) (by decide)⟩
  · exact retN X hx (t := .boolean) Bd.returns (by simp) (hb hby at_155) hr
  · show Q_rm0 Z qa qb sel h0 n0 _ T8.heap _
    rw [eh]
    exact ⟨rfl, N⟩
set_option maxRecDepth 65536 in
set_option maxHeartbeats 40000000 in
theorem comes_1 {Post : Tables → Env → Array Value → State → Outcome → State → Prop} (hpost : ∀ tb e args s v u, (limb_1_1.after args s (.returned v) u = true ∧ limb_1_2.after args s (.returned v) u = true ∧ True) → FrameEnd s (.returned v) u (Jvm.fieldLocs frame_1_writes args s ++ Jvm.arrayLocs frame_1_arrays args s ++ Jvm.staticLocs frame_1_statics s) 16 128 → Post tb e args s (.returned v) u) :
    ArmFor flags0 classFile x code maxLocals ret World_1 tables_1 room_1 Calls_1 rest_1 Pre_1 Post := by
  intro l hfl _ _ p e ha hc hk s m args below hf hA hF happ hP
  obtain ⟨hcalls, hrest, hpre⟩ := hP
  obtain ⟨-, -, -, hnamed, -, -, -, hat⟩ := (Spec.applies_iff hf).mp happ
  obtain ⟨hg, hn⟩ := and_e (Cond.before_iff.mp (show (Jvm.Cond.and given_1 narrow_1).before args s = true from hpre))
  obtain ⟨g0, hg1⟩ := and_e hg
  obtain ⟨ha0, hg2⟩ := and_e hg1
  obtain ⟨ha1, hg3⟩ := and_e hg2
  have ha2 := hg3
  obtain ⟨w0, w1, w2, rfl⟩ : ∃ w0 w1 w2 : Value, args = #[w0, w1, w2] := by
    have hs : args.size = 3 := by simpa [Cond.value, given_1] using g0
    obtain ⟨L⟩ := args
    match L, hs with
    | [w0, w1, w2], _ => exact ⟨w0, w1, w2, rfl⟩
  have hw := fun d (hd : d ∈ tables_1) => atoms_spec (ws := Jvm.Cond.code x code maxLocals ret :: tables_1) hat d (List.mem_cons_of_mem _ hd)
  obtain ⟨i0, ei0⟩ := is_v ha0
  obtain rfl : w0 = (.int i0) := Option.some.inj ei0
  obtain ⟨i1, ei1⟩ := is_v ha1
  obtain rfl : w1 = (.int i1) := Option.some.inj ei1
  obtain ⟨i2, ei2⟩ := is_v ha2
  obtain rfl : w2 = (.int i2) := Option.some.inj ei2
  obtain ⟨n, o, h1, h2, h3, _, L, rfl, ⟨rfl, N⟩, hq⟩ := rm0 l s _ hw tables_1 i0 i1 i2 s.heap s.heap.size (Nat.le_refl _) p e ha hc hk s m _ below hf ((Spec.applies_iff_loose hf).mp happ).1 ⟨rfl, State.Warmed39.refl s, rfl⟩ trivial
  refine ⟨n, _, h1, h2, h3, hpost _ _ _ _ _ _ ⟨Cond.after_iff.mpr rfl, Cond.after_iff.mpr (eq_i res_at (Term.int_eval (1)) rfl), trivial⟩ ⟨hq.1, hq.2.1, (hq.2.2.sift fun y hy => Or.inr (N y hy)).mono (by decide) (by decide)⟩⟩
theorem main_1_1 : Claimed_1_1 := comes_1 fun _ _ _ _ _ _ h hF => ⟨h.1, hF⟩
theorem main_1_2 : Claimed_1_2 := comes_1 fun _ _ _ _ _ _ h hF => ⟨h.2.1, hF⟩
end Jvm.Pilot.@@N@@
namespace Jvm.Pilot.@@N@@
open Jvm Jvm.ClassFile Sem Op Lib Jvm.Free Jvm.Stand Jvm.Pilot.@@N@@.Jvm.D
/-! MADE BY PROGRAM (witnessworld.py) out of the Statement's table words and the real class files: 9 classes; the members and pool entries that the words name. The judged class is class 1, her method 1. -/
namespace start1
open Jvm.ClassFile
def u (s : String) : CpInfo := .utf8 (stringToUtf16 s)
/-- a pool by its gaps: so many unusable entries, then the entry; so many at the end -/
def gap : Nat → List CpInfo → List CpInfo
  | 0, r => r
  | n + 1, r => .unusable :: gap n r
def poolList (es : List (Nat × CpInfo)) (last : Nat) : List CpInfo := es.foldr (fun e r => gap e.1 (e.2 :: r)) (gap last [])
def pool (es : List (Nat × CpInfo)) (last : Nat) : Array CpInfo := ⟨poolList es last⟩
def fileOf (pool : Array CpInfo) (this : Nat) (attrs : Array Attribute := #[]) (ms : Array MethodInfo := #[]) (fl : Nat := 33) (sup : Nat := 0) (ifs : Array Nat := #[]) (fds : Array FieldInfo := #[]) : ClassFile where
  minorVersion := 0
  majorVersion := 65
  constantPool := pool
  accessFlags := fl
  thisClass := this
  superClass := sup
  interfaces := ifs
  fields := fds
  methods := ms
  attributes := attrs
def plain (name : String) (sup : Option ClassId) : Class where
  name := name
  kind := .ordinary
  loader := none
  accessFlags := 33
  super := sup
  interfaces := #[]
  cf := none
  fields := #[]
  methods := #[]
  instanceTypes := #[]
  staticTypes := #[]
  resolved := #[]
  callSites := []
  init := .initialized
  statics := none
  mirror := none

def pool0 : Array CpInfo := pool [(5, u "<init>"), (0, u "()V"), (1, .class_ 10), (1, u "java/lang/Object")] 113

def k0c0 : Code := { maxStack := 0, maxLocals := 1, code := object_method_1_code, exceptionTable := #[], attributes := #[] }
def k0m0 : Method := { name := "<init>", desc := "()V", sig := { parameters := [], returnType := none }, accessFlags := 1, code := some k0c0 }
/-- java/lang/Object -/
def k0 : Class := { plain "java/lang/Object" none with
  accessFlags := 33
  interfaces := #[]
  cf := some (fileOf pool0 8 #[] #[{ accessFlags := 1, nameIndex := 5, descriptorIndex := 6, attributes := #[] }] 33 0 #[] #[])
  fields := #[]
  methods := #[k0m0]
  instanceTypes := #[]
  staticTypes := #[]
  resolved := Array.replicate 124 none
  statics := none }

def pool1 : Array CpInfo := pool [(2, .class_ 4), (1, u "java/lang/Object"), (0, u "<init>"), (0, u "()V"), (0, .integer 2147483648), (0, .class_ 9), (0, u "com/example/attest/attest/scheme/SdkVersionRange"), (0, .methodref 8 11), (0, .nameAndType 5 12), (0, u "(II)V"), (0, .methodref 8 14), (0, .nameAndType 15 16), (0, u "isRangeOfApiLevels"), (0, u "()Z"), (0, .long 4294967295), (1, .long 2147483647), (1, .class_ 22), (0, u "com/example/attest/attest/scheme/SdkVersionRangeIsRangeOfApiLevelsPinLaw"), (2, u "law"), (0, u "(III)Z")] 3

def k1m0 : Method := { name := "<init>", desc := "()V", sig := { parameters := [], returnType := none }, accessFlags := 1, code := none }
def k1c1 : Code := { maxStack := 4, maxLocals := 15, code := code, exceptionTable := #[], attributes := #[] }
def k1m1 : Method := { name := "law", desc := "(III)Z", sig := { parameters := [.int, .int, .int], returnType := some .boolean }, accessFlags := 9, code := some k1c1 }
/-- com/example/attest/attest/scheme/SdkVersionRangeIsRangeOfApiLevelsPinLaw -/
def k1 : Class := { plain "com/example/attest/attest/scheme/SdkVersionRangeIsRangeOfApiLevelsPinLaw" (some 0) with
  accessFlags := 49
  interfaces := #[]
  cf := some (fileOf pool1 21 #[] #[{ accessFlags := 1, nameIndex := 5, descriptorIndex := 6, attributes := #[] }, { accessFlags := 9, nameIndex := 25, descriptorIndex := 26, attributes := #[] }] 49 2 #[] #[])
  fields := #[]
  methods := #[k1m0, k1m1]
  instanceTypes := #[]
  staticTypes := #[]
  resolved := Array.replicate 30 none
  statics := none }

def pool2 : Array CpInfo := pool [(1, .methodref 2 3), (0, .class_ 4), (0, .nameAndType 5 6), (0, u "java/lang/Object"), (0, u "<init>"), (0, u "()V"), (0, .fieldref 8 9), (0, .class_ 10), (0, .nameAndType 11 12), (0, u "com/example/attest/attest/scheme/SdkVersionRange"), (0, u "minSdkVersion"), (0, u "I"), (0, .fieldref 8 14), (0, .nameAndType 15 12), (0, u "maxSdkVersion"), (13, u "(II)V"), (19, u "isRangeOfApiLevels"), (0, u "()Z")] 23

def k2c0 : Code := { maxStack := 2, maxLocals := 3, code := prog_68_method_1_code, exceptionTable := #[], attributes := #[] }
def k2m0 : Method := { name := "<init>", desc := "(II)V", sig := { parameters := [.int, .int], returnType := none }, accessFlags := 1, code := some k2c0 }
def k2c1 : Code := { maxStack := 2, maxLocals := 1, code := prog_68_method_5_code, exceptionTable := #[], attributes := #[] }
def k2m1 : Method := { name := "isRangeOfApiLevels", desc := "()Z", sig := { parameters := [], returnType := some .boolean }, accessFlags := 1, code := some k2c1 }
/-- com/example/attest/attest/scheme/SdkVersionRange -/
def k2 : Class := { plain "com/example/attest/attest/scheme/SdkVersionRange" (some 0) with
  accessFlags := 33
  interfaces := #[]
  cf := some (fileOf pool2 8 #[] #[{ accessFlags := 1, nameIndex := 5, descriptorIndex := 29, attributes := #[] }, { accessFlags := 1, nameIndex := 49, descriptorIndex := 50, attributes := #[] }] 33 2 #[] #[{ accessFlags := 18, nameIndex := 11, descriptorIndex := 12, attributes := #[] }, { accessFlags := 18, nameIndex := 15, descriptorIndex := 12, attributes := #[] }])
  fields := #[{ name := "minSdkVersion", type := .int, accessFlags := 18, slot := 0, constantValue := 0 }, { name := "maxSdkVersion", type := .int, accessFlags := 18, slot := 1, constantValue := 0 }]
  methods := #[k2m0, k2m1]
  instanceTypes := #[.int, .int]
  staticTypes := #[]
  resolved := Array.replicate 74 none
  statics := none }

def pool3 : Array CpInfo := pool [(1, u "java/lang/Cloneable"), (0, .class_ 1), (0, u "java/lang/Object"), (0, .class_ 3)] 3

/-- java/lang/Cloneable -/
def k3 : Class := { plain "java/lang/Cloneable" (some 0) with
  accessFlags := 1537
  interfaces := #[]
  cf := some (fileOf pool3 2 #[] #[] 1537 4 #[] #[])
  fields := #[]
  methods := #[]
  instanceTypes := #[]
  staticTypes := #[]
  resolved := Array.replicate 8 none
  statics := none }

def pool4 : Array CpInfo := pool [(1, u "java/io/Serializable"), (0, .class_ 1), (0, u "java/lang/Object"), (0, .class_ 3)] 3

/-- java/io/Serializable -/
def k4 : Class := { plain "java/io/Serializable" (some 0) with
  accessFlags := 1537
  interfaces := #[]
  cf := some (fileOf pool4 2 #[] #[] 1537 4 #[] #[])
  fields := #[]
  methods := #[]
  instanceTypes := #[]
  staticTypes := #[]
  resolved := Array.replicate 8 none
  statics := none }

/-- the primitive byte -/
def k5 : Class := { plain "byte" none with kind := .primitive 'B', accessFlags := 0x411 }
/-- [B -/
def k6 : Class := { plain "[B" (some 0) with kind := .array 5 .byte, interfaces := #[3, 4], accessFlags := 1041 }

/-- the primitive int -/
def k7 : Class := { plain "int" none with kind := .primitive 'I', accessFlags := 0x411 }
/-- [I -/
def k8 : Class := { plain "[I" (some 0) with kind := .array 7 .int, interfaces := #[3, 4], accessFlags := 1041 }

def heap : Heap := #[]
def classes : Array Class := #[k0, k1, k2, k3, k4, k5, k6, k7, k8]
def interned : List (Array UInt16 × Addr) := []
def slotsUsed : Nat := 0
def theMethod : MethodId := ⟨1, 1⟩
def args0 : Array Value := #[.int 1, .int 2, .int 3]
def aboutOver (below : List Frame) : State where
  vm := { classes := classes, interned := interned.toArray }
  heap := heap
  slotsUsed := slotsUsed
  threads := #[{ frames := .invoking theMethod args0 :: below }]
def below0 : List Frame := [.native { method := ⟨0, 0⟩, args := #[] }]
def about1 : State := aboutOver below0
def p0 : Program := .bare "" "" ""
def e0 : Env := launch0.env 0 0 0
theorem w_frames : about1.frames = Frame.invoking theMethod args0 :: below0 := rfl
set_option maxRecDepth 65536 in
theorem w_args : argsFit about1.vm theMethod args0 = true := by decide +kernel
set_option maxRecDepth 65536 in
theorem w_heap : heapFits about1 = true := by decide +kernel
set_option maxRecDepth 65536 in
theorem w_runnable : about1.curStatus? = some .runnable := by decide +kernel
set_option maxRecDepth 65536 in
theorem w_alone : about1.alone = true := by decide +kernel
set_option maxRecDepth 65536 in
theorem w_named : about1.methodNamed? x = some theMethod := by decide +kernel
set_option maxRecDepth 65536 in
theorem w_hears : about1.hears theMethod below0 = true := by decide +kernel
set_option maxRecDepth 65536 in
theorem w_ripe : about1.ripe theMethod args0 below0 = true := by decide +kernel
theorem w_running : about1.status = .running := rfl
set_option maxRecDepth 65536 in
theorem w_room : about1.hasRoom e0.platform room_1 = true :=
  launch0.hasRoom_least _ room_1 (by decide +kernel) (by decide +kernel) (by decide +kernel) (by decide +kernel) (by decide +kernel) (by decide +kernel)
theorem allAtoms_all (ts : List Jvm.Cond) (a : Array Jvm.Value) (st : Jvm.State) : (allAtoms ts).before a st = ts.all (fun c => c.before a st) := by
  induction ts with
  | nil => rfl
  | cons c t ih =>
    show (Jvm.Cond.and c (allAtoms t)).before a st = _
    rw [Jvm.Cond.before_and, ih, List.all_cons]
def words1 : List Jvm.Cond := Jvm.Cond.code x code maxLocals ret :: tables_1
/-- a 'code' word, met by the world's own term for the bytes: nothing is compared byte by byte -/
theorem code_word {y : MethodName} {bytes : ByteArray} {mx : Nat} {rt : Option FieldType} {a : Array Value} {s : State} {m : MethodId} {meth : Method} {c : Code} (h1 : s.methodNamed? y = some m) (h2 : s.vm.method? m = some meth) (h3 : meth.code = some c) (h4 : c.code = bytes)
    (h5 : (c.maxLocals == mx && c.exceptionTable.isEmpty && decide (c.maxStack ≤ mostOperands) && decide (meth.sig.returnType = rt) && !meth.locks && decide (parseMethodDescriptor y.desc = some meth.sig)) = true) : (Jvm.Cond.code y bytes mx rt).before a s = true := by
  simp only [Bool.and_eq_true, beq_iff_eq, Bool.not_eq_true', decide_eq_true_eq] at h5
  obtain ⟨⟨⟨⟨⟨g1, g2⟩, g3⟩, g4⟩, g5⟩, g6⟩ := h5
  simp [Cond.before, Cond.holds, Cond.value, h1, h2, h3, h4, g1, g2, g3, g4, g5, g6]
def isCode : Jvm.Cond → Bool
  | .code _ _ _ _ => true
  | _ => false
theorem all_split {L : List Jvm.Cond} {P : Jvm.Cond → Bool} (h1 : L.all (fun c => isCode c || P c) = true) (h2 : ∀ c ∈ L.filter isCode, P c = true) : L.all P = true := by
  refine List.all_eq_true.mpr fun c hc => ?_
  have h := List.all_eq_true.mp h1 c hc
  rcases Bool.eq_false_or_eq_true (isCode c) with hi | hi
  · exact h2 c (List.mem_filter.mpr ⟨hc, hi⟩)
  · simpa [hi] using h
set_option maxRecDepth 65536 in
theorem w_c0 : (Jvm.Cond.code x code maxLocals ret).before args0 about1 = true := code_word (m := ⟨1, 1⟩) (meth := k1m1) (c := k1c1) (by decide +kernel) rfl rfl rfl (by decide +kernel)
set_option maxRecDepth 65536 in
theorem w_c1 : (Jvm.Cond.code ({ cls := "com/example/attest/attest/scheme/SdkVersionRange", name := "<init>", desc := "(II)V" } : Jvm.MethodName) prog_68_method_1_code (3 : Nat) (Option.none : Option Jvm.ClassFile.FieldType)).before args0 about1 = true := code_word (m := ⟨2, 0⟩) (meth := k2m0) (c := k2c0) (by decide +kernel) rfl rfl rfl (by decide +kernel)
set_option maxRecDepth 65536 in
theorem w_c2 : (Jvm.Cond.code ({ cls := "java/lang/Object", name := "<init>", desc := "()V" } : Jvm.MethodName) object_method_1_code (1 : Nat) (Option.none : Option Jvm.ClassFile.FieldType)).before args0 about1 = true := code_word (m := ⟨0, 0⟩) (meth := k0m0) (c := k0c0) (by decide +kernel) rfl rfl rfl (by decide +kernel)
set_option maxRecDepth 65536 in
theorem w_c3 : (Jvm.Cond.code ({ cls := "com/example/attest/attest/scheme/SdkVersionRange", name := "isRangeOfApiLevels", desc := "()Z" } : Jvm.MethodName) prog_68_method_5_code (1 : Nat) (Option.some Jvm.ClassFile.FieldType.boolean)).before args0 about1 = true := code_word (m := ⟨2, 1⟩) (meth := k2m1) (c := k2c1) (by decide +kernel) rfl rfl rfl (by decide +kernel)
def codes1 : List Jvm.Cond := [Jvm.Cond.code x code maxLocals ret, Jvm.Cond.code ({ cls := "com/example/attest/attest/scheme/SdkVersionRange", name := "<init>", desc := "(II)V" } : Jvm.MethodName) prog_68_method_1_code (3 : Nat) (Option.none : Option Jvm.ClassFile.FieldType), Jvm.Cond.code ({ cls := "java/lang/Object", name := "<init>", desc := "()V" } : Jvm.MethodName) object_method_1_code (1 : Nat) (Option.none : Option Jvm.ClassFile.FieldType), Jvm.Cond.code ({ cls := "com/example/attest/attest/scheme/SdkVersionRange", name := "isRangeOfApiLevels", desc := "()Z" } : Jvm.MethodName) prog_68_method_5_code (1 : Nat) (Option.some Jvm.ClassFile.FieldType.boolean)]
set_option maxRecDepth 65536 in
theorem codes_eq : words1.filter isCode = codes1 := rfl
theorem w_codes : ∀ c ∈ words1.filter isCode, c.before args0 about1 = true := by
  rw [codes_eq]
  intro c hc
  simp only [codes1, List.mem_cons, List.not_mem_nil, or_false] at hc
  rcases hc with rfl | rfl | rfl | rfl
  · exact w_c0
  · exact w_c1
  · exact w_c2
  · exact w_c3
set_option maxRecDepth 65536 in
theorem w_t1 : words1.all (fun c => isCode c || c.before args0 about1) = true := by decide +kernel
theorem w_tables : (allAtoms (Jvm.Cond.code x code maxLocals ret :: tables_1)).before args0 about1 = true := by
  rw [allAtoms_all]
  show words1.all (fun c => c.before args0 about1) = true
  refine all_split ?_ w_codes
  rw [w_t1]
set_option maxRecDepth 65536 in
theorem w_case : (Jvm.Cond.and given_1 narrow_1).before args0 about1 = true := by decide +kernel
theorem w_applies : (headSpec (Jvm.Cond.code x code maxLocals ret :: tables_1) room_1).applies x e0.platform about1 = true :=
  (Spec.applies_iff w_frames).mpr ⟨w_running, w_runnable, w_alone, w_named, w_hears, w_ripe, w_room, w_tables⟩
theorem atStart : AtStart classFile x code maxLocals ret World_1 tables_1 room_1 Calls_1 rest_1 Pre_1 launch0 p0 e0 about1 theMethod args0 below0 :=
  ⟨lists_1, trivial, launch0.admits_env _ _ _, launch0.least_env, fairChoices_fair.cas, fairChoices_fair.clock, w_frames, w_args, w_heap, w_applies, trivial, trivial, w_case⟩
end start1
theorem witness_1 : WitnessClaimed_1 := ⟨start1.p0, start1.e0, start1.about1, start1.theMethod, start1.args0, start1.below0, start1.atStart⟩
end Jvm.Pilot.@@N@@
