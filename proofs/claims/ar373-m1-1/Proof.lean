import JvmDerived
import JvmDerived.Pilot.@@N@@Statement
import JvmDerived.Pilot.@@N@@Code
set_option linter.unusedVariables false
set_option linter.unusedSimpArgs false
namespace Jvm.RoadKit
open Sem ClassFile Op Lib Jvm.Stand Jvm.Free Jvm.LawKit
section New
variable {p : Program} {l : Launch} {e : Env} {R : Room} {s : State} {m : MethodId} {args : Array Value} {below : List Frame} {meth : Method} {c : Code} {T : State} {locs : List Loc} {cells slots : Nat}
theorem retI (X : Stand p l e R s m args below meth c T locs cells slots) (hx : p.tables.exec = Jvm.exec) {pc : Nat} {Ls : Array Slot} {z : Int32} {rest : List Value} (hret : meth.sig.returnType = some .int) (hd : decode c.code pc = .ok (.ireturn, 1)) {fs : List Frame}
    (hl : ∀ (f : JFrame) (acts : List Action), f.method = m → f.locked = none → f.entered = [] → (doReturn e (T.setTop f) acts (some (.int z))).1 = T.setFrames fs) : Steps p.tables e below (T.setTop (mkF m pc Ls (.int z :: rest))) (T.setFrames fs) := by
  have hm' : T.vm.method? m = some meth := X.method'
  have hn : narrow .int (.int z) = .int z := rfl
  show Steps p.tables e below (T.setTop { method := m, pc := pc, locals := Ls, stack := _ :: rest, locked := none }) _
  jvm_step X.here [X.here.top, hx, hd, hm', hret, hn]
  first | (intro acts; rw [hl _ acts rfl rfl rfl]) | rw [hl _ _ rfl rfl rfl]
  exact Steps.refl _
end New
end Jvm.RoadKit
namespace Jvm.Pilot.@@N@@
open Jvm Jvm.ClassFile Sem Op Lib Jvm.Free Jvm.Stand Jvm.LawKit Jvm.RoadKit Bundle Jvm.Pilot.@@N@@.Jvm.D
def own_max (a b : Int32) : Int32 := if a < b then b else a
def own_adm (b : Int64) (r : Int32) : Int32 := if r.toInt64 < b then (0 : Int32) else (1 : Int32)
theorem own_one (y : Int32) : ¬ own_max (1 : Int32) y < (1 : Int32) := by
  simp only [own_max]
  split
  · rename_i h; intro q; rw [Int32.lt_iff_toInt_lt] at h q; omega
  · decide
theorem own_at (r : Int32) : own_adm r.toInt64 r = 1 := by rw [own_adm, if_neg Int64.lt_irrefl]
theorem own_past (r : Int32) : own_adm (r.toInt64 + (1 : Int64)) r = 0 := by
  have e : r.toInt64.toInt = r.toInt := Int32.toInt_toInt64 r
  have o1 : (1 : Int64).toInt = 1 := rfl
  have a1 := r.toInt_lt
  have a2 := r.le_toInt
  rw [own_adm, if_pos]
  rw [Int64.lt_iff_toInt_lt, Int64.toInt_add, e, o1, Int.bmod_def]
  omega
theorem own_cmp (b : Int64) (r v12 w14 : Int32) (h12 : v12 = own_adm b r) (h : w14 = (if r.toInt64 < b then (if v12 = (0 : Int32) then (1 : Int32) else (0 : Int32)) else (if v12 = (1 : Int32) then (1 : Int32) else (0 : Int32)))) : w14 = 1 := by
  rw [h, h12, own_adm]
  split
  · rw [if_pos rfl]
  · rw [if_pos rfl]
theorem d1_0 : decode jdk_29_method_65_code 0 = .ok (.iload_n 0, 1) := by decide +kernel
theorem d1_1 : decode jdk_29_method_65_code 1 = .ok (.iload_n 1, 1) := by decide +kernel
theorem d1_2 : decode jdk_29_method_65_code 2 = .ok (.if_icmp .lt 7, 3) := by decide +kernel
theorem d1_5 : decode jdk_29_method_65_code 5 = .ok (.iload_n 0, 1) := by decide +kernel
theorem d1_6 : decode jdk_29_method_65_code 6 = .ok (.goto 4, 3) := by decide +kernel
theorem d1_9 : decode jdk_29_method_65_code 9 = .ok (.iload_n 1, 1) := by decide +kernel
theorem d1_10 : decode jdk_29_method_65_code 10 = .ok (.ireturn, 1) := by decide +kernel
def Q_rm1 (Z : State) (q1 : Int32) (q2 : Int32)  (h0 : Heap) (n0 : Nat) (v : Option Value) (h : Heap) (L : List Loc) : Prop := v = some (.int (own_max q1 q2)) ∧ Fr n0 L ∧ h = h0
theorem ef_rm1 (m : MethodId) (x0 : Int32) (x1 : Int32) : entryFrame m #[(.int x0), (.int x1)] 2 = mkF m 0 #[.val (.int x0), .val (.int x1)] [] := by first | (simp [entryFrame, mkF, argsToLocals, Value.category]; done) | rfl
set_option maxRecDepth 65536 in
set_option maxHeartbeats 40000000 in
theorem rm1 (l : Launch) (Z : State) (a0 : Array Value) (hw : ∀ d ∈ tables_1, d.before a0 Z = true) (ws : List Jvm.Cond) (q1 : Int32) (q2 : Int32)  (h0 : Heap) (n0 : Nat) (Z0 : n0 ≤ h0.size)  :
    MetFree l (⟨"java/lang/Math", "max", "(II)I"⟩ : MethodName) (head1 (Jvm.Cond.code (⟨"java/lang/Math", "max", "(II)I"⟩ : MethodName) jdk_29_method_65_code 2 (some .int) :: ws) ({ frames := 0, cells := 0, slots := 0, locals := 0 } : Room)) (fun a' U => a' = #[(.int q1), (.int q2)] ∧ Z.Warmed39 U.vm ∧ U.heap = h0) (fun _ _ _ _ _ => True) (fun _ U o U' => ∃ v L, o = .returned v ∧ Q_rm1 Z q1 q2 h0 n0 v U'.heap L ∧ FrameEnd U o U' L ({ frames := 0, cells := 0, slots := 0, locals := 0 } : Room).cells ({ frames := 0, cells := 0, slots := 0, locals := 0 } : Room).slots) := by
  refine MetFree.of_bodySF (Jvm.Free.JP.mathPlain rfl (by decide +kernel)) hisR ?_
  intro p e s m args below meth cd0 s₁ Bd hml0 hP hK
  obtain ⟨rfl, hZ, hh⟩ := hP
  have hx := Bd.exec
  have hby := Bd.bytes
  have hml : cd0.maxLocals = 2 := hml0
  have hown : s.vm.findClass "java/lang/Math" = some m.cls := findClass_of_methodNamed Bd.named
  have hnm := (name_of_methodNamed Bd.named Bd.method).1
  have X : Stand p l e ({ frames := 0, cells := 0, slots := 0, locals := 0 } : Room) s m #[(.int q1), (.int q2)] below meth cd0 s₁ [] 0 0 := Stand.of_body Bd
  have eh : s₁.heap = h0 := by rw [← hh, Bd.state]; rfl
  have N := Fr.nil n0
  have K : Keep h0 h0 [] := Keep.refl _ _
  have pre0 : ∀ t, Steps p.tables e below (s₁.setTop (mkF m 0 #[.val (.int q1), .val (.int q2)] [])) t → Steps p.tables e below (s₁.setTop (entryFrame m #[(.int q1), (.int q2)] 2)) t := fun t k => castTop (ef_rm1 m q1 q2) k
  have st : ∀ t, Steps p.tables e below (s₁.setTop (mkF m 0 #[.val (.int q1), .val (.int q2)] [])) t → Steps p.tables e below (s₁.setTop (mkF m 0 #[.val (.int q1), .val (.int q2)] [])) t := fun t k => k
  obtain ⟨r, hv_r, sx⟩ : ∃ (r : Int32), r = (if q1 < q2 then q2 else q1) ∧ ∀ t, Steps p.tables e below (s₁.setTop (mkF m 10 #[.val (.int q1), .val (.int q2)] [(.int r)])) t → Steps p.tables e below (s₁.setTop (mkF m 0 #[.val (.int q1), .val (.int q2)] [])) t := by
    by_cases hj1 : q1 < q2
    · refine ⟨q2, by rw [if_pos hj1], fun t k => ?_⟩
      show Steps p.tables e below (s₁.setTop (mkF m 0 #[.val (.int q1), .val (.int q2)] [])) _
      refine XS.iloadN X.here hx rfl (hb hby d1_0) rfl ?_
      show Steps p.tables e below (s₁.setTop (mkF m 1 #[.val (.int q1), .val (.int q2)] [(.int q1)])) _
      refine XS.iloadN X.here hx rfl (hb hby d1_1) rfl ?_
      show Steps p.tables e below (s₁.setTop (mkF m 2 #[.val (.int q1), .val (.int q2)] [(.int q2), (.int q1)])) _
      refine XS.icmpYes X.here hx rfl (pc0 := 2) (pc' := 9) rfl (hb hby d1_2) rfl (tlt hj1).1 (by decide) (by decide) ?_
      show Steps p.tables e below (s₁.setTop (mkF m 9 #[.val (.int q1), .val (.int q2)] [])) _
      refine XS.iloadN X.here hx rfl (hb hby d1_9) rfl ?_
      exact k
    · refine ⟨q1, by rw [if_neg hj1], fun t k => ?_⟩
      show Steps p.tables e below (s₁.setTop (mkF m 0 #[.val (.int q1), .val (.int q2)] [])) _
      refine XS.iloadN X.here hx rfl (hb hby d1_0) rfl ?_
      show Steps p.tables e below (s₁.setTop (mkF m 1 #[.val (.int q1), .val (.int q2)] [(.int q1)])) _
      refine XS.iloadN X.here hx rfl (hb hby d1_1) rfl ?_
      show Steps p.tables e below (s₁.setTop (mkF m 2 #[.val (.int q1), .val (.int q2)] [(.int q2), (.int q1)])) _
      refine XS.icmpNo X.here hx rfl (hb hby d1_2) rfl (flt hj1).1 ?_
      show Steps p.tables e below (s₁.setTop (mkF m 5 #[.val (.int q1), .val (.int q2)] [])) _
      refine XS.iloadN X.here hx rfl (hb hby d1_5) rfl ?_
      show Steps p.tables e below (s₁.setTop (mkF m 6 #[.val (.int q1), .val (.int q2)] [(.int q1)])) _
      refine XS.goto X.here hx rfl (pc0 := 6) (pc' := 10) rfl (hb hby d1_6) (by decide) (by decide) ?_
      exact k
  have st : ∀ t, Steps p.tables e below (s₁.setTop (mkF m 10 #[.val (.int q1), .val (.int q2)] [(.int r)])) t → Steps p.tables e below (s₁.setTop (mkF m 0 #[.val (.int q1), .val (.int q2)] [])) t := fun t k => st t (sx t k)
  obtain rfl : r = own_max q1 q2 := hv_r
  obtain ⟨fs_, hr, hrun, hended, hW, hsame⟩ := X.leave (v := some (.int (own_max q1 q2))) (fun h => by rw [Bd.returns] at h; cases h)
  refine ⟨_, _, pre0 _ (st _ ?_), hrun, hended, _, _, rfl, ?_, ⟨_, rfl⟩, hW, hsame.mono (by decide) (by decide)⟩
  · exact retI X hx Bd.returns (hb hby d1_10) hr
  · show Q_rm1 Z q1 q2 h0 n0 _ s₁.heap _
    rw [eh]
    exact ⟨rfl, N, rfl⟩
theorem d2_0 : decode prog_20_method_1_code 0 = .ok (.aload_n 0, 1) := by decide +kernel
theorem d2_1 : decode prog_20_method_1_code 1 = .ok (.invokespecial 1, 3) := by decide +kernel
theorem d2_4 : decode prog_20_method_1_code 4 = .ok (.iload_n 1, 1) := by decide +kernel
theorem d2_5 : decode prog_20_method_1_code 5 = .ok (.iconst 1, 1) := by decide +kernel
theorem d2_6 : decode prog_20_method_1_code 6 = .ok (.if_icmp .lt 8, 3) := by decide +kernel
theorem d2_9 : decode prog_20_method_1_code 9 = .ok (.iload_n 2, 1) := by decide +kernel
theorem d2_10 : decode prog_20_method_1_code 10 = .ok (.iconst 1, 1) := by decide +kernel
theorem d2_11 : decode prog_20_method_1_code 11 = .ok (.if_icmp .ge 18, 3) := by decide +kernel
theorem d2_29 : decode prog_20_method_1_code 29 = .ok (.aload_n 0, 1) := by decide +kernel
theorem d2_30 : decode prog_20_method_1_code 30 = .ok (.iload_n 1, 1) := by decide +kernel
theorem d2_31 : decode prog_20_method_1_code 31 = .ok (.putfield 16, 3) := by decide +kernel
theorem d2_34 : decode prog_20_method_1_code 34 = .ok (.aload_n 0, 1) := by decide +kernel
theorem d2_35 : decode prog_20_method_1_code 35 = .ok (.iload_n 2, 1) := by decide +kernel
theorem d2_36 : decode prog_20_method_1_code 36 = .ok (.putfield 22, 3) := by decide +kernel
theorem d2_39 : decode prog_20_method_1_code 39 = .ok (.return_, 1) := by decide +kernel
theorem own_pn2 : plainName "com/example/pretoria/pretoria/engine/Limits" = true := by first | (simp [plainName, overriddenIn]; done) | decide +kernel
def Q_rm2 (Z : State) (a : Addr) (r : Int32) (d : Int32)  (h0 : Heap) (n0 : Nat) (v : Option Value) (h : Heap) (L : List Loc) : Prop := v = none ∧ Fr n0 L ∧ Keep h0 h [a] ∧ Fld Z h a "com/example/pretoria/pretoria/engine/Limits" "requestBytes" "I" (.int r) ∧ Fld Z h a "com/example/pretoria/pretoria/engine/Limits" "depth" "I" (.int d)
theorem ef_rm2 (m : MethodId) (x0 : Addr) (x1 : Int32) (x2 : Int32) : entryFrame m #[(.ref x0), (.int x1), (.int x2)] 3 = mkF m 0 #[.val (.ref x0), .val (.int x1), .val (.int x2)] [] := by first | (simp [entryFrame, mkF, argsToLocals, Value.category]; done) | rfl
set_option maxRecDepth 65536 in
set_option maxHeartbeats 40000000 in
theorem rm2 (l : Launch) (Z : State) (a0 : Array Value) (hw : ∀ d ∈ tables_1, d.before a0 Z = true) (ws : List Jvm.Cond) (a : Addr) (r : Int32) (d : Int32)  (h0 : Heap) (n0 : Nat) (Z0 : n0 ≤ h0.size) (E_a : Exa Z h0 a "com/example/pretoria/pretoria/engine/Limits") (g_a : n0 ≤ a) (F_a_requestBytes : Fld Z h0 a "com/example/pretoria/pretoria/engine/Limits" "requestBytes" "I" (.int (0 : Int32))) (F_a_depth : Fld Z h0 a "com/example/pretoria/pretoria/engine/Limits" "depth" "I" (.int (0 : Int32))) (h1 : ¬ r < (1 : Int32)) (h2 : ¬ d < (1 : Int32)) :
    MetFree l (⟨"com/example/pretoria/pretoria/engine/Limits", "<init>", "(II)V"⟩ : MethodName) (head1 (Jvm.Cond.code (⟨"com/example/pretoria/pretoria/engine/Limits", "<init>", "(II)V"⟩ : MethodName) prog_20_method_1_code 3 none :: ws) ({ frames := 1, cells := 0, slots := 0, locals := 12 } : Room)) (fun a' U => a' = #[(.ref a), (.int r), (.int d)] ∧ Z.Warmed39 U.vm ∧ U.heap = h0) (fun _ _ _ _ _ => True) (fun _ U o U' => ∃ v L, o = .returned v ∧ Q_rm2 Z a r d h0 n0 v U'.heap L ∧ FrameEnd U o U' L ({ frames := 1, cells := 0, slots := 0, locals := 12 } : Room).cells ({ frames := 1, cells := 0, slots := 0, locals := 12 } : Room).slots) := by
  refine MetFree.of_bodySF (plainFor_of_name own_pn2) hisR ?_
  intro p e s m args below meth cd0 s₁ Bd hml0 hP hK
  obtain ⟨rfl, hZ, hh⟩ := hP
  have hx := Bd.exec
  have hby := Bd.bytes
  have hml : cd0.maxLocals = 3 := hml0
  have hown : s.vm.findClass "com/example/pretoria/pretoria/engine/Limits" = some m.cls := findClass_of_methodNamed Bd.named
  have hnm := (name_of_methodNamed Bd.named Bd.method).1
  have X : Stand p l e ({ frames := 1, cells := 0, slots := 0, locals := 12 } : Room) s m #[(.ref a), (.int r), (.int d)] below meth cd0 s₁ [] 0 0 := Stand.of_body Bd
  have eh : s₁.heap = h0 := by rw [← hh, Bd.state]; rfl
  have N := Fr.nil n0
  have K : Keep h0 h0 [a] := Keep.refl _ _
  have pre0 : ∀ t, Steps p.tables e below (s₁.setTop (mkF m 0 #[.val (.ref a), .val (.int r), .val (.int d)] [])) t → Steps p.tables e below (s₁.setTop (entryFrame m #[(.ref a), (.int r), (.int d)] 3)) t := fun t k => castTop (ef_rm2 m a r d) k
  have st : ∀ t, Steps p.tables e below (s₁.setTop (mkF m 0 #[.val (.ref a), .val (.int r), .val (.int d)] [])) t → Steps p.tables e below (s₁.setTop (mkF m 0 #[.val (.ref a), .val (.int r), .val (.int d)] [])) t := fun t k => k
  have st : ∀ t, Steps p.tables e below (s₁.setTop (mkF m 1 #[.val (.ref a), .val (.int r), .val (.int d)] [(.ref a)])) t → Steps p.tables e below (s₁.setTop (mkF m 0 #[.val (.ref a), .val (.int r), .val (.int d)] [])) t := fun t k => st t (by
      show Steps p.tables e below (s₁.setTop (mkF m 0 #[.val (.ref a), .val (.int r), .val (.int d)] [])) _
      refine XS.aloadN X.here hx rfl (hb hby d2_0) rfl rfl ?_
      exact k)
  obtain ⟨T1, X, eh, sx⟩ := initO X hx hZ hown (hw _ (List.mem_of_getElem? (i := 11) rfl)) (hw _ (List.mem_of_getElem? (i := 12) rfl)) (hw _ (List.mem_of_getElem? (i := 13) rfl)) eh (g := (mkF m 1 #[.val (.ref a), .val (.int r), .val (.int d)] [(.ref a)])) rfl (by rw [hml]; rfl) rfl (hb hby d2_1) (by decide) (W := 0) (by show 2 * 0 + _ ≤ _; exact Nat.le_of_eq rfl) (by decide)
  have st : ∀ t, Steps p.tables e below (T1.setTop (mkF m 4 #[.val (.ref a), .val (.int r), .val (.int d)] [])) t → Steps p.tables e below (s₁.setTop (mkF m 0 #[.val (.ref a), .val (.int r), .val (.int d)] [])) t := fun t k => st t (sx t k)
  have st : ∀ t, Steps p.tables e below (T1.setTop (mkF m 31 #[.val (.ref a), .val (.int r), .val (.int d)] [(.int r), (.ref a)])) t → Steps p.tables e below (s₁.setTop (mkF m 0 #[.val (.ref a), .val (.int r), .val (.int d)] [])) t := fun t k => st t (by
      show Steps p.tables e below (T1.setTop (mkF m 4 #[.val (.ref a), .val (.int r), .val (.int d)] [])) _
      refine XS.iloadN X.here hx rfl (hb hby d2_4) rfl ?_
      show Steps p.tables e below (T1.setTop (mkF m 5 #[.val (.ref a), .val (.int r), .val (.int d)] [(.int r)])) _
      refine XS.iconst X.here hx rfl (hb hby d2_5) ?_
      show Steps p.tables e below (T1.setTop (mkF m 6 #[.val (.ref a), .val (.int r), .val (.int d)] [(.int (1 : Int32)), (.int r)])) _
      refine XS.icmpNo X.here hx rfl (hb hby d2_6) rfl (flt h1).1 ?_
      show Steps p.tables e below (T1.setTop (mkF m 9 #[.val (.ref a), .val (.int r), .val (.int d)] [])) _
      refine XS.iloadN X.here hx rfl (hb hby d2_9) rfl ?_
      show Steps p.tables e below (T1.setTop (mkF m 10 #[.val (.ref a), .val (.int r), .val (.int d)] [(.int d)])) _
      refine XS.iconst X.here hx rfl (hb hby d2_10) ?_
      show Steps p.tables e below (T1.setTop (mkF m 11 #[.val (.ref a), .val (.int r), .val (.int d)] [(.int (1 : Int32)), (.int d)])) _
      refine XS.icmpYes X.here hx rfl (pc0 := 11) (pc' := 29) rfl (hb hby d2_11) rfl (flt h2).2.1 (by decide) (by decide) ?_
      show Steps p.tables e below (T1.setTop (mkF m 29 #[.val (.ref a), .val (.int r), .val (.int d)] [])) _
      refine XS.aloadN X.here hx rfl (hb hby d2_29) rfl rfl ?_
      show Steps p.tables e below (T1.setTop (mkF m 30 #[.val (.ref a), .val (.int r), .val (.int d)] [(.ref a)])) _
      refine XS.iloadN X.here hx rfl (hb hby d2_30) rfl ?_
      exact k)
  obtain ⟨T2, h3, X, eh, W4, sx⟩ := putF X hx hZ hown (host := "") (Or.inl (hw _ (List.mem_of_getElem? (i := 14) rfl))) Via.refl eh F_a_requestBytes E_a (Or.inr ⟨(hw _ (List.mem_of_getElem? (i := 15) rfl)), rfl, hnm⟩) (hw _ (List.mem_of_getElem? (i := 6) rfl)) (ty := .int) (by decide) rfl rfl (g := (mkF m 31 #[.val (.ref a), .val (.int r), .val (.int d)] [(.int r), (.ref a)])) rfl rfl (hb hby d2_31)
  have st : ∀ t, Steps p.tables e below (T2.setTop (mkF m 34 #[.val (.ref a), .val (.int r), .val (.int d)] [])) t → Steps p.tables e below (s₁.setTop (mkF m 0 #[.val (.ref a), .val (.int r), .val (.int d)] [])) t := fun t k => st t (sx t k)
  have F_a_requestBytes := F_a_requestBytes.same W4
  have F_a_depth := F_a_depth.other W4 (Or.inr (slot_ne (Or.inr (hw _ (List.mem_of_getElem? (i := 17) rfl))) (Or.inr (hw _ (List.mem_of_getElem? (i := 15) rfl))) (by decide) (t := .int) (t' := .int) (by decide) (by decide)))
  have E_a := E_a.wr W4
  have K := K.wr W4 (Or.inl (List.mem_of_getElem? (i := 0) rfl))
  have Z0 := Nat.le_trans Z0 (Keep.of_wr W4).1
  have N := Fr.snoc X N g_a
  have st : ∀ t, Steps p.tables e below (T2.setTop (mkF m 36 #[.val (.ref a), .val (.int r), .val (.int d)] [(.int d), (.ref a)])) t → Steps p.tables e below (s₁.setTop (mkF m 0 #[.val (.ref a), .val (.int r), .val (.int d)] [])) t := fun t k => st t (by
      show Steps p.tables e below (T2.setTop (mkF m 34 #[.val (.ref a), .val (.int r), .val (.int d)] [])) _
      refine XS.aloadN X.here hx rfl (hb hby d2_34) rfl rfl ?_
      show Steps p.tables e below (T2.setTop (mkF m 35 #[.val (.ref a), .val (.int r), .val (.int d)] [(.ref a)])) _
      refine XS.iloadN X.here hx rfl (hb hby d2_35) rfl ?_
      exact k)
  obtain ⟨T5, h6, X, eh, W7, sx⟩ := putF X hx hZ hown (host := "") (Or.inl (hw _ (List.mem_of_getElem? (i := 16) rfl))) Via.refl eh F_a_depth E_a (Or.inr ⟨(hw _ (List.mem_of_getElem? (i := 17) rfl)), rfl, hnm⟩) (hw _ (List.mem_of_getElem? (i := 6) rfl)) (ty := .int) (by decide) rfl rfl (g := (mkF m 36 #[.val (.ref a), .val (.int r), .val (.int d)] [(.int d), (.ref a)])) rfl rfl (hb hby d2_36)
  have st : ∀ t, Steps p.tables e below (T5.setTop (mkF m 39 #[.val (.ref a), .val (.int r), .val (.int d)] [])) t → Steps p.tables e below (s₁.setTop (mkF m 0 #[.val (.ref a), .val (.int r), .val (.int d)] [])) t := fun t k => st t (sx t k)
  have F_a_requestBytes := F_a_requestBytes.other W7 (Or.inr (slot_ne (Or.inr (hw _ (List.mem_of_getElem? (i := 15) rfl))) (Or.inr (hw _ (List.mem_of_getElem? (i := 17) rfl))) (by decide) (t := .int) (t' := .int) (by decide) (by decide)))
  have F_a_depth := F_a_depth.same W7
  have E_a := E_a.wr W7
  have K := K.wr W7 (Or.inl (List.mem_of_getElem? (i := 0) rfl))
  have Z0 := Nat.le_trans Z0 (Keep.of_wr W7).1
  have N := Fr.snoc X N g_a
  obtain ⟨fs_, hr, hrun, hended, hW, hsame⟩ := X.leave (v := none) (fun _ => rfl)
  refine ⟨_, _, pre0 _ (st _ ?_), hrun, hended, _, _, rfl, ?_, ⟨_, rfl⟩, hW, hsame.mono (by decide) (by decide)⟩
  · exact X.returnOut hx Bd.returns (hb hby d2_39) hr
  · show Q_rm2 Z a r d h0 n0 _ T5.heap _
    rw [eh]
    exact ⟨rfl, N, K, F_a_requestBytes, F_a_depth⟩
theorem d4_0 : decode prog_20_method_4_code 0 = .ok (.lload_n 1, 1) := by decide +kernel
theorem d4_1 : decode prog_20_method_4_code 1 = .ok (.aload_n 0, 1) := by decide +kernel
theorem d4_2 : decode prog_20_method_4_code 2 = .ok (.getfield 16, 3) := by decide +kernel
theorem d4_5 : decode prog_20_method_4_code 5 = .ok (.i2l, 1) := by decide +kernel
theorem d4_6 : decode prog_20_method_4_code 6 = .ok (.lcmp, 1) := by decide +kernel
theorem d4_7 : decode prog_20_method_4_code 7 = .ok (.ifCond .gt 7, 3) := by decide +kernel
theorem d4_10 : decode prog_20_method_4_code 10 = .ok (.iconst 1, 1) := by decide +kernel
theorem d4_11 : decode prog_20_method_4_code 11 = .ok (.goto 4, 3) := by decide +kernel
theorem d4_14 : decode prog_20_method_4_code 14 = .ok (.iconst 0, 1) := by decide +kernel
theorem d4_15 : decode prog_20_method_4_code 15 = .ok (.ireturn, 1) := by decide +kernel
def Q_rm4 (Z : State) (a : Addr) (b : Int64) (r : Int32) (h0 : Heap) (n0 : Nat) (v : Option Value) (h : Heap) (L : List Loc) : Prop := v = some (.int (own_adm b r)) ∧ Fr n0 L ∧ h = h0
theorem ef_rm4 (m : MethodId) (x0 : Addr) (x1 : Int64) : entryFrame m #[(.ref x0), (.long x1)] 3 = mkF m 0 #[.val (.ref x0), .val (.long x1), .second] [] := by first | (simp [entryFrame, mkF, argsToLocals, Value.category]; done) | rfl
set_option maxRecDepth 65536 in
set_option maxHeartbeats 40000000 in
theorem rm4 (l : Launch) (Z : State) (a0 : Array Value) (hw : ∀ d ∈ tables_1, d.before a0 Z = true) (ws : List Jvm.Cond) (a : Addr) (b : Int64) (r : Int32) (h0 : Heap) (n0 : Nat) (Z0 : n0 ≤ h0.size) (F_a_requestBytes : Fld Z h0 a "com/example/pretoria/pretoria/engine/Limits" "requestBytes" "I" (.int r)) :
    MetFree l (⟨"com/example/pretoria/pretoria/engine/Limits", "admits", "(J)Z"⟩ : MethodName) (head1 (Jvm.Cond.code (⟨"com/example/pretoria/pretoria/engine/Limits", "admits", "(J)Z"⟩ : MethodName) prog_20_method_4_code 3 (some .boolean) :: ws) ({ frames := 0, cells := 0, slots := 0, locals := 0 } : Room)) (fun a' U => a' = #[(.ref a), (.long b)] ∧ Z.Warmed39 U.vm ∧ U.heap = h0) (fun _ _ _ _ _ => True) (fun _ U o U' => ∃ v L, o = .returned v ∧ Q_rm4 Z a b r h0 n0 v U'.heap L ∧ FrameEnd U o U' L ({ frames := 0, cells := 0, slots := 0, locals := 0 } : Room).cells ({ frames := 0, cells := 0, slots := 0, locals := 0 } : Room).slots) := by
  refine MetFree.of_bodySF (plainFor_of_name own_pn2) hisR ?_
  intro p e s m args below meth cd0 s₁ Bd hml0 hP hK
  obtain ⟨rfl, hZ, hh⟩ := hP
  have hx := Bd.exec
  have hby := Bd.bytes
  have hml : cd0.maxLocals = 3 := hml0
  have hown : s.vm.findClass "com/example/pretoria/pretoria/engine/Limits" = some m.cls := findClass_of_methodNamed Bd.named
  have hnm := (name_of_methodNamed Bd.named Bd.method).1
  have X : Stand p l e ({ frames := 0, cells := 0, slots := 0, locals := 0 } : Room) s m #[(.ref a), (.long b)] below meth cd0 s₁ [] 0 0 := Stand.of_body Bd
  have eh : s₁.heap = h0 := by rw [← hh, Bd.state]; rfl
  have N := Fr.nil n0
  have K : Keep h0 h0 [] := Keep.refl _ _
  have pre0 : ∀ t, Steps p.tables e below (s₁.setTop (mkF m 0 #[.val (.ref a), .val (.long b), .second] [])) t → Steps p.tables e below (s₁.setTop (entryFrame m #[(.ref a), (.long b)] 3)) t := fun t k => castTop (ef_rm4 m a b) k
  have st : ∀ t, Steps p.tables e below (s₁.setTop (mkF m 0 #[.val (.ref a), .val (.long b), .second] [])) t → Steps p.tables e below (s₁.setTop (mkF m 0 #[.val (.ref a), .val (.long b), .second] [])) t := fun t k => k
  have st : ∀ t, Steps p.tables e below (s₁.setTop (mkF m 2 #[.val (.ref a), .val (.long b), .second] [(.ref a), (.long b)])) t → Steps p.tables e below (s₁.setTop (mkF m 0 #[.val (.ref a), .val (.long b), .second] [])) t := fun t k => st t (by
      show Steps p.tables e below (s₁.setTop (mkF m 0 #[.val (.ref a), .val (.long b), .second] [])) _
      refine XS.lloadN X.here hx rfl (hb hby d4_0) rfl ?_
      show Steps p.tables e below (s₁.setTop (mkF m 1 #[.val (.ref a), .val (.long b), .second] [(.long b)])) _
      refine XS.aloadN X.here hx rfl (hb hby d4_1) rfl rfl ?_
      exact k)
  obtain ⟨T1, X, eh, sx⟩ := getF X hx hZ hown (host := "") (Or.inl (hw _ (List.mem_of_getElem? (i := 14) rfl))) Via.refl eh F_a_requestBytes (g := (mkF m 2 #[.val (.ref a), .val (.long b), .second] [(.ref a), (.long b)])) rfl rfl (hb hby d4_2)
  have st : ∀ t, Steps p.tables e below (T1.setTop (mkF m 5 #[.val (.ref a), .val (.long b), .second] [(.int r), (.long b)])) t → Steps p.tables e below (s₁.setTop (mkF m 0 #[.val (.ref a), .val (.long b), .second] [])) t := fun t k => st t (sx t k)
  have st : ∀ t, Steps p.tables e below (T1.setTop (mkF m 7 #[.val (.ref a), .val (.long b), .second] [(.int (lcmpW b (r.toInt64)))])) t → Steps p.tables e below (s₁.setTop (mkF m 0 #[.val (.ref a), .val (.long b), .second] [])) t := fun t k => st t (by
      show Steps p.tables e below (T1.setTop (mkF m 5 #[.val (.ref a), .val (.long b), .second] [(.int r), (.long b)])) _
      refine XS.i2l X.here hx rfl (hb hby d4_5) rfl ?_
      show Steps p.tables e below (T1.setTop (mkF m 6 #[.val (.ref a), .val (.long b), .second] [(.long (r.toInt64)), (.long b)])) _
      refine XS.lcmp X.here hx rfl (hb hby d4_6) rfl ?_
      exact k)
  by_cases ht7 : (r.toInt64) < b
  · have st : ∀ t, Steps p.tables e below (T1.setTop (mkF m 15 #[.val (.ref a), .val (.long b), .second] [(.int (0 : Int32))])) t → Steps p.tables e below (s₁.setTop (mkF m 0 #[.val (.ref a), .val (.long b), .second] [])) t := fun t k => st t (by
        show Steps p.tables e below (T1.setTop (mkF m 7 #[.val (.ref a), .val (.long b), .second] [(.int (lcmpW b (r.toInt64)))])) _
        refine XS.ifYes X.here hx rfl (pc0 := 7) (pc' := 14) rfl (hb hby d4_7) rfl ((if0 _ _).trans (tlt ((lw_gt b (r.toInt64)).mpr ht7)).2.2.1) (by decide) (by decide) ?_
        show Steps p.tables e below (T1.setTop (mkF m 14 #[.val (.ref a), .val (.long b), .second] [])) _
        refine XS.iconst X.here hx rfl (hb hby d4_14) ?_
        exact k)
    obtain ⟨fs_, hr, hrun, hended, hW, hsame⟩ := X.leave (v := some (.int (0 : Int32))) (fun h => by rw [Bd.returns] at h; cases h)
    refine ⟨_, _, pre0 _ (st _ ?_), hrun, hended, _, _, rfl, ?_, ⟨_, rfl⟩, hW, hsame.mono (by decide) (by decide)⟩
    · exact retN X hx (t := .boolean) Bd.returns (by simp) (hb hby d4_15) hr
    · show Q_rm4 Z a b r h0 n0 _ T1.heap _
      rw [eh]
      exact ⟨by rw [own_adm, if_pos ht7], N, rfl⟩
  · have st : ∀ t, Steps p.tables e below (T1.setTop (mkF m 15 #[.val (.ref a), .val (.long b), .second] [(.int (1 : Int32))])) t → Steps p.tables e below (s₁.setTop (mkF m 0 #[.val (.ref a), .val (.long b), .second] [])) t := fun t k => st t (by
        show Steps p.tables e below (T1.setTop (mkF m 7 #[.val (.ref a), .val (.long b), .second] [(.int (lcmpW b (r.toInt64)))])) _
        refine XS.ifNo X.here hx rfl (hb hby d4_7) rfl ((if0 _ _).trans (flt (fun q => ht7 ((lw_gt b (r.toInt64)).mp q))).2.2.1) ?_
        show Steps p.tables e below (T1.setTop (mkF m 10 #[.val (.ref a), .val (.long b), .second] [])) _
        refine XS.iconst X.here hx rfl (hb hby d4_10) ?_
        show Steps p.tables e below (T1.setTop (mkF m 11 #[.val (.ref a), .val (.long b), .second] [(.int (1 : Int32))])) _
        refine XS.goto X.here hx rfl (pc0 := 11) (pc' := 15) rfl (hb hby d4_11) (by decide) (by decide) ?_
        exact k)
    obtain ⟨fs_, hr, hrun, hended, hW, hsame⟩ := X.leave (v := some (.int (1 : Int32))) (fun h => by rw [Bd.returns] at h; cases h)
    refine ⟨_, _, pre0 _ (st _ ?_), hrun, hended, _, _, rfl, ?_, ⟨_, rfl⟩, hW, hsame.mono (by decide) (by decide)⟩
    · exact retN X hx (t := .boolean) Bd.returns (by simp) (hb hby d4_15) hr
    · show Q_rm4 Z a b r h0 n0 _ T1.heap _
      rw [eh]
      exact ⟨by rw [own_adm, if_neg ht7], N, rfl⟩
theorem d5_0 : decode prog_20_method_2_code 0 = .ok (.aload_n 0, 1) := by decide +kernel
theorem d5_1 : decode prog_20_method_2_code 1 = .ok (.getfield 16, 3) := by decide +kernel
theorem d5_4 : decode prog_20_method_2_code 4 = .ok (.ireturn, 1) := by decide +kernel
def Q_rm5 (Z : State) (a : Addr) (r : Int32) (h0 : Heap) (n0 : Nat) (v : Option Value) (h : Heap) (L : List Loc) : Prop := v = some (.int r) ∧ Fr n0 L ∧ h = h0
theorem ef_rm5 (m : MethodId) (x0 : Addr) : entryFrame m #[(.ref x0)] 1 = mkF m 0 #[.val (.ref x0)] [] := by first | (simp [entryFrame, mkF, argsToLocals, Value.category]; done) | rfl
set_option maxRecDepth 65536 in
set_option maxHeartbeats 40000000 in
theorem rm5 (l : Launch) (Z : State) (a0 : Array Value) (hw : ∀ d ∈ tables_1, d.before a0 Z = true) (ws : List Jvm.Cond) (a : Addr) (r : Int32) (h0 : Heap) (n0 : Nat) (Z0 : n0 ≤ h0.size) (F_a_requestBytes : Fld Z h0 a "com/example/pretoria/pretoria/engine/Limits" "requestBytes" "I" (.int r)) :
    MetFree l (⟨"com/example/pretoria/pretoria/engine/Limits", "requestBytes", "()I"⟩ : MethodName) (head1 (Jvm.Cond.code (⟨"com/example/pretoria/pretoria/engine/Limits", "requestBytes", "()I"⟩ : MethodName) prog_20_method_2_code 1 (some .int) :: ws) ({ frames := 0, cells := 0, slots := 0, locals := 0 } : Room)) (fun a' U => a' = #[(.ref a)] ∧ Z.Warmed39 U.vm ∧ U.heap = h0) (fun _ _ _ _ _ => True) (fun _ U o U' => ∃ v L, o = .returned v ∧ Q_rm5 Z a r h0 n0 v U'.heap L ∧ FrameEnd U o U' L ({ frames := 0, cells := 0, slots := 0, locals := 0 } : Room).cells ({ frames := 0, cells := 0, slots := 0, locals := 0 } : Room).slots) := by
  refine MetFree.of_bodySF (plainFor_of_name own_pn2) hisR ?_
  intro p e s m args below meth cd0 s₁ Bd hml0 hP hK
  obtain ⟨rfl, hZ, hh⟩ := hP
  have hx := Bd.exec
  have hby := Bd.bytes
  have hml : cd0.maxLocals = 1 := hml0
  have hown : s.vm.findClass "com/example/pretoria/pretoria/engine/Limits" = some m.cls := findClass_of_methodNamed Bd.named
  have hnm := (name_of_methodNamed Bd.named Bd.method).1
  have X : Stand p l e ({ frames := 0, cells := 0, slots := 0, locals := 0 } : Room) s m #[(.ref a)] below meth cd0 s₁ [] 0 0 := Stand.of_body Bd
  have eh : s₁.heap = h0 := by rw [← hh, Bd.state]; rfl
  have N := Fr.nil n0
  have K : Keep h0 h0 [] := Keep.refl _ _
  have pre0 : ∀ t, Steps p.tables e below (s₁.setTop (mkF m 0 #[.val (.ref a)] [])) t → Steps p.tables e below (s₁.setTop (entryFrame m #[(.ref a)] 1)) t := fun t k => castTop (ef_rm5 m a) k
  have st : ∀ t, Steps p.tables e below (s₁.setTop (mkF m 0 #[.val (.ref a)] [])) t → Steps p.tables e below (s₁.setTop (mkF m 0 #[.val (.ref a)] [])) t := fun t k => k
  have st : ∀ t, Steps p.tables e below (s₁.setTop (mkF m 1 #[.val (.ref a)] [(.ref a)])) t → Steps p.tables e below (s₁.setTop (mkF m 0 #[.val (.ref a)] [])) t := fun t k => st t (by
      show Steps p.tables e below (s₁.setTop (mkF m 0 #[.val (.ref a)] [])) _
      refine XS.aloadN X.here hx rfl (hb hby d5_0) rfl rfl ?_
      exact k)
  obtain ⟨T1, X, eh, sx⟩ := getF X hx hZ hown (host := "") (Or.inl (hw _ (List.mem_of_getElem? (i := 14) rfl))) Via.refl eh F_a_requestBytes (g := (mkF m 1 #[.val (.ref a)] [(.ref a)])) rfl rfl (hb hby d5_1)
  have st : ∀ t, Steps p.tables e below (T1.setTop (mkF m 4 #[.val (.ref a)] [(.int r)])) t → Steps p.tables e below (s₁.setTop (mkF m 0 #[.val (.ref a)] [])) t := fun t k => st t (sx t k)
  obtain ⟨fs_, hr, hrun, hended, hW, hsame⟩ := X.leave (v := some (.int r)) (fun h => by rw [Bd.returns] at h; cases h)
  refine ⟨_, _, pre0 _ (st _ ?_), hrun, hended, _, _, rfl, ?_, ⟨_, rfl⟩, hW, hsame.mono (by decide) (by decide)⟩
  · exact retI X hx Bd.returns (hb hby d5_4) hr
  · show Q_rm5 Z a r h0 n0 _ T1.heap _
    rw [eh]
    exact ⟨rfl, N, rfl⟩
theorem own_pn0 : plainName "com/example/pretoria/pretoria/engine/LimitsAdmitsPinLaw" = true := by first | (simp [plainName, overriddenIn]; done) | decide +kernel
def Q_rm0 (Z : State) (x1 : Int32) (x2 : Int32) (b : Int64) (x3 : Int32)  (h0 : Heap) (n0 : Nat) (v : Option Value) (h : Heap) (L : List Loc) : Prop := v = some (.int 1) ∧ Fr n0 L
theorem own_pd0 : parseMethodDescriptor "(II)I" = some ⟨[.int, .int], some .int⟩ := by decide +kernel
theorem own_pd1 : parseMethodDescriptor "(II)V" = some ⟨[.int, .int], none⟩ := by decide +kernel
theorem own_pd2 : parseMethodDescriptor "(J)Z" = some ⟨[.long], some .boolean⟩ := by decide +kernel
theorem own_pd3 : parseMethodDescriptor "()I" = some ⟨[], some .int⟩ := by decide +kernel
theorem ef_rm0 (m : MethodId) (x0 : Int32) (x1 : Int32) (x2 : Int64) (x3 : Int32) : entryFrame m #[(.int x0), (.int x1), (.long x2), (.int x3)] maxLocals = mkF m 0 #[.val (.int x0), .val (.int x1), .val (.long x2), .second, .val (.int x3), .unset, .unset, .unset, .unset, .unset, .unset, .unset, .unset, .unset, .unset] [] := by first | (simp [entryFrame, mkF, argsToLocals, Value.category, maxLocals]; done) | rfl
set_option maxRecDepth 65536 in
set_option maxHeartbeats 40000000 in
theorem rm0 (l : Launch) (Z : State) (a0 : Array Value) (hw : ∀ d ∈ tables_1, d.before a0 Z = true) (ws : List Jvm.Cond) (x1 : Int32) (x2 : Int32) (b : Int64) (x3 : Int32)  (h0 : Heap) (n0 : Nat) (Z0 : n0 ≤ h0.size)  :
    MetFree l x (head1 (Jvm.Cond.code x code maxLocals ret :: ws) room_1) (fun a' U => a' = #[(.int x1), (.int x2), (.long b), (.int x3)] ∧ Z.Warmed39 U.vm ∧ U.heap = h0) (fun _ _ _ _ _ => True) (fun _ U o U' => ∃ v L, o = .returned v ∧ Q_rm0 Z x1 x2 b x3 h0 n0 v U'.heap L ∧ FrameEnd U o U' L room_1.cells room_1.slots) := by
  refine MetFree.of_bodySF (plainFor_of_name own_pn0) hisR ?_
  intro p e s m args below meth cd0 s₁ Bd hml0 hP hK
  obtain ⟨rfl, hZ, hh⟩ := hP
  have hx := Bd.exec
  have hby := Bd.bytes
  have hml : cd0.maxLocals = 15 := hml0
  have hown : s.vm.findClass "com/example/pretoria/pretoria/engine/LimitsAdmitsPinLaw" = some m.cls := findClass_of_methodNamed Bd.named
  have hnm := (name_of_methodNamed Bd.named Bd.method).1
  have X : Stand p l e room_1 s m #[(.int x1), (.int x2), (.long b), (.int x3)] below meth cd0 s₁ [] 0 0 := Stand.of_body Bd
  have eh : s₁.heap = h0 := by rw [← hh, Bd.state]; rfl
  have N := Fr.nil n0
  have K : Keep h0 h0 [] := Keep.refl _ _
  have pre0 : ∀ t, Steps p.tables e below (s₁.setTop (mkF m 0 #[.val (.int x1), .val (.int x2), .val (.long b), .second, .val (.int x3), .unset, .unset, .unset, .unset, .unset, .unset, .unset, .unset, .unset, .unset] [])) t → Steps p.tables e below (s₁.setTop (entryFrame m #[(.int x1), (.int x2), (.long b), (.int x3)] maxLocals)) t := fun t k => castTop (ef_rm0 m x1 x2 b x3) k
  have st : ∀ t, Steps p.tables e below (s₁.setTop (mkF m 0 #[.val (.int x1), .val (.int x2), .val (.long b), .second, .val (.int x3), .unset, .unset, .unset, .unset, .unset, .unset, .unset, .unset, .unset, .unset] [])) t → Steps p.tables e below (s₁.setTop (mkF m 0 #[.val (.int x1), .val (.int x2), .val (.long b), .second, .val (.int x3), .unset, .unset, .unset, .unset, .unset, .unset, .unset, .unset, .unset, .unset] [])) t := fun t k => k
  have st : ∀ t, Steps p.tables e below (s₁.setTop (mkF m 5 #[.val (.int x1), .val (.int x2), .val (.long b), .second, .val (.int x3), .unset, .unset, .unset, .unset, .unset, .unset, .unset, .unset, .unset, .unset] [(.int (x1 &&& (2147483647 : Int32))), (.int (1 : Int32))])) t → Steps p.tables e below (s₁.setTop (mkF m 0 #[.val (.int x1), .val (.int x2), .val (.long b), .second, .val (.int x3), .unset, .unset, .unset, .unset, .unset, .unset, .unset, .unset, .unset, .unset] [])) t := fun t k => st t (by
      show Steps p.tables e below (s₁.setTop (mkF m 0 #[.val (.int x1), .val (.int x2), .val (.long b), .second, .val (.int x3), .unset, .unset, .unset, .unset, .unset, .unset, .unset, .unset, .unset, .unset] [])) _
      refine XS.iconst X.here hx rfl (hb hby at_0) ?_
      show Steps p.tables e below (s₁.setTop (mkF m 1 #[.val (.int x1), .val (.int x2), .val (.long b), .second, .val (.int x3), .unset, .unset, .unset, .unset, .unset, .unset, .unset, .unset, .unset, .unset] [(.int (1 : Int32))])) _
      refine XS.iloadN X.here hx rfl (hb hby at_1) rfl ?_
      show Steps p.tables e below (s₁.setTop (mkF m 2 #[.val (.int x1), .val (.int x2), .val (.long b), .second, .val (.int x3), .unset, .unset, .unset, .unset, .unset, .unset, .unset, .unset, .unset, .unset] [(.int x1), (.int (1 : Int32))])) _
      refine X.ldcInt hx hown (mvT hZ (hw _ (List.mem_of_getElem? (i := 0) rfl))) (g := (mkF m 2 #[.val (.int x1), .val (.int x2), .val (.long b), .second, .val (.int x3), .unset, .unset, .unset, .unset, .unset, .unset, .unset, .unset, .unset, .unset] [(.int x1), (.int (1 : Int32))])) rfl (hb hby at_2) _ ?_
      show Steps p.tables e below (s₁.setTop (mkF m 4 #[.val (.int x1), .val (.int x2), .val (.long b), .second, .val (.int x3), .unset, .unset, .unset, .unset, .unset, .unset, .unset, .unset, .unset, .unset] [(.int (2147483647 : Int32)), (.int x1), (.int (1 : Int32))])) _
      refine XS.iand X.here hx rfl (hb hby at_4) rfl ?_
      exact k)
  obtain ⟨_, _, ⟨T2, L1, k1, n1⟩, -, X, ⟨Lc1, hQ, l1, y1, z1⟩, sx⟩ := Jvm.LawKit.callS X hx (y := (⟨"java/lang/Math", "max", "(II)I"⟩ : MethodName)) hown (mvT hZ (hw _ (List.mem_of_getElem? (i := 1) rfl))) (mvT hZ (hw _ (List.mem_of_getElem? (i := 2) rfl))) (mvT hZ (hw _ (List.mem_of_getElem? (i := 3) rfl))) (mvT hZ (hw _ (List.mem_of_getElem? (i := 4) rfl))) (by decide) (backOf (W := 0) (rm1 l Z a0 hw [] (1 : Int32) (x1 &&& (2147483647 : Int32))  h0 n0 Z0 ) hZ (hw _ (List.mem_of_getElem? (i := 4) rfl)) (hw _ (List.mem_of_getElem? (i := 3) rfl)) (by decide) (by decide)) (g := (mkF m 5 #[.val (.int x1), .val (.int x2), .val (.long b), .second, .val (.int x3), .unset, .unset, .unset, .unset, .unset, .unset, .unset, .unset, .unset, .unset] [(.int (x1 &&& (2147483647 : Int32))), (.int (1 : Int32))])) rfl (by rw [hml]; rfl) (argsL := [(.int (1 : Int32)), (.int (x1 &&& (2147483647 : Int32)))]) (rest := []) (lenOf own_pd0 rfl) rfl (by show 2 * 0 + _ ≤ _; exact Nat.le_of_eq rfl) (hb hby at_5) (fun _ _ => ⟨rfl, eh, (by decide : 0 + 0 ≤ _), (by decide : 0 + 0 ≤ _)⟩)
  dsimp only [Pt.U, Pt.locs, Pt.cells, Pt.slots] at X l1 y1 z1 sx hQ
  subst l1 y1 z1
  obtain ⟨rfl, Nc, hsame_⟩ := hQ
  have st : ∀ t, Steps p.tables e below (T2.setTop (mkF m 8 #[.val (.int x1), .val (.int x2), .val (.long b), .second, .val (.int x3), .unset, .unset, .unset, .unset, .unset, .unset, .unset, .unset, .unset, .unset] [(.int (own_max (1 : Int32) (x1 &&& (2147483647 : Int32))))])) t → Steps p.tables e below (s₁.setTop (mkF m 0 #[.val (.int x1), .val (.int x2), .val (.long b), .second, .val (.int x3), .unset, .unset, .unset, .unset, .unset, .unset, .unset, .unset, .unset, .unset] [])) t := fun t k => st t (sx t k)
  have N := Fr.app N Nc
  have eh : T2.heap = h0 := hsame_
  obtain ⟨r, hr1⟩ : ∃ z, z = (own_max (1 : Int32) (x1 &&& (2147483647 : Int32))) := ⟨_, rfl⟩
  rw [← hr1] at st
  have h1r : ¬ r < (1 : Int32) := by rw [hr1]; exact own_one _
  have st : ∀ t, Steps p.tables e below (T2.setTop (mkF m 15 #[.val (.int x1), .val (.int x2), .val (.long b), .second, .val (.int x3), .val (.int r), .unset, .unset, .unset, .unset, .unset, .unset, .unset, .unset, .unset] [(.int (x2 &&& (2147483647 : Int32))), (.int (1 : Int32))])) t → Steps p.tables e below (s₁.setTop (mkF m 0 #[.val (.int x1), .val (.int x2), .val (.long b), .second, .val (.int x3), .unset, .unset, .unset, .unset, .unset, .unset, .unset, .unset, .unset, .unset] [])) t := fun t k => st t (by
      show Steps p.tables e below (T2.setTop (mkF m 8 #[.val (.int x1), .val (.int x2), .val (.long b), .second, .val (.int x3), .unset, .unset, .unset, .unset, .unset, .unset, .unset, .unset, .unset, .unset] [(.int r)])) _
      refine XS.istore X.here hx rfl (hb hby at_8) rfl (l' := #[.val (.int x1), .val (.int x2), .val (.long b), .second, .val (.int x3), .val (.int r), .unset, .unset, .unset, .unset, .unset, .unset, .unset, .unset, .unset]) rfl ?_
      show Steps p.tables e below (T2.setTop (mkF m 10 #[.val (.int x1), .val (.int x2), .val (.long b), .second, .val (.int x3), .val (.int r), .unset, .unset, .unset, .unset, .unset, .unset, .unset, .unset, .unset] [])) _
      refine XS.iconst X.here hx rfl (hb hby at_10) ?_
      show Steps p.tables e below (T2.setTop (mkF m 11 #[.val (.int x1), .val (.int x2), .val (.long b), .second, .val (.int x3), .val (.int r), .unset, .unset, .unset, .unset, .unset, .unset, .unset, .unset, .unset] [(.int (1 : Int32))])) _
      refine XS.iloadN X.here hx rfl (hb hby at_11) rfl ?_
      show Steps p.tables e below (T2.setTop (mkF m 12 #[.val (.int x1), .val (.int x2), .val (.long b), .second, .val (.int x3), .val (.int r), .unset, .unset, .unset, .unset, .unset, .unset, .unset, .unset, .unset] [(.int x2), (.int (1 : Int32))])) _
      refine X.ldcInt hx hown (mvT hZ (hw _ (List.mem_of_getElem? (i := 0) rfl))) (g := (mkF m 12 #[.val (.int x1), .val (.int x2), .val (.long b), .second, .val (.int x3), .val (.int r), .unset, .unset, .unset, .unset, .unset, .unset, .unset, .unset, .unset] [(.int x2), (.int (1 : Int32))])) rfl (hb hby at_12) _ ?_
      show Steps p.tables e below (T2.setTop (mkF m 14 #[.val (.int x1), .val (.int x2), .val (.long b), .second, .val (.int x3), .val (.int r), .unset, .unset, .unset, .unset, .unset, .unset, .unset, .unset, .unset] [(.int (2147483647 : Int32)), (.int x2), (.int (1 : Int32))])) _
      refine XS.iand X.here hx rfl (hb hby at_14) rfl ?_
      exact k)
  obtain ⟨_, _, ⟨T4, L3, k3, n3⟩, -, X, ⟨Lc3, hQ, l3, y3, z3⟩, sx⟩ := Jvm.LawKit.callS X hx (y := (⟨"java/lang/Math", "max", "(II)I"⟩ : MethodName)) hown (mvT hZ (hw _ (List.mem_of_getElem? (i := 1) rfl))) (mvT hZ (hw _ (List.mem_of_getElem? (i := 2) rfl))) (mvT hZ (hw _ (List.mem_of_getElem? (i := 3) rfl))) (mvT hZ (hw _ (List.mem_of_getElem? (i := 4) rfl))) (by decide) (backOf (W := 0) (rm1 l Z a0 hw [] (1 : Int32) (x2 &&& (2147483647 : Int32))  h0 n0 Z0 ) hZ (hw _ (List.mem_of_getElem? (i := 4) rfl)) (hw _ (List.mem_of_getElem? (i := 3) rfl)) (by decide) (by decide)) (g := (mkF m 15 #[.val (.int x1), .val (.int x2), .val (.long b), .second, .val (.int x3), .val (.int r), .unset, .unset, .unset, .unset, .unset, .unset, .unset, .unset, .unset] [(.int (x2 &&& (2147483647 : Int32))), (.int (1 : Int32))])) rfl (by rw [hml]; rfl) (argsL := [(.int (1 : Int32)), (.int (x2 &&& (2147483647 : Int32)))]) (rest := []) (lenOf own_pd0 rfl) rfl (by show 2 * 0 + _ ≤ _; exact Nat.le_of_eq rfl) (hb hby at_15) (fun _ _ => ⟨rfl, eh, (by decide : 0 + 0 ≤ _), (by decide : 0 + 0 ≤ _)⟩)
  dsimp only [Pt.U, Pt.locs, Pt.cells, Pt.slots] at X l3 y3 z3 sx hQ
  subst l3 y3 z3
  obtain ⟨rfl, Nc, hsame_⟩ := hQ
  have st : ∀ t, Steps p.tables e below (T4.setTop (mkF m 18 #[.val (.int x1), .val (.int x2), .val (.long b), .second, .val (.int x3), .val (.int r), .unset, .unset, .unset, .unset, .unset, .unset, .unset, .unset, .unset] [(.int (own_max (1 : Int32) (x2 &&& (2147483647 : Int32))))])) t → Steps p.tables e below (s₁.setTop (mkF m 0 #[.val (.int x1), .val (.int x2), .val (.long b), .second, .val (.int x3), .unset, .unset, .unset, .unset, .unset, .unset, .unset, .unset, .unset, .unset] [])) t := fun t k => st t (sx t k)
  have N := Fr.app N Nc
  have eh : T4.heap = h0 := hsame_
  obtain ⟨d, hd1⟩ : ∃ z, z = (own_max (1 : Int32) (x2 &&& (2147483647 : Int32))) := ⟨_, rfl⟩
  rw [← hd1] at st
  have h1d : ¬ d < (1 : Int32) := by rw [hd1]; exact own_one _
  have st : ∀ t, Steps p.tables e below (T4.setTop (mkF m 20 #[.val (.int x1), .val (.int x2), .val (.long b), .second, .val (.int x3), .val (.int r), .val (.int d), .unset, .unset, .unset, .unset, .unset, .unset, .unset, .unset] [])) t → Steps p.tables e below (s₁.setTop (mkF m 0 #[.val (.int x1), .val (.int x2), .val (.long b), .second, .val (.int x3), .unset, .unset, .unset, .unset, .unset, .unset, .unset, .unset, .unset, .unset] [])) t := fun t k => st t (by
      show Steps p.tables e below (T4.setTop (mkF m 18 #[.val (.int x1), .val (.int x2), .val (.long b), .second, .val (.int x3), .val (.int r), .unset, .unset, .unset, .unset, .unset, .unset, .unset, .unset, .unset] [(.int d)])) _
      refine XS.istore X.here hx rfl (hb hby at_18) rfl (l' := #[.val (.int x1), .val (.int x2), .val (.long b), .second, .val (.int x3), .val (.int r), .val (.int d), .unset, .unset, .unset, .unset, .unset, .unset, .unset, .unset]) rfl ?_
      exact k)
  obtain ⟨T5, h6, X, eh, E7, E_li, D7, -, sx⟩ := newO X hx hZ hown (hw _ (List.mem_of_getElem? (i := 5) rfl)) (hw _ (List.mem_of_getElem? (i := 6) rfl)) (hw _ (List.mem_of_getElem? (i := 7) rfl)) eh (g := (mkF m 20 #[.val (.int x1), .val (.int x2), .val (.long b), .second, .val (.int x3), .val (.int r), .val (.int d), .unset, .unset, .unset, .unset, .unset, .unset, .unset, .unset] [])) rfl (hb hby at_20) (by decide) (by decide)
  obtain ⟨li, g7⟩ : ∃ z, z = h0.size := ⟨_, rfl⟩
  have g_li : n0 ≤ li := Nat.le_trans Z0 (Nat.le_of_eq g7.symm)
  have sz_li : h0.size ≤ li := Nat.le_trans K.1 (Nat.le_of_eq g7.symm)
  rw [← g7] at E_li D7 sx
  have st : ∀ t, Steps p.tables e below (T5.setTop (mkF m 23 #[.val (.int x1), .val (.int x2), .val (.long b), .second, .val (.int x3), .val (.int r), .val (.int d), .unset, .unset, .unset, .unset, .unset, .unset, .unset, .unset] [(.ref li)])) t → Steps p.tables e below (s₁.setTop (mkF m 0 #[.val (.int x1), .val (.int x2), .val (.long b), .second, .val (.int x3), .unset, .unset, .unset, .unset, .unset, .unset, .unset, .unset, .unset, .unset] [])) t := fun t k => st t (sx t k)
  have K := K.ext E7
  have Z0 := Nat.le_trans Z0 E7.1
  have F_li_requestBytes : Fld Z h6 li "com/example/pretoria/pretoria/engine/Limits" "requestBytes" "I" (.int (0 : Int32)) := D7 (Or.inr (hw _ (List.mem_of_getElem? (i := 15) rfl))) (ty := .int) (by decide)
  have F_li_depth : Fld Z h6 li "com/example/pretoria/pretoria/engine/Limits" "depth" "I" (.int (0 : Int32)) := D7 (Or.inr (hw _ (List.mem_of_getElem? (i := 17) rfl))) (ty := .int) (by decide)
  have st : ∀ t, Steps p.tables e below (T5.setTop (mkF m 28 #[.val (.int x1), .val (.int x2), .val (.long b), .second, .val (.int x3), .val (.int r), .val (.int d), .unset, .unset, .unset, .unset, .unset, .unset, .unset, .unset] [(.int d), (.int r), (.ref li), (.ref li)])) t → Steps p.tables e below (s₁.setTop (mkF m 0 #[.val (.int x1), .val (.int x2), .val (.long b), .second, .val (.int x3), .unset, .unset, .unset, .unset, .unset, .unset, .unset, .unset, .unset, .unset] [])) t := fun t k => st t (by
      show Steps p.tables e below (T5.setTop (mkF m 23 #[.val (.int x1), .val (.int x2), .val (.long b), .second, .val (.int x3), .val (.int r), .val (.int d), .unset, .unset, .unset, .unset, .unset, .unset, .unset, .unset] [(.ref li)])) _
      refine XS.dup X.here hx rfl (hb hby at_23) rfl rfl ?_
      show Steps p.tables e below (T5.setTop (mkF m 24 #[.val (.int x1), .val (.int x2), .val (.long b), .second, .val (.int x3), .val (.int r), .val (.int d), .unset, .unset, .unset, .unset, .unset, .unset, .unset, .unset] [(.ref li), (.ref li)])) _
      refine XS.iload X.here hx rfl (hb hby at_24) rfl ?_
      show Steps p.tables e below (T5.setTop (mkF m 26 #[.val (.int x1), .val (.int x2), .val (.long b), .second, .val (.int x3), .val (.int r), .val (.int d), .unset, .unset, .unset, .unset, .unset, .unset, .unset, .unset] [(.int r), (.ref li), (.ref li)])) _
      refine XS.iload X.here hx rfl (hb hby at_26) rfl ?_
      exact k)
  obtain ⟨_, _, ⟨T9, L8, k8, n8⟩, -, X, ⟨Lc8, hQ, l8, y8, z8⟩, sx⟩ := X.specialBack hx (y := (⟨"com/example/pretoria/pretoria/engine/Limits", "<init>", "(II)V"⟩ : MethodName)) rfl hown (mvT hZ (hw _ (List.mem_of_getElem? (i := 8) rfl))) (mvT hZ (hw _ (List.mem_of_getElem? (i := 9) rfl))) (mvT hZ (hw _ (List.mem_of_getElem? (i := 10) rfl))) (by decide) (backOf (W := 1) (rm2 l Z a0 hw [] li r d  h6 n0 Z0 E_li g_li F_li_requestBytes F_li_depth h1r h1d) hZ (hw _ (List.mem_of_getElem? (i := 10) rfl)) (hw _ (List.mem_of_getElem? (i := 7) rfl)) (by decide) (by decide)) (g := (mkF m 28 #[.val (.int x1), .val (.int x2), .val (.long b), .second, .val (.int x3), .val (.int r), .val (.int d), .unset, .unset, .unset, .unset, .unset, .unset, .unset, .unset] [(.int d), (.int r), (.ref li), (.ref li)])) rfl (by rw [hml]; rfl) (Steps.refl _) (a := li) (argsL := [(.int r), (.int d)]) (rest := [(.ref li)]) (lenOf own_pd1 rfl) rfl (by show 2 * 0 + _ ≤ _; exact Nat.le_of_eq rfl) (hb hby at_28) (fun _ _ => ⟨rfl, eh, (by decide : 1 + 0 ≤ _), (by decide : 2 + 0 ≤ _)⟩)
  dsimp only [Pt.U, Pt.locs, Pt.cells, Pt.slots] at X l8 y8 z8 sx hQ
  subst l8 y8 z8
  obtain ⟨rfl, Nc, K1, F_li_requestBytes, F_li_depth⟩ := hQ
  have st : ∀ t, Steps p.tables e below (T9.setTop (mkF m 31 #[.val (.int x1), .val (.int x2), .val (.long b), .second, .val (.int x3), .val (.int r), .val (.int d), .unset, .unset, .unset, .unset, .unset, .unset, .unset, .unset] [(.ref li)])) t → Steps p.tables e below (s₁.setTop (mkF m 0 #[.val (.int x1), .val (.int x2), .val (.long b), .second, .val (.int x3), .unset, .unset, .unset, .unset, .unset, .unset, .unset, .unset, .unset, .unset] [])) t := fun t k => st t (sx.trans k)
  have N := Fr.app N Nc
  obtain ⟨h10, eH⟩ : ∃ z, z = T9.heap := ⟨_, rfl⟩
  rw [← eH] at K1 F_li_requestBytes F_li_depth
  have eh : T9.heap = h10 := eH.symm
  have E_li := E_li.keep K1
  have K := K.trans K1 (allS (Or.inr sz_li) all0)
  have Z0 := Nat.le_trans Z0 K1.1
  have st : ∀ t, Steps p.tables e below (T9.setTop (mkF m 45 #[.val (.int x1), .val (.int x2), .val (.long b), .second, .val (.int x3), .val (.int r), .val (.int d), .val (.ref li), .unset, .unset, .unset, .unset, .unset, .unset, .unset] [(.long ((r.toInt64) + (((x3 &&& (7 : Int32)) - (4 : Int32)).toInt64)))])) t → Steps p.tables e below (s₁.setTop (mkF m 0 #[.val (.int x1), .val (.int x2), .val (.long b), .second, .val (.int x3), .unset, .unset, .unset, .unset, .unset, .unset, .unset, .unset, .unset, .unset] [])) t := fun t k => st t (by
      show Steps p.tables e below (T9.setTop (mkF m 31 #[.val (.int x1), .val (.int x2), .val (.long b), .second, .val (.int x3), .val (.int r), .val (.int d), .unset, .unset, .unset, .unset, .unset, .unset, .unset, .unset] [(.ref li)])) _
      refine XS.astore X.here hx rfl (hb hby at_31) rfl rfl (l' := #[.val (.int x1), .val (.int x2), .val (.long b), .second, .val (.int x3), .val (.int r), .val (.int d), .val (.ref li), .unset, .unset, .unset, .unset, .unset, .unset, .unset]) rfl ?_
      show Steps p.tables e below (T9.setTop (mkF m 33 #[.val (.int x1), .val (.int x2), .val (.long b), .second, .val (.int x3), .val (.int r), .val (.int d), .val (.ref li), .unset, .unset, .unset, .unset, .unset, .unset, .unset] [])) _
      refine XS.iload X.here hx rfl (hb hby at_33) rfl ?_
      show Steps p.tables e below (T9.setTop (mkF m 35 #[.val (.int x1), .val (.int x2), .val (.long b), .second, .val (.int x3), .val (.int r), .val (.int d), .val (.ref li), .unset, .unset, .unset, .unset, .unset, .unset, .unset] [(.int r)])) _
      refine XS.i2l X.here hx rfl (hb hby at_35) rfl ?_
      show Steps p.tables e below (T9.setTop (mkF m 36 #[.val (.int x1), .val (.int x2), .val (.long b), .second, .val (.int x3), .val (.int r), .val (.int d), .val (.ref li), .unset, .unset, .unset, .unset, .unset, .unset, .unset] [(.long (r.toInt64))])) _
      refine XS.iload X.here hx rfl (hb hby at_36) rfl ?_
      show Steps p.tables e below (T9.setTop (mkF m 38 #[.val (.int x1), .val (.int x2), .val (.long b), .second, .val (.int x3), .val (.int r), .val (.int d), .val (.ref li), .unset, .unset, .unset, .unset, .unset, .unset, .unset] [(.int x3), (.long (r.toInt64))])) _
      refine XS.bipush X.here hx rfl (hb hby at_38) ?_
      show Steps p.tables e below (T9.setTop (mkF m 40 #[.val (.int x1), .val (.int x2), .val (.long b), .second, .val (.int x3), .val (.int r), .val (.int d), .val (.ref li), .unset, .unset, .unset, .unset, .unset, .unset, .unset] [(.int (7 : Int32)), (.int x3), (.long (r.toInt64))])) _
      refine XS.iand X.here hx rfl (hb hby at_40) rfl ?_
      show Steps p.tables e below (T9.setTop (mkF m 41 #[.val (.int x1), .val (.int x2), .val (.long b), .second, .val (.int x3), .val (.int r), .val (.int d), .val (.ref li), .unset, .unset, .unset, .unset, .unset, .unset, .unset] [(.int (x3 &&& (7 : Int32))), (.long (r.toInt64))])) _
      refine XS.iconst X.here hx rfl (hb hby at_41) ?_
      show Steps p.tables e below (T9.setTop (mkF m 42 #[.val (.int x1), .val (.int x2), .val (.long b), .second, .val (.int x3), .val (.int r), .val (.int d), .val (.ref li), .unset, .unset, .unset, .unset, .unset, .unset, .unset] [(.int (4 : Int32)), (.int (x3 &&& (7 : Int32))), (.long (r.toInt64))])) _
      refine XS.isub X.here hx rfl (hb hby at_42) rfl ?_
      show Steps p.tables e below (T9.setTop (mkF m 43 #[.val (.int x1), .val (.int x2), .val (.long b), .second, .val (.int x3), .val (.int r), .val (.int d), .val (.ref li), .unset, .unset, .unset, .unset, .unset, .unset, .unset] [(.int ((x3 &&& (7 : Int32)) - (4 : Int32))), (.long (r.toInt64))])) _
      refine XS.i2l X.here hx rfl (hb hby at_43) rfl ?_
      show Steps p.tables e below (T9.setTop (mkF m 44 #[.val (.int x1), .val (.int x2), .val (.long b), .second, .val (.int x3), .val (.int r), .val (.int d), .val (.ref li), .unset, .unset, .unset, .unset, .unset, .unset, .unset] [(.long (((x3 &&& (7 : Int32)) - (4 : Int32)).toInt64)), (.long (r.toInt64))])) _
      refine XS.ladd X.here hx rfl (hb hby at_44) rfl ?_
      exact k)
  obtain ⟨near, hnear⟩ : ∃ z, z = ((r.toInt64) + (((x3 &&& (7 : Int32)) - (4 : Int32)).toInt64)) := ⟨_, rfl⟩
  rw [← hnear] at st
  have st : ∀ t, Steps p.tables e below (T9.setTop (mkF m 52 #[.val (.int x1), .val (.int x2), .val (.long b), .second, .val (.int x3), .val (.int r), .val (.int d), .val (.ref li), .val (.long near), .second, .unset, .unset, .unset, .unset, .unset] [(.long (r.toInt64)), (.ref li)])) t → Steps p.tables e below (s₁.setTop (mkF m 0 #[.val (.int x1), .val (.int x2), .val (.long b), .second, .val (.int x3), .unset, .unset, .unset, .unset, .unset, .unset, .unset, .unset, .unset, .unset] [])) t := fun t k => st t (by
      show Steps p.tables e below (T9.setTop (mkF m 45 #[.val (.int x1), .val (.int x2), .val (.long b), .second, .val (.int x3), .val (.int r), .val (.int d), .val (.ref li), .unset, .unset, .unset, .unset, .unset, .unset, .unset] [(.long near)])) _
      refine XS.lstore X.here hx rfl (hb hby at_45) rfl (l' := #[.val (.int x1), .val (.int x2), .val (.long b), .second, .val (.int x3), .val (.int r), .val (.int d), .val (.ref li), .val (.long near), .second, .unset, .unset, .unset, .unset, .unset]) rfl ?_
      show Steps p.tables e below (T9.setTop (mkF m 47 #[.val (.int x1), .val (.int x2), .val (.long b), .second, .val (.int x3), .val (.int r), .val (.int d), .val (.ref li), .val (.long near), .second, .unset, .unset, .unset, .unset, .unset] [])) _
      refine XS.aload X.here hx rfl (hb hby at_47) rfl rfl ?_
      show Steps p.tables e below (T9.setTop (mkF m 49 #[.val (.int x1), .val (.int x2), .val (.long b), .second, .val (.int x3), .val (.int r), .val (.int d), .val (.ref li), .val (.long near), .second, .unset, .unset, .unset, .unset, .unset] [(.ref li)])) _
      refine XS.iload X.here hx rfl (hb hby at_49) rfl ?_
      show Steps p.tables e below (T9.setTop (mkF m 51 #[.val (.int x1), .val (.int x2), .val (.long b), .second, .val (.int x3), .val (.int r), .val (.int d), .val (.ref li), .val (.long near), .second, .unset, .unset, .unset, .unset, .unset] [(.int r), (.ref li)])) _
      refine XS.i2l X.here hx rfl (hb hby at_51) rfl ?_
      exact k)
  obtain ⟨cq11, kq11, qa11, qb11, qc11⟩ := isOf hZ eh E_li
  obtain ⟨_, _, ⟨T12, L11, k11, n11⟩, -, X, ⟨Lc11, hQ, l11, y11, z11⟩, sx⟩ := X.virtualBack hx (y := (⟨"com/example/pretoria/pretoria/engine/Limits", "admits", "(J)Z"⟩ : MethodName)) (z := (⟨"com/example/pretoria/pretoria/engine/Limits", "admits", "(J)Z"⟩ : MethodName)) hown (mvT hZ (hw _ (List.mem_of_getElem? (i := 18) rfl))) (mvT hZ (hw _ (List.mem_of_getElem? (i := 19) rfl))) (notFace_of_selects (args := #[]) (mvT hZ (hw _ (List.mem_of_getElem? (i := 21) rfl)))) (mvT hZ (hw _ (List.mem_of_getElem? (i := 21) rfl))) (mvT hZ (hw _ (List.mem_of_getElem? (i := 20) rfl))) (by decide) (backOf (W := 0) (rm4 l Z a0 hw [] li (r.toInt64) r h10 n0 Z0 F_li_requestBytes) hZ (hw _ (List.mem_of_getElem? (i := 22) rfl)) (hw _ (List.mem_of_getElem? (i := 7) rfl)) (by decide) (by decide)) qa11 qc11 (g := (mkF m 52 #[.val (.int x1), .val (.int x2), .val (.long b), .second, .val (.int x3), .val (.int r), .val (.int d), .val (.ref li), .val (.long near), .second, .unset, .unset, .unset, .unset, .unset] [(.long (r.toInt64)), (.ref li)])) rfl (by rw [hml]; rfl) (Steps.refl _) (argsL := [(.long (r.toInt64))]) (rest := []) (lenOf own_pd2 rfl) rfl (by show 2 * 0 + _ ≤ _; exact Nat.le_of_eq rfl) (hb hby at_52) (fun _ _ => ⟨rfl, eh, (by decide : 1 + 0 ≤ _), (by decide : 2 + 0 ≤ _)⟩)
  dsimp only [Pt.U, Pt.locs, Pt.cells, Pt.slots] at X l11 y11 z11 sx hQ
  subst l11 y11 z11
  obtain ⟨rfl, Nc, hsame_⟩ := hQ
  have st : ∀ t, Steps p.tables e below (T12.setTop (mkF m 55 #[.val (.int x1), .val (.int x2), .val (.long b), .second, .val (.int x3), .val (.int r), .val (.int d), .val (.ref li), .val (.long near), .second, .unset, .unset, .unset, .unset, .unset] [(.int (own_adm r.toInt64 r))])) t → Steps p.tables e below (s₁.setTop (mkF m 0 #[.val (.int x1), .val (.int x2), .val (.long b), .second, .val (.int x3), .unset, .unset, .unset, .unset, .unset, .unset, .unset, .unset, .unset, .unset] [])) t := fun t k => st t (sx.trans k)
  have N := Fr.app N Nc
  have eh : T12.heap = h10 := hsame_
  rw [own_at] at st
  have st : ∀ t, Steps p.tables e below (T12.setTop (mkF m 64 #[.val (.int x1), .val (.int x2), .val (.long b), .second, .val (.int x3), .val (.int r), .val (.int d), .val (.ref li), .val (.long near), .second, .val (.int (1 : Int32)), .unset, .unset, .unset, .unset] [(.long ((r.toInt64) + (1 : Int64))), (.ref li)])) t → Steps p.tables e below (s₁.setTop (mkF m 0 #[.val (.int x1), .val (.int x2), .val (.long b), .second, .val (.int x3), .unset, .unset, .unset, .unset, .unset, .unset, .unset, .unset, .unset, .unset] [])) t := fun t k => st t (by
      show Steps p.tables e below (T12.setTop (mkF m 55 #[.val (.int x1), .val (.int x2), .val (.long b), .second, .val (.int x3), .val (.int r), .val (.int d), .val (.ref li), .val (.long near), .second, .unset, .unset, .unset, .unset, .unset] [(.int (1 : Int32))])) _
      refine XS.istore X.here hx rfl (hb hby at_55) rfl (l' := #[.val (.int x1), .val (.int x2), .val (.long b), .second, .val (.int x3), .val (.int r), .val (.int d), .val (.ref li), .val (.long near), .second, .val (.int (1 : Int32)), .unset, .unset, .unset, .unset]) rfl ?_
      show Steps p.tables e below (T12.setTop (mkF m 57 #[.val (.int x1), .val (.int x2), .val (.long b), .second, .val (.int x3), .val (.int r), .val (.int d), .val (.ref li), .val (.long near), .second, .val (.int (1 : Int32)), .unset, .unset, .unset, .unset] [])) _
      refine XS.aload X.here hx rfl (hb hby at_57) rfl rfl ?_
      show Steps p.tables e below (T12.setTop (mkF m 59 #[.val (.int x1), .val (.int x2), .val (.long b), .second, .val (.int x3), .val (.int r), .val (.int d), .val (.ref li), .val (.long near), .second, .val (.int (1 : Int32)), .unset, .unset, .unset, .unset] [(.ref li)])) _
      refine XS.iload X.here hx rfl (hb hby at_59) rfl ?_
      show Steps p.tables e below (T12.setTop (mkF m 61 #[.val (.int x1), .val (.int x2), .val (.long b), .second, .val (.int x3), .val (.int r), .val (.int d), .val (.ref li), .val (.long near), .second, .val (.int (1 : Int32)), .unset, .unset, .unset, .unset] [(.int r), (.ref li)])) _
      refine XS.i2l X.here hx rfl (hb hby at_61) rfl ?_
      show Steps p.tables e below (T12.setTop (mkF m 62 #[.val (.int x1), .val (.int x2), .val (.long b), .second, .val (.int x3), .val (.int r), .val (.int d), .val (.ref li), .val (.long near), .second, .val (.int (1 : Int32)), .unset, .unset, .unset, .unset] [(.long (r.toInt64)), (.ref li)])) _
      refine XS.lconst X.here hx rfl (hb hby at_62) ?_
      show Steps p.tables e below (T12.setTop (mkF m 63 #[.val (.int x1), .val (.int x2), .val (.long b), .second, .val (.int x3), .val (.int r), .val (.int d), .val (.ref li), .val (.long near), .second, .val (.int (1 : Int32)), .unset, .unset, .unset, .unset] [(.long (1 : Int64)), (.long (r.toInt64)), (.ref li)])) _
      refine XS.ladd X.here hx rfl (hb hby at_63) rfl ?_
      exact k)
  obtain ⟨cq13, kq13, qa13, qb13, qc13⟩ := isOf hZ eh E_li
  obtain ⟨_, _, ⟨T14, L13, k13, n13⟩, -, X, ⟨Lc13, hQ, l13, y13, z13⟩, sx⟩ := X.virtualBack hx (y := (⟨"com/example/pretoria/pretoria/engine/Limits", "admits", "(J)Z"⟩ : MethodName)) (z := (⟨"com/example/pretoria/pretoria/engine/Limits", "admits", "(J)Z"⟩ : MethodName)) hown (mvT hZ (hw _ (List.mem_of_getElem? (i := 18) rfl))) (mvT hZ (hw _ (List.mem_of_getElem? (i := 19) rfl))) (notFace_of_selects (args := #[]) (mvT hZ (hw _ (List.mem_of_getElem? (i := 21) rfl)))) (mvT hZ (hw _ (List.mem_of_getElem? (i := 21) rfl))) (mvT hZ (hw _ (List.mem_of_getElem? (i := 20) rfl))) (by decide) (backOf (W := 0) (rm4 l Z a0 hw [] li ((r.toInt64) + (1 : Int64)) r h10 n0 Z0 F_li_requestBytes) hZ (hw _ (List.mem_of_getElem? (i := 22) rfl)) (hw _ (List.mem_of_getElem? (i := 7) rfl)) (by decide) (by decide)) qa13 qc13 (g := (mkF m 64 #[.val (.int x1), .val (.int x2), .val (.long b), .second, .val (.int x3), .val (.int r), .val (.int d), .val (.ref li), .val (.long near), .second, .val (.int (1 : Int32)), .unset, .unset, .unset, .unset] [(.long ((r.toInt64) + (1 : Int64))), (.ref li)])) rfl (by rw [hml]; rfl) (Steps.refl _) (argsL := [(.long ((r.toInt64) + (1 : Int64)))]) (rest := []) (lenOf own_pd2 rfl) rfl (by show 2 * 0 + _ ≤ _; exact Nat.le_of_eq rfl) (hb hby at_64) (fun _ _ => ⟨rfl, eh, (by decide : 1 + 0 ≤ _), (by decide : 2 + 0 ≤ _)⟩)
  dsimp only [Pt.U, Pt.locs, Pt.cells, Pt.slots] at X l13 y13 z13 sx hQ
  subst l13 y13 z13
  obtain ⟨rfl, Nc, hsame_⟩ := hQ
  have st : ∀ t, Steps p.tables e below (T14.setTop (mkF m 67 #[.val (.int x1), .val (.int x2), .val (.long b), .second, .val (.int x3), .val (.int r), .val (.int d), .val (.ref li), .val (.long near), .second, .val (.int (1 : Int32)), .unset, .unset, .unset, .unset] [(.int (own_adm (r.toInt64 + (1 : Int64)) r))])) t → Steps p.tables e below (s₁.setTop (mkF m 0 #[.val (.int x1), .val (.int x2), .val (.long b), .second, .val (.int x3), .unset, .unset, .unset, .unset, .unset, .unset, .unset, .unset, .unset, .unset] [])) t := fun t k => st t (sx.trans k)
  have N := Fr.app N Nc
  have eh : T14.heap = h10 := hsame_
  rw [own_past] at st
  have st : ∀ t, Steps p.tables e below (T14.setTop (mkF m 72 #[.val (.int x1), .val (.int x2), .val (.long b), .second, .val (.int x3), .val (.int r), .val (.int d), .val (.ref li), .val (.long near), .second, .val (.int (1 : Int32)), .val (.int (0 : Int32)), .unset, .unset, .unset] [(.long b), (.ref li)])) t → Steps p.tables e below (s₁.setTop (mkF m 0 #[.val (.int x1), .val (.int x2), .val (.long b), .second, .val (.int x3), .unset, .unset, .unset, .unset, .unset, .unset, .unset, .unset, .unset, .unset] [])) t := fun t k => st t (by
      show Steps p.tables e below (T14.setTop (mkF m 67 #[.val (.int x1), .val (.int x2), .val (.long b), .second, .val (.int x3), .val (.int r), .val (.int d), .val (.ref li), .val (.long near), .second, .val (.int (1 : Int32)), .unset, .unset, .unset, .unset] [(.int (0 : Int32))])) _
      refine XS.istore X.here hx rfl (hb hby at_67) rfl (l' := #[.val (.int x1), .val (.int x2), .val (.long b), .second, .val (.int x3), .val (.int r), .val (.int d), .val (.ref li), .val (.long near), .second, .val (.int (1 : Int32)), .val (.int (0 : Int32)), .unset, .unset, .unset]) rfl ?_
      show Steps p.tables e below (T14.setTop (mkF m 69 #[.val (.int x1), .val (.int x2), .val (.long b), .second, .val (.int x3), .val (.int r), .val (.int d), .val (.ref li), .val (.long near), .second, .val (.int (1 : Int32)), .val (.int (0 : Int32)), .unset, .unset, .unset] [])) _
      refine XS.aload X.here hx rfl (hb hby at_69) rfl rfl ?_
      show Steps p.tables e below (T14.setTop (mkF m 71 #[.val (.int x1), .val (.int x2), .val (.long b), .second, .val (.int x3), .val (.int r), .val (.int d), .val (.ref li), .val (.long near), .second, .val (.int (1 : Int32)), .val (.int (0 : Int32)), .unset, .unset, .unset] [(.ref li)])) _
      refine XS.lloadN X.here hx rfl (hb hby at_71) rfl ?_
      exact k)
  obtain ⟨cq15, kq15, qa15, qb15, qc15⟩ := isOf hZ eh E_li
  obtain ⟨_, _, ⟨T16, L15, k15, n15⟩, -, X, ⟨Lc15, hQ, l15, y15, z15⟩, sx⟩ := X.virtualBack hx (y := (⟨"com/example/pretoria/pretoria/engine/Limits", "admits", "(J)Z"⟩ : MethodName)) (z := (⟨"com/example/pretoria/pretoria/engine/Limits", "admits", "(J)Z"⟩ : MethodName)) hown (mvT hZ (hw _ (List.mem_of_getElem? (i := 18) rfl))) (mvT hZ (hw _ (List.mem_of_getElem? (i := 19) rfl))) (notFace_of_selects (args := #[]) (mvT hZ (hw _ (List.mem_of_getElem? (i := 21) rfl)))) (mvT hZ (hw _ (List.mem_of_getElem? (i := 21) rfl))) (mvT hZ (hw _ (List.mem_of_getElem? (i := 20) rfl))) (by decide) (backOf (W := 0) (rm4 l Z a0 hw [] li b r h10 n0 Z0 F_li_requestBytes) hZ (hw _ (List.mem_of_getElem? (i := 22) rfl)) (hw _ (List.mem_of_getElem? (i := 7) rfl)) (by decide) (by decide)) qa15 qc15 (g := (mkF m 72 #[.val (.int x1), .val (.int x2), .val (.long b), .second, .val (.int x3), .val (.int r), .val (.int d), .val (.ref li), .val (.long near), .second, .val (.int (1 : Int32)), .val (.int (0 : Int32)), .unset, .unset, .unset] [(.long b), (.ref li)])) rfl (by rw [hml]; rfl) (Steps.refl _) (argsL := [(.long b)]) (rest := []) (lenOf own_pd2 rfl) rfl (by show 2 * 0 + _ ≤ _; exact Nat.le_of_eq rfl) (hb hby at_72) (fun _ _ => ⟨rfl, eh, (by decide : 1 + 0 ≤ _), (by decide : 2 + 0 ≤ _)⟩)
  dsimp only [Pt.U, Pt.locs, Pt.cells, Pt.slots] at X l15 y15 z15 sx hQ
  subst l15 y15 z15
  obtain ⟨rfl, Nc, hsame_⟩ := hQ
  have st : ∀ t, Steps p.tables e below (T16.setTop (mkF m 75 #[.val (.int x1), .val (.int x2), .val (.long b), .second, .val (.int x3), .val (.int r), .val (.int d), .val (.ref li), .val (.long near), .second, .val (.int (1 : Int32)), .val (.int (0 : Int32)), .unset, .unset, .unset] [(.int (own_adm b r))])) t → Steps p.tables e below (s₁.setTop (mkF m 0 #[.val (.int x1), .val (.int x2), .val (.long b), .second, .val (.int x3), .unset, .unset, .unset, .unset, .unset, .unset, .unset, .unset, .unset, .unset] [])) t := fun t k => st t (sx.trans k)
  have N := Fr.app N Nc
  have eh : T16.heap = h10 := hsame_
  obtain ⟨v12, h12⟩ : ∃ z, z = own_adm b r := ⟨_, rfl⟩
  rw [← h12] at st
  have st : ∀ t, Steps p.tables e below (T16.setTop (mkF m 81 #[.val (.int x1), .val (.int x2), .val (.long b), .second, .val (.int x3), .val (.int r), .val (.int d), .val (.ref li), .val (.long near), .second, .val (.int (1 : Int32)), .val (.int (0 : Int32)), .val (.int v12), .unset, .unset] [(.long near), (.ref li)])) t → Steps p.tables e below (s₁.setTop (mkF m 0 #[.val (.int x1), .val (.int x2), .val (.long b), .second, .val (.int x3), .unset, .unset, .unset, .unset, .unset, .unset, .unset, .unset, .unset, .unset] [])) t := fun t k => st t (by
      show Steps p.tables e below (T16.setTop (mkF m 75 #[.val (.int x1), .val (.int x2), .val (.long b), .second, .val (.int x3), .val (.int r), .val (.int d), .val (.ref li), .val (.long near), .second, .val (.int (1 : Int32)), .val (.int (0 : Int32)), .unset, .unset, .unset] [(.int v12)])) _
      refine XS.istore X.here hx rfl (hb hby at_75) rfl (l' := #[.val (.int x1), .val (.int x2), .val (.long b), .second, .val (.int x3), .val (.int r), .val (.int d), .val (.ref li), .val (.long near), .second, .val (.int (1 : Int32)), .val (.int (0 : Int32)), .val (.int v12), .unset, .unset]) rfl ?_
      show Steps p.tables e below (T16.setTop (mkF m 77 #[.val (.int x1), .val (.int x2), .val (.long b), .second, .val (.int x3), .val (.int r), .val (.int d), .val (.ref li), .val (.long near), .second, .val (.int (1 : Int32)), .val (.int (0 : Int32)), .val (.int v12), .unset, .unset] [])) _
      refine XS.aload X.here hx rfl (hb hby at_77) rfl rfl ?_
      show Steps p.tables e below (T16.setTop (mkF m 79 #[.val (.int x1), .val (.int x2), .val (.long b), .second, .val (.int x3), .val (.int r), .val (.int d), .val (.ref li), .val (.long near), .second, .val (.int (1 : Int32)), .val (.int (0 : Int32)), .val (.int v12), .unset, .unset] [(.ref li)])) _
      refine XS.lload X.here hx rfl (hb hby at_79) rfl ?_
      exact k)
  obtain ⟨cq17, kq17, qa17, qb17, qc17⟩ := isOf hZ eh E_li
  obtain ⟨_, _, ⟨T18, L17, k17, n17⟩, -, X, ⟨Lc17, hQ, l17, y17, z17⟩, sx⟩ := X.virtualBack hx (y := (⟨"com/example/pretoria/pretoria/engine/Limits", "admits", "(J)Z"⟩ : MethodName)) (z := (⟨"com/example/pretoria/pretoria/engine/Limits", "admits", "(J)Z"⟩ : MethodName)) hown (mvT hZ (hw _ (List.mem_of_getElem? (i := 18) rfl))) (mvT hZ (hw _ (List.mem_of_getElem? (i := 19) rfl))) (notFace_of_selects (args := #[]) (mvT hZ (hw _ (List.mem_of_getElem? (i := 21) rfl)))) (mvT hZ (hw _ (List.mem_of_getElem? (i := 21) rfl))) (mvT hZ (hw _ (List.mem_of_getElem? (i := 20) rfl))) (by decide) (backOf (W := 0) (rm4 l Z a0 hw [] li near r h10 n0 Z0 F_li_requestBytes) hZ (hw _ (List.mem_of_getElem? (i := 22) rfl)) (hw _ (List.mem_of_getElem? (i := 7) rfl)) (by decide) (by decide)) qa17 qc17 (g := (mkF m 81 #[.val (.int x1), .val (.int x2), .val (.long b), .second, .val (.int x3), .val (.int r), .val (.int d), .val (.ref li), .val (.long near), .second, .val (.int (1 : Int32)), .val (.int (0 : Int32)), .val (.int v12), .unset, .unset] [(.long near), (.ref li)])) rfl (by rw [hml]; rfl) (Steps.refl _) (argsL := [(.long near)]) (rest := []) (lenOf own_pd2 rfl) rfl (by show 2 * 0 + _ ≤ _; exact Nat.le_of_eq rfl) (hb hby at_81) (fun _ _ => ⟨rfl, eh, (by decide : 1 + 0 ≤ _), (by decide : 2 + 0 ≤ _)⟩)
  dsimp only [Pt.U, Pt.locs, Pt.cells, Pt.slots] at X l17 y17 z17 sx hQ
  subst l17 y17 z17
  obtain ⟨rfl, Nc, hsame_⟩ := hQ
  have st : ∀ t, Steps p.tables e below (T18.setTop (mkF m 84 #[.val (.int x1), .val (.int x2), .val (.long b), .second, .val (.int x3), .val (.int r), .val (.int d), .val (.ref li), .val (.long near), .second, .val (.int (1 : Int32)), .val (.int (0 : Int32)), .val (.int v12), .unset, .unset] [(.int (own_adm near r))])) t → Steps p.tables e below (s₁.setTop (mkF m 0 #[.val (.int x1), .val (.int x2), .val (.long b), .second, .val (.int x3), .unset, .unset, .unset, .unset, .unset, .unset, .unset, .unset, .unset, .unset] [])) t := fun t k => st t (sx.trans k)
  have N := Fr.app N Nc
  have eh : T18.heap = h10 := hsame_
  obtain ⟨v13, h13⟩ : ∃ z, z = own_adm near r := ⟨_, rfl⟩
  rw [← h13] at st
  have st : ∀ t, Steps p.tables e below (T18.setTop (mkF m 86 #[.val (.int x1), .val (.int x2), .val (.long b), .second, .val (.int x3), .val (.int r), .val (.int d), .val (.ref li), .val (.long near), .second, .val (.int (1 : Int32)), .val (.int (0 : Int32)), .val (.int v12), .val (.int v13), .unset] [])) t → Steps p.tables e below (s₁.setTop (mkF m 0 #[.val (.int x1), .val (.int x2), .val (.long b), .second, .val (.int x3), .unset, .unset, .unset, .unset, .unset, .unset, .unset, .unset, .unset, .unset] [])) t := fun t k => st t (by
      show Steps p.tables e below (T18.setTop (mkF m 84 #[.val (.int x1), .val (.int x2), .val (.long b), .second, .val (.int x3), .val (.int r), .val (.int d), .val (.ref li), .val (.long near), .second, .val (.int (1 : Int32)), .val (.int (0 : Int32)), .val (.int v12), .unset, .unset] [(.int v13)])) _
      refine XS.istore X.here hx rfl (hb hby at_84) rfl (l' := #[.val (.int x1), .val (.int x2), .val (.long b), .second, .val (.int x3), .val (.int r), .val (.int d), .val (.ref li), .val (.long near), .second, .val (.int (1 : Int32)), .val (.int (0 : Int32)), .val (.int v12), .val (.int v13), .unset]) rfl ?_
      exact k)
  have st : ∀ t, Steps p.tables e below (T18.setTop (mkF m 101 #[.val (.int x1), .val (.int x2), .val (.long b), .second, .val (.int x3), .val (.int r), .val (.int d), .val (.ref li), .val (.long near), .second, .val (.int (1 : Int32)), .val (.int (0 : Int32)), .val (.int v12), .val (.int v13), .unset] [(.int (1 : Int32))])) t → Steps p.tables e below (s₁.setTop (mkF m 0 #[.val (.int x1), .val (.int x2), .val (.long b), .second, .val (.int x3), .unset, .unset, .unset, .unset, .unset, .unset, .unset, .unset, .unset, .unset] [])) t := fun t k => st t (by
      show Steps p.tables e below (T18.setTop (mkF m 86 #[.val (.int x1), .val (.int x2), .val (.long b), .second, .val (.int x3), .val (.int r), .val (.int d), .val (.ref li), .val (.long near), .second, .val (.int (1 : Int32)), .val (.int (0 : Int32)), .val (.int v12), .val (.int v13), .unset] [])) _
      refine XS.iload X.here hx rfl (hb hby at_86) rfl ?_
      show Steps p.tables e below (T18.setTop (mkF m 88 #[.val (.int x1), .val (.int x2), .val (.long b), .second, .val (.int x3), .val (.int r), .val (.int d), .val (.ref li), .val (.long near), .second, .val (.int (1 : Int32)), .val (.int (0 : Int32)), .val (.int v12), .val (.int v13), .unset] [(.int (1 : Int32))])) _
      refine XS.ifNo X.here hx rfl (hb hby at_88) rfl ((if0 _ _).trans (feq (by decide)).1) ?_
      show Steps p.tables e below (T18.setTop (mkF m 91 #[.val (.int x1), .val (.int x2), .val (.long b), .second, .val (.int x3), .val (.int r), .val (.int d), .val (.ref li), .val (.long near), .second, .val (.int (1 : Int32)), .val (.int (0 : Int32)), .val (.int v12), .val (.int v13), .unset] [])) _
      refine XS.iload X.here hx rfl (hb hby at_91) rfl ?_
      show Steps p.tables e below (T18.setTop (mkF m 93 #[.val (.int x1), .val (.int x2), .val (.long b), .second, .val (.int x3), .val (.int r), .val (.int d), .val (.ref li), .val (.long near), .second, .val (.int (1 : Int32)), .val (.int (0 : Int32)), .val (.int v12), .val (.int v13), .unset] [(.int (0 : Int32))])) _
      refine XS.ifNo X.here hx rfl (hb hby at_93) rfl ((if0 _ _).trans (teq (by decide)).2) ?_
      show Steps p.tables e below (T18.setTop (mkF m 96 #[.val (.int x1), .val (.int x2), .val (.long b), .second, .val (.int x3), .val (.int r), .val (.int d), .val (.ref li), .val (.long near), .second, .val (.int (1 : Int32)), .val (.int (0 : Int32)), .val (.int v12), .val (.int v13), .unset] [])) _
      refine XS.iconst X.here hx rfl (hb hby at_96) ?_
      show Steps p.tables e below (T18.setTop (mkF m 97 #[.val (.int x1), .val (.int x2), .val (.long b), .second, .val (.int x3), .val (.int r), .val (.int d), .val (.ref li), .val (.long near), .second, .val (.int (1 : Int32)), .val (.int (0 : Int32)), .val (.int v12), .val (.int v13), .unset] [(.int (1 : Int32))])) _
      refine XS.goto X.here hx rfl (pc0 := 97) (pc' := 101) rfl (hb hby at_97) (by decide) (by decide) ?_
      exact k)
  have st : ∀ t, Steps p.tables e below (T18.setTop (mkF m 103 #[.val (.int x1), .val (.int x2), .val (.long b), .second, .val (.int x3), .val (.int r), .val (.int d), .val (.ref li), .val (.long near), .second, .val (.int (1 : Int32)), .val (.int (0 : Int32)), .val (.int v12), .val (.int v13), .val (.int (1 : Int32))] [])) t → Steps p.tables e below (s₁.setTop (mkF m 0 #[.val (.int x1), .val (.int x2), .val (.long b), .second, .val (.int x3), .unset, .unset, .unset, .unset, .unset, .unset, .unset, .unset, .unset, .unset] [])) t := fun t k => st t (by
      show Steps p.tables e below (T18.setTop (mkF m 101 #[.val (.int x1), .val (.int x2), .val (.long b), .second, .val (.int x3), .val (.int r), .val (.int d), .val (.ref li), .val (.long near), .second, .val (.int (1 : Int32)), .val (.int (0 : Int32)), .val (.int v12), .val (.int v13), .unset] [(.int (1 : Int32))])) _
      refine XS.istore X.here hx rfl (hb hby at_101) rfl (l' := #[.val (.int x1), .val (.int x2), .val (.long b), .second, .val (.int x3), .val (.int r), .val (.int d), .val (.ref li), .val (.long near), .second, .val (.int (1 : Int32)), .val (.int (0 : Int32)), .val (.int v12), .val (.int v13), .val (.int (1 : Int32))]) rfl ?_
      exact k)
  obtain ⟨w14, hv_w14, sx⟩ : ∃ (w14 : Int32), w14 = (if (r.toInt64) < b then (if v12 = (0 : Int32) then (1 : Int32) else (0 : Int32)) else (if v12 = (1 : Int32) then (1 : Int32) else (0 : Int32))) ∧ ∀ t, Steps p.tables e below (T18.setTop (mkF m 131 #[.val (.int x1), .val (.int x2), .val (.long b), .second, .val (.int x3), .val (.int r), .val (.int d), .val (.ref li), .val (.long near), .second, .val (.int (1 : Int32)), .val (.int (0 : Int32)), .val (.int v12), .val (.int v13), .val (.int (1 : Int32))] [(.int w14)])) t → Steps p.tables e below (T18.setTop (mkF m 103 #[.val (.int x1), .val (.int x2), .val (.long b), .second, .val (.int x3), .val (.int r), .val (.int d), .val (.ref li), .val (.long near), .second, .val (.int (1 : Int32)), .val (.int (0 : Int32)), .val (.int v12), .val (.int v13), .val (.int (1 : Int32))] [])) t := by
    by_cases hj1 : (r.toInt64) < b
    · by_cases hj2 : v12 = (0 : Int32)
      · refine ⟨(1 : Int32), by rw [if_pos hj1, if_pos hj2], fun t k => ?_⟩
        show Steps p.tables e below (T18.setTop (mkF m 103 #[.val (.int x1), .val (.int x2), .val (.long b), .second, .val (.int x3), .val (.int r), .val (.int d), .val (.ref li), .val (.long near), .second, .val (.int (1 : Int32)), .val (.int (0 : Int32)), .val (.int v12), .val (.int v13), .val (.int (1 : Int32))] [])) _
        refine XS.iload X.here hx rfl (hb hby at_103) rfl ?_
        show Steps p.tables e below (T18.setTop (mkF m 105 #[.val (.int x1), .val (.int x2), .val (.long b), .second, .val (.int x3), .val (.int r), .val (.int d), .val (.ref li), .val (.long near), .second, .val (.int (1 : Int32)), .val (.int (0 : Int32)), .val (.int v12), .val (.int v13), .val (.int (1 : Int32))] [(.int (1 : Int32))])) _
        refine XS.ifNo X.here hx rfl (hb hby at_105) rfl ((if0 _ _).trans (feq (by decide)).1) ?_
        show Steps p.tables e below (T18.setTop (mkF m 108 #[.val (.int x1), .val (.int x2), .val (.long b), .second, .val (.int x3), .val (.int r), .val (.int d), .val (.ref li), .val (.long near), .second, .val (.int (1 : Int32)), .val (.int (0 : Int32)), .val (.int v12), .val (.int v13), .val (.int (1 : Int32))] [])) _
        refine XS.iload X.here hx rfl (hb hby at_108) rfl ?_
        show Steps p.tables e below (T18.setTop (mkF m 110 #[.val (.int x1), .val (.int x2), .val (.long b), .second, .val (.int x3), .val (.int r), .val (.int d), .val (.ref li), .val (.long near), .second, .val (.int (1 : Int32)), .val (.int (0 : Int32)), .val (.int v12), .val (.int v13), .val (.int (1 : Int32))] [(.int v12)])) _
        refine XS.lloadN X.here hx rfl (hb hby at_110) rfl ?_
        show Steps p.tables e below (T18.setTop (mkF m 111 #[.val (.int x1), .val (.int x2), .val (.long b), .second, .val (.int x3), .val (.int r), .val (.int d), .val (.ref li), .val (.long near), .second, .val (.int (1 : Int32)), .val (.int (0 : Int32)), .val (.int v12), .val (.int v13), .val (.int (1 : Int32))] [(.long b), (.int v12)])) _
        refine XS.iload X.here hx rfl (hb hby at_111) rfl ?_
        show Steps p.tables e below (T18.setTop (mkF m 113 #[.val (.int x1), .val (.int x2), .val (.long b), .second, .val (.int x3), .val (.int r), .val (.int d), .val (.ref li), .val (.long near), .second, .val (.int (1 : Int32)), .val (.int (0 : Int32)), .val (.int v12), .val (.int v13), .val (.int (1 : Int32))] [(.int r), (.long b), (.int v12)])) _
        refine XS.i2l X.here hx rfl (hb hby at_113) rfl ?_
        show Steps p.tables e below (T18.setTop (mkF m 114 #[.val (.int x1), .val (.int x2), .val (.long b), .second, .val (.int x3), .val (.int r), .val (.int d), .val (.ref li), .val (.long near), .second, .val (.int (1 : Int32)), .val (.int (0 : Int32)), .val (.int v12), .val (.int v13), .val (.int (1 : Int32))] [(.long (r.toInt64)), (.long b), (.int v12)])) _
        refine XS.lcmp X.here hx rfl (hb hby at_114) rfl ?_
        show Steps p.tables e below (T18.setTop (mkF m 115 #[.val (.int x1), .val (.int x2), .val (.long b), .second, .val (.int x3), .val (.int r), .val (.int d), .val (.ref li), .val (.long near), .second, .val (.int (1 : Int32)), .val (.int (0 : Int32)), .val (.int v12), .val (.int v13), .val (.int (1 : Int32))] [(.int (lcmpW b (r.toInt64))), (.int v12)])) _
        refine XS.ifYes X.here hx rfl (pc0 := 115) (pc' := 122) rfl (hb hby at_115) rfl ((if0 _ _).trans (tlt ((lw_gt b (r.toInt64)).mpr hj1)).2.2.1) (by decide) (by decide) ?_
        show Steps p.tables e below (T18.setTop (mkF m 122 #[.val (.int x1), .val (.int x2), .val (.long b), .second, .val (.int x3), .val (.int r), .val (.int d), .val (.ref li), .val (.long near), .second, .val (.int (1 : Int32)), .val (.int (0 : Int32)), .val (.int v12), .val (.int v13), .val (.int (1 : Int32))] [(.int v12)])) _
        refine XS.iconst X.here hx rfl (hb hby at_122) ?_
        show Steps p.tables e below (T18.setTop (mkF m 123 #[.val (.int x1), .val (.int x2), .val (.long b), .second, .val (.int x3), .val (.int r), .val (.int d), .val (.ref li), .val (.long near), .second, .val (.int (1 : Int32)), .val (.int (0 : Int32)), .val (.int v12), .val (.int v13), .val (.int (1 : Int32))] [(.int (0 : Int32)), (.int v12)])) _
        refine XS.icmpNo X.here hx rfl (hb hby at_123) rfl (teq hj2).2 ?_
        show Steps p.tables e below (T18.setTop (mkF m 126 #[.val (.int x1), .val (.int x2), .val (.long b), .second, .val (.int x3), .val (.int r), .val (.int d), .val (.ref li), .val (.long near), .second, .val (.int (1 : Int32)), .val (.int (0 : Int32)), .val (.int v12), .val (.int v13), .val (.int (1 : Int32))] [])) _
        refine XS.iconst X.here hx rfl (hb hby at_126) ?_
        show Steps p.tables e below (T18.setTop (mkF m 127 #[.val (.int x1), .val (.int x2), .val (.long b), .second, .val (.int x3), .val (.int r), .val (.int d), .val (.ref li), .val (.long near), .second, .val (.int (1 : Int32)), .val (.int (0 : Int32)), .val (.int v12), .val (.int v13), .val (.int (1 : Int32))] [(.int (1 : Int32))])) _
        refine XS.goto X.here hx rfl (pc0 := 127) (pc' := 131) rfl (hb hby at_127) (by decide) (by decide) ?_
        exact k
      · refine ⟨(0 : Int32), by rw [if_pos hj1, if_neg hj2], fun t k => ?_⟩
        show Steps p.tables e below (T18.setTop (mkF m 103 #[.val (.int x1), .val (.int x2), .val (.long b), .second, .val (.int x3), .val (.int r), .val (.int d), .val (.ref li), .val (.long near), .second, .val (.int (1 : Int32)), .val (.int (0 : Int32)), .val (.int v12), .val (.int v13), .val (.int (1 : Int32))] [])) _
        refine XS.iload X.here hx rfl (hb hby at_103) rfl ?_
        show Steps p.tables e below (T18.setTop (mkF m 105 #[.val (.int x1), .val (.int x2), .val (.long b), .second, .val (.int x3), .val (.int r), .val (.int d), .val (.ref li), .val (.long near), .second, .val (.int (1 : Int32)), .val (.int (0 : Int32)), .val (.int v12), .val (.int v13), .val (.int (1 : Int32))] [(.int (1 : Int32))])) _
        refine XS.ifNo X.here hx rfl (hb hby at_105) rfl ((if0 _ _).trans (feq (by decide)).1) ?_
        show Steps p.tables e below (T18.setTop (mkF m 108 #[.val (.int x1), .val (.int x2), .val (.long b), .second, .val (.int x3), .val (.int r), .val (.int d), .val (.ref li), .val (.long near), .second, .val (.int (1 : Int32)), .val (.int (0 : Int32)), .val (.int v12), .val (.int v13), .val (.int (1 : Int32))] [])) _
        refine XS.iload X.here hx rfl (hb hby at_108) rfl ?_
        show Steps p.tables e below (T18.setTop (mkF m 110 #[.val (.int x1), .val (.int x2), .val (.long b), .second, .val (.int x3), .val (.int r), .val (.int d), .val (.ref li), .val (.long near), .second, .val (.int (1 : Int32)), .val (.int (0 : Int32)), .val (.int v12), .val (.int v13), .val (.int (1 : Int32))] [(.int v12)])) _
        refine XS.lloadN X.here hx rfl (hb hby at_110) rfl ?_
        show Steps p.tables e below (T18.setTop (mkF m 111 #[.val (.int x1), .val (.int x2), .val (.long b), .second, .val (.int x3), .val (.int r), .val (.int d), .val (.ref li), .val (.long near), .second, .val (.int (1 : Int32)), .val (.int (0 : Int32)), .val (.int v12), .val (.int v13), .val (.int (1 : Int32))] [(.long b), (.int v12)])) _
        refine XS.iload X.here hx rfl (hb hby at_111) rfl ?_
        show Steps p.tables e below (T18.setTop (mkF m 113 #[.val (.int x1), .val (.int x2), .val (.long b), .second, .val (.int x3), .val (.int r), .val (.int d), .val (.ref li), .val (.long near), .second, .val (.int (1 : Int32)), .val (.int (0 : Int32)), .val (.int v12), .val (.int v13), .val (.int (1 : Int32))] [(.int r), (.long b), (.int v12)])) _
        refine XS.i2l X.here hx rfl (hb hby at_113) rfl ?_
        show Steps p.tables e below (T18.setTop (mkF m 114 #[.val (.int x1), .val (.int x2), .val (.long b), .second, .val (.int x3), .val (.int r), .val (.int d), .val (.ref li), .val (.long near), .second, .val (.int (1 : Int32)), .val (.int (0 : Int32)), .val (.int v12), .val (.int v13), .val (.int (1 : Int32))] [(.long (r.toInt64)), (.long b), (.int v12)])) _
        refine XS.lcmp X.here hx rfl (hb hby at_114) rfl ?_
        show Steps p.tables e below (T18.setTop (mkF m 115 #[.val (.int x1), .val (.int x2), .val (.long b), .second, .val (.int x3), .val (.int r), .val (.int d), .val (.ref li), .val (.long near), .second, .val (.int (1 : Int32)), .val (.int (0 : Int32)), .val (.int v12), .val (.int v13), .val (.int (1 : Int32))] [(.int (lcmpW b (r.toInt64))), (.int v12)])) _
        refine XS.ifYes X.here hx rfl (pc0 := 115) (pc' := 122) rfl (hb hby at_115) rfl ((if0 _ _).trans (tlt ((lw_gt b (r.toInt64)).mpr hj1)).2.2.1) (by decide) (by decide) ?_
        show Steps p.tables e below (T18.setTop (mkF m 122 #[.val (.int x1), .val (.int x2), .val (.long b), .second, .val (.int x3), .val (.int r), .val (.int d), .val (.ref li), .val (.long near), .second, .val (.int (1 : Int32)), .val (.int (0 : Int32)), .val (.int v12), .val (.int v13), .val (.int (1 : Int32))] [(.int v12)])) _
        refine XS.iconst X.here hx rfl (hb hby at_122) ?_
        show Steps p.tables e below (T18.setTop (mkF m 123 #[.val (.int x1), .val (.int x2), .val (.long b), .second, .val (.int x3), .val (.int r), .val (.int d), .val (.ref li), .val (.long near), .second, .val (.int (1 : Int32)), .val (.int (0 : Int32)), .val (.int v12), .val (.int v13), .val (.int (1 : Int32))] [(.int (0 : Int32)), (.int v12)])) _
        refine XS.icmpYes X.here hx rfl (pc0 := 123) (pc' := 130) rfl (hb hby at_123) rfl (feq hj2).2 (by decide) (by decide) ?_
        show Steps p.tables e below (T18.setTop (mkF m 130 #[.val (.int x1), .val (.int x2), .val (.long b), .second, .val (.int x3), .val (.int r), .val (.int d), .val (.ref li), .val (.long near), .second, .val (.int (1 : Int32)), .val (.int (0 : Int32)), .val (.int v12), .val (.int v13), .val (.int (1 : Int32))] [])) _
        refine XS.iconst X.here hx rfl (hb hby at_130) ?_
        exact k
    · by_cases hj3 : v12 = (1 : Int32)
      · refine ⟨(1 : Int32), by rw [if_neg hj1, if_pos hj3], fun t k => ?_⟩
        show Steps p.tables e below (T18.setTop (mkF m 103 #[.val (.int x1), .val (.int x2), .val (.long b), .second, .val (.int x3), .val (.int r), .val (.int d), .val (.ref li), .val (.long near), .second, .val (.int (1 : Int32)), .val (.int (0 : Int32)), .val (.int v12), .val (.int v13), .val (.int (1 : Int32))] [])) _
        refine XS.iload X.here hx rfl (hb hby at_103) rfl ?_
        show Steps p.tables e below (T18.setTop (mkF m 105 #[.val (.int x1), .val (.int x2), .val (.long b), .second, .val (.int x3), .val (.int r), .val (.int d), .val (.ref li), .val (.long near), .second, .val (.int (1 : Int32)), .val (.int (0 : Int32)), .val (.int v12), .val (.int v13), .val (.int (1 : Int32))] [(.int (1 : Int32))])) _
        refine XS.ifNo X.here hx rfl (hb hby at_105) rfl ((if0 _ _).trans (feq (by decide)).1) ?_
        show Steps p.tables e below (T18.setTop (mkF m 108 #[.val (.int x1), .val (.int x2), .val (.long b), .second, .val (.int x3), .val (.int r), .val (.int d), .val (.ref li), .val (.long near), .second, .val (.int (1 : Int32)), .val (.int (0 : Int32)), .val (.int v12), .val (.int v13), .val (.int (1 : Int32))] [])) _
        refine XS.iload X.here hx rfl (hb hby at_108) rfl ?_
        show Steps p.tables e below (T18.setTop (mkF m 110 #[.val (.int x1), .val (.int x2), .val (.long b), .second, .val (.int x3), .val (.int r), .val (.int d), .val (.ref li), .val (.long near), .second, .val (.int (1 : Int32)), .val (.int (0 : Int32)), .val (.int v12), .val (.int v13), .val (.int (1 : Int32))] [(.int v12)])) _
        refine XS.lloadN X.here hx rfl (hb hby at_110) rfl ?_
        show Steps p.tables e below (T18.setTop (mkF m 111 #[.val (.int x1), .val (.int x2), .val (.long b), .second, .val (.int x3), .val (.int r), .val (.int d), .val (.ref li), .val (.long near), .second, .val (.int (1 : Int32)), .val (.int (0 : Int32)), .val (.int v12), .val (.int v13), .val (.int (1 : Int32))] [(.long b), (.int v12)])) _
        refine XS.iload X.here hx rfl (hb hby at_111) rfl ?_
        show Steps p.tables e below (T18.setTop (mkF m 113 #[.val (.int x1), .val (.int x2), .val (.long b), .second, .val (.int x3), .val (.int r), .val (.int d), .val (.ref li), .val (.long near), .second, .val (.int (1 : Int32)), .val (.int (0 : Int32)), .val (.int v12), .val (.int v13), .val (.int (1 : Int32))] [(.int r), (.long b), (.int v12)])) _
        refine XS.i2l X.here hx rfl (hb hby at_113) rfl ?_
        show Steps p.tables e below (T18.setTop (mkF m 114 #[.val (.int x1), .val (.int x2), .val (.long b), .second, .val (.int x3), .val (.int r), .val (.int d), .val (.ref li), .val (.long near), .second, .val (.int (1 : Int32)), .val (.int (0 : Int32)), .val (.int v12), .val (.int v13), .val (.int (1 : Int32))] [(.long (r.toInt64)), (.long b), (.int v12)])) _
        refine XS.lcmp X.here hx rfl (hb hby at_114) rfl ?_
        show Steps p.tables e below (T18.setTop (mkF m 115 #[.val (.int x1), .val (.int x2), .val (.long b), .second, .val (.int x3), .val (.int r), .val (.int d), .val (.ref li), .val (.long near), .second, .val (.int (1 : Int32)), .val (.int (0 : Int32)), .val (.int v12), .val (.int v13), .val (.int (1 : Int32))] [(.int (lcmpW b (r.toInt64))), (.int v12)])) _
        refine XS.ifNo X.here hx rfl (hb hby at_115) rfl ((if0 _ _).trans (flt (fun q => hj1 ((lw_gt b (r.toInt64)).mp q))).2.2.1) ?_
        show Steps p.tables e below (T18.setTop (mkF m 118 #[.val (.int x1), .val (.int x2), .val (.long b), .second, .val (.int x3), .val (.int r), .val (.int d), .val (.ref li), .val (.long near), .second, .val (.int (1 : Int32)), .val (.int (0 : Int32)), .val (.int v12), .val (.int v13), .val (.int (1 : Int32))] [(.int v12)])) _
        refine XS.iconst X.here hx rfl (hb hby at_118) ?_
        show Steps p.tables e below (T18.setTop (mkF m 119 #[.val (.int x1), .val (.int x2), .val (.long b), .second, .val (.int x3), .val (.int r), .val (.int d), .val (.ref li), .val (.long near), .second, .val (.int (1 : Int32)), .val (.int (0 : Int32)), .val (.int v12), .val (.int v13), .val (.int (1 : Int32))] [(.int (1 : Int32)), (.int v12)])) _
        refine XS.goto X.here hx rfl (pc0 := 119) (pc' := 123) rfl (hb hby at_119) (by decide) (by decide) ?_
        show Steps p.tables e below (T18.setTop (mkF m 123 #[.val (.int x1), .val (.int x2), .val (.long b), .second, .val (.int x3), .val (.int r), .val (.int d), .val (.ref li), .val (.long near), .second, .val (.int (1 : Int32)), .val (.int (0 : Int32)), .val (.int v12), .val (.int v13), .val (.int (1 : Int32))] [(.int (1 : Int32)), (.int v12)])) _
        refine XS.icmpNo X.here hx rfl (hb hby at_123) rfl (teq hj3).2 ?_
        show Steps p.tables e below (T18.setTop (mkF m 126 #[.val (.int x1), .val (.int x2), .val (.long b), .second, .val (.int x3), .val (.int r), .val (.int d), .val (.ref li), .val (.long near), .second, .val (.int (1 : Int32)), .val (.int (0 : Int32)), .val (.int v12), .val (.int v13), .val (.int (1 : Int32))] [])) _
        refine XS.iconst X.here hx rfl (hb hby at_126) ?_
        show Steps p.tables e below (T18.setTop (mkF m 127 #[.val (.int x1), .val (.int x2), .val (.long b), .second, .val (.int x3), .val (.int r), .val (.int d), .val (.ref li), .val (.long near), .second, .val (.int (1 : Int32)), .val (.int (0 : Int32)), .val (.int v12), .val (.int v13), .val (.int (1 : Int32))] [(.int (1 : Int32))])) _
        refine XS.goto X.here hx rfl (pc0 := 127) (pc' := 131) rfl (hb hby at_127) (by decide) (by decide) ?_
        exact k
      · refine ⟨(0 : Int32), by rw [if_neg hj1, if_neg hj3], fun t k => ?_⟩
        show Steps p.tables e below (T18.setTop (mkF m 103 #[.val (.int x1), .val (.int x2), .val (.long b), .second, .val (.int x3), .val (.int r), .val (.int d), .val (.ref li), .val (.long near), .second, .val (.int (1 : Int32)), .val (.int (0 : Int32)), .val (.int v12), .val (.int v13), .val (.int (1 : Int32))] [])) _
        refine XS.iload X.here hx rfl (hb hby at_103) rfl ?_
        show Steps p.tables e below (T18.setTop (mkF m 105 #[.val (.int x1), .val (.int x2), .val (.long b), .second, .val (.int x3), .val (.int r), .val (.int d), .val (.ref li), .val (.long near), .second, .val (.int (1 : Int32)), .val (.int (0 : Int32)), .val (.int v12), .val (.int v13), .val (.int (1 : Int32))] [(.int (1 : Int32))])) _
        refine XS.ifNo X.here hx rfl (hb hby at_105) rfl ((if0 _ _).trans (feq (by decide)).1) ?_
        show Steps p.tables e below (T18.setTop (mkF m 108 #[.val (.int x1), .val (.int x2), .val (.long b), .second, .val (.int x3), .val (.int r), .val (.int d), .val (.ref li), .val (.long near), .second, .val (.int (1 : Int32)), .val (.int (0 : Int32)), .val (.int v12), .val (.int v13), .val (.int (1 : Int32))] [])) _
        refine XS.iload X.here hx rfl (hb hby at_108) rfl ?_
        show Steps p.tables e below (T18.setTop (mkF m 110 #[.val (.int x1), .val (.int x2), .val (.long b), .second, .val (.int x3), .val (.int r), .val (.int d), .val (.ref li), .val (.long near), .second, .val (.int (1 : Int32)), .val (.int (0 : Int32)), .val (.int v12), .val (.int v13), .val (.int (1 : Int32))] [(.int v12)])) _
        refine XS.lloadN X.here hx rfl (hb hby at_110) rfl ?_
        show Steps p.tables e below (T18.setTop (mkF m 111 #[.val (.int x1), .val (.int x2), .val (.long b), .second, .val (.int x3), .val (.int r), .val (.int d), .val (.ref li), .val (.long near), .second, .val (.int (1 : Int32)), .val (.int (0 : Int32)), .val (.int v12), .val (.int v13), .val (.int (1 : Int32))] [(.long b), (.int v12)])) _
        refine XS.iload X.here hx rfl (hb hby at_111) rfl ?_
        show Steps p.tables e below (T18.setTop (mkF m 113 #[.val (.int x1), .val (.int x2), .val (.long b), .second, .val (.int x3), .val (.int r), .val (.int d), .val (.ref li), .val (.long near), .second, .val (.int (1 : Int32)), .val (.int (0 : Int32)), .val (.int v12), .val (.int v13), .val (.int (1 : Int32))] [(.int r), (.long b), (.int v12)])) _
        refine XS.i2l X.here hx rfl (hb hby at_113) rfl ?_
        show Steps p.tables e below (T18.setTop (mkF m 114 #[.val (.int x1), .val (.int x2), .val (.long b), .second, .val (.int x3), .val (.int r), .val (.int d), .val (.ref li), .val (.long near), .second, .val (.int (1 : Int32)), .val (.int (0 : Int32)), .val (.int v12), .val (.int v13), .val (.int (1 : Int32))] [(.long (r.toInt64)), (.long b), (.int v12)])) _
        refine XS.lcmp X.here hx rfl (hb hby at_114) rfl ?_
        show Steps p.tables e below (T18.setTop (mkF m 115 #[.val (.int x1), .val (.int x2), .val (.long b), .second, .val (.int x3), .val (.int r), .val (.int d), .val (.ref li), .val (.long near), .second, .val (.int (1 : Int32)), .val (.int (0 : Int32)), .val (.int v12), .val (.int v13), .val (.int (1 : Int32))] [(.int (lcmpW b (r.toInt64))), (.int v12)])) _
        refine XS.ifNo X.here hx rfl (hb hby at_115) rfl ((if0 _ _).trans (flt (fun q => hj1 ((lw_gt b (r.toInt64)).mp q))).2.2.1) ?_
        show Steps p.tables e below (T18.setTop (mkF m 118 #[.val (.int x1), .val (.int x2), .val (.long b), .second, .val (.int x3), .val (.int r), .val (.int d), .val (.ref li), .val (.long near), .second, .val (.int (1 : Int32)), .val (.int (0 : Int32)), .val (.int v12), .val (.int v13), .val (.int (1 : Int32))] [(.int v12)])) _
        refine XS.iconst X.here hx rfl (hb hby at_118) ?_
        show Steps p.tables e below (T18.setTop (mkF m 119 #[.val (.int x1), .val (.int x2), .val (.long b), .second, .val (.int x3), .val (.int r), .val (.int d), .val (.ref li), .val (.long near), .second, .val (.int (1 : Int32)), .val (.int (0 : Int32)), .val (.int v12), .val (.int v13), .val (.int (1 : Int32))] [(.int (1 : Int32)), (.int v12)])) _
        refine XS.goto X.here hx rfl (pc0 := 119) (pc' := 123) rfl (hb hby at_119) (by decide) (by decide) ?_
        show Steps p.tables e below (T18.setTop (mkF m 123 #[.val (.int x1), .val (.int x2), .val (.long b), .second, .val (.int x3), .val (.int r), .val (.int d), .val (.ref li), .val (.long near), .second, .val (.int (1 : Int32)), .val (.int (0 : Int32)), .val (.int v12), .val (.int v13), .val (.int (1 : Int32))] [(.int (1 : Int32)), (.int v12)])) _
        refine XS.icmpYes X.here hx rfl (pc0 := 123) (pc' := 130) rfl (hb hby at_123) rfl (feq hj3).2 (by decide) (by decide) ?_
        show Steps p.tables e below (T18.setTop (mkF m 130 #[.val (.int x1), .val (.int x2), .val (.long b), .second, .val (.int x3), .val (.int r), .val (.int d), .val (.ref li), .val (.long near), .second, .val (.int (1 : Int32)), .val (.int (0 : Int32)), .val (.int v12), .val (.int v13), .val (.int (1 : Int32))] [])) _
        refine XS.iconst X.here hx rfl (hb hby at_130) ?_
        exact k
  have st : ∀ t, Steps p.tables e below (T18.setTop (mkF m 131 #[.val (.int x1), .val (.int x2), .val (.long b), .second, .val (.int x3), .val (.int r), .val (.int d), .val (.ref li), .val (.long near), .second, .val (.int (1 : Int32)), .val (.int (0 : Int32)), .val (.int v12), .val (.int v13), .val (.int (1 : Int32))] [(.int w14)])) t → Steps p.tables e below (s₁.setTop (mkF m 0 #[.val (.int x1), .val (.int x2), .val (.long b), .second, .val (.int x3), .unset, .unset, .unset, .unset, .unset, .unset, .unset, .unset, .unset, .unset] [])) t := fun t k => st t (sx t k)
  obtain rfl : w14 = 1 := own_cmp b r v12 w14 h12 hv_w14
  have st : ∀ t, Steps p.tables e below (T18.setTop (mkF m 133 #[.val (.int x1), .val (.int x2), .val (.long b), .second, .val (.int x3), .val (.int r), .val (.int d), .val (.ref li), .val (.long near), .second, .val (.int (1 : Int32)), .val (.int (0 : Int32)), .val (.int v12), .val (.int v13), .val (.int (1 : Int32))] [])) t → Steps p.tables e below (s₁.setTop (mkF m 0 #[.val (.int x1), .val (.int x2), .val (.long b), .second, .val (.int x3), .unset, .unset, .unset, .unset, .unset, .unset, .unset, .unset, .unset, .unset] [])) t := fun t k => st t (by
      show Steps p.tables e below (T18.setTop (mkF m 131 #[.val (.int x1), .val (.int x2), .val (.long b), .second, .val (.int x3), .val (.int r), .val (.int d), .val (.ref li), .val (.long near), .second, .val (.int (1 : Int32)), .val (.int (0 : Int32)), .val (.int v12), .val (.int v13), .val (.int (1 : Int32))] [(.int (1 : Int32))])) _
      refine XS.istore X.here hx rfl (hb hby at_131) rfl (l' := #[.val (.int x1), .val (.int x2), .val (.long b), .second, .val (.int x3), .val (.int r), .val (.int d), .val (.ref li), .val (.long near), .second, .val (.int (1 : Int32)), .val (.int (0 : Int32)), .val (.int v12), .val (.int v13), .val (.int (1 : Int32))]) rfl ?_
      exact k)
  obtain ⟨y14, hv_y14, sx⟩ : ∃ (y14 : Int32), y14 = (if (r.toInt64) < near then (if v13 = (0 : Int32) then (1 : Int32) else (0 : Int32)) else (if v13 = (1 : Int32) then (1 : Int32) else (0 : Int32))) ∧ ∀ t, Steps p.tables e below (T18.setTop (mkF m 162 #[.val (.int x1), .val (.int x2), .val (.long b), .second, .val (.int x3), .val (.int r), .val (.int d), .val (.ref li), .val (.long near), .second, .val (.int (1 : Int32)), .val (.int (0 : Int32)), .val (.int v12), .val (.int v13), .val (.int (1 : Int32))] [(.int y14)])) t → Steps p.tables e below (T18.setTop (mkF m 133 #[.val (.int x1), .val (.int x2), .val (.long b), .second, .val (.int x3), .val (.int r), .val (.int d), .val (.ref li), .val (.long near), .second, .val (.int (1 : Int32)), .val (.int (0 : Int32)), .val (.int v12), .val (.int v13), .val (.int (1 : Int32))] [])) t := by
    by_cases hj1 : (r.toInt64) < near
    · by_cases hj2 : v13 = (0 : Int32)
      · refine ⟨(1 : Int32), by rw [if_pos hj1, if_pos hj2], fun t k => ?_⟩
        show Steps p.tables e below (T18.setTop (mkF m 133 #[.val (.int x1), .val (.int x2), .val (.long b), .second, .val (.int x3), .val (.int r), .val (.int d), .val (.ref li), .val (.long near), .second, .val (.int (1 : Int32)), .val (.int (0 : Int32)), .val (.int v12), .val (.int v13), .val (.int (1 : Int32))] [])) _
        refine XS.iload X.here hx rfl (hb hby at_133) rfl ?_
        show Steps p.tables e below (T18.setTop (mkF m 135 #[.val (.int x1), .val (.int x2), .val (.long b), .second, .val (.int x3), .val (.int r), .val (.int d), .val (.ref li), .val (.long near), .second, .val (.int (1 : Int32)), .val (.int (0 : Int32)), .val (.int v12), .val (.int v13), .val (.int (1 : Int32))] [(.int (1 : Int32))])) _
        refine XS.ifNo X.here hx rfl (hb hby at_135) rfl ((if0 _ _).trans (feq (by decide)).1) ?_
        show Steps p.tables e below (T18.setTop (mkF m 138 #[.val (.int x1), .val (.int x2), .val (.long b), .second, .val (.int x3), .val (.int r), .val (.int d), .val (.ref li), .val (.long near), .second, .val (.int (1 : Int32)), .val (.int (0 : Int32)), .val (.int v12), .val (.int v13), .val (.int (1 : Int32))] [])) _
        refine XS.iload X.here hx rfl (hb hby at_138) rfl ?_
        show Steps p.tables e below (T18.setTop (mkF m 140 #[.val (.int x1), .val (.int x2), .val (.long b), .second, .val (.int x3), .val (.int r), .val (.int d), .val (.ref li), .val (.long near), .second, .val (.int (1 : Int32)), .val (.int (0 : Int32)), .val (.int v12), .val (.int v13), .val (.int (1 : Int32))] [(.int v13)])) _
        refine XS.lload X.here hx rfl (hb hby at_140) rfl ?_
        show Steps p.tables e below (T18.setTop (mkF m 142 #[.val (.int x1), .val (.int x2), .val (.long b), .second, .val (.int x3), .val (.int r), .val (.int d), .val (.ref li), .val (.long near), .second, .val (.int (1 : Int32)), .val (.int (0 : Int32)), .val (.int v12), .val (.int v13), .val (.int (1 : Int32))] [(.long near), (.int v13)])) _
        refine XS.iload X.here hx rfl (hb hby at_142) rfl ?_
        show Steps p.tables e below (T18.setTop (mkF m 144 #[.val (.int x1), .val (.int x2), .val (.long b), .second, .val (.int x3), .val (.int r), .val (.int d), .val (.ref li), .val (.long near), .second, .val (.int (1 : Int32)), .val (.int (0 : Int32)), .val (.int v12), .val (.int v13), .val (.int (1 : Int32))] [(.int r), (.long near), (.int v13)])) _
        refine XS.i2l X.here hx rfl (hb hby at_144) rfl ?_
        show Steps p.tables e below (T18.setTop (mkF m 145 #[.val (.int x1), .val (.int x2), .val (.long b), .second, .val (.int x3), .val (.int r), .val (.int d), .val (.ref li), .val (.long near), .second, .val (.int (1 : Int32)), .val (.int (0 : Int32)), .val (.int v12), .val (.int v13), .val (.int (1 : Int32))] [(.long (r.toInt64)), (.long near), (.int v13)])) _
        refine XS.lcmp X.here hx rfl (hb hby at_145) rfl ?_
        show Steps p.tables e below (T18.setTop (mkF m 146 #[.val (.int x1), .val (.int x2), .val (.long b), .second, .val (.int x3), .val (.int r), .val (.int d), .val (.ref li), .val (.long near), .second, .val (.int (1 : Int32)), .val (.int (0 : Int32)), .val (.int v12), .val (.int v13), .val (.int (1 : Int32))] [(.int (lcmpW near (r.toInt64))), (.int v13)])) _
        refine XS.ifYes X.here hx rfl (pc0 := 146) (pc' := 153) rfl (hb hby at_146) rfl ((if0 _ _).trans (tlt ((lw_gt near (r.toInt64)).mpr hj1)).2.2.1) (by decide) (by decide) ?_
        show Steps p.tables e below (T18.setTop (mkF m 153 #[.val (.int x1), .val (.int x2), .val (.long b), .second, .val (.int x3), .val (.int r), .val (.int d), .val (.ref li), .val (.long near), .second, .val (.int (1 : Int32)), .val (.int (0 : Int32)), .val (.int v12), .val (.int v13), .val (.int (1 : Int32))] [(.int v13)])) _
        refine XS.iconst X.here hx rfl (hb hby at_153) ?_
        show Steps p.tables e below (T18.setTop (mkF m 154 #[.val (.int x1), .val (.int x2), .val (.long b), .second, .val (.int x3), .val (.int r), .val (.int d), .val (.ref li), .val (.long near), .second, .val (.int (1 : Int32)), .val (.int (0 : Int32)), .val (.int v12), .val (.int v13), .val (.int (1 : Int32))] [(.int (0 : Int32)), (.int v13)])) _
        refine XS.icmpNo X.here hx rfl (hb hby at_154) rfl (teq hj2).2 ?_
        show Steps p.tables e below (T18.setTop (mkF m 157 #[.val (.int x1), .val (.int x2), .val (.long b), .second, .val (.int x3), .val (.int r), .val (.int d), .val (.ref li), .val (.long near), .second, .val (.int (1 : Int32)), .val (.int (0 : Int32)), .val (.int v12), .val (.int v13), .val (.int (1 : Int32))] [])) _
        refine XS.iconst X.here hx rfl (hb hby at_157) ?_
        show Steps p.tables e below (T18.setTop (mkF m 158 #[.val (.int x1), .val (.int x2), .val (.long b), .second, .val (.int x3), .val (.int r), .val (.int d), .val (.ref li), .val (.long near), .second, .val (.int (1 : Int32)), .val (.int (0 : Int32)), .val (.int v12), .val (.int v13), .val (.int (1 : Int32))] [(.int (1 : Int32))])) _
        refine XS.goto X.here hx rfl (pc0 := 158) (pc' := 162) rfl (hb hby at_158) (by decide) (by decide) ?_
        exact k
      · refine ⟨(0 : Int32), by rw [if_pos hj1, if_neg hj2], fun t k => ?_⟩
        show Steps p.tables e below (T18.setTop (mkF m 133 #[.val (.int x1), .val (.int x2), .val (.long b), .second, .val (.int x3), .val (.int r), .val (.int d), .val (.ref li), .val (.long near), .second, .val (.int (1 : Int32)), .val (.int (0 : Int32)), .val (.int v12), .val (.int v13), .val (.int (1 : Int32))] [])) _
        refine XS.iload X.here hx rfl (hb hby at_133) rfl ?_
        show Steps p.tables e below (T18.setTop (mkF m 135 #[.val (.int x1), .val (.int x2), .val (.long b), .second, .val (.int x3), .val (.int r), .val (.int d), .val (.ref li), .val (.long near), .second, .val (.int (1 : Int32)), .val (.int (0 : Int32)), .val (.int v12), .val (.int v13), .val (.int (1 : Int32))] [(.int (1 : Int32))])) _
        refine XS.ifNo X.here hx rfl (hb hby at_135) rfl ((if0 _ _).trans (feq (by decide)).1) ?_
        show Steps p.tables e below (T18.setTop (mkF m 138 #[.val (.int x1), .val (.int x2), .val (.long b), .second, .val (.int x3), .val (.int r), .val (.int d), .val (.ref li), .val (.long near), .second, .val (.int (1 : Int32)), .val (.int (0 : Int32)), .val (.int v12), .val (.int v13), .val (.int (1 : Int32))] [])) _
        refine XS.iload X.here hx rfl (hb hby at_138) rfl ?_
        show Steps p.tables e below (T18.setTop (mkF m 140 #[.val (.int x1), .val (.int x2), .val (.long b), .second, .val (.int x3), .val (.int r), .val (.int d), .val (.ref li), .val (.long near), .second, .val (.int (1 : Int32)), .val (.int (0 : Int32)), .val (.int v12), .val (.int v13), .val (.int (1 : Int32))] [(.int v13)])) _
        refine XS.lload X.here hx rfl (hb hby at_140) rfl ?_
        show Steps p.tables e below (T18.setTop (mkF m 142 #[.val (.int x1), .val (.int x2), .val (.long b), .second, .val (.int x3), .val (.int r), .val (.int d), .val (.ref li), .val (.long near), .second, .val (.int (1 : Int32)), .val (.int (0 : Int32)), .val (.int v12), .val (.int v13), .val (.int (1 : Int32))] [(.long near), (.int v13)])) _
        refine XS.iload X.here hx rfl (hb hby at_142) rfl ?_
        show Steps p.tables e below (T18.setTop (mkF m 144 #[.val (.int x1), .val (.int x2), .val (.long b), .second, .val (.int x3), .val (.int r), .val (.int d), .val (.ref li), .val (.long near), .second, .val (.int (1 : Int32)), .val (.int (0 : Int32)), .val (.int v12), .val (.int v13), .val (.int (1 : Int32))] [(.int r), (.long near), (.int v13)])) _
        refine XS.i2l X.here hx rfl (hb hby at_144) rfl ?_
        show Steps p.tables e below (T18.setTop (mkF m 145 #[.val (.int x1), .val (.int x2), .val (.long b), .second, .val (.int x3), .val (.int r), .val (.int d), .val (.ref li), .val (.long near), .second, .val (.int (1 : Int32)), .val (.int (0 : Int32)), .val (.int v12), .val (.int v13), .val (.int (1 : Int32))] [(.long (r.toInt64)), (.long near), (.int v13)])) _
        refine XS.lcmp X.here hx rfl (hb hby at_145) rfl ?_
        show Steps p.tables e below (T18.setTop (mkF m 146 #[.val (.int x1), .val (.int x2), .val (.long b), .second, .val (.int x3), .val (.int r), .val (.int d), .val (.ref li), .val (.long near), .second, .val (.int (1 : Int32)), .val (.int (0 : Int32)), .val (.int v12), .val (.int v13), .val (.int (1 : Int32))] [(.int (lcmpW near (r.toInt64))), (.int v13)])) _
        refine XS.ifYes X.here hx rfl (pc0 := 146) (pc' := 153) rfl (hb hby at_146) rfl ((if0 _ _).trans (tlt ((lw_gt near (r.toInt64)).mpr hj1)).2.2.1) (by decide) (by decide) ?_
        show Steps p.tables e below (T18.setTop (mkF m 153 #[.val (.int x1), .val (.int x2), .val (.long b), .second, .val (.int x3), .val (.int r), .val (.int d), .val (.ref li), .val (.long near), .second, .val (.int (1 : Int32)), .val (.int (0 : Int32)), .val (.int v12), .val (.int v13), .val (.int (1 : Int32))] [(.int v13)])) _
        refine XS.iconst X.here hx rfl (hb hby at_153) ?_
        show Steps p.tables e below (T18.setTop (mkF m 154 #[.val (.int x1), .val (.int x2), .val (.long b), .second, .val (.int x3), .val (.int r), .val (.int d), .val (.ref li), .val (.long near), .second, .val (.int (1 : Int32)), .val (.int (0 : Int32)), .val (.int v12), .val (.int v13), .val (.int (1 : Int32))] [(.int (0 : Int32)), (.int v13)])) _
        refine XS.icmpYes X.here hx rfl (pc0 := 154) (pc' := 161) rfl (hb hby at_154) rfl (feq hj2).2 (by decide) (by decide) ?_
        show Steps p.tables e below (T18.setTop (mkF m 161 #[.val (.int x1), .val (.int x2), .val (.long b), .second, .val (.int x3), .val (.int r), .val (.int d), .val (.ref li), .val (.long near), .second, .val (.int (1 : Int32)), .val (.int (0 : Int32)), .val (.int v12), .val (.int v13), .val (.int (1 : Int32))] [])) _
        refine XS.iconst X.here hx rfl (hb hby at_161) ?_
        exact k
    · by_cases hj3 : v13 = (1 : Int32)
      · refine ⟨(1 : Int32), by rw [if_neg hj1, if_pos hj3], fun t k => ?_⟩
        show Steps p.tables e below (T18.setTop (mkF m 133 #[.val (.int x1), .val (.int x2), .val (.long b), .second, .val (.int x3), .val (.int r), .val (.int d), .val (.ref li), .val (.long near), .second, .val (.int (1 : Int32)), .val (.int (0 : Int32)), .val (.int v12), .val (.int v13), .val (.int (1 : Int32))] [])) _
        refine XS.iload X.here hx rfl (hb hby at_133) rfl ?_
        show Steps p.tables e below (T18.setTop (mkF m 135 #[.val (.int x1), .val (.int x2), .val (.long b), .second, .val (.int x3), .val (.int r), .val (.int d), .val (.ref li), .val (.long near), .second, .val (.int (1 : Int32)), .val (.int (0 : Int32)), .val (.int v12), .val (.int v13), .val (.int (1 : Int32))] [(.int (1 : Int32))])) _
        refine XS.ifNo X.here hx rfl (hb hby at_135) rfl ((if0 _ _).trans (feq (by decide)).1) ?_
        show Steps p.tables e below (T18.setTop (mkF m 138 #[.val (.int x1), .val (.int x2), .val (.long b), .second, .val (.int x3), .val (.int r), .val (.int d), .val (.ref li), .val (.long near), .second, .val (.int (1 : Int32)), .val (.int (0 : Int32)), .val (.int v12), .val (.int v13), .val (.int (1 : Int32))] [])) _
        refine XS.iload X.here hx rfl (hb hby at_138) rfl ?_
        show Steps p.tables e below (T18.setTop (mkF m 140 #[.val (.int x1), .val (.int x2), .val (.long b), .second, .val (.int x3), .val (.int r), .val (.int d), .val (.ref li), .val (.long near), .second, .val (.int (1 : Int32)), .val (.int (0 : Int32)), .val (.int v12), .val (.int v13), .val (.int (1 : Int32))] [(.int v13)])) _
        refine XS.lload X.here hx rfl (hb hby at_140) rfl ?_
        show Steps p.tables e below (T18.setTop (mkF m 142 #[.val (.int x1), .val (.int x2), .val (.long b), .second, .val (.int x3), .val (.int r), .val (.int d), .val (.ref li), .val (.long near), .second, .val (.int (1 : Int32)), .val (.int (0 : Int32)), .val (.int v12), .val (.int v13), .val (.int (1 : Int32))] [(.long near), (.int v13)])) _
        refine XS.iload X.here hx rfl (hb hby at_142) rfl ?_
        show Steps p.tables e below (T18.setTop (mkF m 144 #[.val (.int x1), .val (.int x2), .val (.long b), .second, .val (.int x3), .val (.int r), .val (.int d), .val (.ref li), .val (.long near), .second, .val (.int (1 : Int32)), .val (.int (0 : Int32)), .val (.int v12), .val (.int v13), .val (.int (1 : Int32))] [(.int r), (.long near), (.int v13)])) _
        refine XS.i2l X.here hx rfl (hb hby at_144) rfl ?_
        show Steps p.tables e below (T18.setTop (mkF m 145 #[.val (.int x1), .val (.int x2), .val (.long b), .second, .val (.int x3), .val (.int r), .val (.int d), .val (.ref li), .val (.long near), .second, .val (.int (1 : Int32)), .val (.int (0 : Int32)), .val (.int v12), .val (.int v13), .val (.int (1 : Int32))] [(.long (r.toInt64)), (.long near), (.int v13)])) _
        refine XS.lcmp X.here hx rfl (hb hby at_145) rfl ?_
        show Steps p.tables e below (T18.setTop (mkF m 146 #[.val (.int x1), .val (.int x2), .val (.long b), .second, .val (.int x3), .val (.int r), .val (.int d), .val (.ref li), .val (.long near), .second, .val (.int (1 : Int32)), .val (.int (0 : Int32)), .val (.int v12), .val (.int v13), .val (.int (1 : Int32))] [(.int (lcmpW near (r.toInt64))), (.int v13)])) _
        refine XS.ifNo X.here hx rfl (hb hby at_146) rfl ((if0 _ _).trans (flt (fun q => hj1 ((lw_gt near (r.toInt64)).mp q))).2.2.1) ?_
        show Steps p.tables e below (T18.setTop (mkF m 149 #[.val (.int x1), .val (.int x2), .val (.long b), .second, .val (.int x3), .val (.int r), .val (.int d), .val (.ref li), .val (.long near), .second, .val (.int (1 : Int32)), .val (.int (0 : Int32)), .val (.int v12), .val (.int v13), .val (.int (1 : Int32))] [(.int v13)])) _
        refine XS.iconst X.here hx rfl (hb hby at_149) ?_
        show Steps p.tables e below (T18.setTop (mkF m 150 #[.val (.int x1), .val (.int x2), .val (.long b), .second, .val (.int x3), .val (.int r), .val (.int d), .val (.ref li), .val (.long near), .second, .val (.int (1 : Int32)), .val (.int (0 : Int32)), .val (.int v12), .val (.int v13), .val (.int (1 : Int32))] [(.int (1 : Int32)), (.int v13)])) _
        refine XS.goto X.here hx rfl (pc0 := 150) (pc' := 154) rfl (hb hby at_150) (by decide) (by decide) ?_
        show Steps p.tables e below (T18.setTop (mkF m 154 #[.val (.int x1), .val (.int x2), .val (.long b), .second, .val (.int x3), .val (.int r), .val (.int d), .val (.ref li), .val (.long near), .second, .val (.int (1 : Int32)), .val (.int (0 : Int32)), .val (.int v12), .val (.int v13), .val (.int (1 : Int32))] [(.int (1 : Int32)), (.int v13)])) _
        refine XS.icmpNo X.here hx rfl (hb hby at_154) rfl (teq hj3).2 ?_
        show Steps p.tables e below (T18.setTop (mkF m 157 #[.val (.int x1), .val (.int x2), .val (.long b), .second, .val (.int x3), .val (.int r), .val (.int d), .val (.ref li), .val (.long near), .second, .val (.int (1 : Int32)), .val (.int (0 : Int32)), .val (.int v12), .val (.int v13), .val (.int (1 : Int32))] [])) _
        refine XS.iconst X.here hx rfl (hb hby at_157) ?_
        show Steps p.tables e below (T18.setTop (mkF m 158 #[.val (.int x1), .val (.int x2), .val (.long b), .second, .val (.int x3), .val (.int r), .val (.int d), .val (.ref li), .val (.long near), .second, .val (.int (1 : Int32)), .val (.int (0 : Int32)), .val (.int v12), .val (.int v13), .val (.int (1 : Int32))] [(.int (1 : Int32))])) _
        refine XS.goto X.here hx rfl (pc0 := 158) (pc' := 162) rfl (hb hby at_158) (by decide) (by decide) ?_
        exact k
      · refine ⟨(0 : Int32), by rw [if_neg hj1, if_neg hj3], fun t k => ?_⟩
        show Steps p.tables e below (T18.setTop (mkF m 133 #[.val (.int x1), .val (.int x2), .val (.long b), .second, .val (.int x3), .val (.int r), .val (.int d), .val (.ref li), .val (.long near), .second, .val (.int (1 : Int32)), .val (.int (0 : Int32)), .val (.int v12), .val (.int v13), .val (.int (1 : Int32))] [])) _
        refine XS.iload X.here hx rfl (hb hby at_133) rfl ?_
        show Steps p.tables e below (T18.setTop (mkF m 135 #[.val (.int x1), .val (.int x2), .val (.long b), .second, .val (.int x3), .val (.int r), .val (.int d), .val (.ref li), .val (.long near), .second, .val (.int (1 : Int32)), .val (.int (0 : Int32)), .val (.int v12), .val (.int v13), .val (.int (1 : Int32))] [(.int (1 : Int32))])) _
        refine XS.ifNo X.here hx rfl (hb hby at_135) rfl ((if0 _ _).trans (feq (by decide)).1) ?_
        show Steps p.tables e below (T18.setTop (mkF m 138 #[.val (.int x1), .val (.int x2), .val (.long b), .second, .val (.int x3), .val (.int r), .val (.int d), .val (.ref li), .val (.long near), .second, .val (.int (1 : Int32)), .val (.int (0 : Int32)), .val (.int v12), .val (.int v13), .val (.int (1 : Int32))] [])) _
        refine XS.iload X.here hx rfl (hb hby at_138) rfl ?_
        show Steps p.tables e below (T18.setTop (mkF m 140 #[.val (.int x1), .val (.int x2), .val (.long b), .second, .val (.int x3), .val (.int r), .val (.int d), .val (.ref li), .val (.long near), .second, .val (.int (1 : Int32)), .val (.int (0 : Int32)), .val (.int v12), .val (.int v13), .val (.int (1 : Int32))] [(.int v13)])) _
        refine XS.lload X.here hx rfl (hb hby at_140) rfl ?_
        show Steps p.tables e below (T18.setTop (mkF m 142 #[.val (.int x1), .val (.int x2), .val (.long b), .second, .val (.int x3), .val (.int r), .val (.int d), .val (.ref li), .val (.long near), .second, .val (.int (1 : Int32)), .val (.int (0 : Int32)), .val (.int v12), .val (.int v13), .val (.int (1 : Int32))] [(.long near), (.int v13)])) _
        refine XS.iload X.here hx rfl (hb hby at_142) rfl ?_
        show Steps p.tables e below (T18.setTop (mkF m 144 #[.val (.int x1), .val (.int x2), .val (.long b), .second, .val (.int x3), .val (.int r), .val (.int d), .val (.ref li), .val (.long near), .second, .val (.int (1 : Int32)), .val (.int (0 : Int32)), .val (.int v12), .val (.int v13), .val (.int (1 : Int32))] [(.int r), (.long near), (.int v13)])) _
        refine XS.i2l X.here hx rfl (hb hby at_144) rfl ?_
        show Steps p.tables e below (T18.setTop (mkF m 145 #[.val (.int x1), .val (.int x2), .val (.long b), .second, .val (.int x3), .val (.int r), .val (.int d), .val (.ref li), .val (.long near), .second, .val (.int (1 : Int32)), .val (.int (0 : Int32)), .val (.int v12), .val (.int v13), .val (.int (1 : Int32))] [(.long (r.toInt64)), (.long near), (.int v13)])) _
        refine XS.lcmp X.here hx rfl (hb hby at_145) rfl ?_
        show Steps p.tables e below (T18.setTop (mkF m 146 #[.val (.int x1), .val (.int x2), .val (.long b), .second, .val (.int x3), .val (.int r), .val (.int d), .val (.ref li), .val (.long near), .second, .val (.int (1 : Int32)), .val (.int (0 : Int32)), .val (.int v12), .val (.int v13), .val (.int (1 : Int32))] [(.int (lcmpW near (r.toInt64))), (.int v13)])) _
        refine XS.ifNo X.here hx rfl (hb hby at_146) rfl ((if0 _ _).trans (flt (fun q => hj1 ((lw_gt near (r.toInt64)).mp q))).2.2.1) ?_
        show Steps p.tables e below (T18.setTop (mkF m 149 #[.val (.int x1), .val (.int x2), .val (.long b), .second, .val (.int x3), .val (.int r), .val (.int d), .val (.ref li), .val (.long near), .second, .val (.int (1 : Int32)), .val (.int (0 : Int32)), .val (.int v12), .val (.int v13), .val (.int (1 : Int32))] [(.int v13)])) _
        refine XS.iconst X.here hx rfl (hb hby at_149) ?_
        show Steps p.tables e below (T18.setTop (mkF m 150 #[.val (.int x1), .val (.int x2), .val (.long b), .second, .val (.int x3), .val (.int r), .val (.int d), .val (.ref li), .val (.long near), .second, .val (.int (1 : Int32)), .val (.int (0 : Int32)), .val (.int v12), .val (.int v13), .val (.int (1 : Int32))] [(.int (1 : Int32)), (.int v13)])) _
        refine XS.goto X.here hx rfl (pc0 := 150) (pc' := 154) rfl (hb hby at_150) (by decide) (by decide) ?_
        show Steps p.tables e below (T18.setTop (mkF m 154 #[.val (.int x1), .val (.int x2), .val (.long b), .second, .val (.int x3), .val (.int r), .val (.int d), .val (.ref li), .val (.long near), .second, .val (.int (1 : Int32)), .val (.int (0 : Int32)), .val (.int v12), .val (.int v13), .val (.int (1 : Int32))] [(.int (1 : Int32)), (.int v13)])) _
        refine XS.icmpYes X.here hx rfl (pc0 := 154) (pc' := 161) rfl (hb hby at_154) rfl (feq hj3).2 (by decide) (by decide) ?_
        show Steps p.tables e below (T18.setTop (mkF m 161 #[.val (.int x1), .val (.int x2), .val (.long b), .second, .val (.int x3), .val (.int r), .val (.int d), .val (.ref li), .val (.long near), .second, .val (.int (1 : Int32)), .val (.int (0 : Int32)), .val (.int v12), .val (.int v13), .val (.int (1 : Int32))] [])) _
        refine XS.iconst X.here hx rfl (hb hby at_161) ?_
        exact k
  have st : ∀ t, Steps p.tables e below (T18.setTop (mkF m 162 #[.val (.int x1), .val (.int x2), .val (.long b), .second, .val (.int x3), .val (.int r), .val (.int d), .val (.ref li), .val (.long near), .second, .val (.int (1 : Int32)), .val (.int (0 : Int32)), .val (.int v12), .val (.int v13), .val (.int (1 : Int32))] [(.int y14)])) t → Steps p.tables e below (s₁.setTop (mkF m 0 #[.val (.int x1), .val (.int x2), .val (.long b), .second, .val (.int x3), .unset, .unset, .unset, .unset, .unset, .unset, .unset, .unset, .unset, .unset] [])) t := fun t k => st t (sx t k)
  obtain rfl : y14 = 1 := own_cmp near r v13 y14 h13 hv_y14
  have st : ∀ t, Steps p.tables e below (T18.setTop (mkF m 171 #[.val (.int x1), .val (.int x2), .val (.long b), .second, .val (.int x3), .val (.int r), .val (.int d), .val (.ref li), .val (.long near), .second, .val (.int (1 : Int32)), .val (.int (0 : Int32)), .val (.int v12), .val (.int v13), .val (.int (1 : Int32))] [(.ref li)])) t → Steps p.tables e below (s₁.setTop (mkF m 0 #[.val (.int x1), .val (.int x2), .val (.long b), .second, .val (.int x3), .unset, .unset, .unset, .unset, .unset, .unset, .unset, .unset, .unset, .unset] [])) t := fun t k => st t (by
      show Steps p.tables e below (T18.setTop (mkF m 162 #[.val (.int x1), .val (.int x2), .val (.long b), .second, .val (.int x3), .val (.int r), .val (.int d), .val (.ref li), .val (.long near), .second, .val (.int (1 : Int32)), .val (.int (0 : Int32)), .val (.int v12), .val (.int v13), .val (.int (1 : Int32))] [(.int (1 : Int32))])) _
      refine XS.istore X.here hx rfl (hb hby at_162) rfl (l' := #[.val (.int x1), .val (.int x2), .val (.long b), .second, .val (.int x3), .val (.int r), .val (.int d), .val (.ref li), .val (.long near), .second, .val (.int (1 : Int32)), .val (.int (0 : Int32)), .val (.int v12), .val (.int v13), .val (.int (1 : Int32))]) rfl ?_
      show Steps p.tables e below (T18.setTop (mkF m 164 #[.val (.int x1), .val (.int x2), .val (.long b), .second, .val (.int x3), .val (.int r), .val (.int d), .val (.ref li), .val (.long near), .second, .val (.int (1 : Int32)), .val (.int (0 : Int32)), .val (.int v12), .val (.int v13), .val (.int (1 : Int32))] [])) _
      refine XS.iload X.here hx rfl (hb hby at_164) rfl ?_
      show Steps p.tables e below (T18.setTop (mkF m 166 #[.val (.int x1), .val (.int x2), .val (.long b), .second, .val (.int x3), .val (.int r), .val (.int d), .val (.ref li), .val (.long near), .second, .val (.int (1 : Int32)), .val (.int (0 : Int32)), .val (.int v12), .val (.int v13), .val (.int (1 : Int32))] [(.int (1 : Int32))])) _
      refine XS.ifNo X.here hx rfl (hb hby at_166) rfl ((if0 _ _).trans (feq (by decide)).1) ?_
      show Steps p.tables e below (T18.setTop (mkF m 169 #[.val (.int x1), .val (.int x2), .val (.long b), .second, .val (.int x3), .val (.int r), .val (.int d), .val (.ref li), .val (.long near), .second, .val (.int (1 : Int32)), .val (.int (0 : Int32)), .val (.int v12), .val (.int v13), .val (.int (1 : Int32))] [])) _
      refine XS.aload X.here hx rfl (hb hby at_169) rfl rfl ?_
      exact k)
  obtain ⟨cq19, kq19, qa19, qb19, qc19⟩ := isOf hZ eh E_li
  obtain ⟨_, _, ⟨T20, L19, k19, n19⟩, -, X, ⟨Lc19, hQ, l19, y19, z19⟩, sx⟩ := X.virtualBack hx (y := (⟨"com/example/pretoria/pretoria/engine/Limits", "requestBytes", "()I"⟩ : MethodName)) (z := (⟨"com/example/pretoria/pretoria/engine/Limits", "requestBytes", "()I"⟩ : MethodName)) hown (mvT hZ (hw _ (List.mem_of_getElem? (i := 23) rfl))) (mvT hZ (hw _ (List.mem_of_getElem? (i := 24) rfl))) (notFace_of_selects (args := #[]) (mvT hZ (hw _ (List.mem_of_getElem? (i := 26) rfl)))) (mvT hZ (hw _ (List.mem_of_getElem? (i := 26) rfl))) (mvT hZ (hw _ (List.mem_of_getElem? (i := 25) rfl))) (by decide) (backOf (W := 0) (rm5 l Z a0 hw [] li r h10 n0 Z0 F_li_requestBytes) hZ (hw _ (List.mem_of_getElem? (i := 27) rfl)) (hw _ (List.mem_of_getElem? (i := 7) rfl)) (by decide) (by decide)) qa19 qc19 (g := (mkF m 171 #[.val (.int x1), .val (.int x2), .val (.long b), .second, .val (.int x3), .val (.int r), .val (.int d), .val (.ref li), .val (.long near), .second, .val (.int (1 : Int32)), .val (.int (0 : Int32)), .val (.int v12), .val (.int v13), .val (.int (1 : Int32))] [(.ref li)])) rfl (by rw [hml]; rfl) (Steps.refl _) (argsL := []) (rest := []) (lenOf own_pd3 rfl) rfl (by show 2 * 0 + _ ≤ _; exact Nat.le_of_eq rfl) (hb hby at_171) (fun _ _ => ⟨rfl, eh, (by decide : 1 + 0 ≤ _), (by decide : 2 + 0 ≤ _)⟩)
  dsimp only [Pt.U, Pt.locs, Pt.cells, Pt.slots] at X l19 y19 z19 sx hQ
  subst l19 y19 z19
  obtain ⟨rfl, Nc, hsame_⟩ := hQ
  have st : ∀ t, Steps p.tables e below (T20.setTop (mkF m 174 #[.val (.int x1), .val (.int x2), .val (.long b), .second, .val (.int x3), .val (.int r), .val (.int d), .val (.ref li), .val (.long near), .second, .val (.int (1 : Int32)), .val (.int (0 : Int32)), .val (.int v12), .val (.int v13), .val (.int (1 : Int32))] [(.int r)])) t → Steps p.tables e below (s₁.setTop (mkF m 0 #[.val (.int x1), .val (.int x2), .val (.long b), .second, .val (.int x3), .unset, .unset, .unset, .unset, .unset, .unset, .unset, .unset, .unset, .unset] [])) t := fun t k => st t (sx.trans k)
  have N := Fr.app N Nc
  have eh : T20.heap = h10 := hsame_
  have st : ∀ t, Steps p.tables e below (T20.setTop (mkF m 188 #[.val (.int x1), .val (.int x2), .val (.long b), .second, .val (.int x3), .val (.int r), .val (.int d), .val (.ref li), .val (.long near), .second, .val (.int (1 : Int32)), .val (.int (0 : Int32)), .val (.int v12), .val (.int v13), .val (.int (1 : Int32))] [(.int (1 : Int32))])) t → Steps p.tables e below (s₁.setTop (mkF m 0 #[.val (.int x1), .val (.int x2), .val (.long b), .second, .val (.int x3), .unset, .unset, .unset, .unset, .unset, .unset, .unset, .unset, .unset, .unset] [])) t := fun t k => st t (by
      show Steps p.tables e below (T20.setTop (mkF m 174 #[.val (.int x1), .val (.int x2), .val (.long b), .second, .val (.int x3), .val (.int r), .val (.int d), .val (.ref li), .val (.long near), .second, .val (.int (1 : Int32)), .val (.int (0 : Int32)), .val (.int v12), .val (.int v13), .val (.int (1 : Int32))] [(.int r)])) _
      refine XS.iload X.here hx rfl (hb hby at_174) rfl ?_
      show Steps p.tables e below (T20.setTop (mkF m 176 #[.val (.int x1), .val (.int x2), .val (.long b), .second, .val (.int x3), .val (.int r), .val (.int d), .val (.ref li), .val (.long near), .second, .val (.int (1 : Int32)), .val (.int (0 : Int32)), .val (.int v12), .val (.int v13), .val (.int (1 : Int32))] [(.int r), (.int r)])) _
      refine XS.icmpNo X.here hx rfl (hb hby at_176) rfl (teq rfl).2 ?_
      show Steps p.tables e below (T20.setTop (mkF m 179 #[.val (.int x1), .val (.int x2), .val (.long b), .second, .val (.int x3), .val (.int r), .val (.int d), .val (.ref li), .val (.long near), .second, .val (.int (1 : Int32)), .val (.int (0 : Int32)), .val (.int v12), .val (.int v13), .val (.int (1 : Int32))] [])) _
      refine XS.iconst X.here hx rfl (hb hby at_179) ?_
      show Steps p.tables e below (T20.setTop (mkF m 180 #[.val (.int x1), .val (.int x2), .val (.long b), .second, .val (.int x3), .val (.int r), .val (.int d), .val (.ref li), .val (.long near), .second, .val (.int (1 : Int32)), .val (.int (0 : Int32)), .val (.int v12), .val (.int v13), .val (.int (1 : Int32))] [(.int (1 : Int32))])) _
      refine XS.goto X.here hx rfl (pc0 := 180) (pc' := 184) rfl (hb hby at_180) (by decide) (by decide) ?_
      show Steps p.tables e below (T20.setTop (mkF m 184 #[.val (.int x1), .val (.int x2), .val (.long b), .second, .val (.int x3), .val (.int r), .val (.int d), .val (.ref li), .val (.long near), .second, .val (.int (1 : Int32)), .val (.int (0 : Int32)), .val (.int v12), .val (.int v13), .val (.int (1 : Int32))] [(.int (1 : Int32))])) _
      refine XS.istore X.here hx rfl (hb hby at_184) rfl (l' := #[.val (.int x1), .val (.int x2), .val (.long b), .second, .val (.int x3), .val (.int r), .val (.int d), .val (.ref li), .val (.long near), .second, .val (.int (1 : Int32)), .val (.int (0 : Int32)), .val (.int v12), .val (.int v13), .val (.int (1 : Int32))]) rfl ?_
      show Steps p.tables e below (T20.setTop (mkF m 186 #[.val (.int x1), .val (.int x2), .val (.long b), .second, .val (.int x3), .val (.int r), .val (.int d), .val (.ref li), .val (.long near), .second, .val (.int (1 : Int32)), .val (.int (0 : Int32)), .val (.int v12), .val (.int v13), .val (.int (1 : Int32))] [])) _
      refine XS.iload X.here hx rfl (hb hby at_186) rfl ?_
      exact k)
  obtain ⟨fs_, hr, hrun, hended, hW, hsame⟩ := X.leave (v := some (.int (1 : Int32))) (fun h => by rw [Bd.returns] at h; cases h)
  refine ⟨_, _, pre0 _ (st _ ?_), hrun, hended, _, _, rfl, ?_, ⟨_, rfl⟩, hW, hsame.mono (by decide) (by decide)⟩
  · exact retN X hx (t := .boolean) Bd.returns (by simp) (hb hby at_188) hr
  · show Q_rm0 Z x1 x2 b x3 h0 n0 _ T20.heap _
    rw [eh]
    exact ⟨rfl, N⟩
set_option maxRecDepth 65536 in
set_option maxHeartbeats 40000000 in
theorem comes_1 {Post : Tables → Env → Array Value → State → Outcome → State → Prop} (hpost : ∀ tb e args s v u, (limb_1_1.after args s (.returned v) u = true ∧ limb_1_2.after args s (.returned v) u = true ∧ True) → FrameEnd s (.returned v) u (Jvm.fieldLocs frame_1_writes args s ++ Jvm.arrayLocs frame_1_arrays args s ++ Jvm.staticLocs frame_1_statics s) 16 128 → Post tb e args s (.returned v) u) :
    ArmFor flags0 classFile x code maxLocals ret World_1 tables_1 room_1 Calls_1 rest_1 Pre_1 Post := by
  intro l hfl _ _ p e ha hc hk s m args below hf hA hF happ hP
  obtain ⟨hcalls, hrest, hpre⟩ := hP
  obtain ⟨-, -, -, hnamed, -, -, -, hat⟩ := (Spec.applies_iff hf).mp happ
  obtain ⟨hg, hn⟩ := and_e (Cond.before_iff.mp (show (Jvm.Cond.and given_1 narrow_1).before args s = true from hpre))
  obtain ⟨g0, hg1⟩ := and_e hg
  obtain ⟨ha0, hg2⟩ := and_e hg1
  obtain ⟨ha1, hg3⟩ := and_e hg2
  obtain ⟨ha2, hg4⟩ := and_e hg3
  have ha3 := hg4
  obtain ⟨w0, w1, w2, w3, rfl⟩ : ∃ w0 w1 w2 w3 : Value, args = #[w0, w1, w2, w3] := by
    have hs : args.size = 4 := by simpa [Cond.value, given_1] using g0
    obtain ⟨L⟩ := args
    match L, hs with
    | [w0, w1, w2, w3], _ => exact ⟨w0, w1, w2, w3, rfl⟩
  have hw := fun d (hd : d ∈ tables_1) => atoms_spec (ws := Jvm.Cond.code x code maxLocals ret :: tables_1) hat d (List.mem_cons_of_mem _ hd)
  obtain ⟨i0, ei0⟩ := is_v ha0
  obtain rfl : w0 = (.int i0) := Option.some.inj ei0
  obtain ⟨i1, ei1⟩ := is_v ha1
  obtain rfl : w1 = (.int i1) := Option.some.inj ei1
  obtain ⟨i2, ei2⟩ := isL_v ha2
  obtain rfl : w2 = (.long i2) := Option.some.inj ei2
  obtain ⟨i3, ei3⟩ := is_v ha3
  obtain rfl : w3 = (.int i3) := Option.some.inj ei3
  obtain ⟨n, o, h1, h2, h3, _, L, rfl, ⟨rfl, N⟩, hq⟩ := rm0 l s _ hw tables_1 i0 i1 i2 i3 s.heap s.heap.size (Nat.le_refl _) p e ha hc hk s m _ below hf ((Spec.applies_iff_loose hf).mp happ).1 ⟨rfl, State.Warmed39.refl s, rfl⟩ trivial
  refine ⟨n, _, h1, h2, h3, hpost _ _ _ _ _ _ ⟨Cond.after_iff.mpr rfl, Cond.after_iff.mpr (eq_i res_at (Term.int_eval (1)) rfl), trivial⟩ ⟨hq.1, hq.2.1, (hq.2.2.sift fun y hy => Or.inr (N y hy)).mono (by decide) (by decide)⟩⟩
theorem main_1_1 : Claimed_1_1 := comes_1 fun _ _ _ _ _ _ h hF => ⟨h.1, hF⟩
theorem main_1_2 : Claimed_1_2 := comes_1 fun _ _ _ _ _ _ h hF => ⟨h.2.1, hF⟩
end Jvm.Pilot.@@N@@
namespace Jvm.Pilot.@@N@@
open Jvm Jvm.ClassFile Sem Op Lib Jvm.Free Jvm.Stand Jvm.Pilot.@@N@@.Jvm.D
/-! MADE BY PROGRAM (witnessworld.py) out of the Statement's table words and the real class files: 10 classes; the members and pool entries that the words name. The judged class is class 1, her method 1. -/
namespace start1
open Jvm.ClassFile
def u (s : String) : CpInfo := .utf8 (stringToUtf16 s)
/-- a pool by its gaps: so many unusable entries, then the entry; so many at the end -/
def gap : Nat → List CpInfo → List CpInfo
  | 0, r => r
  | n + 1, r => .unusable :: gap n r
def poolList (es : List (Nat × CpInfo)) (last : Nat) : List CpInfo := es.foldr (fun e r => gap e.1 (e.2 :: r)) (gap last [])
def pool (es : List (Nat × CpInfo)) (last : Nat) : Array CpInfo := ⟨poolList es last⟩
def fileOf (pool : Array CpInfo) (this : Nat) (attrs : Array Attribute := #[]) (ms : Array MethodInfo := #[]) (fl : Nat := 33) (sup : Nat := 0) (ifs : Array Nat := #[]) (fds : Array FieldInfo := #[]) : ClassFile where
  minorVersion := 0
  majorVersion := 65
  constantPool := pool
  accessFlags := fl
  thisClass := this
  superClass := sup
  interfaces := ifs
  fields := fds
  methods := ms
  attributes := attrs
def plain (name : String) (sup : Option ClassId) : Class where
  name := name
  kind := .ordinary
  loader := none
  accessFlags := 33
  super := sup
  interfaces := #[]
  cf := none
  fields := #[]
  methods := #[]
  instanceTypes := #[]
  staticTypes := #[]
  resolved := #[]
  callSites := []
  init := .initialized
  statics := none
  mirror := none

def pool0 : Array CpInfo := pool [(5, u "<init>"), (0, u "()V"), (1, .class_ 10), (1, u "java/lang/Object")] 113

def k0c0 : Code := { maxStack := 0, maxLocals := 1, code := object_method_1_code, exceptionTable := #[], attributes := #[] }
def k0m0 : Method := { name := "<init>", desc := "()V", sig := { parameters := [], returnType := none }, accessFlags := 1, code := some k0c0 }
/-- java/lang/Object -/
def k0 : Class := { plain "java/lang/Object" none with
  accessFlags := 33
  interfaces := #[]
  cf := some (fileOf pool0 8 #[] #[{ accessFlags := 1, nameIndex := 5, descriptorIndex := 6, attributes := #[] }] 33 0 #[] #[])
  fields := #[]
  methods := #[k0m0]
  instanceTypes := #[]
  staticTypes := #[]
  resolved := Array.replicate 124 none
  statics := none }

def pool1 : Array CpInfo := pool [(2, .class_ 4), (1, u "java/lang/Object"), (0, u "<init>"), (0, u "()V"), (0, .integer 2147483647), (0, .methodref 9 10), (0, .class_ 11), (0, .nameAndType 12 13), (0, u "java/lang/Math"), (0, u "max"), (0, u "(II)I"), (0, .class_ 15), (0, u "com/example/pretoria/pretoria/engine/Limits"), (0, .methodref 14 17), (0, .nameAndType 5 18), (0, u "(II)V"), (0, .methodref 14 20), (0, .nameAndType 21 22), (0, u "admits"), (0, u "(J)Z"), (0, .methodref 14 24), (0, .nameAndType 25 26), (0, u "requestBytes"), (0, u "()I"), (0, .class_ 28), (0, u "com/example/pretoria/pretoria/engine/LimitsAdmitsPinLaw"), (2, u "law"), (0, u "(IIJI)Z")] 3

def k1m0 : Method := { name := "<init>", desc := "()V", sig := { parameters := [], returnType := none }, accessFlags := 2, code := none }
def k1c1 : Code := { maxStack := 5, maxLocals := 15, code := code, exceptionTable := #[], attributes := #[] }
def k1m1 : Method := { name := "law", desc := "(IIJI)Z", sig := { parameters := [.int, .int, .long, .int], returnType := some .boolean }, accessFlags := 9, code := some k1c1 }
/-- com/example/pretoria/pretoria/engine/LimitsAdmitsPinLaw -/
def k1 : Class := { plain "com/example/pretoria/pretoria/engine/LimitsAdmitsPinLaw" (some 0) with
  accessFlags := 49
  interfaces := #[]
  cf := some (fileOf pool1 27 #[] #[{ accessFlags := 2, nameIndex := 5, descriptorIndex := 6, attributes := #[] }, { accessFlags := 9, nameIndex := 31, descriptorIndex := 32, attributes := #[] }] 49 2 #[] #[])
  fields := #[]
  methods := #[k1m0, k1m1]
  instanceTypes := #[]
  staticTypes := #[]
  resolved := Array.replicate 36 none
  statics := none }

def pool2 : Array CpInfo := pool [(1, .class_ 2), (0, u "java/lang/Math"), (1, .class_ 6), (1, u "java/lang/Object"), (0, u "<init>"), (0, u "()V"), (89, .class_ 100), (1, u "java/lang/Math$RandomNumberGeneratorHolder"), (71, u "negativeZeroFloatBits"), (0, u "J"), (2, u "negativeZeroDoubleBits"), (21, u "max"), (46, u "$assertionsDisabled"), (0, u "Z"), (88, u "(II)I"), (2, u "twoToTheDoubleScaleDown"), (0, u "D"), (4, u "twoToTheDoubleScaleUp"), (9, u "E"), (3, u "PI"), (2, u "TAU"), (2, u "DEGREES_TO_RADIANS"), (0, u "RADIANS_TO_DEGREES")] 94

def k2m0 : Method := { name := "<init>", desc := "()V", sig := { parameters := [], returnType := none }, accessFlags := 2, code := none }
def k2c1 : Code := { maxStack := 2, maxLocals := 2, code := jdk_29_method_65_code, exceptionTable := #[], attributes := #[] }
def k2m1 : Method := { name := "max", desc := "(II)I", sig := { parameters := [.int, .int], returnType := some .int }, accessFlags := 9, code := some k2c1 }
/-- java/lang/Math -/
def k2 : Class := { plain "java/lang/Math" (some 0) with
  accessFlags := 49
  interfaces := #[]
  cf := some (fileOf pool2 1 #[.nestMembers #[98]] #[{ accessFlags := 2, nameIndex := 7, descriptorIndex := 8, attributes := #[] }, { accessFlags := 9, nameIndex := 198, descriptorIndex := 335, attributes := #[] }] 49 4 #[] #[{ accessFlags := 25, nameIndex := 354, descriptorIndex := 339, attributes := #[] }, { accessFlags := 25, nameIndex := 358, descriptorIndex := 339, attributes := #[] }, { accessFlags := 25, nameIndex := 361, descriptorIndex := 339, attributes := #[] }, { accessFlags := 26, nameIndex := 364, descriptorIndex := 339, attributes := #[] }, { accessFlags := 26, nameIndex := 365, descriptorIndex := 339, attributes := #[] }, { accessFlags := 26, nameIndex := 172, descriptorIndex := 173, attributes := #[] }, { accessFlags := 26, nameIndex := 176, descriptorIndex := 173, attributes := #[] }, { accessFlags := 8, nameIndex := 344, descriptorIndex := 339, attributes := #[] }, { accessFlags := 8, nameIndex := 338, descriptorIndex := 339, attributes := #[] }, { accessFlags := 4120, nameIndex := 245, descriptorIndex := 246, attributes := #[] }])
  fields := #[{ name := "E", type := .double, accessFlags := 25, slot := 0, constantValue := 0 }, { name := "PI", type := .double, accessFlags := 25, slot := 1, constantValue := 0 }, { name := "TAU", type := .double, accessFlags := 25, slot := 2, constantValue := 0 }, { name := "DEGREES_TO_RADIANS", type := .double, accessFlags := 26, slot := 3, constantValue := 0 }, { name := "RADIANS_TO_DEGREES", type := .double, accessFlags := 26, slot := 4, constantValue := 0 }, { name := "negativeZeroFloatBits", type := .long, accessFlags := 26, slot := 5, constantValue := 0 }, { name := "negativeZeroDoubleBits", type := .long, accessFlags := 26, slot := 6, constantValue := 0 }, { name := "twoToTheDoubleScaleUp", type := .double, accessFlags := 8, slot := 7, constantValue := 0 }, { name := "twoToTheDoubleScaleDown", type := .double, accessFlags := 8, slot := 8, constantValue := 0 }, { name := "$assertionsDisabled", type := .boolean, accessFlags := 4120, slot := 9, constantValue := 0 }]
  methods := #[k2m0, k2m1]
  instanceTypes := #[]
  staticTypes := #[.double, .double, .double, .double, .double, .long, .long, .double, .double, .boolean]
  resolved := Array.replicate 460 none
  statics := none }

def pool3 : Array CpInfo := pool [(1, .methodref 2 3), (0, .class_ 4), (0, .nameAndType 5 6), (0, u "java/lang/Object"), (0, u "<init>"), (0, u "()V"), (9, .fieldref 17 18), (0, .class_ 19), (0, .nameAndType 20 21), (0, u "com/example/pretoria/pretoria/engine/Limits"), (0, u "requestBytes"), (0, u "I"), (0, .fieldref 17 23), (0, .nameAndType 24 21), (0, u "depth"), (19, u "(II)V"), (2, u "DEFAULT"), (0, u "Lcom/example/pretoria/pretoria/engine/Limits;"), (3, u "()I"), (0, u "admits"), (0, u "(J)Z")] 23

def k3c0 : Code := { maxStack := 4, maxLocals := 3, code := prog_20_method_1_code, exceptionTable := #[], attributes := #[] }
def k3m0 : Method := { name := "<init>", desc := "(II)V", sig := { parameters := [.int, .int], returnType := none }, accessFlags := 1, code := some k3c0 }
def k3c1 : Code := { maxStack := 1, maxLocals := 1, code := prog_20_method_2_code, exceptionTable := #[], attributes := #[] }
def k3m1 : Method := { name := "requestBytes", desc := "()I", sig := { parameters := [], returnType := some .int }, accessFlags := 1, code := some k3c1 }
def k3c2 : Code := { maxStack := 4, maxLocals := 3, code := prog_20_method_4_code, exceptionTable := #[], attributes := #[] }
def k3m2 : Method := { name := "admits", desc := "(J)Z", sig := { parameters := [.long], returnType := some .boolean }, accessFlags := 1, code := some k3c2 }
/-- com/example/pretoria/pretoria/engine/Limits -/
def k3 : Class := { plain "com/example/pretoria/pretoria/engine/Limits" (some 0) with
  accessFlags := 49
  interfaces := #[]
  cf := some (fileOf pool3 17 #[] #[{ accessFlags := 1, nameIndex := 5, descriptorIndex := 44, attributes := #[] }, { accessFlags := 1, nameIndex := 20, descriptorIndex := 52, attributes := #[] }, { accessFlags := 1, nameIndex := 53, descriptorIndex := 54, attributes := #[] }] 49 2 #[] #[{ accessFlags := 25, nameIndex := 47, descriptorIndex := 48, attributes := #[] }, { accessFlags := 18, nameIndex := 20, descriptorIndex := 21, attributes := #[] }, { accessFlags := 18, nameIndex := 24, descriptorIndex := 21, attributes := #[] }])
  fields := #[{ name := "DEFAULT", type := (.object "com/example/pretoria/pretoria/engine/Limits"), accessFlags := 25, slot := 0, constantValue := 0 }, { name := "requestBytes", type := .int, accessFlags := 18, slot := 0, constantValue := 0 }, { name := "depth", type := .int, accessFlags := 18, slot := 1, constantValue := 0 }]
  methods := #[k3m0, k3m1, k3m2]
  instanceTypes := #[.int, .int]
  staticTypes := #[(.object "com/example/pretoria/pretoria/engine/Limits")]
  resolved := Array.replicate 78 none
  statics := none }

def pool4 : Array CpInfo := pool [(1, u "java/lang/Cloneable"), (0, .class_ 1), (0, u "java/lang/Object"), (0, .class_ 3)] 3

/-- java/lang/Cloneable -/
def k4 : Class := { plain "java/lang/Cloneable" (some 0) with
  accessFlags := 1537
  interfaces := #[]
  cf := some (fileOf pool4 2 #[] #[] 1537 4 #[] #[])
  fields := #[]
  methods := #[]
  instanceTypes := #[]
  staticTypes := #[]
  resolved := Array.replicate 8 none
  statics := none }

def pool5 : Array CpInfo := pool [(1, u "java/io/Serializable"), (0, .class_ 1), (0, u "java/lang/Object"), (0, .class_ 3)] 3

/-- java/io/Serializable -/
def k5 : Class := { plain "java/io/Serializable" (some 0) with
  accessFlags := 1537
  interfaces := #[]
  cf := some (fileOf pool5 2 #[] #[] 1537 4 #[] #[])
  fields := #[]
  methods := #[]
  instanceTypes := #[]
  staticTypes := #[]
  resolved := Array.replicate 8 none
  statics := none }

/-- the primitive byte -/
def k6 : Class := { plain "byte" none with kind := .primitive 'B', accessFlags := 0x411 }
/-- [B -/
def k7 : Class := { plain "[B" (some 0) with kind := .array 6 .byte, interfaces := #[4, 5], accessFlags := 1041 }

/-- the primitive int -/
def k8 : Class := { plain "int" none with kind := .primitive 'I', accessFlags := 0x411 }
/-- [I -/
def k9 : Class := { plain "[I" (some 0) with kind := .array 8 .int, interfaces := #[4, 5], accessFlags := 1041 }

def heap : Heap := #[]
def classes : Array Class := #[k0, k1, k2, k3, k4, k5, k6, k7, k8, k9]
def interned : List (Array UInt16 × Addr) := []
def slotsUsed : Nat := 0
def theMethod : MethodId := ⟨1, 1⟩
def args0 : Array Value := #[.int 1, .int 2, .long 3, .int 4]
def aboutOver (below : List Frame) : State where
  vm := { classes := classes, interned := interned.toArray }
  heap := heap
  slotsUsed := slotsUsed
  threads := #[{ frames := .invoking theMethod args0 :: below }]
def below0 : List Frame := [.native { method := ⟨0, 0⟩, args := #[] }]
def about1 : State := aboutOver below0
def p0 : Program := .bare "" "" ""
def e0 : Env := launch0.env 0 0 0
theorem w_frames : about1.frames = Frame.invoking theMethod args0 :: below0 := rfl
set_option maxRecDepth 65536 in
theorem w_args : argsFit about1.vm theMethod args0 = true := by decide +kernel
set_option maxRecDepth 65536 in
theorem w_heap : heapFits about1 = true := by decide +kernel
set_option maxRecDepth 65536 in
theorem w_runnable : about1.curStatus? = some .runnable := by decide +kernel
set_option maxRecDepth 65536 in
theorem w_alone : about1.alone = true := by decide +kernel
set_option maxRecDepth 65536 in
theorem w_named : about1.methodNamed? x = some theMethod := by decide +kernel
set_option maxRecDepth 65536 in
theorem w_hears : about1.hears theMethod below0 = true := by decide +kernel
set_option maxRecDepth 65536 in
theorem w_ripe : about1.ripe theMethod args0 below0 = true := by decide +kernel
theorem w_running : about1.status = .running := rfl
set_option maxRecDepth 65536 in
theorem w_room : about1.hasRoom e0.platform room_1 = true :=
  launch0.hasRoom_least _ room_1 (by decide +kernel) (by decide +kernel) (by decide +kernel) (by decide +kernel) (by decide +kernel) (by decide +kernel)
theorem allAtoms_all (ts : List Jvm.Cond) (a : Array Jvm.Value) (st : Jvm.State) : (allAtoms ts).before a st = ts.all (fun c => c.before a st) := by
  induction ts with
  | nil => rfl
  | cons c t ih =>
    show (Jvm.Cond.and c (allAtoms t)).before a st = _
    rw [Jvm.Cond.before_and, ih, List.all_cons]
def words1 : List Jvm.Cond := Jvm.Cond.code x code maxLocals ret :: tables_1
/-- a 'code' word, met by the world's own term for the bytes: nothing is compared byte by byte -/
theorem code_word {y : MethodName} {bytes : ByteArray} {mx : Nat} {rt : Option FieldType} {a : Array Value} {s : State} {m : MethodId} {meth : Method} {c : Code} (h1 : s.methodNamed? y = some m) (h2 : s.vm.method? m = some meth) (h3 : meth.code = some c) (h4 : c.code = bytes)
    (h5 : (c.maxLocals == mx && c.exceptionTable.isEmpty && decide (c.maxStack ≤ mostOperands) && decide (meth.sig.returnType = rt) && !meth.locks && decide (parseMethodDescriptor y.desc = some meth.sig)) = true) : (Jvm.Cond.code y bytes mx rt).before a s = true := by
  simp only [Bool.and_eq_true, beq_iff_eq, Bool.not_eq_true', decide_eq_true_eq] at h5
  obtain ⟨⟨⟨⟨⟨g1, g2⟩, g3⟩, g4⟩, g5⟩, g6⟩ := h5
  simp [Cond.before, Cond.holds, Cond.value, h1, h2, h3, h4, g1, g2, g3, g4, g5, g6]
def isCode : Jvm.Cond → Bool
  | .code _ _ _ _ => true
  | _ => false
theorem all_split {L : List Jvm.Cond} {P : Jvm.Cond → Bool} (h1 : L.all (fun c => isCode c || P c) = true) (h2 : ∀ c ∈ L.filter isCode, P c = true) : L.all P = true := by
  refine List.all_eq_true.mpr fun c hc => ?_
  have h := List.all_eq_true.mp h1 c hc
  rcases Bool.eq_false_or_eq_true (isCode c) with hi | hi
  · exact h2 c (List.mem_filter.mpr ⟨hc, hi⟩)
  · simpa [hi] using h
set_option maxRecDepth 65536 in
theorem w_c0 : (Jvm.Cond.code x code maxLocals ret).before args0 about1 = true := code_word (m := ⟨1, 1⟩) (meth := k1m1) (c := k1c1) (by decide +kernel) rfl rfl rfl (by decide +kernel)
set_option maxRecDepth 65536 in
theorem w_c1 : (Jvm.Cond.code ({ cls := "java/lang/Math", name := "max", desc := "(II)I" } : Jvm.MethodName) jdk_29_method_65_code (2 : Nat) (Option.some Jvm.ClassFile.FieldType.int)).before args0 about1 = true := code_word (m := ⟨2, 1⟩) (meth := k2m1) (c := k2c1) (by decide +kernel) rfl rfl rfl (by decide +kernel)
set_option maxRecDepth 65536 in
theorem w_c2 : (Jvm.Cond.code ({ cls := "com/example/pretoria/pretoria/engine/Limits", name := "<init>", desc := "(II)V" } : Jvm.MethodName) prog_20_method_1_code (3 : Nat) (Option.none : Option Jvm.ClassFile.FieldType)).before args0 about1 = true := code_word (m := ⟨3, 0⟩) (meth := k3m0) (c := k3c0) (by decide +kernel) rfl rfl rfl (by decide +kernel)
set_option maxRecDepth 65536 in
theorem w_c3 : (Jvm.Cond.code ({ cls := "java/lang/Object", name := "<init>", desc := "()V" } : Jvm.MethodName) object_method_1_code (1 : Nat) (Option.none : Option Jvm.ClassFile.FieldType)).before args0 about1 = true := code_word (m := ⟨0, 0⟩) (meth := k0m0) (c := k0c0) (by decide +kernel) rfl rfl rfl (by decide +kernel)
set_option maxRecDepth 65536 in
theorem w_c4 : (Jvm.Cond.code ({ cls := "com/example/pretoria/pretoria/engine/Limits", name := "admits", desc := "(J)Z" } : Jvm.MethodName) prog_20_method_4_code (3 : Nat) (Option.some Jvm.ClassFile.FieldType.boolean)).before args0 about1 = true := code_word (m := ⟨3, 2⟩) (meth := k3m2) (c := k3c2) (by decide +kernel) rfl rfl rfl (by decide +kernel)
set_option maxRecDepth 65536 in
theorem w_c5 : (Jvm.Cond.code ({ cls := "com/example/pretoria/pretoria/engine/Limits", name := "requestBytes", desc := "()I" } : Jvm.MethodName) prog_20_method_2_code (1 : Nat) (Option.some Jvm.ClassFile.FieldType.int)).before args0 about1 = true := code_word (m := ⟨3, 1⟩) (meth := k3m1) (c := k3c1) (by decide +kernel) rfl rfl rfl (by decide +kernel)
def codes1 : List Jvm.Cond := [Jvm.Cond.code x code maxLocals ret, Jvm.Cond.code ({ cls := "java/lang/Math", name := "max", desc := "(II)I" } : Jvm.MethodName) jdk_29_method_65_code (2 : Nat) (Option.some Jvm.ClassFile.FieldType.int), Jvm.Cond.code ({ cls := "com/example/pretoria/pretoria/engine/Limits", name := "<init>", desc := "(II)V" } : Jvm.MethodName) prog_20_method_1_code (3 : Nat) (Option.none : Option Jvm.ClassFile.FieldType), Jvm.Cond.code ({ cls := "java/lang/Object", name := "<init>", desc := "()V" } : Jvm.MethodName) object_method_1_code (1 : Nat) (Option.none : Option Jvm.ClassFile.FieldType), Jvm.Cond.code ({ cls := "com/example/pretoria/pretoria/engine/Limits", name := "admits", desc := "(J)Z" } : Jvm.MethodName) prog_20_method_4_code (3 : Nat) (Option.some Jvm.ClassFile.FieldType.boolean), Jvm.Cond.code ({ cls := "com/example/pretoria/pretoria/engine/Limits", name := "requestBytes", desc := "()I" } : Jvm.MethodName) prog_20_method_2_code (1 : Nat) (Option.some Jvm.ClassFile.FieldType.int)]
set_option maxRecDepth 65536 in
theorem codes_eq : words1.filter isCode = codes1 := rfl
theorem w_codes : ∀ c ∈ words1.filter isCode, c.before args0 about1 = true := by
  rw [codes_eq]
  intro c hc
  simp only [codes1, List.mem_cons, List.not_mem_nil, or_false] at hc
  rcases hc with rfl | rfl | rfl | rfl | rfl | rfl
  · exact w_c0
  · exact w_c1
  · exact w_c2
  · exact w_c3
  · exact w_c4
  · exact w_c5
set_option maxRecDepth 65536 in
theorem w_t1 : (words1.take 24).all (fun c => isCode c || c.before args0 about1) = true := by decide +kernel
set_option maxRecDepth 65536 in
theorem w_t2 : (words1.drop 24).all (fun c => isCode c || c.before args0 about1) = true := by decide +kernel
theorem w_tables : (allAtoms (Jvm.Cond.code x code maxLocals ret :: tables_1)).before args0 about1 = true := by
  rw [allAtoms_all]
  show words1.all (fun c => c.before args0 about1) = true
  refine all_split ?_ w_codes
  rw [← List.take_append_drop 24 words1, List.all_append, w_t1, w_t2]
  rfl
set_option maxRecDepth 65536 in
theorem w_case : (Jvm.Cond.and given_1 narrow_1).before args0 about1 = true := by decide +kernel
theorem w_applies : (headSpec (Jvm.Cond.code x code maxLocals ret :: tables_1) room_1).applies x e0.platform about1 = true :=
  (Spec.applies_iff w_frames).mpr ⟨w_running, w_runnable, w_alone, w_named, w_hears, w_ripe, w_room, w_tables⟩
theorem atStart : AtStart classFile x code maxLocals ret World_1 tables_1 room_1 Calls_1 rest_1 Pre_1 launch0 p0 e0 about1 theMethod args0 below0 :=
  ⟨lists_1, trivial, launch0.admits_env _ _ _, launch0.least_env, fairChoices_fair.cas, fairChoices_fair.clock, w_frames, w_args, w_heap, w_applies, trivial, trivial, w_case⟩
end start1
theorem witness_1 : WitnessClaimed_1 := ⟨start1.p0, start1.e0, start1.about1, start1.theMethod, start1.args0, start1.below0, start1.atStart⟩
end Jvm.Pilot.@@N@@
