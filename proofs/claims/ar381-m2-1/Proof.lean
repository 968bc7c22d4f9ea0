import JvmDerived
import JvmDerived.Pilot.@@N@@Statement
import JvmDerived.Pilot.@@N@@Code
set_option linter.unusedVariables false
set_option linter.unusedSimpArgs false
namespace Jvm.RoadKit
open Sem ClassFile Op Lib Jvm.Stand Jvm.Free Jvm.LawKit
section New
variable {p : Program} {l : Launch} {e : Env} {R : Room} {s : State} {m : MethodId} {args : Array Value} {below : List Frame} {meth : Method} {c : Code} {T : State} {locs : List Loc} {cells slots : Nat}
theorem retI (X : Stand p l e R s m args below meth c T locs cells slots) (hx : p.tables.exec = Jvm.exec) {pc : Nat} {Ls : Array Slot} {z : Int32} {rest : List Value} (hret : meth.sig.returnType = some .int) (hd : decode c.code pc = .ok (.ireturn, 1)) {fs : List Frame}
    (hl : ∀ (f : JFrame) (acts : List Action), f.method = m → f.locked = none → f.entered = [] → (doReturn e (T.setTop f) acts (some (.int z))).1 = T.setFrames fs) : Steps p.tables e below (T.setTop (mkF m pc Ls (.int z :: rest))) (T.setFrames fs) := by
  have hm' : T.vm.method? m = some meth := X.method'
  have hn : narrow .int (.int z) = .int z := rfl
  show Steps p.tables e below (T.setTop { method := m, pc := pc, locals := Ls, stack := _ :: rest, locked := none }) _
  jvm_step X.here [X.here.top, hx, hd, hm', hret, hn]
  first | (intro acts; rw [hl _ acts rfl rfl rfl]) | rw [hl _ _ rfl rfl rfl]
  exact Steps.refl _
end New
end Jvm.RoadKit
namespace Jvm.Pilot.@@N@@
open Jvm Jvm.ClassFile Sem Op Lib Jvm.Free Jvm.Stand Jvm.LawKit Jvm.RoadKit Bundle Jvm.Pilot.@@N@@.Jvm.D
def own_min (a b : Int32) : Int32 := if b < a then b else a
def own_max (a b : Int32) : Int32 := if a < b then b else a
def own_on (col row sz : Int32) : Int32 := if col < (0 : Int32) then (0 : Int32) else (if col < sz then (if row < (0 : Int32) then (0 : Int32) else (if row < sz then (1 : Int32) else (0 : Int32))) else (0 : Int32))
theorem own_on01 (col row sz : Int32) : nar .boolean (own_on col row sz) = own_on col row sz := by
  simp only [own_on]; split <;> (try split) <;> (try split) <;> (try split) <;> rfl
theorem own_onNeg (col row sz : Int32) (h : own_min col row < (0 : Int32)) : own_on col row sz = 0 := by
  simp only [own_on, own_min, Int32.lt_iff_toInt_lt] at *
  repeat' split
  all_goals first | rfl | (exfalso; split at h <;> simp_all <;> omega)
theorem own_onYes (col row sz : Int32) (h : ¬ own_min col row < (0 : Int32)) (h2 : own_max col row < sz) : own_on col row sz = 1 := by
  simp only [own_on, own_min, own_max, Int32.lt_iff_toInt_lt] at *
  repeat' split
  all_goals first | rfl | (exfalso; split at h <;> split at h2 <;> simp_all <;> omega)
theorem own_onNo (col row sz : Int32) (h : ¬ own_min col row < (0 : Int32)) (h2 : ¬ own_max col row < sz) : own_on col row sz = 0 := by
  simp only [own_on, own_min, own_max, Int32.lt_iff_toInt_lt] at *
  repeat' split
  all_goals first | rfl | (exfalso; split at h <;> split at h2 <;> simp_all <;> omega)
theorem d2_0 : decode jdk_30_method_1_code 0 = .ok (.aload_n 0, 1) := by decide +kernel
theorem d2_1 : decode jdk_30_method_1_code 1 = .ok (.invokespecial 1, 3) := by decide +kernel
theorem d2_4 : decode jdk_30_method_1_code 4 = .ok (.return_, 1) := by decide +kernel
theorem own_pn2 : plainName "java/lang/Record" = true := by first | (simp [plainName, overriddenIn]; done) | decide +kernel
def Q_rm2 (Z : State) (a : Addr)  (h0 : Heap) (n0 : Nat) (v : Option Value) (h : Heap) (L : List Loc) : Prop := v = none ∧ Fr n0 L ∧ h = h0
theorem ef_rm2 (m : MethodId) (x0 : Addr) : entryFrame m #[(.ref x0)] 1 = mkF m 0 #[.val (.ref x0)] [] := by first | (simp [entryFrame, mkF, argsToLocals, Value.category]; done) | rfl
set_option maxRecDepth 65536 in
set_option maxHeartbeats 40000000 in
theorem rm2 (l : Launch) (Z : State) (a0 : Array Value) (hw : ∀ d ∈ tables_1, d.before a0 Z = true) (ws : List Jvm.Cond) (a : Addr)  (h0 : Heap) (n0 : Nat) (Z0 : n0 ≤ h0.size)  :
    MetFree l (⟨"java/lang/Record", "<init>", "()V"⟩ : MethodName) (head1 (Jvm.Cond.code (⟨"java/lang/Record", "<init>", "()V"⟩ : MethodName) jdk_30_method_1_code 1 none :: ws) ({ frames := 1, cells := 0, slots := 0, locals := 12 } : Room)) (fun a' U => a' = #[(.ref a)] ∧ Z.Warmed39 U.vm ∧ U.heap = h0) (fun _ _ _ _ _ => True) (fun _ U o U' => ∃ v L, o = .returned v ∧ Q_rm2 Z a h0 n0 v U'.heap L ∧ FrameEnd U o U' L ({ frames := 1, cells := 0, slots := 0, locals := 12 } : Room).cells ({ frames := 1, cells := 0, slots := 0, locals := 12 } : Room).slots) := by
  refine MetFree.of_bodySF (plainFor_of_name own_pn2) hisR ?_
  intro p e s m args below meth cd0 s₁ Bd hml0 hP hK
  obtain ⟨rfl, hZ, hh⟩ := hP
  have hx := Bd.exec
  have hby := Bd.bytes
  have hml : cd0.maxLocals = 1 := hml0
  have hown : s.vm.findClass "java/lang/Record" = some m.cls := findClass_of_methodNamed Bd.named
  have hnm := (name_of_methodNamed Bd.named Bd.method).1
  have X : Stand p l e ({ frames := 1, cells := 0, slots := 0, locals := 12 } : Room) s m #[(.ref a)] below meth cd0 s₁ [] 0 0 := Stand.of_body Bd
  have eh : s₁.heap = h0 := by rw [← hh, Bd.state]; rfl
  have N := Fr.nil n0
  have K : Keep h0 h0 [] := Keep.refl _ _
  have pre0 : ∀ t, Steps p.tables e below (s₁.setTop (mkF m 0 #[.val (.ref a)] [])) t → Steps p.tables e below (s₁.setTop (entryFrame m #[(.ref a)] 1)) t := fun t k => castTop (ef_rm2 m a) k
  have st : ∀ t, Steps p.tables e below (s₁.setTop (mkF m 0 #[.val (.ref a)] [])) t → Steps p.tables e below (s₁.setTop (mkF m 0 #[.val (.ref a)] [])) t := fun t k => k
  have st : ∀ t, Steps p.tables e below (s₁.setTop (mkF m 1 #[.val (.ref a)] [(.ref a)])) t → Steps p.tables e below (s₁.setTop (mkF m 0 #[.val (.ref a)] [])) t := fun t k => st t (by
      show Steps p.tables e below (s₁.setTop (mkF m 0 #[.val (.ref a)] [])) _
      refine XS.aloadN X.here hx rfl (hb hby d2_0) rfl rfl ?_
      exact k)
  obtain ⟨T1, X, eh, sx⟩ := initO X hx hZ hown (hw _ (List.mem_of_getElem? (i := 11) rfl)) (hw _ (List.mem_of_getElem? (i := 12) rfl)) (hw _ (List.mem_of_getElem? (i := 13) rfl)) eh (g := (mkF m 1 #[.val (.ref a)] [(.ref a)])) rfl (by rw [hml]; rfl) rfl (hb hby d2_1) (by decide) (W := 0) (by show 2 * 0 + _ ≤ _; exact Nat.le_of_eq rfl) (by decide)
  have st : ∀ t, Steps p.tables e below (T1.setTop (mkF m 4 #[.val (.ref a)] [])) t → Steps p.tables e below (s₁.setTop (mkF m 0 #[.val (.ref a)] [])) t := fun t k => st t (sx t k)
  obtain ⟨fs_, hr, hrun, hended, hW, hsame⟩ := X.leave (v := none) (fun _ => rfl)
  refine ⟨_, _, pre0 _ (st _ ?_), hrun, hended, _, _, rfl, ?_, ⟨_, rfl⟩, hW, hsame.mono (by decide) (by decide)⟩
  · exact X.returnOut hx Bd.returns (hb hby d2_4) hr
  · show Q_rm2 Z a h0 n0 _ T1.heap _
    rw [eh]
    exact ⟨rfl, N, rfl⟩
theorem d1_0 : decode prog_43_method_1_code 0 = .ok (.aload_n 0, 1) := by decide +kernel
theorem d1_1 : decode prog_43_method_1_code 1 = .ok (.invokespecial 1, 3) := by decide +kernel
theorem d1_4 : decode prog_43_method_1_code 4 = .ok (.aload_n 0, 1) := by decide +kernel
theorem d1_5 : decode prog_43_method_1_code 5 = .ok (.iload_n 1, 1) := by decide +kernel
theorem d1_6 : decode prog_43_method_1_code 6 = .ok (.putfield 7, 3) := by decide +kernel
theorem d1_9 : decode prog_43_method_1_code 9 = .ok (.aload_n 0, 1) := by decide +kernel
theorem d1_10 : decode prog_43_method_1_code 10 = .ok (.iload_n 2, 1) := by decide +kernel
theorem d1_11 : decode prog_43_method_1_code 11 = .ok (.putfield 13, 3) := by decide +kernel
theorem d1_14 : decode prog_43_method_1_code 14 = .ok (.return_, 1) := by decide +kernel
theorem own_pn1 : plainName "com/example/flipline/flipline/Square" = true := by first | (simp [plainName, overriddenIn]; done) | decide +kernel
def Q_rm1 (Z : State) (a : Addr) (col : Int32) (row : Int32)  (h0 : Heap) (n0 : Nat) (v : Option Value) (h : Heap) (L : List Loc) : Prop := v = none ∧ Fr n0 L ∧ Keep h0 h [a] ∧ Fld Z h a "com/example/flipline/flipline/Square" "column" "I" (.int col) ∧ Fld Z h a "com/example/flipline/flipline/Square" "row" "I" (.int row)
theorem own_pd0 : parseMethodDescriptor "()V" = some ⟨[], none⟩ := by decide +kernel
theorem ef_rm1 (m : MethodId) (x0 : Addr) (x1 : Int32) (x2 : Int32) : entryFrame m #[(.ref x0), (.int x1), (.int x2)] 3 = mkF m 0 #[.val (.ref x0), .val (.int x1), .val (.int x2)] [] := by first | (simp [entryFrame, mkF, argsToLocals, Value.category]; done) | rfl
set_option maxRecDepth 65536 in
set_option maxHeartbeats 40000000 in
theorem rm1 (l : Launch) (Z : State) (a0 : Array Value) (hw : ∀ d ∈ tables_1, d.before a0 Z = true) (ws : List Jvm.Cond) (a : Addr) (col : Int32) (row : Int32)  (h0 : Heap) (n0 : Nat) (Z0 : n0 ≤ h0.size) (E_a : Exa Z h0 a "com/example/flipline/flipline/Square") (g_a : n0 ≤ a) (F_a_column : Fld Z h0 a "com/example/flipline/flipline/Square" "column" "I" (.int (0 : Int32))) (F_a_row : Fld Z h0 a "com/example/flipline/flipline/Square" "row" "I" (.int (0 : Int32))) :
    MetFree l (⟨"com/example/flipline/flipline/Square", "<init>", "(II)V"⟩ : MethodName) (head1 (Jvm.Cond.code (⟨"com/example/flipline/flipline/Square", "<init>", "(II)V"⟩ : MethodName) prog_43_method_1_code 3 none :: ws) ({ frames := 2, cells := 0, slots := 0, locals := 24 } : Room)) (fun a' U => a' = #[(.ref a), (.int col), (.int row)] ∧ Z.Warmed39 U.vm ∧ U.heap = h0) (fun _ _ _ _ _ => True) (fun _ U o U' => ∃ v L, o = .returned v ∧ Q_rm1 Z a col row h0 n0 v U'.heap L ∧ FrameEnd U o U' L ({ frames := 2, cells := 0, slots := 0, locals := 24 } : Room).cells ({ frames := 2, cells := 0, slots := 0, locals := 24 } : Room).slots) := by
  refine MetFree.of_bodySF (plainFor_of_name own_pn1) hisR ?_
  intro p e s m args below meth cd0 s₁ Bd hml0 hP hK
  obtain ⟨rfl, hZ, hh⟩ := hP
  have hx := Bd.exec
  have hby := Bd.bytes
  have hml : cd0.maxLocals = 3 := hml0
  have hown : s.vm.findClass "com/example/flipline/flipline/Square" = some m.cls := findClass_of_methodNamed Bd.named
  have hnm := (name_of_methodNamed Bd.named Bd.method).1
  have X : Stand p l e ({ frames := 2, cells := 0, slots := 0, locals := 24 } : Room) s m #[(.ref a), (.int col), (.int row)] below meth cd0 s₁ [] 0 0 := Stand.of_body Bd
  have eh : s₁.heap = h0 := by rw [← hh, Bd.state]; rfl
  have N := Fr.nil n0
  have K : Keep h0 h0 [a] := Keep.refl _ _
  have pre0 : ∀ t, Steps p.tables e below (s₁.setTop (mkF m 0 #[.val (.ref a), .val (.int col), .val (.int row)] [])) t → Steps p.tables e below (s₁.setTop (entryFrame m #[(.ref a), (.int col), (.int row)] 3)) t := fun t k => castTop (ef_rm1 m a col row) k
  have st : ∀ t, Steps p.tables e below (s₁.setTop (mkF m 0 #[.val (.ref a), .val (.int col), .val (.int row)] [])) t → Steps p.tables e below (s₁.setTop (mkF m 0 #[.val (.ref a), .val (.int col), .val (.int row)] [])) t := fun t k => k
  have st : ∀ t, Steps p.tables e below (s₁.setTop (mkF m 1 #[.val (.ref a), .val (.int col), .val (.int row)] [(.ref a)])) t → Steps p.tables e below (s₁.setTop (mkF m 0 #[.val (.ref a), .val (.int col), .val (.int row)] [])) t := fun t k => st t (by
      show Steps p.tables e below (s₁.setTop (mkF m 0 #[.val (.ref a), .val (.int col), .val (.int row)] [])) _
      refine XS.aloadN X.here hx rfl (hb hby d1_0) rfl rfl ?_
      exact k)
  obtain ⟨_, _, ⟨T2, L1, k1, n1⟩, -, X, ⟨Lc1, hQ, l1, y1, z1⟩, sx⟩ := X.specialBack hx (y := (⟨"java/lang/Record", "<init>", "()V"⟩ : MethodName)) rfl hown (mvT hZ (hw _ (List.mem_of_getElem? (i := 6) rfl))) (mvT hZ (hw _ (List.mem_of_getElem? (i := 7) rfl))) (mvT hZ (hw _ (List.mem_of_getElem? (i := 10) rfl))) (by decide) (backOf (W := 0) (rm2 l Z a0 hw [] a  h0 n0 Z0 ) hZ (hw _ (List.mem_of_getElem? (i := 10) rfl)) (hw _ (List.mem_of_getElem? (i := 9) rfl)) (by decide) (by decide)) (g := (mkF m 1 #[.val (.ref a), .val (.int col), .val (.int row)] [(.ref a)])) rfl (by rw [hml]; rfl) (Steps.refl _) (a := a) (argsL := []) (rest := []) (lenOf own_pd0 rfl) rfl (by show 2 * 0 + _ ≤ _; exact Nat.le_of_eq rfl) (hb hby d1_1) (fun _ _ => ⟨rfl, eh, (by decide : 0 + 0 ≤ _), (by decide : 0 + 0 ≤ _)⟩)
  dsimp only [Pt.U, Pt.locs, Pt.cells, Pt.slots] at X l1 y1 z1 sx hQ
  subst l1 y1 z1
  obtain ⟨rfl, Nc, hsame_⟩ := hQ
  have st : ∀ t, Steps p.tables e below (T2.setTop (mkF m 4 #[.val (.ref a), .val (.int col), .val (.int row)] [])) t → Steps p.tables e below (s₁.setTop (mkF m 0 #[.val (.ref a), .val (.int col), .val (.int row)] [])) t := fun t k => st t (sx.trans k)
  have N := Fr.app N Nc
  have eh : T2.heap = h0 := hsame_
  have st : ∀ t, Steps p.tables e below (T2.setTop (mkF m 6 #[.val (.ref a), .val (.int col), .val (.int row)] [(.int col), (.ref a)])) t → Steps p.tables e below (s₁.setTop (mkF m 0 #[.val (.ref a), .val (.int col), .val (.int row)] [])) t := fun t k => st t (by
      show Steps p.tables e below (T2.setTop (mkF m 4 #[.val (.ref a), .val (.int col), .val (.int row)] [])) _
      refine XS.aloadN X.here hx rfl (hb hby d1_4) rfl rfl ?_
      show Steps p.tables e below (T2.setTop (mkF m 5 #[.val (.ref a), .val (.int col), .val (.int row)] [(.ref a)])) _
      refine XS.iloadN X.here hx rfl (hb hby d1_5) rfl ?_
      exact k)
  obtain ⟨T3, h4, X, eh, W5, sx⟩ := putF X hx hZ hown (host := "") (Or.inl (hw _ (List.mem_of_getElem? (i := 14) rfl))) Via.refl eh F_a_column E_a (Or.inr ⟨(hw _ (List.mem_of_getElem? (i := 15) rfl)), rfl, hnm⟩) (hw _ (List.mem_of_getElem? (i := 1) rfl)) (ty := .int) (by decide) rfl rfl (g := (mkF m 6 #[.val (.ref a), .val (.int col), .val (.int row)] [(.int col), (.ref a)])) rfl rfl (hb hby d1_6)
  have st : ∀ t, Steps p.tables e below (T3.setTop (mkF m 9 #[.val (.ref a), .val (.int col), .val (.int row)] [])) t → Steps p.tables e below (s₁.setTop (mkF m 0 #[.val (.ref a), .val (.int col), .val (.int row)] [])) t := fun t k => st t (sx t k)
  have F_a_column := F_a_column.same W5
  have F_a_row := F_a_row.other W5 (Or.inr (slot_ne (Or.inr (hw _ (List.mem_of_getElem? (i := 17) rfl))) (Or.inr (hw _ (List.mem_of_getElem? (i := 15) rfl))) (by decide) (t := .int) (t' := .int) (by decide) (by decide)))
  have E_a := E_a.wr W5
  have K := K.wr W5 (Or.inl (List.mem_of_getElem? (i := 0) rfl))
  have Z0 := Nat.le_trans Z0 (Keep.of_wr W5).1
  have N := Fr.snoc X N g_a
  have st : ∀ t, Steps p.tables e below (T3.setTop (mkF m 11 #[.val (.ref a), .val (.int col), .val (.int row)] [(.int row), (.ref a)])) t → Steps p.tables e below (s₁.setTop (mkF m 0 #[.val (.ref a), .val (.int col), .val (.int row)] [])) t := fun t k => st t (by
      show Steps p.tables e below (T3.setTop (mkF m 9 #[.val (.ref a), .val (.int col), .val (.int row)] [])) _
      refine XS.aloadN X.here hx rfl (hb hby d1_9) rfl rfl ?_
      show Steps p.tables e below (T3.setTop (mkF m 10 #[.val (.ref a), .val (.int col), .val (.int row)] [(.ref a)])) _
      refine XS.iloadN X.here hx rfl (hb hby d1_10) rfl ?_
      exact k)
  obtain ⟨T6, h7, X, eh, W8, sx⟩ := putF X hx hZ hown (host := "") (Or.inl (hw _ (List.mem_of_getElem? (i := 16) rfl))) Via.refl eh F_a_row E_a (Or.inr ⟨(hw _ (List.mem_of_getElem? (i := 17) rfl)), rfl, hnm⟩) (hw _ (List.mem_of_getElem? (i := 1) rfl)) (ty := .int) (by decide) rfl rfl (g := (mkF m 11 #[.val (.ref a), .val (.int col), .val (.int row)] [(.int row), (.ref a)])) rfl rfl (hb hby d1_11)
  have st : ∀ t, Steps p.tables e below (T6.setTop (mkF m 14 #[.val (.ref a), .val (.int col), .val (.int row)] [])) t → Steps p.tables e below (s₁.setTop (mkF m 0 #[.val (.ref a), .val (.int col), .val (.int row)] [])) t := fun t k => st t (sx t k)
  have F_a_column := F_a_column.other W8 (Or.inr (slot_ne (Or.inr (hw _ (List.mem_of_getElem? (i := 15) rfl))) (Or.inr (hw _ (List.mem_of_getElem? (i := 17) rfl))) (by decide) (t := .int) (t' := .int) (by decide) (by decide)))
  have F_a_row := F_a_row.same W8
  have E_a := E_a.wr W8
  have K := K.wr W8 (Or.inl (List.mem_of_getElem? (i := 0) rfl))
  have Z0 := Nat.le_trans Z0 (Keep.of_wr W8).1
  have N := Fr.snoc X N g_a
  obtain ⟨fs_, hr, hrun, hended, hW, hsame⟩ := X.leave (v := none) (fun _ => rfl)
  refine ⟨_, _, pre0 _ (st _ ?_), hrun, hended, _, _, rfl, ?_, ⟨_, rfl⟩, hW, hsame.mono (by decide) (by decide)⟩
  · exact X.returnOut hx Bd.returns (hb hby d1_14) hr
  · show Q_rm1 Z a col row h0 n0 _ T6.heap _
    rw [eh]
    exact ⟨rfl, N, K, F_a_column, F_a_row⟩
theorem d4_0 : decode jdk_29_method_69_code 0 = .ok (.iload_n 0, 1) := by decide +kernel
theorem d4_1 : decode jdk_29_method_69_code 1 = .ok (.iload_n 1, 1) := by decide +kernel
theorem d4_2 : decode jdk_29_method_69_code 2 = .ok (.if_icmp .gt 7, 3) := by decide +kernel
theorem d4_5 : decode jdk_29_method_69_code 5 = .ok (.iload_n 0, 1) := by decide +kernel
theorem d4_6 : decode jdk_29_method_69_code 6 = .ok (.goto 4, 3) := by decide +kernel
theorem d4_9 : decode jdk_29_method_69_code 9 = .ok (.iload_n 1, 1) := by decide +kernel
theorem d4_10 : decode jdk_29_method_69_code 10 = .ok (.ireturn, 1) := by decide +kernel
def Q_rm4 (Z : State) (q1 : Int32) (q2 : Int32)  (h0 : Heap) (n0 : Nat) (v : Option Value) (h : Heap) (L : List Loc) : Prop := v = some (.int (own_min q1 q2)) ∧ Fr n0 L ∧ h = h0
theorem ef_rm4 (m : MethodId) (x0 : Int32) (x1 : Int32) : entryFrame m #[(.int x0), (.int x1)] 2 = mkF m 0 #[.val (.int x0), .val (.int x1)] [] := by first | (simp [entryFrame, mkF, argsToLocals, Value.category]; done) | rfl
set_option maxRecDepth 65536 in
set_option maxHeartbeats 40000000 in
theorem rm4 (l : Launch) (Z : State) (a0 : Array Value) (hw : ∀ d ∈ tables_1, d.before a0 Z = true) (ws : List Jvm.Cond) (q1 : Int32) (q2 : Int32)  (h0 : Heap) (n0 : Nat) (Z0 : n0 ≤ h0.size)  :
    MetFree l (⟨"java/lang/Math", "min", "(II)I"⟩ : MethodName) (head1 (Jvm.Cond.code (⟨"java/lang/Math", "min", "(II)I"⟩ : MethodName) jdk_29_method_69_code 2 (some .int) :: ws) ({ frames := 0, cells := 0, slots := 0, locals := 0 } : Room)) (fun a' U => a' = #[(.int q1), (.int q2)] ∧ Z.Warmed39 U.vm ∧ U.heap = h0) (fun _ _ _ _ _ => True) (fun _ U o U' => ∃ v L, o = .returned v ∧ Q_rm4 Z q1 q2 h0 n0 v U'.heap L ∧ FrameEnd U o U' L ({ frames := 0, cells := 0, slots := 0, locals := 0 } : Room).cells ({ frames := 0, cells := 0, slots := 0, locals := 0 } : Room).slots) := by
  refine MetFree.of_bodySF (Jvm.Free.JP.mathPlain rfl (by decide +kernel)) hisR ?_
  intro p e s m args below meth cd0 s₁ Bd hml0 hP hK
  obtain ⟨rfl, hZ, hh⟩ := hP
  have hx := Bd.exec
  have hby := Bd.bytes
  have hml : cd0.maxLocals = 2 := hml0
  have hown : s.vm.findClass "java/lang/Math" = some m.cls := findClass_of_methodNamed Bd.named
  have hnm := (name_of_methodNamed Bd.named Bd.method).1
  have X : Stand p l e ({ frames := 0, cells := 0, slots := 0, locals := 0 } : Room) s m #[(.int q1), (.int q2)] below meth cd0 s₁ [] 0 0 := Stand.of_body Bd
  have eh : s₁.heap = h0 := by rw [← hh, Bd.state]; rfl
  have N := Fr.nil n0
  have K : Keep h0 h0 [] := Keep.refl _ _
  have pre0 : ∀ t, Steps p.tables e below (s₁.setTop (mkF m 0 #[.val (.int q1), .val (.int q2)] [])) t → Steps p.tables e below (s₁.setTop (entryFrame m #[(.int q1), (.int q2)] 2)) t := fun t k => castTop (ef_rm4 m q1 q2) k
  have st : ∀ t, Steps p.tables e below (s₁.setTop (mkF m 0 #[.val (.int q1), .val (.int q2)] [])) t → Steps p.tables e below (s₁.setTop (mkF m 0 #[.val (.int q1), .val (.int q2)] [])) t := fun t k => k
  obtain ⟨r, hv_r, sx⟩ : ∃ (r : Int32), r = (if q2 < q1 then q2 else q1) ∧ ∀ t, Steps p.tables e below (s₁.setTop (mkF m 10 #[.val (.int q1), .val (.int q2)] [(.int r)])) t → Steps p.tables e below (s₁.setTop (mkF m 0 #[.val (.int q1), .val (.int q2)] [])) t := by
    by_cases hj1 : q2 < q1
    · refine ⟨q2, by rw [if_pos hj1], fun t k => ?_⟩
      show Steps p.tables e below (s₁.setTop (mkF m 0 #[.val (.int q1), .val (.int q2)] [])) _
      refine XS.iloadN X.here hx rfl (hb hby d4_0) rfl ?_
      show Steps p.tables e below (s₁.setTop (mkF m 1 #[.val (.int q1), .val (.int q2)] [(.int q1)])) _
      refine XS.iloadN X.here hx rfl (hb hby d4_1) rfl ?_
      show Steps p.tables e below (s₁.setTop (mkF m 2 #[.val (.int q1), .val (.int q2)] [(.int q2), (.int q1)])) _
      refine XS.icmpYes X.here hx rfl (pc0 := 2) (pc' := 9) rfl (hb hby d4_2) rfl (tlt hj1).2.2.1 (by decide) (by decide) ?_
      show Steps p.tables e below (s₁.setTop (mkF m 9 #[.val (.int q1), .val (.int q2)] [])) _
      refine XS.iloadN X.here hx rfl (hb hby d4_9) rfl ?_
      exact k
    · refine ⟨q1, by rw [if_neg hj1], fun t k => ?_⟩
      show Steps p.tables e below (s₁.setTop (mkF m 0 #[.val (.int q1), .val (.int q2)] [])) _
      refine XS.iloadN X.here hx rfl (hb hby d4_0) rfl ?_
      show Steps p.tables e below (s₁.setTop (mkF m 1 #[.val (.int q1), .val (.int q2)] [(.int q1)])) _
      refine XS.iloadN X.here hx rfl (hb hby d4_1) rfl ?_
      show Steps p.tables e below (s₁.setTop (mkF m 2 #[.val (.int q1), .val (.int q2)] [(.int q2), (.int q1)])) _
      refine XS.icmpNo X.here hx rfl (hb hby d4_2) rfl (flt hj1).2.2.1 ?_
      show Steps p.tables e below (s₁.setTop (mkF m 5 #[.val (.int q1), .val (.int q2)] [])) _
      refine XS.iloadN X.here hx rfl (hb hby d4_5) rfl ?_
      show Steps p.tables e below (s₁.setTop (mkF m 6 #[.val (.int q1), .val (.int q2)] [(.int q1)])) _
      refine XS.goto X.here hx rfl (pc0 := 6) (pc' := 10) rfl (hb hby d4_6) (by decide) (by decide) ?_
      exact k
  have st : ∀ t, Steps p.tables e below (s₁.setTop (mkF m 10 #[.val (.int q1), .val (.int q2)] [(.int r)])) t → Steps p.tables e below (s₁.setTop (mkF m 0 #[.val (.int q1), .val (.int q2)] [])) t := fun t k => st t (sx t k)
  obtain rfl : r = own_min q1 q2 := hv_r
  obtain ⟨fs_, hr, hrun, hended, hW, hsame⟩ := X.leave (v := some (.int (own_min q1 q2))) (fun h => by rw [Bd.returns] at h; cases h)
  refine ⟨_, _, pre0 _ (st _ ?_), hrun, hended, _, _, rfl, ?_, ⟨_, rfl⟩, hW, hsame.mono (by decide) (by decide)⟩
  · exact retI X hx Bd.returns (hb hby d4_10) hr
  · show Q_rm4 Z q1 q2 h0 n0 _ s₁.heap _
    rw [eh]
    exact ⟨rfl, N, rfl⟩
theorem d5_0 : decode jdk_29_method_65_code 0 = .ok (.iload_n 0, 1) := by decide +kernel
theorem d5_1 : decode jdk_29_method_65_code 1 = .ok (.iload_n 1, 1) := by decide +kernel
theorem d5_2 : decode jdk_29_method_65_code 2 = .ok (.if_icmp .lt 7, 3) := by decide +kernel
theorem d5_5 : decode jdk_29_method_65_code 5 = .ok (.iload_n 0, 1) := by decide +kernel
theorem d5_6 : decode jdk_29_method_65_code 6 = .ok (.goto 4, 3) := by decide +kernel
theorem d5_9 : decode jdk_29_method_65_code 9 = .ok (.iload_n 1, 1) := by decide +kernel
theorem d5_10 : decode jdk_29_method_65_code 10 = .ok (.ireturn, 1) := by decide +kernel
def Q_rm5 (Z : State) (q1 : Int32) (q2 : Int32)  (h0 : Heap) (n0 : Nat) (v : Option Value) (h : Heap) (L : List Loc) : Prop := v = some (.int (own_max q1 q2)) ∧ Fr n0 L ∧ h = h0
theorem ef_rm5 (m : MethodId) (x0 : Int32) (x1 : Int32) : entryFrame m #[(.int x0), (.int x1)] 2 = mkF m 0 #[.val (.int x0), .val (.int x1)] [] := by first | (simp [entryFrame, mkF, argsToLocals, Value.category]; done) | rfl
set_option maxRecDepth 65536 in
set_option maxHeartbeats 40000000 in
theorem rm5 (l : Launch) (Z : State) (a0 : Array Value) (hw : ∀ d ∈ tables_1, d.before a0 Z = true) (ws : List Jvm.Cond) (q1 : Int32) (q2 : Int32)  (h0 : Heap) (n0 : Nat) (Z0 : n0 ≤ h0.size)  :
    MetFree l (⟨"java/lang/Math", "max", "(II)I"⟩ : MethodName) (head1 (Jvm.Cond.code (⟨"java/lang/Math", "max", "(II)I"⟩ : MethodName) jdk_29_method_65_code 2 (some .int) :: ws) ({ frames := 0, cells := 0, slots := 0, locals := 0 } : Room)) (fun a' U => a' = #[(.int q1), (.int q2)] ∧ Z.Warmed39 U.vm ∧ U.heap = h0) (fun _ _ _ _ _ => True) (fun _ U o U' => ∃ v L, o = .returned v ∧ Q_rm5 Z q1 q2 h0 n0 v U'.heap L ∧ FrameEnd U o U' L ({ frames := 0, cells := 0, slots := 0, locals := 0 } : Room).cells ({ frames := 0, cells := 0, slots := 0, locals := 0 } : Room).slots) := by
  refine MetFree.of_bodySF (Jvm.Free.JP.mathPlain rfl (by decide +kernel)) hisR ?_
  intro p e s m args below meth cd0 s₁ Bd hml0 hP hK
  obtain ⟨rfl, hZ, hh⟩ := hP
  have hx := Bd.exec
  have hby := Bd.bytes
  have hml : cd0.maxLocals = 2 := hml0
  have hown : s.vm.findClass "java/lang/Math" = some m.cls := findClass_of_methodNamed Bd.named
  have hnm := (name_of_methodNamed Bd.named Bd.method).1
  have X : Stand p l e ({ frames := 0, cells := 0, slots := 0, locals := 0 } : Room) s m #[(.int q1), (.int q2)] below meth cd0 s₁ [] 0 0 := Stand.of_body Bd
  have eh : s₁.heap = h0 := by rw [← hh, Bd.state]; rfl
  have N := Fr.nil n0
  have K : Keep h0 h0 [] := Keep.refl _ _
  have pre0 : ∀ t, Steps p.tables e below (s₁.setTop (mkF m 0 #[.val (.int q1), .val (.int q2)] [])) t → Steps p.tables e below (s₁.setTop (entryFrame m #[(.int q1), (.int q2)] 2)) t := fun t k => castTop (ef_rm5 m q1 q2) k
  have st : ∀ t, Steps p.tables e below (s₁.setTop (mkF m 0 #[.val (.int q1), .val (.int q2)] [])) t → Steps p.tables e below (s₁.setTop (mkF m 0 #[.val (.int q1), .val (.int q2)] [])) t := fun t k => k
  obtain ⟨r, hv_r, sx⟩ : ∃ (r : Int32), r = (if q1 < q2 then q2 else q1) ∧ ∀ t, Steps p.tables e below (s₁.setTop (mkF m 10 #[.val (.int q1), .val (.int q2)] [(.int r)])) t → Steps p.tables e below (s₁.setTop (mkF m 0 #[.val (.int q1), .val (.int q2)] [])) t := by
    by_cases hj1 : q1 < q2
    · refine ⟨q2, by rw [if_pos hj1], fun t k => ?_⟩
      show Steps p.tables e below (s₁.setTop (mkF m 0 #[.val (.int q1), .val (.int q2)] [])) _
      refine XS.iloadN X.here hx rfl (hb hby d5_0) rfl ?_
      show Steps p.tables e below (s₁.setTop (mkF m 1 #[.val (.int q1), .val (.int q2)] [(.int q1)])) _
      refine XS.iloadN X.here hx rfl (hb hby d5_1) rfl ?_
      show Steps p.tables e below (s₁.setTop (mkF m 2 #[.val (.int q1), .val (.int q2)] [(.int q2), (.int q1)])) _
      refine XS.icmpYes X.here hx rfl (pc0 := 2) (pc' := 9) rfl (hb hby d5_2) rfl (tlt hj1).1 (by decide) (by decide) ?_
      show Steps p.tables e below (s₁.setTop (mkF m 9 #[.val (.int q1), .val (.int q2)] [])) _
      refine XS.iloadN X.here hx rfl (hb hby d5_9) rfl ?_
      exact k
    · refine ⟨q1, by rw [if_neg hj1], fun t k => ?_⟩
      show Steps p.tables e below (s₁.setTop (mkF m 0 #[.val (.int q1), .val (.int q2)] [])) _
      refine XS.iloadN X.here hx rfl (hb hby d5_0) rfl ?_
      show Steps p.tables e below (s₁.setTop (mkF m 1 #[.val (.int q1), .val (.int q2)] [(.int q1)])) _
      refine XS.iloadN X.here hx rfl (hb hby d5_1) rfl ?_
      show Steps p.tables e below (s₁.setTop (mkF m 2 #[.val (.int q1), .val (.int q2)] [(.int q2), (.int q1)])) _
      refine XS.icmpNo X.here hx rfl (hb hby d5_2) rfl (flt hj1).1 ?_
      show Steps p.tables e below (s₁.setTop (mkF m 5 #[.val (.int q1), .val (.int q2)] [])) _
      refine XS.iloadN X.here hx rfl (hb hby d5_5) rfl ?_
      show Steps p.tables e below (s₁.setTop (mkF m 6 #[.val (.int q1), .val (.int q2)] [(.int q1)])) _
      refine XS.goto X.here hx rfl (pc0 := 6) (pc' := 10) rfl (hb hby d5_6) (by decide) (by decide) ?_
      exact k
  have st : ∀ t, Steps p.tables e below (s₁.setTop (mkF m 10 #[.val (.int q1), .val (.int q2)] [(.int r)])) t → Steps p.tables e below (s₁.setTop (mkF m 0 #[.val (.int q1), .val (.int q2)] [])) t := fun t k => st t (sx t k)
  obtain rfl : r = own_max q1 q2 := hv_r
  obtain ⟨fs_, hr, hrun, hended, hW, hsame⟩ := X.leave (v := some (.int (own_max q1 q2))) (fun h => by rw [Bd.returns] at h; cases h)
  refine ⟨_, _, pre0 _ (st _ ?_), hrun, hended, _, _, rfl, ?_, ⟨_, rfl⟩, hW, hsame.mono (by decide) (by decide)⟩
  · exact retI X hx Bd.returns (hb hby d5_10) hr
  · show Q_rm5 Z q1 q2 h0 n0 _ s₁.heap _
    rw [eh]
    exact ⟨rfl, N, rfl⟩
theorem d6_0 : decode prog_43_method_3_code 0 = .ok (.aload_n 0, 1) := by decide +kernel
theorem d6_1 : decode prog_43_method_3_code 1 = .ok (.getfield 7, 3) := by decide +kernel
theorem d6_4 : decode prog_43_method_3_code 4 = .ok (.ifCond .lt 30, 3) := by decide +kernel
theorem d6_7 : decode prog_43_method_3_code 7 = .ok (.aload_n 0, 1) := by decide +kernel
theorem d6_8 : decode prog_43_method_3_code 8 = .ok (.getfield 7, 3) := by decide +kernel
theorem d6_11 : decode prog_43_method_3_code 11 = .ok (.iload_n 1, 1) := by decide +kernel
theorem d6_12 : decode prog_43_method_3_code 12 = .ok (.if_icmp .ge 22, 3) := by decide +kernel
theorem d6_15 : decode prog_43_method_3_code 15 = .ok (.aload_n 0, 1) := by decide +kernel
theorem d6_16 : decode prog_43_method_3_code 16 = .ok (.getfield 13, 3) := by decide +kernel
theorem d6_19 : decode prog_43_method_3_code 19 = .ok (.ifCond .lt 15, 3) := by decide +kernel
theorem d6_22 : decode prog_43_method_3_code 22 = .ok (.aload_n 0, 1) := by decide +kernel
theorem d6_23 : decode prog_43_method_3_code 23 = .ok (.getfield 13, 3) := by decide +kernel
theorem d6_26 : decode prog_43_method_3_code 26 = .ok (.iload_n 1, 1) := by decide +kernel
theorem d6_27 : decode prog_43_method_3_code 27 = .ok (.if_icmp .ge 7, 3) := by decide +kernel
theorem d6_30 : decode prog_43_method_3_code 30 = .ok (.iconst 1, 1) := by decide +kernel
theorem d6_31 : decode prog_43_method_3_code 31 = .ok (.goto 4, 3) := by decide +kernel
theorem d6_34 : decode prog_43_method_3_code 34 = .ok (.iconst 0, 1) := by decide +kernel
theorem d6_35 : decode prog_43_method_3_code 35 = .ok (.ireturn, 1) := by decide +kernel
def Q_rm6 (Z : State) (a : Addr) (sz : Int32) (col row : Int32) (h0 : Heap) (n0 : Nat) (v : Option Value) (h : Heap) (L : List Loc) : Prop := v = some (.int (own_on col row sz)) ∧ Fr n0 L ∧ h = h0
theorem ef_rm6 (m : MethodId) (x0 : Addr) (x1 : Int32) : entryFrame m #[(.ref x0), (.int x1)] 2 = mkF m 0 #[.val (.ref x0), .val (.int x1)] [] := by first | (simp [entryFrame, mkF, argsToLocals, Value.category]; done) | rfl
set_option maxRecDepth 65536 in
set_option maxHeartbeats 40000000 in
theorem rm6 (l : Launch) (Z : State) (a0 : Array Value) (hw : ∀ d ∈ tables_1, d.before a0 Z = true) (ws : List Jvm.Cond) (a : Addr) (sz : Int32) (col row : Int32) (h0 : Heap) (n0 : Nat) (Z0 : n0 ≤ h0.size) (F_a_column : Fld Z h0 a "com/example/flipline/flipline/Square" "column" "I" (.int col)) (F_a_row : Fld Z h0 a "com/example/flipline/flipline/Square" "row" "I" (.int row)) :
    MetFree l (⟨"com/example/flipline/flipline/Square", "isOn", "(I)Z"⟩ : MethodName) (head1 (Jvm.Cond.code (⟨"com/example/flipline/flipline/Square", "isOn", "(I)Z"⟩ : MethodName) prog_43_method_3_code 2 (some .boolean) :: ws) ({ frames := 0, cells := 0, slots := 0, locals := 0 } : Room)) (fun a' U => a' = #[(.ref a), (.int sz)] ∧ Z.Warmed39 U.vm ∧ U.heap = h0) (fun _ _ _ _ _ => True) (fun _ U o U' => ∃ v L, o = .returned v ∧ Q_rm6 Z a sz col row h0 n0 v U'.heap L ∧ FrameEnd U o U' L ({ frames := 0, cells := 0, slots := 0, locals := 0 } : Room).cells ({ frames := 0, cells := 0, slots := 0, locals := 0 } : Room).slots) := by
  refine MetFree.of_bodySF (plainFor_of_name own_pn1) hisR ?_
  intro p e s m args below meth cd0 s₁ Bd hml0 hP hK
  obtain ⟨rfl, hZ, hh⟩ := hP
  have hx := Bd.exec
  have hby := Bd.bytes
  have hml : cd0.maxLocals = 2 := hml0
  have hown : s.vm.findClass "com/example/flipline/flipline/Square" = some m.cls := findClass_of_methodNamed Bd.named
  have hnm := (name_of_methodNamed Bd.named Bd.method).1
  have X : Stand p l e ({ frames := 0, cells := 0, slots := 0, locals := 0 } : Room) s m #[(.ref a), (.int sz)] below meth cd0 s₁ [] 0 0 := Stand.of_body Bd
  have eh : s₁.heap = h0 := by rw [← hh, Bd.state]; rfl
  have N := Fr.nil n0
  have K : Keep h0 h0 [] := Keep.refl _ _
  have pre0 : ∀ t, Steps p.tables e below (s₁.setTop (mkF m 0 #[.val (.ref a), .val (.int sz)] [])) t → Steps p.tables e below (s₁.setTop (entryFrame m #[(.ref a), (.int sz)] 2)) t := fun t k => castTop (ef_rm6 m a sz) k
  have st : ∀ t, Steps p.tables e below (s₁.setTop (mkF m 0 #[.val (.ref a), .val (.int sz)] [])) t → Steps p.tables e below (s₁.setTop (mkF m 0 #[.val (.ref a), .val (.int sz)] [])) t := fun t k => k
  have st : ∀ t, Steps p.tables e below (s₁.setTop (mkF m 1 #[.val (.ref a), .val (.int sz)] [(.ref a)])) t → Steps p.tables e below (s₁.setTop (mkF m 0 #[.val (.ref a), .val (.int sz)] [])) t := fun t k => st t (by
      show Steps p.tables e below (s₁.setTop (mkF m 0 #[.val (.ref a), .val (.int sz)] [])) _
      refine XS.aloadN X.here hx rfl (hb hby d6_0) rfl rfl ?_
      exact k)
  obtain ⟨T1, X, eh, sx⟩ := getF X hx hZ hown (host := "") (Or.inl (hw _ (List.mem_of_getElem? (i := 14) rfl))) Via.refl eh F_a_column (g := (mkF m 1 #[.val (.ref a), .val (.int sz)] [(.ref a)])) rfl rfl (hb hby d6_1)
  have st : ∀ t, Steps p.tables e below (T1.setTop (mkF m 4 #[.val (.ref a), .val (.int sz)] [(.int col)])) t → Steps p.tables e below (s₁.setTop (mkF m 0 #[.val (.ref a), .val (.int sz)] [])) t := fun t k => st t (sx t k)
  by_cases ht4 : col < (0 : Int32)
  · have st : ∀ t, Steps p.tables e below (T1.setTop (mkF m 35 #[.val (.ref a), .val (.int sz)] [(.int (0 : Int32))])) t → Steps p.tables e below (s₁.setTop (mkF m 0 #[.val (.ref a), .val (.int sz)] [])) t := fun t k => st t (by
        show Steps p.tables e below (T1.setTop (mkF m 4 #[.val (.ref a), .val (.int sz)] [(.int col)])) _
        refine XS.ifYes X.here hx rfl (pc0 := 4) (pc' := 34) rfl (hb hby d6_4) rfl ((if0 _ _).trans (tlt ht4).1) (by decide) (by decide) ?_
        show Steps p.tables e below (T1.setTop (mkF m 34 #[.val (.ref a), .val (.int sz)] [])) _
        refine XS.iconst X.here hx rfl (hb hby d6_34) ?_
        exact k)
    obtain ⟨fs_, hr, hrun, hended, hW, hsame⟩ := X.leave (v := some (.int (0 : Int32))) (fun h => by rw [Bd.returns] at h; cases h)
    refine ⟨_, _, pre0 _ (st _ ?_), hrun, hended, _, _, rfl, ?_, ⟨_, rfl⟩, hW, hsame.mono (by decide) (by decide)⟩
    · exact retN X hx (t := .boolean) Bd.returns (by simp) (hb hby d6_35) hr
    · show Q_rm6 Z a sz col row h0 n0 _ T1.heap _
      rw [eh]
      exact ⟨by rw [own_on, if_pos ht4], N, rfl⟩
  · have st : ∀ t, Steps p.tables e below (T1.setTop (mkF m 8 #[.val (.ref a), .val (.int sz)] [(.ref a)])) t → Steps p.tables e below (s₁.setTop (mkF m 0 #[.val (.ref a), .val (.int sz)] [])) t := fun t k => st t (by
        show Steps p.tables e below (T1.setTop (mkF m 4 #[.val (.ref a), .val (.int sz)] [(.int col)])) _
        refine XS.ifNo X.here hx rfl (hb hby d6_4) rfl ((if0 _ _).trans (flt ht4).1) ?_
        show Steps p.tables e below (T1.setTop (mkF m 7 #[.val (.ref a), .val (.int sz)] [])) _
        refine XS.aloadN X.here hx rfl (hb hby d6_7) rfl rfl ?_
        exact k)
    obtain ⟨T2, X, eh, sx⟩ := getF X hx hZ hown (host := "") (Or.inl (hw _ (List.mem_of_getElem? (i := 14) rfl))) Via.refl eh F_a_column (g := (mkF m 8 #[.val (.ref a), .val (.int sz)] [(.ref a)])) rfl rfl (hb hby d6_8)
    have st : ∀ t, Steps p.tables e below (T2.setTop (mkF m 11 #[.val (.ref a), .val (.int sz)] [(.int col)])) t → Steps p.tables e below (s₁.setTop (mkF m 0 #[.val (.ref a), .val (.int sz)] [])) t := fun t k => st t (sx t k)
    have st : ∀ t, Steps p.tables e below (T2.setTop (mkF m 12 #[.val (.ref a), .val (.int sz)] [(.int sz), (.int col)])) t → Steps p.tables e below (s₁.setTop (mkF m 0 #[.val (.ref a), .val (.int sz)] [])) t := fun t k => st t (by
        show Steps p.tables e below (T2.setTop (mkF m 11 #[.val (.ref a), .val (.int sz)] [(.int col)])) _
        refine XS.iloadN X.here hx rfl (hb hby d6_11) rfl ?_
        exact k)
    by_cases ht12 : col < sz
    · have st : ∀ t, Steps p.tables e below (T2.setTop (mkF m 16 #[.val (.ref a), .val (.int sz)] [(.ref a)])) t → Steps p.tables e below (s₁.setTop (mkF m 0 #[.val (.ref a), .val (.int sz)] [])) t := fun t k => st t (by
          show Steps p.tables e below (T2.setTop (mkF m 12 #[.val (.ref a), .val (.int sz)] [(.int sz), (.int col)])) _
          refine XS.icmpNo X.here hx rfl (hb hby d6_12) rfl (tlt ht12).2.1 ?_
          show Steps p.tables e below (T2.setTop (mkF m 15 #[.val (.ref a), .val (.int sz)] [])) _
          refine XS.aloadN X.here hx rfl (hb hby d6_15) rfl rfl ?_
          exact k)
      obtain ⟨T3, X, eh, sx⟩ := getF X hx hZ hown (host := "") (Or.inl (hw _ (List.mem_of_getElem? (i := 16) rfl))) Via.refl eh F_a_row (g := (mkF m 16 #[.val (.ref a), .val (.int sz)] [(.ref a)])) rfl rfl (hb hby d6_16)
      have st : ∀ t, Steps p.tables e below (T3.setTop (mkF m 19 #[.val (.ref a), .val (.int sz)] [(.int row)])) t → Steps p.tables e below (s₁.setTop (mkF m 0 #[.val (.ref a), .val (.int sz)] [])) t := fun t k => st t (sx t k)
      by_cases ht19 : row < (0 : Int32)
      · have st : ∀ t, Steps p.tables e below (T3.setTop (mkF m 35 #[.val (.ref a), .val (.int sz)] [(.int (0 : Int32))])) t → Steps p.tables e below (s₁.setTop (mkF m 0 #[.val (.ref a), .val (.int sz)] [])) t := fun t k => st t (by
            show Steps p.tables e below (T3.setTop (mkF m 19 #[.val (.ref a), .val (.int sz)] [(.int row)])) _
            refine XS.ifYes X.here hx rfl (pc0 := 19) (pc' := 34) rfl (hb hby d6_19) rfl ((if0 _ _).trans (tlt ht19).1) (by decide) (by decide) ?_
            show Steps p.tables e below (T3.setTop (mkF m 34 #[.val (.ref a), .val (.int sz)] [])) _
            refine XS.iconst X.here hx rfl (hb hby d6_34) ?_
            exact k)
        obtain ⟨fs_, hr, hrun, hended, hW, hsame⟩ := X.leave (v := some (.int (0 : Int32))) (fun h => by rw [Bd.returns] at h; cases h)
        refine ⟨_, _, pre0 _ (st _ ?_), hrun, hended, _, _, rfl, ?_, ⟨_, rfl⟩, hW, hsame.mono (by decide) (by decide)⟩
        · exact retN X hx (t := .boolean) Bd.returns (by simp) (hb hby d6_35) hr
        · show Q_rm6 Z a sz col row h0 n0 _ T3.heap _
          rw [eh]
          exact ⟨by rw [own_on, if_neg ht4, if_pos ht12, if_pos ht19], N, rfl⟩
      · have st : ∀ t, Steps p.tables e below (T3.setTop (mkF m 23 #[.val (.ref a), .val (.int sz)] [(.ref a)])) t → Steps p.tables e below (s₁.setTop (mkF m 0 #[.val (.ref a), .val (.int sz)] [])) t := fun t k => st t (by
            show Steps p.tables e below (T3.setTop (mkF m 19 #[.val (.ref a), .val (.int sz)] [(.int row)])) _
            refine XS.ifNo X.here hx rfl (hb hby d6_19) rfl ((if0 _ _).trans (flt ht19).1) ?_
            show Steps p.tables e below (T3.setTop (mkF m 22 #[.val (.ref a), .val (.int sz)] [])) _
            refine XS.aloadN X.here hx rfl (hb hby d6_22) rfl rfl ?_
            exact k)
        obtain ⟨T4, X, eh, sx⟩ := getF X hx hZ hown (host := "") (Or.inl (hw _ (List.mem_of_getElem? (i := 16) rfl))) Via.refl eh F_a_row (g := (mkF m 23 #[.val (.ref a), .val (.int sz)] [(.ref a)])) rfl rfl (hb hby d6_23)
        have st : ∀ t, Steps p.tables e below (T4.setTop (mkF m 26 #[.val (.ref a), .val (.int sz)] [(.int row)])) t → Steps p.tables e below (s₁.setTop (mkF m 0 #[.val (.ref a), .val (.int sz)] [])) t := fun t k => st t (sx t k)
        have st : ∀ t, Steps p.tables e below (T4.setTop (mkF m 27 #[.val (.ref a), .val (.int sz)] [(.int sz), (.int row)])) t → Steps p.tables e below (s₁.setTop (mkF m 0 #[.val (.ref a), .val (.int sz)] [])) t := fun t k => st t (by
            show Steps p.tables e below (T4.setTop (mkF m 26 #[.val (.ref a), .val (.int sz)] [(.int row)])) _
            refine XS.iloadN X.here hx rfl (hb hby d6_26) rfl ?_
            exact k)
        by_cases ht27 : row < sz
        · have st : ∀ t, Steps p.tables e below (T4.setTop (mkF m 35 #[.val (.ref a), .val (.int sz)] [(.int (1 : Int32))])) t → Steps p.tables e below (s₁.setTop (mkF m 0 #[.val (.ref a), .val (.int sz)] [])) t := fun t k => st t (by
              show Steps p.tables e below (T4.setTop (mkF m 27 #[.val (.ref a), .val (.int sz)] [(.int sz), (.int row)])) _
              refine XS.icmpNo X.here hx rfl (hb hby d6_27) rfl (tlt ht27).2.1 ?_
              show Steps p.tables e below (T4.setTop (mkF m 30 #[.val (.ref a), .val (.int sz)] [])) _
              refine XS.iconst X.here hx rfl (hb hby d6_30) ?_
              show Steps p.tables e below (T4.setTop (mkF m 31 #[.val (.ref a), .val (.int sz)] [(.int (1 : Int32))])) _
              refine XS.goto X.here hx rfl (pc0 := 31) (pc' := 35) rfl (hb hby d6_31) (by decide) (by decide) ?_
              exact k)
          obtain ⟨fs_, hr, hrun, hended, hW, hsame⟩ := X.leave (v := some (.int (1 : Int32))) (fun h => by rw [Bd.returns] at h; cases h)
          refine ⟨_, _, pre0 _ (st _ ?_), hrun, hended, _, _, rfl, ?_, ⟨_, rfl⟩, hW, hsame.mono (by decide) (by decide)⟩
          · exact retN X hx (t := .boolean) Bd.returns (by simp) (hb hby d6_35) hr
          · show Q_rm6 Z a sz col row h0 n0 _ T4.heap _
            rw [eh]
            exact ⟨by rw [own_on, if_neg ht4, if_pos ht12, if_neg ht19, if_pos ht27], N, rfl⟩
        · have st : ∀ t, Steps p.tables e below (T4.setTop (mkF m 35 #[.val (.ref a), .val (.int sz)] [(.int (0 : Int32))])) t → Steps p.tables e below (s₁.setTop (mkF m 0 #[.val (.ref a), .val (.int sz)] [])) t := fun t k => st t (by
              show Steps p.tables e below (T4.setTop (mkF m 27 #[.val (.ref a), .val (.int sz)] [(.int sz), (.int row)])) _
              refine XS.icmpYes X.here hx rfl (pc0 := 27) (pc' := 34) rfl (hb hby d6_27) rfl (flt ht27).2.1 (by decide) (by decide) ?_
              show Steps p.tables e below (T4.setTop (mkF m 34 #[.val (.ref a), .val (.int sz)] [])) _
              refine XS.iconst X.here hx rfl (hb hby d6_34) ?_
              exact k)
          obtain ⟨fs_, hr, hrun, hended, hW, hsame⟩ := X.leave (v := some (.int (0 : Int32))) (fun h => by rw [Bd.returns] at h; cases h)
          refine ⟨_, _, pre0 _ (st _ ?_), hrun, hended, _, _, rfl, ?_, ⟨_, rfl⟩, hW, hsame.mono (by decide) (by decide)⟩
          · exact retN X hx (t := .boolean) Bd.returns (by simp) (hb hby d6_35) hr
          · show Q_rm6 Z a sz col row h0 n0 _ T4.heap _
            rw [eh]
            exact ⟨by rw [own_on, if_neg ht4, if_pos ht12, if_neg ht19, if_neg ht27], N, rfl⟩
    · have st : ∀ t, Steps p.tables e below (T2.setTop (mkF m 35 #[.val (.ref a), .val (.int sz)] [(.int (0 : Int32))])) t → Steps p.tables e below (s₁.setTop (mkF m 0 #[.val (.ref a), .val (.int sz)] [])) t := fun t k => st t (by
          show Steps p.tables e below (T2.setTop (mkF m 12 #[.val (.ref a), .val (.int sz)] [(.int sz), (.int col)])) _
          refine XS.icmpYes X.here hx rfl (pc0 := 12) (pc' := 34) rfl (hb hby d6_12) rfl (flt ht12).2.1 (by decide) (by decide) ?_
          show Steps p.tables e below (T2.setTop (mkF m 34 #[.val (.ref a), .val (.int sz)] [])) _
          refine XS.iconst X.here hx rfl (hb hby d6_34) ?_
          exact k)
      obtain ⟨fs_, hr, hrun, hended, hW, hsame⟩ := X.leave (v := some (.int (0 : Int32))) (fun h => by rw [Bd.returns] at h; cases h)
      refine ⟨_, _, pre0 _ (st _ ?_), hrun, hended, _, _, rfl, ?_, ⟨_, rfl⟩, hW, hsame.mono (by decide) (by decide)⟩
      · exact retN X hx (t := .boolean) Bd.returns (by simp) (hb hby d6_35) hr
      · show Q_rm6 Z a sz col row h0 n0 _ T2.heap _
        rw [eh]
        exact ⟨by rw [own_on, if_neg ht4, if_neg ht12], N, rfl⟩
theorem own_pn0 : plainName "com/example/flipline/flipline/SquareIsOnPinLaw" = true := by first | (simp [plainName, overriddenIn]; done) | decide +kernel
def Q_rm0 (Z : State) (col : Int32) (row : Int32) (sz : Int32)  (h0 : Heap) (n0 : Nat) (v : Option Value) (h : Heap) (L : List Loc) : Prop := v = some (.int 1) ∧ Fr n0 L
theorem own_pd1 : parseMethodDescriptor "(II)V" = some ⟨[.int, .int], none⟩ := by decide +kernel
theorem own_pd2 : parseMethodDescriptor "(II)I" = some ⟨[.int, .int], some .int⟩ := by decide +kernel
theorem own_pd3 : parseMethodDescriptor "(I)Z" = some ⟨[.int], some .boolean⟩ := by decide +kernel
theorem ef_rm0 (m : MethodId) (x0 : Int32) (x1 : Int32) (x2 : Int32) : entryFrame m #[(.int x0), (.int x1), (.int x2)] maxLocals = mkF m 0 #[.val (.int x0), .val (.int x1), .val (.int x2), .unset, .unset] [] := by first | (simp [entryFrame, mkF, argsToLocals, Value.category, maxLocals]; done) | rfl
set_option maxRecDepth 65536 in
set_option maxHeartbeats 40000000 in
theorem rm0 (l : Launch) (Z : State) (a0 : Array Value) (hw : ∀ d ∈ tables_1, d.before a0 Z = true) (ws : List Jvm.Cond) (col : Int32) (row : Int32) (sz : Int32)  (h0 : Heap) (n0 : Nat) (Z0 : n0 ≤ h0.size)  :
    MetFree l x (head1 (Jvm.Cond.code x code maxLocals ret :: ws) room_1) (fun a' U => a' = #[(.int col), (.int row), (.int sz)] ∧ Z.Warmed39 U.vm ∧ U.heap = h0) (fun _ _ _ _ _ => True) (fun _ U o U' => ∃ v L, o = .returned v ∧ Q_rm0 Z col row sz h0 n0 v U'.heap L ∧ FrameEnd U o U' L room_1.cells room_1.slots) := by
  refine MetFree.of_bodySF (plainFor_of_name own_pn0) hisR ?_
  intro p e s m args below meth cd0 s₁ Bd hml0 hP hK
  obtain ⟨rfl, hZ, hh⟩ := hP
  have hx := Bd.exec
  have hby := Bd.bytes
  have hml : cd0.maxLocals = 5 := hml0
  have hown : s.vm.findClass "com/example/flipline/flipline/SquareIsOnPinLaw" = some m.cls := findClass_of_methodNamed Bd.named
  have hnm := (name_of_methodNamed Bd.named Bd.method).1
  have X : Stand p l e room_1 s m #[(.int col), (.int row), (.int sz)] below meth cd0 s₁ [] 0 0 := Stand.of_body Bd
  have eh : s₁.heap = h0 := by rw [← hh, Bd.state]; rfl
  have N := Fr.nil n0
  have K : Keep h0 h0 [] := Keep.refl _ _
  have pre0 : ∀ t, Steps p.tables e below (s₁.setTop (mkF m 0 #[.val (.int col), .val (.int row), .val (.int sz), .unset, .unset] [])) t → Steps p.tables e below (s₁.setTop (entryFrame m #[(.int col), (.int row), (.int sz)] maxLocals)) t := fun t k => castTop (ef_rm0 m col row sz) k
  have st : ∀ t, Steps p.tables e below (s₁.setTop (mkF m 0 #[.val (.int col), .val (.int row), .val (.int sz), .unset, .unset] [])) t → Steps p.tables e below (s₁.setTop (mkF m 0 #[.val (.int col), .val (.int row), .val (.int sz), .unset, .unset] [])) t := fun t k => k
  obtain ⟨T1, h2, X, eh, E3, E_sq, D3, -, sx⟩ := newO X hx hZ hown (hw _ (List.mem_of_getElem? (i := 0) rfl)) (hw _ (List.mem_of_getElem? (i := 1) rfl)) (hw _ (List.mem_of_getElem? (i := 2) rfl)) eh (g := (mkF m 0 #[.val (.int col), .val (.int row), .val (.int sz), .unset, .unset] [])) rfl (hb hby at_0) (by decide) (by decide)
  obtain ⟨sq, g3⟩ : ∃ z, z = h0.size := ⟨_, rfl⟩
  have g_sq : n0 ≤ sq := Nat.le_trans Z0 (Nat.le_of_eq g3.symm)
  have sz_sq : h0.size ≤ sq := Nat.le_trans K.1 (Nat.le_of_eq g3.symm)
  rw [← g3] at E_sq D3 sx
  have st : ∀ t, Steps p.tables e below (T1.setTop (mkF m 3 #[.val (.int col), .val (.int row), .val (.int sz), .unset, .unset] [(.ref sq)])) t → Steps p.tables e below (s₁.setTop (mkF m 0 #[.val (.int col), .val (.int row), .val (.int sz), .unset, .unset] [])) t := fun t k => st t (sx t k)
  have K := K.ext E3
  have Z0 := Nat.le_trans Z0 E3.1
  have F_sq_column : Fld Z h2 sq "com/example/flipline/flipline/Square" "column" "I" (.int (0 : Int32)) := D3 (Or.inr (hw _ (List.mem_of_getElem? (i := 15) rfl))) (ty := .int) (by decide)
  have F_sq_row : Fld Z h2 sq "com/example/flipline/flipline/Square" "row" "I" (.int (0 : Int32)) := D3 (Or.inr (hw _ (List.mem_of_getElem? (i := 17) rfl))) (ty := .int) (by decide)
  have st : ∀ t, Steps p.tables e below (T1.setTop (mkF m 6 #[.val (.int col), .val (.int row), .val (.int sz), .unset, .unset] [(.int row), (.int col), (.ref sq), (.ref sq)])) t → Steps p.tables e below (s₁.setTop (mkF m 0 #[.val (.int col), .val (.int row), .val (.int sz), .unset, .unset] [])) t := fun t k => st t (by
      show Steps p.tables e below (T1.setTop (mkF m 3 #[.val (.int col), .val (.int row), .val (.int sz), .unset, .unset] [(.ref sq)])) _
      refine XS.dup X.here hx rfl (hb hby at_3) rfl rfl ?_
      show Steps p.tables e below (T1.setTop (mkF m 4 #[.val (.int col), .val (.int row), .val (.int sz), .unset, .unset] [(.ref sq), (.ref sq)])) _
      refine XS.iloadN X.here hx rfl (hb hby at_4) rfl ?_
      show Steps p.tables e below (T1.setTop (mkF m 5 #[.val (.int col), .val (.int row), .val (.int sz), .unset, .unset] [(.int col), (.ref sq), (.ref sq)])) _
      refine XS.iloadN X.here hx rfl (hb hby at_5) rfl ?_
      exact k)
  obtain ⟨_, _, ⟨T5, L4, k4, n4⟩, -, X, ⟨Lc4, hQ, l4, y4, z4⟩, sx⟩ := X.specialBack hx (y := (⟨"com/example/flipline/flipline/Square", "<init>", "(II)V"⟩ : MethodName)) rfl hown (mvT hZ (hw _ (List.mem_of_getElem? (i := 3) rfl))) (mvT hZ (hw _ (List.mem_of_getElem? (i := 4) rfl))) (mvT hZ (hw _ (List.mem_of_getElem? (i := 5) rfl))) (by decide) (backOf (W := 1) (rm1 l Z a0 hw [] sq col row  h2 n0 Z0 E_sq g_sq F_sq_column F_sq_row) hZ (hw _ (List.mem_of_getElem? (i := 5) rfl)) (hw _ (List.mem_of_getElem? (i := 2) rfl)) (by decide) (by decide)) (g := (mkF m 6 #[.val (.int col), .val (.int row), .val (.int sz), .unset, .unset] [(.int row), (.int col), (.ref sq), (.ref sq)])) rfl (by rw [hml]; rfl) (Steps.refl _) (a := sq) (argsL := [(.int col), (.int row)]) (rest := [(.ref sq)]) (lenOf own_pd1 rfl) rfl (by show 2 * 0 + _ ≤ _; exact Nat.le_of_eq rfl) (hb hby at_6) (fun _ _ => ⟨rfl, eh, (by decide : 1 + 0 ≤ _), (by decide : 2 + 0 ≤ _)⟩)
  dsimp only [Pt.U, Pt.locs, Pt.cells, Pt.slots] at X l4 y4 z4 sx hQ
  subst l4 y4 z4
  obtain ⟨rfl, Nc, K1, F_sq_column, F_sq_row⟩ := hQ
  have st : ∀ t, Steps p.tables e below (T5.setTop (mkF m 9 #[.val (.int col), .val (.int row), .val (.int sz), .unset, .unset] [(.ref sq)])) t → Steps p.tables e below (s₁.setTop (mkF m 0 #[.val (.int col), .val (.int row), .val (.int sz), .unset, .unset] [])) t := fun t k => st t (sx.trans k)
  have N := Fr.app N Nc
  obtain ⟨h6, eH⟩ : ∃ z, z = T5.heap := ⟨_, rfl⟩
  rw [← eH] at K1 F_sq_column F_sq_row
  have eh : T5.heap = h6 := eH.symm
  have E_sq := E_sq.keep K1
  have K := K.trans K1 (allS (Or.inr sz_sq) all0)
  have Z0 := Nat.le_trans Z0 K1.1
  have st : ∀ t, Steps p.tables e below (T5.setTop (mkF m 12 #[.val (.int col), .val (.int row), .val (.int sz), .val (.ref sq), .unset] [(.int row), (.int col)])) t → Steps p.tables e below (s₁.setTop (mkF m 0 #[.val (.int col), .val (.int row), .val (.int sz), .unset, .unset] [])) t := fun t k => st t (by
      show Steps p.tables e below (T5.setTop (mkF m 9 #[.val (.int col), .val (.int row), .val (.int sz), .unset, .unset] [(.ref sq)])) _
      refine XS.astoreN X.here hx rfl (hb hby at_9) rfl rfl (l' := #[.val (.int col), .val (.int row), .val (.int sz), .val (.ref sq), .unset]) rfl ?_
      show Steps p.tables e below (T5.setTop (mkF m 10 #[.val (.int col), .val (.int row), .val (.int sz), .val (.ref sq), .unset] [])) _
      refine XS.iloadN X.here hx rfl (hb hby at_10) rfl ?_
      show Steps p.tables e below (T5.setTop (mkF m 11 #[.val (.int col), .val (.int row), .val (.int sz), .val (.ref sq), .unset] [(.int col)])) _
      refine XS.iloadN X.here hx rfl (hb hby at_11) rfl ?_
      exact k)
  obtain ⟨_, _, ⟨T8, L7, k7, n7⟩, -, X, ⟨Lc7, hQ, l7, y7, z7⟩, sx⟩ := Jvm.LawKit.callS X hx (y := (⟨"java/lang/Math", "min", "(II)I"⟩ : MethodName)) hown (mvT hZ (hw _ (List.mem_of_getElem? (i := 18) rfl))) (mvT hZ (hw _ (List.mem_of_getElem? (i := 19) rfl))) (mvT hZ (hw _ (List.mem_of_getElem? (i := 20) rfl))) (mvT hZ (hw _ (List.mem_of_getElem? (i := 21) rfl))) (by decide) (backOf (W := 0) (rm4 l Z a0 hw [] col row  h6 n0 Z0 ) hZ (hw _ (List.mem_of_getElem? (i := 21) rfl)) (hw _ (List.mem_of_getElem? (i := 20) rfl)) (by decide) (by decide)) (g := (mkF m 12 #[.val (.int col), .val (.int row), .val (.int sz), .val (.ref sq), .unset] [(.int row), (.int col)])) rfl (by rw [hml]; rfl) (argsL := [(.int col), (.int row)]) (rest := []) (lenOf own_pd2 rfl) rfl (by show 2 * 0 + _ ≤ _; exact Nat.le_of_eq rfl) (hb hby at_12) (fun _ _ => ⟨rfl, eh, (by decide : 1 + 0 ≤ _), (by decide : 2 + 0 ≤ _)⟩)
  dsimp only [Pt.U, Pt.locs, Pt.cells, Pt.slots] at X l7 y7 z7 sx hQ
  subst l7 y7 z7
  obtain ⟨rfl, Nc, hsame_⟩ := hQ
  have st : ∀ t, Steps p.tables e below (T8.setTop (mkF m 15 #[.val (.int col), .val (.int row), .val (.int sz), .val (.ref sq), .unset] [(.int (own_min col row))])) t → Steps p.tables e below (s₁.setTop (mkF m 0 #[.val (.int col), .val (.int row), .val (.int sz), .unset, .unset] [])) t := fun t k => st t (sx t k)
  have N := Fr.app N Nc
  have eh : T8.heap = h6 := hsame_
  by_cases hA : (own_min col row) < (0 : Int32)
  · have st : ∀ t, Steps p.tables e below (T8.setTop (mkF m 36 #[.val (.int col), .val (.int row), .val (.int sz), .val (.ref sq), .val (.int (0 : Int32))] [(.int sz), (.ref sq)])) t → Steps p.tables e below (s₁.setTop (mkF m 0 #[.val (.int col), .val (.int row), .val (.int sz), .unset, .unset] [])) t := fun t k => st t (by
        show Steps p.tables e below (T8.setTop (mkF m 15 #[.val (.int col), .val (.int row), .val (.int sz), .val (.ref sq), .unset] [(.int (own_min col row))])) _
        refine XS.ifYes X.here hx rfl (pc0 := 15) (pc' := 31) rfl (hb hby at_15) rfl ((if0 _ _).trans (tlt hA).1) (by decide) (by decide) ?_
        show Steps p.tables e below (T8.setTop (mkF m 31 #[.val (.int col), .val (.int row), .val (.int sz), .val (.ref sq), .unset] [])) _
        refine XS.iconst X.here hx rfl (hb hby at_31) ?_
        show Steps p.tables e below (T8.setTop (mkF m 32 #[.val (.int col), .val (.int row), .val (.int sz), .val (.ref sq), .unset] [(.int (0 : Int32))])) _
        refine XS.istore X.here hx rfl (hb hby at_32) rfl (l' := #[.val (.int col), .val (.int row), .val (.int sz), .val (.ref sq), .val (.int (0 : Int32))]) rfl ?_
        show Steps p.tables e below (T8.setTop (mkF m 34 #[.val (.int col), .val (.int row), .val (.int sz), .val (.ref sq), .val (.int (0 : Int32))] [])) _
        refine XS.aloadN X.here hx rfl (hb hby at_34) rfl rfl ?_
        show Steps p.tables e below (T8.setTop (mkF m 35 #[.val (.int col), .val (.int row), .val (.int sz), .val (.ref sq), .val (.int (0 : Int32))] [(.ref sq)])) _
        refine XS.iloadN X.here hx rfl (hb hby at_35) rfl ?_
        exact k)
    obtain ⟨cq9, kq9, qa9, qb9, qc9⟩ := isOf hZ eh E_sq
    obtain ⟨_, _, ⟨T10, L9, k9, n9⟩, -, X, ⟨Lc9, hQ, l9, y9, z9⟩, sx⟩ := X.virtualBack hx (y := (⟨"com/example/flipline/flipline/Square", "isOn", "(I)Z"⟩ : MethodName)) (z := (⟨"com/example/flipline/flipline/Square", "isOn", "(I)Z"⟩ : MethodName)) hown (mvT hZ (hw _ (List.mem_of_getElem? (i := 25) rfl))) (mvT hZ (hw _ (List.mem_of_getElem? (i := 26) rfl))) (notFace_of_selects (args := #[]) (mvT hZ (hw _ (List.mem_of_getElem? (i := 28) rfl)))) (mvT hZ (hw _ (List.mem_of_getElem? (i := 28) rfl))) (mvT hZ (hw _ (List.mem_of_getElem? (i := 27) rfl))) (by decide) (backOf (W := 0) (rm6 l Z a0 hw [] sq sz col row h6 n0 Z0 F_sq_column F_sq_row) hZ (hw _ (List.mem_of_getElem? (i := 29) rfl)) (hw _ (List.mem_of_getElem? (i := 2) rfl)) (by decide) (by decide)) qa9 qc9 (g := (mkF m 36 #[.val (.int col), .val (.int row), .val (.int sz), .val (.ref sq), .val (.int (0 : Int32))] [(.int sz), (.ref sq)])) rfl (by rw [hml]; rfl) (Steps.refl _) (argsL := [(.int sz)]) (rest := []) (lenOf own_pd3 rfl) rfl (by show 2 * 0 + _ ≤ _; exact Nat.le_of_eq rfl) (hb hby at_36) (fun _ _ => ⟨rfl, eh, (by decide : 1 + 0 ≤ _), (by decide : 2 + 0 ≤ _)⟩)
    dsimp only [Pt.U, Pt.locs, Pt.cells, Pt.slots] at X l9 y9 z9 sx hQ
    subst l9 y9 z9
    obtain ⟨rfl, Nc, hsame_⟩ := hQ
    have st : ∀ t, Steps p.tables e below (T10.setTop (mkF m 39 #[.val (.int col), .val (.int row), .val (.int sz), .val (.ref sq), .val (.int (0 : Int32))] [(.int (own_on col row sz))])) t → Steps p.tables e below (s₁.setTop (mkF m 0 #[.val (.int col), .val (.int row), .val (.int sz), .unset, .unset] [])) t := fun t k => st t (sx.trans k)
    have N := Fr.app N Nc
    have eh : T10.heap = h6 := hsame_
    have st : ∀ t, Steps p.tables e below (T10.setTop (mkF m 49 #[.val (.int col), .val (.int row), .val (.int sz), .val (.ref sq), .val (.int (0 : Int32))] [(.int (1 : Int32))])) t → Steps p.tables e below (s₁.setTop (mkF m 0 #[.val (.int col), .val (.int row), .val (.int sz), .unset, .unset] [])) t := fun t k => st t (by
        show Steps p.tables e below (T10.setTop (mkF m 39 #[.val (.int col), .val (.int row), .val (.int sz), .val (.ref sq), .val (.int (0 : Int32))] [(.int (own_on col row sz))])) _
        refine XS.iload X.here hx rfl (hb hby at_39) rfl ?_
        show Steps p.tables e below (T10.setTop (mkF m 41 #[.val (.int col), .val (.int row), .val (.int sz), .val (.ref sq), .val (.int (0 : Int32))] [(.int (0 : Int32)), (.int (own_on col row sz))])) _
        refine XS.icmpNo X.here hx rfl (hb hby at_41) rfl (teq (own_onNeg col row sz hA)).2 ?_
        show Steps p.tables e below (T10.setTop (mkF m 44 #[.val (.int col), .val (.int row), .val (.int sz), .val (.ref sq), .val (.int (0 : Int32))] [])) _
        refine XS.iconst X.here hx rfl (hb hby at_44) ?_
        show Steps p.tables e below (T10.setTop (mkF m 45 #[.val (.int col), .val (.int row), .val (.int sz), .val (.ref sq), .val (.int (0 : Int32))] [(.int (1 : Int32))])) _
        refine XS.goto X.here hx rfl (pc0 := 45) (pc' := 49) rfl (hb hby at_45) (by decide) (by decide) ?_
        exact k)
    obtain ⟨fs_, hr, hrun, hended, hW, hsame⟩ := X.leave (v := some (.int (1 : Int32))) (fun h => by rw [Bd.returns] at h; cases h)
    refine ⟨_, _, pre0 _ (st _ ?_), hrun, hended, _, _, rfl, ?_, ⟨_, rfl⟩, hW, hsame.mono (by decide) (by decide)⟩
    · exact retN X hx (t := .boolean) Bd.returns (by simp) (hb hby at_49) hr
    · show Q_rm0 Z col row sz h0 n0 _ T10.heap _
      rw [eh]
      exact ⟨rfl, N⟩
  · have st : ∀ t, Steps p.tables e below (T8.setTop (mkF m 20 #[.val (.int col), .val (.int row), .val (.int sz), .val (.ref sq), .unset] [(.int row), (.int col)])) t → Steps p.tables e below (s₁.setTop (mkF m 0 #[.val (.int col), .val (.int row), .val (.int sz), .unset, .unset] [])) t := fun t k => st t (by
        show Steps p.tables e below (T8.setTop (mkF m 15 #[.val (.int col), .val (.int row), .val (.int sz), .val (.ref sq), .unset] [(.int (own_min col row))])) _
        refine XS.ifNo X.here hx rfl (hb hby at_15) rfl ((if0 _ _).trans (flt hA).1) ?_
        show Steps p.tables e below (T8.setTop (mkF m 18 #[.val (.int col), .val (.int row), .val (.int sz), .val (.ref sq), .unset] [])) _
        refine XS.iloadN X.here hx rfl (hb hby at_18) rfl ?_
        show Steps p.tables e below (T8.setTop (mkF m 19 #[.val (.int col), .val (.int row), .val (.int sz), .val (.ref sq), .unset] [(.int col)])) _
        refine XS.iloadN X.here hx rfl (hb hby at_19) rfl ?_
        exact k)
    obtain ⟨_, _, ⟨T12, L11, k11, n11⟩, -, X, ⟨Lc11, hQ, l11, y11, z11⟩, sx⟩ := Jvm.LawKit.callS X hx (y := (⟨"java/lang/Math", "max", "(II)I"⟩ : MethodName)) hown (mvT hZ (hw _ (List.mem_of_getElem? (i := 22) rfl))) (mvT hZ (hw _ (List.mem_of_getElem? (i := 23) rfl))) (mvT hZ (hw _ (List.mem_of_getElem? (i := 20) rfl))) (mvT hZ (hw _ (List.mem_of_getElem? (i := 24) rfl))) (by decide) (backOf (W := 0) (rm5 l Z a0 hw [] col row  h6 n0 Z0 ) hZ (hw _ (List.mem_of_getElem? (i := 24) rfl)) (hw _ (List.mem_of_getElem? (i := 20) rfl)) (by decide) (by decide)) (g := (mkF m 20 #[.val (.int col), .val (.int row), .val (.int sz), .val (.ref sq), .unset] [(.int row), (.int col)])) rfl (by rw [hml]; rfl) (argsL := [(.int col), (.int row)]) (rest := []) (lenOf own_pd2 rfl) rfl (by show 2 * 0 + _ ≤ _; exact Nat.le_of_eq rfl) (hb hby at_20) (fun _ _ => ⟨rfl, eh, (by decide : 1 + 0 ≤ _), (by decide : 2 + 0 ≤ _)⟩)
    dsimp only [Pt.U, Pt.locs, Pt.cells, Pt.slots] at X l11 y11 z11 sx hQ
    subst l11 y11 z11
    obtain ⟨rfl, Nc, hsame_⟩ := hQ
    have st : ∀ t, Steps p.tables e below (T12.setTop (mkF m 23 #[.val (.int col), .val (.int row), .val (.int sz), .val (.ref sq), .unset] [(.int (own_max col row))])) t → Steps p.tables e below (s₁.setTop (mkF m 0 #[.val (.int col), .val (.int row), .val (.int sz), .unset, .unset] [])) t := fun t k => st t (sx t k)
    have N := Fr.app N Nc
    have eh : T12.heap = h6 := hsame_
    have st : ∀ t, Steps p.tables e below (T12.setTop (mkF m 24 #[.val (.int col), .val (.int row), .val (.int sz), .val (.ref sq), .unset] [(.int sz), (.int (own_max col row))])) t → Steps p.tables e below (s₁.setTop (mkF m 0 #[.val (.int col), .val (.int row), .val (.int sz), .unset, .unset] [])) t := fun t k => st t (by
        show Steps p.tables e below (T12.setTop (mkF m 23 #[.val (.int col), .val (.int row), .val (.int sz), .val (.ref sq), .unset] [(.int (own_max col row))])) _
        refine XS.iloadN X.here hx rfl (hb hby at_23) rfl ?_
        exact k)
    by_cases hB : (own_max col row) < sz
    · have st : ∀ t, Steps p.tables e below (T12.setTop (mkF m 36 #[.val (.int col), .val (.int row), .val (.int sz), .val (.ref sq), .val (.int (1 : Int32))] [(.int sz), (.ref sq)])) t → Steps p.tables e below (s₁.setTop (mkF m 0 #[.val (.int col), .val (.int row), .val (.int sz), .unset, .unset] [])) t := fun t k => st t (by
          show Steps p.tables e below (T12.setTop (mkF m 24 #[.val (.int col), .val (.int row), .val (.int sz), .val (.ref sq), .unset] [(.int sz), (.int (own_max col row))])) _
          refine XS.icmpNo X.here hx rfl (hb hby at_24) rfl (tlt hB).2.1 ?_
          show Steps p.tables e below (T12.setTop (mkF m 27 #[.val (.int col), .val (.int row), .val (.int sz), .val (.ref sq), .unset] [])) _
          refine XS.iconst X.here hx rfl (hb hby at_27) ?_
          show Steps p.tables e below (T12.setTop (mkF m 28 #[.val (.int col), .val (.int row), .val (.int sz), .val (.ref sq), .unset] [(.int (1 : Int32))])) _
          refine XS.goto X.here hx rfl (pc0 := 28) (pc' := 32) rfl (hb hby at_28) (by decide) (by decide) ?_
          show Steps p.tables e below (T12.setTop (mkF m 32 #[.val (.int col), .val (.int row), .val (.int sz), .val (.ref sq), .unset] [(.int (1 : Int32))])) _
          refine XS.istore X.here hx rfl (hb hby at_32) rfl (l' := #[.val (.int col), .val (.int row), .val (.int sz), .val (.ref sq), .val (.int (1 : Int32))]) rfl ?_
          show Steps p.tables e below (T12.setTop (mkF m 34 #[.val (.int col), .val (.int row), .val (.int sz), .val (.ref sq), .val (.int (1 : Int32))] [])) _
          refine XS.aloadN X.here hx rfl (hb hby at_34) rfl rfl ?_
          show Steps p.tables e below (T12.setTop (mkF m 35 #[.val (.int col), .val (.int row), .val (.int sz), .val (.ref sq), .val (.int (1 : Int32))] [(.ref sq)])) _
          refine XS.iloadN X.here hx rfl (hb hby at_35) rfl ?_
          exact k)
      obtain ⟨cq13, kq13, qa13, qb13, qc13⟩ := isOf hZ eh E_sq
      obtain ⟨_, _, ⟨T14, L13, k13, n13⟩, -, X, ⟨Lc13, hQ, l13, y13, z13⟩, sx⟩ := X.virtualBack hx (y := (⟨"com/example/flipline/flipline/Square", "isOn", "(I)Z"⟩ : MethodName)) (z := (⟨"com/example/flipline/flipline/Square", "isOn", "(I)Z"⟩ : MethodName)) hown (mvT hZ (hw _ (List.mem_of_getElem? (i := 25) rfl))) (mvT hZ (hw _ (List.mem_of_getElem? (i := 26) rfl))) (notFace_of_selects (args := #[]) (mvT hZ (hw _ (List.mem_of_getElem? (i := 28) rfl)))) (mvT hZ (hw _ (List.mem_of_getElem? (i := 28) rfl))) (mvT hZ (hw _ (List.mem_of_getElem? (i := 27) rfl))) (by decide) (backOf (W := 0) (rm6 l Z a0 hw [] sq sz col row h6 n0 Z0 F_sq_column F_sq_row) hZ (hw _ (List.mem_of_getElem? (i := 29) rfl)) (hw _ (List.mem_of_getElem? (i := 2) rfl)) (by decide) (by decide)) qa13 qc13 (g := (mkF m 36 #[.val (.int col), .val (.int row), .val (.int sz), .val (.ref sq), .val (.int (1 : Int32))] [(.int sz), (.ref sq)])) rfl (by rw [hml]; rfl) (Steps.refl _) (argsL := [(.int sz)]) (rest := []) (lenOf own_pd3 rfl) rfl (by show 2 * 0 + _ ≤ _; exact Nat.le_of_eq rfl) (hb hby at_36) (fun _ _ => ⟨rfl, eh, (by decide : 1 + 0 ≤ _), (by decide : 2 + 0 ≤ _)⟩)
      dsimp only [Pt.U, Pt.locs, Pt.cells, Pt.slots] at X l13 y13 z13 sx hQ
      subst l13 y13 z13
      obtain ⟨rfl, Nc, hsame_⟩ := hQ
      have st : ∀ t, Steps p.tables e below (T14.setTop (mkF m 39 #[.val (.int col), .val (.int row), .val (.int sz), .val (.ref sq), .val (.int (1 : Int32))] [(.int (own_on col row sz))])) t → Steps p.tables e below (s₁.setTop (mkF m 0 #[.val (.int col), .val (.int row), .val (.int sz), .unset, .unset] [])) t := fun t k => st t (sx.trans k)
      have N := Fr.app N Nc
      have eh : T14.heap = h6 := hsame_
      have st : ∀ t, Steps p.tables e below (T14.setTop (mkF m 49 #[.val (.int col), .val (.int row), .val (.int sz), .val (.ref sq), .val (.int (1 : Int32))] [(.int (1 : Int32))])) t → Steps p.tables e below (s₁.setTop (mkF m 0 #[.val (.int col), .val (.int row), .val (.int sz), .unset, .unset] [])) t := fun t k => st t (by
          show Steps p.tables e below (T14.setTop (mkF m 39 #[.val (.int col), .val (.int row), .val (.int sz), .val (.ref sq), .val (.int (1 : Int32))] [(.int (own_on col row sz))])) _
          refine XS.iload X.here hx rfl (hb hby at_39) rfl ?_
          show Steps p.tables e below (T14.setTop (mkF m 41 #[.val (.int col), .val (.int row), .val (.int sz), .val (.ref sq), .val (.int (1 : Int32))] [(.int (1 : Int32)), (.int (own_on col row sz))])) _
          refine XS.icmpNo X.here hx rfl (hb hby at_41) rfl (teq (own_onYes col row sz hA hB)).2 ?_
          show Steps p.tables e below (T14.setTop (mkF m 44 #[.val (.int col), .val (.int row), .val (.int sz), .val (.ref sq), .val (.int (1 : Int32))] [])) _
          refine XS.iconst X.here hx rfl (hb hby at_44) ?_
          show Steps p.tables e below (T14.setTop (mkF m 45 #[.val (.int col), .val (.int row), .val (.int sz), .val (.ref sq), .val (.int (1 : Int32))] [(.int (1 : Int32))])) _
          refine XS.goto X.here hx rfl (pc0 := 45) (pc' := 49) rfl (hb hby at_45) (by decide) (by decide) ?_
          exact k)
      obtain ⟨fs_, hr, hrun, hended, hW, hsame⟩ := X.leave (v := some (.int (1 : Int32))) (fun h => by rw [Bd.returns] at h; cases h)
      refine ⟨_, _, pre0 _ (st _ ?_), hrun, hended, _, _, rfl, ?_, ⟨_, rfl⟩, hW, hsame.mono (by decide) (by decide)⟩
      · exact retN X hx (t := .boolean) Bd.returns (by simp) (hb hby at_49) hr
      · show Q_rm0 Z col row sz h0 n0 _ T14.heap _
        rw [eh]
        exact ⟨rfl, N⟩
    · have st : ∀ t, Steps p.tables e below (T12.setTop (mkF m 36 #[.val (.int col), .val (.int row), .val (.int sz), .val (.ref sq), .val (.int (0 : Int32))] [(.int sz), (.ref sq)])) t → Steps p.tables e below (s₁.setTop (mkF m 0 #[.val (.int col), .val (.int row), .val (.int sz), .unset, .unset] [])) t := fun t k => st t (by
          show Steps p.tables e below (T12.setTop (mkF m 24 #[.val (.int col), .val (.int row), .val (.int sz), .val (.ref sq), .unset] [(.int sz), (.int (own_max col row))])) _
          refine XS.icmpYes X.here hx rfl (pc0 := 24) (pc' := 31) rfl (hb hby at_24) rfl (flt hB).2.1 (by decide) (by decide) ?_
          show Steps p.tables e below (T12.setTop (mkF m 31 #[.val (.int col), .val (.int row), .val (.int sz), .val (.ref sq), .unset] [])) _
          refine XS.iconst X.here hx rfl (hb hby at_31) ?_
          show Steps p.tables e below (T12.setTop (mkF m 32 #[.val (.int col), .val (.int row), .val (.int sz), .val (.ref sq), .unset] [(.int (0 : Int32))])) _
          refine XS.istore X.here hx rfl (hb hby at_32) rfl (l' := #[.val (.int col), .val (.int row), .val (.int sz), .val (.ref sq), .val (.int (0 : Int32))]) rfl ?_
          show Steps p.tables e below (T12.setTop (mkF m 34 #[.val (.int col), .val (.int row), .val (.int sz), .val (.ref sq), .val (.int (0 : Int32))] [])) _
          refine XS.aloadN X.here hx rfl (hb hby at_34) rfl rfl ?_
          show Steps p.tables e below (T12.setTop (mkF m 35 #[.val (.int col), .val (.int row), .val (.int sz), .val (.ref sq), .val (.int (0 : Int32))] [(.ref sq)])) _
          refine XS.iloadN X.here hx rfl (hb hby at_35) rfl ?_
          exact k)
      obtain ⟨cq15, kq15, qa15, qb15, qc15⟩ := isOf hZ eh E_sq
      obtain ⟨_, _, ⟨T16, L15, k15, n15⟩, -, X, ⟨Lc15, hQ, l15, y15, z15⟩, sx⟩ := X.virtualBack hx (y := (⟨"com/example/flipline/flipline/Square", "isOn", "(I)Z"⟩ : MethodName)) (z := (⟨"com/example/flipline/flipline/Square", "isOn", "(I)Z"⟩ : MethodName)) hown (mvT hZ (hw _ (List.mem_of_getElem? (i := 25) rfl))) (mvT hZ (hw _ (List.mem_of_getElem? (i := 26) rfl))) (notFace_of_selects (args := #[]) (mvT hZ (hw _ (List.mem_of_getElem? (i := 28) rfl)))) (mvT hZ (hw _ (List.mem_of_getElem? (i := 28) rfl))) (mvT hZ (hw _ (List.mem_of_getElem? (i := 27) rfl))) (by decide) (backOf (W := 0) (rm6 l Z a0 hw [] sq sz col row h6 n0 Z0 F_sq_column F_sq_row) hZ (hw _ (List.mem_of_getElem? (i := 29) rfl)) (hw _ (List.mem_of_getElem? (i := 2) rfl)) (by decide) (by decide)) qa15 qc15 (g := (mkF m 36 #[.val (.int col), .val (.int row), .val (.int sz), .val (.ref sq), .val (.int (0 : Int32))] [(.int sz), (.ref sq)])) rfl (by rw [hml]; rfl) (Steps.refl _) (argsL := [(.int sz)]) (rest := []) (lenOf own_pd3 rfl) rfl (by show 2 * 0 + _ ≤ _; exact Nat.le_of_eq rfl) (hb hby at_36) (fun _ _ => ⟨rfl, eh, (by decide : 1 + 0 ≤ _), (by decide : 2 + 0 ≤ _)⟩)
      dsimp only [Pt.U, Pt.locs, Pt.cells, Pt.slots] at X l15 y15 z15 sx hQ
      subst l15 y15 z15
      obtain ⟨rfl, Nc, hsame_⟩ := hQ
      have st : ∀ t, Steps p.tables e below (T16.setTop (mkF m 39 #[.val (.int col), .val (.int row), .val (.int sz), .val (.ref sq), .val (.int (0 : Int32))] [(.int (own_on col row sz))])) t → Steps p.tables e below (s₁.setTop (mkF m 0 #[.val (.int col), .val (.int row), .val (.int sz), .unset, .unset] [])) t := fun t k => st t (sx.trans k)
      have N := Fr.app N Nc
      have eh : T16.heap = h6 := hsame_
      have st : ∀ t, Steps p.tables e below (T16.setTop (mkF m 49 #[.val (.int col), .val (.int row), .val (.int sz), .val (.ref sq), .val (.int (0 : Int32))] [(.int (1 : Int32))])) t → Steps p.tables e below (s₁.setTop (mkF m 0 #[.val (.int col), .val (.int row), .val (.int sz), .unset, .unset] [])) t := fun t k => st t (by
          show Steps p.tables e below (T16.setTop (mkF m 39 #[.val (.int col), .val (.int row), .val (.int sz), .val (.ref sq), .val (.int (0 : Int32))] [(.int (own_on col row sz))])) _
          refine XS.iload X.here hx rfl (hb hby at_39) rfl ?_
          show Steps p.tables e below (T16.setTop (mkF m 41 #[.val (.int col), .val (.int row), .val (.int sz), .val (.ref sq), .val (.int (0 : Int32))] [(.int (0 : Int32)), (.int (own_on col row sz))])) _
          refine XS.icmpNo X.here hx rfl (hb hby at_41) rfl (teq (own_onNo col row sz hA hB)).2 ?_
          show Steps p.tables e below (T16.setTop (mkF m 44 #[.val (.int col), .val (.int row), .val (.int sz), .val (.ref sq), .val (.int (0 : Int32))] [])) _
          refine XS.iconst X.here hx rfl (hb hby at_44) ?_
          show Steps p.tables e below (T16.setTop (mkF m 45 #[.val (.int col), .val (.int row), .val (.int sz), .val (.ref sq), .val (.int (0 : Int32))] [(.int (1 : Int32))])) _
          refine XS.goto X.here hx rfl (pc0 := 45) (pc' := 49) rfl (hb hby at_45) (by decide) (by decide) ?_
          exact k)
      obtain ⟨fs_, hr, hrun, hended, hW, hsame⟩ := X.leave (v := some (.int (1 : Int32))) (fun h => by rw [Bd.returns] at h; cases h)
      refine ⟨_, _, pre0 _ (st _ ?_), hrun, hended, _, _, rfl, ?_, ⟨_, rfl⟩, hW, hsame.mono (by decide) (by decide)⟩
      · exact retN X hx (t := .boolean) Bd.returns (by simp) (hb hby at_49) hr
      · show Q_rm0 Z col row sz h0 n0 _ T16.heap _
        rw [eh]
        exact ⟨rfl, N⟩
set_option maxRecDepth 65536 in
set_option maxHeartbeats 40000000 in
theorem comes_1 {Post : Tables → Env → Array Value → State → Outcome → State → Prop} (hpost : ∀ tb e args s v u, (limb_1_1.after args s (.returned v) u = true ∧ limb_1_2.after args s (.returned v) u = true ∧ True) → FrameEnd s (.returned v) u (Jvm.fieldLocs frame_1_writes args s ++ Jvm.arrayLocs frame_1_arrays args s ++ Jvm.staticLocs frame_1_statics s) 16 128 → Post tb e args s (.returned v) u) :
    ArmFor flags0 classFile x code maxLocals ret World_1 tables_1 room_1 Calls_1 rest_1 Pre_1 Post := by
  intro l hfl _ _ p e ha hc hk s m args below hf hA hF happ hP
  obtain ⟨hcalls, hrest, hpre⟩ := hP
  obtain ⟨-, -, -, hnamed, -, -, -, hat⟩ := (Spec.applies_iff hf).mp happ
  obtain ⟨hg, hn⟩ := and_e (Cond.before_iff.mp (show (Jvm.Cond.and given_1 narrow_1).before args s = true from hpre))
  obtain ⟨g0, hg1⟩ := and_e hg
  obtain ⟨ha0, hg2⟩ := and_e hg1
  obtain ⟨ha1, hg3⟩ := and_e hg2
  have ha2 := hg3
  obtain ⟨w0, w1, w2, rfl⟩ : ∃ w0 w1 w2 : Value, args = #[w0, w1, w2] := by
    have hs : args.size = 3 := by simpa [Cond.value, given_1] using g0
    obtain ⟨L⟩ := args
    match L, hs with
    | [w0, w1, w2], _ => exact ⟨w0, w1, w2, rfl⟩
  have hw := fun d (hd : d ∈ tables_1) => atoms_spec (ws := Jvm.Cond.code x code maxLocals ret :: tables_1) hat d (List.mem_cons_of_mem _ hd)
  obtain ⟨i0, ei0⟩ := is_v ha0
  obtain rfl : w0 = (.int i0) := Option.some.inj ei0
  obtain ⟨i1, ei1⟩ := is_v ha1
  obtain rfl : w1 = (.int i1) := Option.some.inj ei1
  obtain ⟨i2, ei2⟩ := is_v ha2
  obtain rfl : w2 = (.int i2) := Option.some.inj ei2
  obtain ⟨n, o, h1, h2, h3, _, L, rfl, ⟨rfl, N⟩, hq⟩ := rm0 l s _ hw tables_1 i0 i1 i2 s.heap s.heap.size (Nat.le_refl _) p e ha hc hk s m _ below hf ((Spec.applies_iff_loose hf).mp happ).1 ⟨rfl, State.Warmed39.refl s, rfl⟩ trivial
  refine ⟨n, _, h1, h2, h3, hpost _ _ _ _ _ _ ⟨Cond.after_iff.mpr rfl, Cond.after_iff.mpr (eq_i res_at (Term.int_eval (1)) rfl), trivial⟩ ⟨hq.1, hq.2.1, (hq.2.2.sift fun y hy => Or.inr (N y hy)).mono (by decide) (by decide)⟩⟩
theorem main_1_1 : Claimed_1_1 := comes_1 fun _ _ _ _ _ _ h hF => ⟨h.1, hF⟩
theorem main_1_2 : Claimed_1_2 := comes_1 fun _ _ _ _ _ _ h hF => ⟨h.2.1, hF⟩
end Jvm.Pilot.@@N@@
namespace Jvm.Pilot.@@N@@
open Jvm Jvm.ClassFile Sem Op Lib Jvm.Free Jvm.Stand Jvm.Pilot.@@N@@.Jvm.D
/-! MADE BY PROGRAM (witnessworld.py) out of the Statement's table words and the real class files: 11 classes; the members and pool entries that the words name. The judged class is class 1, her method 1. -/
namespace start1
open Jvm.ClassFile
def u (s : String) : CpInfo := .utf8 (stringToUtf16 s)
/-- a pool by its gaps: so many unusable entries, then the entry; so many at the end -/
def gap : Nat → List CpInfo → List CpInfo
  | 0, r => r
  | n + 1, r => .unusable :: gap n r
def poolList (es : List (Nat × CpInfo)) (last : Nat) : List CpInfo := es.foldr (fun e r => gap e.1 (e.2 :: r)) (gap last [])
def pool (es : List (Nat × CpInfo)) (last : Nat) : Array CpInfo := ⟨poolList es last⟩
def fileOf (pool : Array CpInfo) (this : Nat) (attrs : Array Attribute := #[]) (ms : Array MethodInfo := #[]) (fl : Nat := 33) (sup : Nat := 0) (ifs : Array Nat := #[]) (fds : Array FieldInfo := #[]) : ClassFile where
  minorVersion := 0
  majorVersion := 65
  constantPool := pool
  accessFlags := fl
  thisClass := this
  superClass := sup
  interfaces := ifs
  fields := fds
  methods := ms
  attributes := attrs
def plain (name : String) (sup : Option ClassId) : Class where
  name := name
  kind := .ordinary
  loader := none
  accessFlags := 33
  super := sup
  interfaces := #[]
  cf := none
  fields := #[]
  methods := #[]
  instanceTypes := #[]
  staticTypes := #[]
  resolved := #[]
  callSites := []
  init := .initialized
  statics := none
  mirror := none

def pool0 : Array CpInfo := pool [(5, u "<init>"), (0, u "()V"), (1, .class_ 10), (1, u "java/lang/Object")] 113

def k0c0 : Code := { maxStack := 0, maxLocals := 1, code := object_method_1_code, exceptionTable := #[], attributes := #[] }
def k0m0 : Method := { name := "<init>", desc := "()V", sig := { parameters := [], returnType := none }, accessFlags := 1, code := some k0c0 }
/-- java/lang/Object -/
def k0 : Class := { plain "java/lang/Object" none with
  accessFlags := 33
  interfaces := #[]
  cf := some (fileOf pool0 8 #[] #[{ accessFlags := 1, nameIndex := 5, descriptorIndex := 6, attributes := #[] }] 33 0 #[] #[])
  fields := #[]
  methods := #[k0m0]
  instanceTypes := #[]
  staticTypes := #[]
  resolved := Array.replicate 124 none
  statics := none }

def pool1 : Array CpInfo := pool [(2, .class_ 4), (1, u "java/lang/Object"), (0, u "<init>"), (0, u "()V"), (0, .class_ 8), (0, u "com/example/flipline/flipline/Square"), (0, .methodref 7 10), (0, .nameAndType 5 11), (0, u "(II)V"), (0, .methodref 13 14), (0, .class_ 15), (0, .nameAndType 16 17), (0, u "java/lang/Math"), (0, u "min"), (0, u "(II)I"), (0, .methodref 13 19), (0, .nameAndType 20 17), (0, u "max"), (0, .methodref 7 22), (0, .nameAndType 23 24), (0, u "isOn"), (0, u "(I)Z"), (0, .class_ 26), (0, u "com/example/flipline/flipline/SquareIsOnPinLaw"), (2, u "law"), (0, u "(III)Z")] 3

def k1m0 : Method := { name := "<init>", desc := "()V", sig := { parameters := [], returnType := none }, accessFlags := 1, code := none }
def k1c1 : Code := { maxStack := 4, maxLocals := 5, code := code, exceptionTable := #[], attributes := #[] }
def k1m1 : Method := { name := "law", desc := "(III)Z", sig := { parameters := [.int, .int, .int], returnType := some .boolean }, accessFlags := 9, code := some k1c1 }
/-- com/example/flipline/flipline/SquareIsOnPinLaw -/
def k1 : Class := { plain "com/example/flipline/flipline/SquareIsOnPinLaw" (some 0) with
  accessFlags := 49
  interfaces := #[]
  cf := some (fileOf pool1 25 #[] #[{ accessFlags := 1, nameIndex := 5, descriptorIndex := 6, attributes := #[] }, { accessFlags := 9, nameIndex := 29, descriptorIndex := 30, attributes := #[] }] 49 2 #[] #[])
  fields := #[]
  methods := #[k1m0, k1m1]
  instanceTypes := #[]
  staticTypes := #[]
  resolved := Array.replicate 34 none
  statics := none }

def pool2 : Array CpInfo := pool [(1, .methodref 2 3), (0, .class_ 4), (0, .nameAndType 5 6), (0, u "java/lang/Object"), (0, u "<init>"), (0, u "()V"), (0, .class_ 8), (0, u "java/lang/Record")] 13

def k2c0 : Code := { maxStack := 1, maxLocals := 1, code := jdk_30_method_1_code, exceptionTable := #[], attributes := #[] }
def k2m0 : Method := { name := "<init>", desc := "()V", sig := { parameters := [], returnType := none }, accessFlags := 4, code := some k2c0 }
/-- java/lang/Record -/
def k2 : Class := { plain "java/lang/Record" (some 0) with
  accessFlags := 1057
  interfaces := #[]
  cf := some (fileOf pool2 7 #[] #[{ accessFlags := 4, nameIndex := 5, descriptorIndex := 6, attributes := #[] }] 1057 2 #[] #[])
  fields := #[]
  methods := #[k2m0]
  instanceTypes := #[]
  staticTypes := #[]
  resolved := Array.replicate 22 none
  statics := none }

def pool3 : Array CpInfo := pool [(1, .methodref 2 3), (0, .class_ 4), (0, .nameAndType 5 6), (0, u "java/lang/Record"), (0, u "<init>"), (0, u "()V"), (0, .fieldref 8 9), (0, .class_ 10), (0, .nameAndType 11 12), (0, u "com/example/flipline/flipline/Square"), (0, u "column"), (0, u "I"), (0, .fieldref 8 14), (0, .nameAndType 15 12), (0, u "row"), (2, u "NOTATION"), (0, u "Ljava/util/regex/Pattern;"), (45, u "(II)V"), (41, u "isOn"), (0, u "(I)Z")] 34

def k3c0 : Code := { maxStack := 2, maxLocals := 3, code := prog_43_method_1_code, exceptionTable := #[], attributes := #[] }
def k3m0 : Method := { name := "<init>", desc := "(II)V", sig := { parameters := [.int, .int], returnType := none }, accessFlags := 0, code := some k3c0 }
def k3c1 : Code := { maxStack := 2, maxLocals := 2, code := prog_43_method_3_code, exceptionTable := #[], attributes := #[] }
def k3m1 : Method := { name := "isOn", desc := "(I)Z", sig := { parameters := [.int], returnType := some .boolean }, accessFlags := 0, code := some k3c1 }
/-- com/example/flipline/flipline/Square -/
def k3 : Class := { plain "com/example/flipline/flipline/Square" (some 2) with
  accessFlags := 48
  interfaces := #[]
  cf := some (fileOf pool3 8 #[] #[{ accessFlags := 0, nameIndex := 5, descriptorIndex := 65, attributes := #[] }, { accessFlags := 0, nameIndex := 107, descriptorIndex := 108, attributes := #[] }] 48 2 #[] #[{ accessFlags := 18, nameIndex := 11, descriptorIndex := 12, attributes := #[] }, { accessFlags := 18, nameIndex := 15, descriptorIndex := 12, attributes := #[] }, { accessFlags := 26, nameIndex := 18, descriptorIndex := 19, attributes := #[] }])
  fields := #[{ name := "column", type := .int, accessFlags := 18, slot := 0, constantValue := 0 }, { name := "row", type := .int, accessFlags := 18, slot := 1, constantValue := 0 }, { name := "NOTATION", type := (.object "java/util/regex/Pattern"), accessFlags := 26, slot := 0, constantValue := 0 }]
  methods := #[k3m0, k3m1]
  instanceTypes := #[.int, .int]
  staticTypes := #[(.object "java/util/regex/Pattern")]
  resolved := Array.replicate 143 none
  statics := none }

def pool4 : Array CpInfo := pool [(1, .class_ 2), (0, u "java/lang/Math"), (1, .class_ 6), (1, u "java/lang/Object"), (0, u "<init>"), (0, u "()V"), (89, .class_ 100), (1, u "java/lang/Math$RandomNumberGeneratorHolder"), (71, u "negativeZeroFloatBits"), (0, u "J"), (2, u "negativeZeroDoubleBits"), (21, u "max"), (2, u "min"), (43, u "$assertionsDisabled"), (0, u "Z"), (88, u "(II)I"), (2, u "twoToTheDoubleScaleDown"), (0, u "D"), (4, u "twoToTheDoubleScaleUp"), (9, u "E"), (3, u "PI"), (2, u "TAU"), (2, u "DEGREES_TO_RADIANS"), (0, u "RADIANS_TO_DEGREES")] 94

def k4m0 : Method := { name := "<init>", desc := "()V", sig := { parameters := [], returnType := none }, accessFlags := 2, code := none }
def k4c1 : Code := { maxStack := 2, maxLocals := 2, code := jdk_29_method_65_code, exceptionTable := #[], attributes := #[] }
def k4m1 : Method := { name := "max", desc := "(II)I", sig := { parameters := [.int, .int], returnType := some .int }, accessFlags := 9, code := some k4c1 }
def k4c2 : Code := { maxStack := 2, maxLocals := 2, code := jdk_29_method_69_code, exceptionTable := #[], attributes := #[] }
def k4m2 : Method := { name := "min", desc := "(II)I", sig := { parameters := [.int, .int], returnType := some .int }, accessFlags := 9, code := some k4c2 }
/-- java/lang/Math -/
def k4 : Class := { plain "java/lang/Math" (some 0) with
  accessFlags := 49
  interfaces := #[]
  cf := some (fileOf pool4 1 #[.nestMembers #[98]] #[{ accessFlags := 2, nameIndex := 7, descriptorIndex := 8, attributes := #[] }, { accessFlags := 9, nameIndex := 198, descriptorIndex := 335, attributes := #[] }, { accessFlags := 9, nameIndex := 201, descriptorIndex := 335, attributes := #[] }] 49 4 #[] #[{ accessFlags := 25, nameIndex := 354, descriptorIndex := 339, attributes := #[] }, { accessFlags := 25, nameIndex := 358, descriptorIndex := 339, attributes := #[] }, { accessFlags := 25, nameIndex := 361, descriptorIndex := 339, attributes := #[] }, { accessFlags := 26, nameIndex := 364, descriptorIndex := 339, attributes := #[] }, { accessFlags := 26, nameIndex := 365, descriptorIndex := 339, attributes := #[] }, { accessFlags := 26, nameIndex := 172, descriptorIndex := 173, attributes := #[] }, { accessFlags := 26, nameIndex := 176, descriptorIndex := 173, attributes := #[] }, { accessFlags := 8, nameIndex := 344, descriptorIndex := 339, attributes := #[] }, { accessFlags := 8, nameIndex := 338, descriptorIndex := 339, attributes := #[] }, { accessFlags := 4120, nameIndex := 245, descriptorIndex := 246, attributes := #[] }])
  fields := #[{ name := "E", type := .double, accessFlags := 25, slot := 0, constantValue := 0 }, { name := "PI", type := .double, accessFlags := 25, slot := 1, constantValue := 0 }, { name := "TAU", type := .double, accessFlags := 25, slot := 2, constantValue := 0 }, { name := "DEGREES_TO_RADIANS", type := .double, accessFlags := 26, slot := 3, constantValue := 0 }, { name := "RADIANS_TO_DEGREES", type := .double, accessFlags := 26, slot := 4, constantValue := 0 }, { name := "negativeZeroFloatBits", type := .long, accessFlags := 26, slot := 5, constantValue := 0 }, { name := "negativeZeroDoubleBits", type := .long, accessFlags := 26, slot := 6, constantValue := 0 }, { name := "twoToTheDoubleScaleUp", type := .double, accessFlags := 8, slot := 7, constantValue := 0 }, { name := "twoToTheDoubleScaleDown", type := .double, accessFlags := 8, slot := 8, constantValue := 0 }, { name := "$assertionsDisabled", type := .boolean, accessFlags := 4120, slot := 9, constantValue := 0 }]
  methods := #[k4m0, k4m1, k4m2]
  instanceTypes := #[]
  staticTypes := #[.double, .double, .double, .double, .double, .long, .long, .double, .double, .boolean]
  resolved := Array.replicate 460 none
  statics := none }

def pool5 : Array CpInfo := pool [(1, u "java/lang/Cloneable"), (0, .class_ 1), (0, u "java/lang/Object"), (0, .class_ 3)] 3

/-- java/lang/Cloneable -/
def k5 : Class := { plain "java/lang/Cloneable" (some 0) with
  accessFlags := 1537
  interfaces := #[]
  cf := some (fileOf pool5 2 #[] #[] 1537 4 #[] #[])
  fields := #[]
  methods := #[]
  instanceTypes := #[]
  staticTypes := #[]
  resolved := Array.replicate 8 none
  statics := none }

def pool6 : Array CpInfo := pool [(1, u "java/io/Serializable"), (0, .class_ 1), (0, u "java/lang/Object"), (0, .class_ 3)] 3

/-- java/io/Serializable -/
def k6 : Class := { plain "java/io/Serializable" (some 0) with
  accessFlags := 1537
  interfaces := #[]
  cf := some (fileOf pool6 2 #[] #[] 1537 4 #[] #[])
  fields := #[]
  methods := #[]
  instanceTypes := #[]
  staticTypes := #[]
  resolved := Array.replicate 8 none
  statics := none }

/-- the primitive byte -/
def k7 : Class := { plain "byte" none with kind := .primitive 'B', accessFlags := 0x411 }
/-- [B -/
def k8 : Class := { plain "[B" (some 0) with kind := .array 7 .byte, interfaces := #[5, 6], accessFlags := 1041 }

/-- the primitive int -/
def k9 : Class := { plain "int" none with kind := .primitive 'I', accessFlags := 0x411 }
/-- [I -/
def k10 : Class := { plain "[I" (some 0) with kind := .array 9 .int, interfaces := #[5, 6], accessFlags := 1041 }

def heap : Heap := #[]
def classes : Array Class := #[k0, k1, k2, k3, k4, k5, k6, k7, k8, k9, k10]
def interned : List (Array UInt16 × Addr) := []
def slotsUsed : Nat := 0
def theMethod : MethodId := ⟨1, 1⟩
def args0 : Array Value := #[.int 1, .int 2, .int 3]
def aboutOver (below : List Frame) : State where
  vm := { classes := classes, interned := interned.toArray }
  heap := heap
  slotsUsed := slotsUsed
  threads := #[{ frames := .invoking theMethod args0 :: below }]
def below0 : List Frame := [.native { method := ⟨0, 0⟩, args := #[] }]
def about1 : State := aboutOver below0
def p0 : Program := .bare "" "" ""
def e0 : Env := launch0.env 0 0 0
theorem w_frames : about1.frames = Frame.invoking theMethod args0 :: below0 := rfl
set_option maxRecDepth 65536 in
theorem w_args : argsFit about1.vm theMethod args0 = true := by decide +kernel
set_option maxRecDepth 65536 in
theorem w_heap : heapFits about1 = true := by decide +kernel
set_option maxRecDepth 65536 in
theorem w_runnable : about1.curStatus? = some .runnable := by decide +kernel
set_option maxRecDepth 65536 in
theorem w_alone : about1.alone = true := by decide +kernel
set_option maxRecDepth 65536 in
theorem w_named : about1.methodNamed? x = some theMethod := by decide +kernel
set_option maxRecDepth 65536 in
theorem w_hears : about1.hears theMethod below0 = true := by decide +kernel
set_option maxRecDepth 65536 in
theorem w_ripe : about1.ripe theMethod args0 below0 = true := by decide +kernel
theorem w_running : about1.status = .running := rfl
set_option maxRecDepth 65536 in
theorem w_room : about1.hasRoom e0.platform room_1 = true :=
  launch0.hasRoom_least _ room_1 (by decide +kernel) (by decide +kernel) (by decide +kernel) (by decide +kernel) (by decide +kernel) (by decide +kernel)
theorem allAtoms_all (ts : List Jvm.Cond) (a : Array Jvm.Value) (st : Jvm.State) : (allAtoms ts).before a st = ts.all (fun c => c.before a st) := by
  induction ts with
  | nil => rfl
  | cons c t ih =>
    show (Jvm.Cond.and c (allAtoms t)).before a st = _
    rw [Jvm.Cond.before_and, ih, List.all_cons]
def words1 : List Jvm.Cond := Jvm.Cond.code x code maxLocals ret :: tables_1
/-- a 'code' word, met by the world's own term for the bytes: nothing is compared byte by byte -/
theorem code_word {y : MethodName} {bytes : ByteArray} {mx : Nat} {rt : Option FieldType} {a : Array Value} {s : State} {m : MethodId} {meth : Method} {c : Code} (h1 : s.methodNamed? y = some m) (h2 : s.vm.method? m = some meth) (h3 : meth.code = some c) (h4 : c.code = bytes)
    (h5 : (c.maxLocals == mx && c.exceptionTable.isEmpty && decide (c.maxStack ≤ mostOperands) && decide (meth.sig.returnType = rt) && !meth.locks && decide (parseMethodDescriptor y.desc = some meth.sig)) = true) : (Jvm.Cond.code y bytes mx rt).before a s = true := by
  simp only [Bool.and_eq_true, beq_iff_eq, Bool.not_eq_true', decide_eq_true_eq] at h5
  obtain ⟨⟨⟨⟨⟨g1, g2⟩, g3⟩, g4⟩, g5⟩, g6⟩ := h5
  simp [Cond.before, Cond.holds, Cond.value, h1, h2, h3, h4, g1, g2, g3, g4, g5, g6]
def isCode : Jvm.Cond → Bool
  | .code _ _ _ _ => true
  | _ => false
theorem all_split {L : List Jvm.Cond} {P : Jvm.Cond → Bool} (h1 : L.all (fun c => isCode c || P c) = true) (h2 : ∀ c ∈ L.filter isCode, P c = true) : L.all P = true := by
  refine List.all_eq_true.mpr fun c hc => ?_
  have h := List.all_eq_true.mp h1 c hc
  rcases Bool.eq_false_or_eq_true (isCode c) with hi | hi
  · exact h2 c (List.mem_filter.mpr ⟨hc, hi⟩)
  · simpa [hi] using h
set_option maxRecDepth 65536 in
theorem w_c0 : (Jvm.Cond.code x code maxLocals ret).before args0 about1 = true := code_word (m := ⟨1, 1⟩) (meth := k1m1) (c := k1c1) (by decide +kernel) rfl rfl rfl (by decide +kernel)
set_option maxRecDepth 65536 in
theorem w_c1 : (Jvm.Cond.code ({ cls := "com/example/flipline/flipline/Square", name := "<init>", desc := "(II)V" } : Jvm.MethodName) prog_43_method_1_code (3 : Nat) (Option.none : Option Jvm.ClassFile.FieldType)).before args0 about1 = true := code_word (m := ⟨3, 0⟩) (meth := k3m0) (c := k3c0) (by decide +kernel) rfl rfl rfl (by decide +kernel)
set_option maxRecDepth 65536 in
theorem w_c2 : (Jvm.Cond.code ({ cls := "java/lang/Record", name := "<init>", desc := "()V" } : Jvm.MethodName) jdk_30_method_1_code (1 : Nat) (Option.none : Option Jvm.ClassFile.FieldType)).before args0 about1 = true := code_word (m := ⟨2, 0⟩) (meth := k2m0) (c := k2c0) (by decide +kernel) rfl rfl rfl (by decide +kernel)
set_option maxRecDepth 65536 in
theorem w_c3 : (Jvm.Cond.code ({ cls := "java/lang/Object", name := "<init>", desc := "()V" } : Jvm.MethodName) object_method_1_code (1 : Nat) (Option.none : Option Jvm.ClassFile.FieldType)).before args0 about1 = true := code_word (m := ⟨0, 0⟩) (meth := k0m0) (c := k0c0) (by decide +kernel) rfl rfl rfl (by decide +kernel)
set_option maxRecDepth 65536 in
theorem w_c4 : (Jvm.Cond.code ({ cls := "java/lang/Math", name := "min", desc := "(II)I" } : Jvm.MethodName) jdk_29_method_69_code (2 : Nat) (Option.some Jvm.ClassFile.FieldType.int)).before args0 about1 = true := code_word (m := ⟨4, 2⟩) (meth := k4m2) (c := k4c2) (by decide +kernel) rfl rfl rfl (by decide +kernel)
set_option maxRecDepth 65536 in
theorem w_c5 : (Jvm.Cond.code ({ cls := "java/lang/Math", name := "max", desc := "(II)I" } : Jvm.MethodName) jdk_29_method_65_code (2 : Nat) (Option.some Jvm.ClassFile.FieldType.int)).before args0 about1 = true := code_word (m := ⟨4, 1⟩) (meth := k4m1) (c := k4c1) (by decide +kernel) rfl rfl rfl (by decide +kernel)
set_option maxRecDepth 65536 in
theorem w_c6 : (Jvm.Cond.code ({ cls := "com/example/flipline/flipline/Square", name := "isOn", desc := "(I)Z" } : Jvm.MethodName) prog_43_method_3_code (2 : Nat) (Option.some Jvm.ClassFile.FieldType.boolean)).before args0 about1 = true := code_word (m := ⟨3, 1⟩) (meth := k3m1) (c := k3c1) (by decide +kernel) rfl rfl rfl (by decide +kernel)
def codes1 : List Jvm.Cond := [Jvm.Cond.code x code maxLocals ret, Jvm.Cond.code ({ cls := "com/example/flipline/flipline/Square", name := "<init>", desc := "(II)V" } : Jvm.MethodName) prog_43_method_1_code (3 : Nat) (Option.none : Option Jvm.ClassFile.FieldType), Jvm.Cond.code ({ cls := "java/lang/Record", name := "<init>", desc := "()V" } : Jvm.MethodName) jdk_30_method_1_code (1 : Nat) (Option.none : Option Jvm.ClassFile.FieldType), Jvm.Cond.code ({ cls := "java/lang/Object", name := "<init>", desc := "()V" } : Jvm.MethodName) object_method_1_code (1 : Nat) (Option.none : Option Jvm.ClassFile.FieldType), Jvm.Cond.code ({ cls := "java/lang/Math", name := "min", desc := "(II)I" } : Jvm.MethodName) jdk_29_method_69_code (2 : Nat) (Option.some Jvm.ClassFile.FieldType.int), Jvm.Cond.code ({ cls := "java/lang/Math", name := "max", desc := "(II)I" } : Jvm.MethodName) jdk_29_method_65_code (2 : Nat) (Option.some Jvm.ClassFile.FieldType.int), Jvm.Cond.code ({ cls := "com/example/flipline/flipline/Square", name := "isOn", desc := "(I)Z" } : Jvm.MethodName) prog_43_method_3_code (2 : Nat) (Option.some Jvm.ClassFile.FieldType.boolean)]
set_option maxRecDepth 65536 in
theorem codes_eq : words1.filter isCode = codes1 := rfl
theorem w_codes : ∀ c ∈ words1.filter isCode, c.before args0 about1 = true := by
  rw [codes_eq]
  intro c hc
  simp only [codes1, List.mem_cons, List.not_mem_nil, or_false] at hc
  rcases hc with rfl | rfl | rfl | rfl | rfl | rfl | rfl
  · exact w_c0
  · exact w_c1
  · exact w_c2
  · exact w_c3
  · exact w_c4
  · exact w_c5
  · exact w_c6
set_option maxRecDepth 65536 in
theorem w_t1 : (words1.take 24).all (fun c => isCode c || c.before args0 about1) = true := by decide +kernel
set_option maxRecDepth 65536 in
theorem w_t2 : (words1.drop 24).all (fun c => isCode c || c.before args0 about1) = true := by decide +kernel
theorem w_tables : (allAtoms (Jvm.Cond.code x code maxLocals ret :: tables_1)).before args0 about1 = true := by
  rw [allAtoms_all]
  show words1.all (fun c => c.before args0 about1) = true
  refine all_split ?_ w_codes
  rw [← List.take_append_drop 24 words1, List.all_append, w_t1, w_t2]
  rfl
set_option maxRecDepth 65536 in
theorem w_case : (Jvm.Cond.and given_1 narrow_1).before args0 about1 = true := by decide +kernel
theorem w_applies : (headSpec (Jvm.Cond.code x code maxLocals ret :: tables_1) room_1).applies x e0.platform about1 = true :=
  (Spec.applies_iff w_frames).mpr ⟨w_running, w_runnable, w_alone, w_named, w_hears, w_ripe, w_room, w_tables⟩
theorem atStart : AtStart classFile x code maxLocals ret World_1 tables_1 room_1 Calls_1 rest_1 Pre_1 launch0 p0 e0 about1 theMethod args0 below0 :=
  ⟨lists_1, trivial, launch0.admits_env _ _ _, launch0.least_env, fairChoices_fair.cas, fairChoices_fair.clock, w_frames, w_args, w_heap, w_applies, trivial, trivial, w_case⟩
end start1
theorem witness_1 : WitnessClaimed_1 := ⟨start1.p0, start1.e0, start1.about1, start1.theMethod, start1.args0, start1.below0, start1.atStart⟩
end Jvm.Pilot.@@N@@
