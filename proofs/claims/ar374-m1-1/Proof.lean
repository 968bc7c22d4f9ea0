import JvmDerived
import JvmDerived.Pilot.@@N@@Statement
import JvmDerived.Pilot.@@N@@Code
set_option linter.unusedVariables false
set_option linter.unusedSimpArgs false
namespace Jvm.RoadKit
open Sem ClassFile Op Lib Jvm.Stand Jvm.Free Jvm.LawKit
section New
variable {p : Program} {l : Launch} {e : Env} {R : Room} {s : State} {m : MethodId} {args : Array Value} {below : List Frame} {meth : Method} {c : Code} {T : State} {locs : List Loc} {cells slots : Nat}
theorem retI (X : Stand p l e R s m args below meth c T locs cells slots) (hx : p.tables.exec = Jvm.exec) {pc : Nat} {Ls : Array Slot} {z : Int32} {rest : List Value} (hret : meth.sig.returnType = some .int) (hd : decode c.code pc = .ok (.ireturn, 1)) {fs : List Frame}
    (hl : ∀ (f : JFrame) (acts : List Action), f.method = m → f.locked = none → f.entered = [] → (doReturn e (T.setTop f) acts (some (.int z))).1 = T.setFrames fs) : Steps p.tables e below (T.setTop (mkF m pc Ls (.int z :: rest))) (T.setFrames fs) := by
  have hm' : T.vm.method? m = some meth := X.method'
  have hn : narrow .int (.int z) = .int z := rfl
  show Steps p.tables e below (T.setTop { method := m, pc := pc, locals := Ls, stack := _ :: rest, locked := none }) _
  jvm_step X.here [X.here.top, hx, hd, hm', hret, hn]
  first | (intro acts; rw [hl _ acts rfl rfl rfl]) | rw [hl _ _ rfl rfl rfl]
  exact Steps.refl _
end New
end Jvm.RoadKit
namespace Jvm.Pilot.@@N@@
open Jvm Jvm.ClassFile Sem Op Lib Jvm.Free Jvm.Stand Jvm.LawKit Jvm.RoadKit Bundle Jvm.Pilot.@@N@@.Jvm.D
def own_max (a b : Int32) : Int32 := if a < b then b else a
def own_min (a b : Int32) : Int32 := if b < a then b else a
def own_arr (f : Nat → Nat) : List Value := (List.range 5).map fun i => .int (Int32.ofNat (f i))
def own_upd (f : Nat → Nat) (i x : Nat) : Nat → Nat := fun j => if j = i then x else f j
theorem own_len (f : Nat → Nat) : (own_arr f).length = 5 := by simp [own_arr]
theorem own_n32 {i : Nat} (h : i < 5) : (Int32.ofNat i).toNatClampNeg = i := by
  rw [Int32.toNatClampNeg, Int32.toInt_ofNat_of_lt (by omega)]; rfl
theorem own_toInt {i : Nat} (h : i < 5) : (Int32.ofNat i).toInt = i := Int32.toInt_ofNat_of_lt (by omega)
theorem own_inj {i j : Nat} (hi : i < 5) (hj : j < 5) : Int32.ofNat i = Int32.ofNat j ↔ i = j :=
  ⟨fun q => by have q' := congrArg Int32.toInt q; rw [own_toInt hi, own_toInt hj] at q'; omega, fun q => by rw [q]⟩
theorem own_lt {i j : Nat} (hi : i < 5) (hj : j < 5) : Int32.ofNat i < Int32.ofNat j ↔ i < j := by
  rw [Int32.lt_iff_toInt_lt, own_toInt hi, own_toInt hj]; omega
theorem own_mx {i j : Nat} (hi : i < 5) (hj : j < 5) : own_max (Int32.ofNat i) (Int32.ofNat j) = Int32.ofNat (max i j) := by
  unfold own_max
  split
  · rename_i q; rw [own_lt hi hj] at q; rw [Nat.max_eq_right (Nat.le_of_lt q)]
  · rename_i q; rw [own_lt hi hj] at q; rw [Nat.max_eq_left (by omega)]
theorem own_mn {i j : Nat} (hi : i < 5) (hj : j < 5) : own_min (Int32.ofNat i) (Int32.ofNat j) = Int32.ofNat (min i j) := by
  unfold own_min
  split
  · rename_i q; rw [own_lt hj hi] at q; rw [Nat.min_eq_right (Nat.le_of_lt q)]
  · rename_i q; rw [own_lt hj hi] at q; rw [Nat.min_eq_left (by omega)]
theorem own_set (f : Nat → Nat) (i x : Nat) : (own_arr f).set i (.int (Int32.ofNat x)) = own_arr (own_upd f i x) := by
  apply List.ext_getElem
  · simp [own_arr]
  · intro j h1 h2
    rw [List.getElem_set]
    simp only [own_arr, List.getElem_map, List.getElem_range, own_upd]
    by_cases q : i = j
    · rw [if_pos q, if_pos q.symm]
    · rw [if_neg q, if_neg (Ne.symm q)]
theorem own_rd {Z : State} {h : Heap} {a : Addr} {k : ClassId} {f : Nat → Nat} (F : Arv Z h a k .int (5 : Int32) (own_arr f) (.int (0 : Int32))) (i : Nat) (hi : i < 5) :
    ∃ cl : Cell, Arr Z h a cl .int ∧ ¬ (Int32.ofNat i < 0 ∨ cl.slots.size ≤ (Int32.ofNat i).toNatClampNeg) ∧ cl.slots[(Int32.ofNat i).toNatClampNeg]? = some (.int (Int32.ofNat (f i))) := by
  obtain ⟨cl, A, -, S, -, H, -⟩ := F
  have e5 : cl.slots.size = 5 := S
  refine ⟨cl, A, fun q => ?_, ?_⟩
  · rcases q with q | q
    · rw [Int32.lt_iff_toInt_lt, own_toInt hi] at q
      have : (0 : Int32).toInt = 0 := rfl
      omega
    · rw [own_n32 hi] at q; omega
  · rw [own_n32 hi, H i (by omega)]
    simp [own_arr, List.getD_eq_getElem?_getD, hi]
theorem own_st {Z : State} {h h' : Heap} {a : Addr} {k : ClassId} {f : Nat → Nat} (F : Arv Z h a k .int (5 : Int32) (own_arr f) (.int (0 : Int32))) (i : Nat) (hi : i < 5) (x : Nat)
    (W : Wr h h' a (Int32.ofNat i).toNatClampNeg (.int (Int32.ofNat x))) : Arv Z h' a k .int (5 : Int32) (own_arr (own_upd f i x)) (.int (0 : Int32)) := by
  obtain ⟨cl, A, q, S, M, H, G⟩ := F
  have := Arv.set A q S M H G rfl W i (own_n32 hi) (by rw [own_len]; exact hi)
  rw [own_set] at this
  exact this
theorem own_lenOf {Z : State} {h : Heap} {a : Addr} {k : ClassId} {f : Nat → Nat} (F : Arv Z h a k .int (5 : Int32) (own_arr f) (.int (0 : Int32))) :
    ∃ cl : Cell, Arr Z h a cl .int ∧ cl.slots.size = (5 : Int32).toNatClampNeg ∧ ¬ (5 : Int32) < 0 := by
  obtain ⟨cl, A, -, S, M, -⟩ := F
  exact ⟨cl, A, S, M⟩
theorem own_zero : List.replicate 5 (Value.int (0 : Int32)) = own_arr (fun _ => 0) := rfl
/-- the forest and the labels: each label is the least of its class -/
def own_Inv (p lab : Nat → Nat) : Prop := ∀ i, i < 5 → p i ≤ i ∧ lab (p i) = lab i ∧ (p i = i → lab i = i) ∧ lab i ≤ i ∧ lab (lab i) = lab i
theorem own_Inv0 : own_Inv (fun i => i) (fun i => i) := fun i _ => ⟨Nat.le_refl _, rfl, fun _ => rfl, Nat.le_refl _, rfl⟩
theorem own_Inv.press {p lab : Nat → Nat} (I : own_Inv p lab) {x : Nat} (hx : x < 5) : own_Inv (own_upd p x (lab x)) lab := fun i hi => by
  obtain ⟨a1, a2, a3, a4, a5⟩ := I i hi
  unfold own_upd
  by_cases q : i = x
  · subst q; rw [if_pos rfl]; exact ⟨a4, a5, fun r => r, a4, a5⟩
  · rw [if_neg q]; exact ⟨a1, a2, a3, a4, a5⟩
/-- the labels behind a join: hi's class is lo's -/
def own_rel (lab : Nat → Nat) (hi lo : Nat) : Nat → Nat := fun i => if lab i = hi then lo else lab i
theorem own_Inv.join {p lab : Nat → Nat} (I : own_Inv p lab) {a b : Nat} (ha : a < 5) (hb : b < 5) (hne : ¬ lab a = lab b) :
    own_Inv (own_upd p (max (lab a) (lab b)) (min (lab a) (lab b))) (own_rel lab (max (lab a) (lab b)) (min (lab a) (lab b))) := by
  obtain ⟨-, -, -, a4, a5⟩ := I a ha
  obtain ⟨-, -, -, b4, b5⟩ := I b hb
  have hmx : lab (max (lab a) (lab b)) = max (lab a) (lab b) := by
    rcases Nat.le_total (lab a) (lab b) with q | q
    · rw [Nat.max_eq_right q]; exact b5
    · rw [Nat.max_eq_left q]; exact a5
  have hmn : lab (min (lab a) (lab b)) = min (lab a) (lab b) := by
    rcases Nat.le_total (lab a) (lab b) with q | q
    · rw [Nat.min_eq_left q]; exact a5
    · rw [Nat.min_eq_right q]; exact b5
  have hlt : min (lab a) (lab b) < max (lab a) (lab b) := by omega
  generalize max (lab a) (lab b) = mx at *
  generalize min (lab a) (lab b) = mn at *
  intro i hi
  obtain ⟨c1, c2, c3, c4, c5⟩ := I i hi
  have hrel : ∀ j, own_rel lab mx mn j = if lab j = mx then mn else lab j := fun _ => rfl
  have e1 : own_rel lab mx mn mn = mn := by rw [hrel, hmn, if_neg (by omega)]
  have d4 : own_rel lab mx mn i ≤ i := by rw [hrel]; split <;> omega
  have d5 : own_rel lab mx mn (own_rel lab mx mn i) = own_rel lab mx mn i := by
    by_cases q : lab i = mx
    · have : own_rel lab mx mn i = mn := by rw [hrel, if_pos q]
      rw [this, e1]
    · have : own_rel lab mx mn i = lab i := by rw [hrel, if_neg q]
      rw [this, hrel, c5, if_neg q]
  refine ⟨?_, ?_, ?_, d4, d5⟩
  · unfold own_upd; split <;> omega
  · unfold own_upd
    split
    · rename_i q; rw [e1, hrel, q, hmx, if_pos rfl]
    · rw [hrel, hrel, c2]
  · unfold own_upd
    split
    · rename_i q; intro r; omega
    · rename_i q; intro r; rw [hrel, c3 r, if_neg q]
theorem own_eqf {f g : Nat → Nat} (h : ∀ i, i < 5 → f i = g i) : own_arr f = own_arr g := by
  apply List.map_congr_left
  intro i hi
  rw [h i (List.mem_range.mp hi)]
theorem own_rem (z : Int32) : ∃ i : Nat, i < 5 ∧ ((z &&& (255 : Int32)) - ((z &&& (255 : Int32)) / (5 : Int32)) * (5 : Int32)) = Int32.ofNat i := by
  obtain ⟨n, hn, e⟩ : ∃ n : Nat, n ≤ 255 ∧ (z &&& (255 : Int32)) = Int32.ofNat n := by
    refine ⟨(z &&& 255).toBitVec.toNat, ?_, ?_⟩
    · simp only [Int32.toBitVec_and, BitVec.toNat_and]
      exact Nat.and_le_right
    · apply Int32.toBitVec_inj.mp
      show _ = BitVec.ofNat 32 _
      rw [BitVec.ofNat_toNat]; simp
  rw [e]
  have all : ∀ k : Fin 256, (Int32.ofNat k.val) - ((Int32.ofNat k.val) / (5 : Int32)) * (5 : Int32) = Int32.ofNat (k.val % 5) := by decide +kernel
  exact ⟨n % 5, Nat.mod_lt _ (by decide), all ⟨n, by omega⟩⟩
theorem d3_0 : decode prog_152_method_2_code 0 = .ok (.aload_n 0, 1) := by decide +kernel
theorem d3_1 : decode prog_152_method_2_code 1 = .ok (.getfield 7, 3) := by decide +kernel
theorem d3_4 : decode prog_152_method_2_code 4 = .ok (.arraylength, 1) := by decide +kernel
theorem d3_5 : decode prog_152_method_2_code 5 = .ok (.iload_n 1, 1) := by decide +kernel
theorem d3_6 : decode prog_152_method_2_code 6 = .ok (.if_icmp .ge 20, 3) := by decide +kernel
theorem d3_26 : decode prog_152_method_2_code 26 = .ok (.iconst 0, 1) := by decide +kernel
theorem d3_27 : decode prog_152_method_2_code 27 = .ok (.istore_n 2, 1) := by decide +kernel
theorem d3_28 : decode prog_152_method_2_code 28 = .ok (.iload_n 2, 1) := by decide +kernel
theorem d3_29 : decode prog_152_method_2_code 29 = .ok (.iload_n 1, 1) := by decide +kernel
theorem d3_30 : decode prog_152_method_2_code 30 = .ok (.if_icmp .ge 16, 3) := by decide +kernel
theorem d3_33 : decode prog_152_method_2_code 33 = .ok (.aload_n 0, 1) := by decide +kernel
theorem d3_34 : decode prog_152_method_2_code 34 = .ok (.getfield 7, 3) := by decide +kernel
theorem d3_37 : decode prog_152_method_2_code 37 = .ok (.iload_n 2, 1) := by decide +kernel
theorem d3_38 : decode prog_152_method_2_code 38 = .ok (.iload_n 2, 1) := by decide +kernel
theorem d3_39 : decode prog_152_method_2_code 39 = .ok (.iastore, 1) := by decide +kernel
theorem d3_40 : decode prog_152_method_2_code 40 = .ok (.iinc 2 1, 3) := by decide +kernel
theorem d3_43 : decode prog_152_method_2_code 43 = .ok (.goto (-15), 3) := by decide +kernel
theorem d3_46 : decode prog_152_method_2_code 46 = .ok (.return_, 1) := by decide +kernel
theorem own_pn3 : plainName "isoproof/model/Partition" = true := by first | (simp [plainName, overriddenIn]; done) | decide +kernel
def Q_rm3 (Z : State) (a : Addr) (pa : Addr) (k_pa : ClassId) (f : Nat → Nat) (h0 : Heap) (n0 : Nat) (v : Option Value) (h : Heap) (L : List Loc) : Prop := v = none ∧ Fr n0 L ∧ Keep h0 h [pa] ∧ Arv Z h pa k_pa .int (5 : Int32) (own_arr (fun i => i)) (.int (0 : Int32))
theorem ef_rm3 (m : MethodId) (x0 : Addr) (x1 : Int32) : entryFrame m #[(.ref x0), (.int x1)] 3 = mkF m 0 #[.val (.ref x0), .val (.int x1), .unset] [] := by first | (simp [entryFrame, mkF, argsToLocals, Value.category]; done) | rfl
set_option maxRecDepth 65536 in
set_option maxHeartbeats 40000000 in
theorem rm3 (l : Launch) (Z : State) (a0 : Array Value) (hw : ∀ d ∈ tables_1, d.before a0 Z = true) (ws : List Jvm.Cond) (a : Addr) (pa : Addr) (k_pa : ClassId) (f : Nat → Nat) (h0 : Heap) (n0 : Nat) (Z0 : n0 ≤ h0.size) (F_a_parent : Fld Z h0 a "isoproof/model/Partition" "parent" "[I" (.ref pa)) (V_pa : Arv Z h0 pa k_pa .int (5 : Int32) (own_arr f) (.int (0 : Int32))) (g_pa : n0 ≤ pa) (ne_a_pa : a ≠ pa) :
    MetFree l (⟨"isoproof/model/Partition", "reset", "(I)V"⟩ : MethodName) (head1 (Jvm.Cond.code (⟨"isoproof/model/Partition", "reset", "(I)V"⟩ : MethodName) prog_152_method_2_code 3 none :: ws) ({ frames := 0, cells := 0, slots := 0, locals := 0 } : Room)) (fun a' U => a' = #[(.ref a), (.int (5 : Int32))] ∧ Z.Warmed39 U.vm ∧ U.heap = h0) (fun _ _ _ _ _ => True) (fun _ U o U' => ∃ v L, o = .returned v ∧ Q_rm3 Z a pa k_pa f h0 n0 v U'.heap L ∧ FrameEnd U o U' L ({ frames := 0, cells := 0, slots := 0, locals := 0 } : Room).cells ({ frames := 0, cells := 0, slots := 0, locals := 0 } : Room).slots) := by
  refine MetFree.of_bodySF (plainFor_of_name own_pn3) hisR ?_
  intro p e s m args below meth cd0 s₁ Bd hml0 hP hK
  obtain ⟨rfl, hZ, hh⟩ := hP
  have hx := Bd.exec
  have hby := Bd.bytes
  have hml : cd0.maxLocals = 3 := hml0
  have hown : s.vm.findClass "isoproof/model/Partition" = some m.cls := findClass_of_methodNamed Bd.named
  have hnm := (name_of_methodNamed Bd.named Bd.method).1
  have X : Stand p l e ({ frames := 0, cells := 0, slots := 0, locals := 0 } : Room) s m #[(.ref a), (.int (5 : Int32))] below meth cd0 s₁ [] 0 0 := Stand.of_body Bd
  have eh : s₁.heap = h0 := by rw [← hh, Bd.state]; rfl
  have N := Fr.nil n0
  have K : Keep h0 h0 [pa] := Keep.refl _ _
  have pre0 : ∀ t, Steps p.tables e below (s₁.setTop (mkF m 0 #[.val (.ref a), .val (.int (5 : Int32)), .unset] [])) t → Steps p.tables e below (s₁.setTop (entryFrame m #[(.ref a), (.int (5 : Int32))] 3)) t := fun t k => castTop (ef_rm3 m a (5 : Int32)) k
  have st : ∀ t, Steps p.tables e below (s₁.setTop (mkF m 0 #[.val (.ref a), .val (.int (5 : Int32)), .unset] [])) t → Steps p.tables e below (s₁.setTop (mkF m 0 #[.val (.ref a), .val (.int (5 : Int32)), .unset] [])) t := fun t k => k
  have st : ∀ t, Steps p.tables e below (s₁.setTop (mkF m 1 #[.val (.ref a), .val (.int (5 : Int32)), .unset] [(.ref a)])) t → Steps p.tables e below (s₁.setTop (mkF m 0 #[.val (.ref a), .val (.int (5 : Int32)), .unset] [])) t := fun t k => st t (by
      show Steps p.tables e below (s₁.setTop (mkF m 0 #[.val (.ref a), .val (.int (5 : Int32)), .unset] [])) _
      refine XS.aloadN X.here hx rfl (hb hby d3_0) rfl rfl ?_
      exact k)
  obtain ⟨T1, X, eh, sx⟩ := getF X hx hZ hown (host := "") (Or.inl (hw _ (List.mem_of_getElem? (i := 10) rfl))) Via.refl eh F_a_parent (g := (mkF m 1 #[.val (.ref a), .val (.int (5 : Int32)), .unset] [(.ref a)])) rfl rfl (hb hby d3_1)
  have st : ∀ t, Steps p.tables e below (T1.setTop (mkF m 4 #[.val (.ref a), .val (.int (5 : Int32)), .unset] [(.ref pa)])) t → Steps p.tables e below (s₁.setTop (mkF m 0 #[.val (.ref a), .val (.int (5 : Int32)), .unset] [])) t := fun t k => st t (sx t k)
  obtain ⟨cl2, Ar2, Sz2, Mz2⟩ := own_lenOf V_pa
  have st : ∀ t, Steps p.tables e below (T1.setTop (mkF m 34 #[.val (.ref a), .val (.int (5 : Int32)), .val (.int (0 : Int32))] [(.ref a)])) t → Steps p.tables e below (s₁.setTop (mkF m 0 #[.val (.ref a), .val (.int (5 : Int32)), .unset] [])) t := fun t k => st t (by
      show Steps p.tables e below (T1.setTop (mkF m 4 #[.val (.ref a), .val (.int (5 : Int32)), .unset] [(.ref pa)])) _
      refine X.arraylength hx (cell := cl2) (by rw [eh]; exact Ar2.1) (State.isArrayOf_alike hZ.alike Ar2.2.1) (g := (mkF m 4 #[.val (.ref a), .val (.int (5 : Int32)), .unset] [(.ref pa)])) rfl (rest := []) rfl (hb hby d3_4) _ ?_
      rw [len_of Sz2 Mz2]
      show Steps p.tables e below (T1.setTop (mkF m 5 #[.val (.ref a), .val (.int (5 : Int32)), .unset] [(.int (5 : Int32))])) _
      refine XS.iloadN X.here hx rfl (hb hby d3_5) rfl ?_
      show Steps p.tables e below (T1.setTop (mkF m 6 #[.val (.ref a), .val (.int (5 : Int32)), .unset] [(.int (5 : Int32)), (.int (5 : Int32))])) _
      refine XS.icmpYes X.here hx rfl (pc0 := 6) (pc' := 26) rfl (hb hby d3_6) rfl (flt (by decide)).2.1 (by decide) (by decide) ?_
      show Steps p.tables e below (T1.setTop (mkF m 26 #[.val (.ref a), .val (.int (5 : Int32)), .unset] [])) _
      refine XS.iconst X.here hx rfl (hb hby d3_26) ?_
      show Steps p.tables e below (T1.setTop (mkF m 27 #[.val (.ref a), .val (.int (5 : Int32)), .unset] [(.int (0 : Int32))])) _
      refine XS.istoreN X.here hx rfl (hb hby d3_27) rfl (l' := #[.val (.ref a), .val (.int (5 : Int32)), .val (.int (0 : Int32))]) rfl ?_
      show Steps p.tables e below (T1.setTop (mkF m 28 #[.val (.ref a), .val (.int (5 : Int32)), .val (.int (0 : Int32))] [])) _
      refine XS.iloadN X.here hx rfl (hb hby d3_28) rfl ?_
      show Steps p.tables e below (T1.setTop (mkF m 29 #[.val (.ref a), .val (.int (5 : Int32)), .val (.int (0 : Int32))] [(.int (0 : Int32))])) _
      refine XS.iloadN X.here hx rfl (hb hby d3_29) rfl ?_
      show Steps p.tables e below (T1.setTop (mkF m 30 #[.val (.ref a), .val (.int (5 : Int32)), .val (.int (0 : Int32))] [(.int (5 : Int32)), (.int (0 : Int32))])) _
      refine XS.icmpNo X.here hx rfl (hb hby d3_30) rfl (tlt (by decide)).2.1 ?_
      show Steps p.tables e below (T1.setTop (mkF m 33 #[.val (.ref a), .val (.int (5 : Int32)), .val (.int (0 : Int32))] [])) _
      refine XS.aloadN X.here hx rfl (hb hby d3_33) rfl rfl ?_
      exact k)
  obtain ⟨T3, X, eh, sx⟩ := getF X hx hZ hown (host := "") (Or.inl (hw _ (List.mem_of_getElem? (i := 10) rfl))) Via.refl eh F_a_parent (g := (mkF m 34 #[.val (.ref a), .val (.int (5 : Int32)), .val (.int (0 : Int32))] [(.ref a)])) rfl rfl (hb hby d3_34)
  have st : ∀ t, Steps p.tables e below (T3.setTop (mkF m 37 #[.val (.ref a), .val (.int (5 : Int32)), .val (.int (0 : Int32))] [(.ref pa)])) t → Steps p.tables e below (s₁.setTop (mkF m 0 #[.val (.ref a), .val (.int (5 : Int32)), .unset] [])) t := fun t k => st t (sx t k)
  have st : ∀ t, Steps p.tables e below (T3.setTop (mkF m 39 #[.val (.ref a), .val (.int (5 : Int32)), .val (.int (0 : Int32))] [(.int (0 : Int32)), (.int (0 : Int32)), (.ref pa)])) t → Steps p.tables e below (s₁.setTop (mkF m 0 #[.val (.ref a), .val (.int (5 : Int32)), .unset] [])) t := fun t k => st t (by
      show Steps p.tables e below (T3.setTop (mkF m 37 #[.val (.ref a), .val (.int (5 : Int32)), .val (.int (0 : Int32))] [(.ref pa)])) _
      refine XS.iloadN X.here hx rfl (hb hby d3_37) rfl ?_
      show Steps p.tables e below (T3.setTop (mkF m 38 #[.val (.ref a), .val (.int (5 : Int32)), .val (.int (0 : Int32))] [(.int (0 : Int32)), (.ref pa)])) _
      refine XS.iloadN X.here hx rfl (hb hby d3_38) rfl ?_
      exact k)
  obtain ⟨cl4, Ar4, hin4, hat4⟩ := own_rd V_pa 0 (by decide)
  obtain ⟨T5, h6, X, eh, W4, sx⟩ := stI X hx hZ eh Ar4 (j := Int32.ofNat 0) hin4 (g := (mkF m 39 #[.val (.ref a), .val (.int (5 : Int32)), .val (.int (0 : Int32))] [(.int (0 : Int32)), (.int (0 : Int32)), (.ref pa)])) rfl rfl (hb hby d3_39)
  have st : ∀ t, Steps p.tables e below (T5.setTop (mkF m 40 #[.val (.ref a), .val (.int (5 : Int32)), .val (.int (0 : Int32))] [])) t → Steps p.tables e below (s₁.setTop (mkF m 0 #[.val (.ref a), .val (.int (5 : Int32)), .unset] [])) t := fun t k => st t (sx t k)
  have F_a_parent := F_a_parent.other W4 (Or.inl ne_a_pa)
  have K := K.wr W4 (Or.inl (List.mem_of_getElem? (i := 0) rfl))
  have Z0 := Nat.le_trans Z0 (Keep.of_wr W4).1
  have V_pa := own_st V_pa 0 (by decide) 0 W4
  have N := Fr.snoc X N g_pa
  have st : ∀ t, Steps p.tables e below (T5.setTop (mkF m 34 #[.val (.ref a), .val (.int (5 : Int32)), .val (.int (1 : Int32))] [(.ref a)])) t → Steps p.tables e below (s₁.setTop (mkF m 0 #[.val (.ref a), .val (.int (5 : Int32)), .unset] [])) t := fun t k => st t (by
      show Steps p.tables e below (T5.setTop (mkF m 40 #[.val (.ref a), .val (.int (5 : Int32)), .val (.int (0 : Int32))] [])) _
      refine XS.iinc X.here hx rfl (hb hby d3_40) rfl (l' := #[.val (.ref a), .val (.int (5 : Int32)), .val (.int (1 : Int32))]) rfl ?_
      show Steps p.tables e below (T5.setTop (mkF m 43 #[.val (.ref a), .val (.int (5 : Int32)), .val (.int (1 : Int32))] [])) _
      refine XS.goto X.here hx rfl (pc0 := 43) (pc' := 28) rfl (hb hby d3_43) (by decide) (by decide) ?_
      show Steps p.tables e below (T5.setTop (mkF m 28 #[.val (.ref a), .val (.int (5 : Int32)), .val (.int (1 : Int32))] [])) _
      refine XS.iloadN X.here hx rfl (hb hby d3_28) rfl ?_
      show Steps p.tables e below (T5.setTop (mkF m 29 #[.val (.ref a), .val (.int (5 : Int32)), .val (.int (1 : Int32))] [(.int (1 : Int32))])) _
      refine XS.iloadN X.here hx rfl (hb hby d3_29) rfl ?_
      show Steps p.tables e below (T5.setTop (mkF m 30 #[.val (.ref a), .val (.int (5 : Int32)), .val (.int (1 : Int32))] [(.int (5 : Int32)), (.int (1 : Int32))])) _
      refine XS.icmpNo X.here hx rfl (hb hby d3_30) rfl (tlt (by decide)).2.1 ?_
      show Steps p.tables e below (T5.setTop (mkF m 33 #[.val (.ref a), .val (.int (5 : Int32)), .val (.int (1 : Int32))] [])) _
      refine XS.aloadN X.here hx rfl (hb hby d3_33) rfl rfl ?_
      exact k)
  obtain ⟨T7, X, eh, sx⟩ := getF X hx hZ hown (host := "") (Or.inl (hw _ (List.mem_of_getElem? (i := 10) rfl))) Via.refl eh F_a_parent (g := (mkF m 34 #[.val (.ref a), .val (.int (5 : Int32)), .val (.int (1 : Int32))] [(.ref a)])) rfl rfl (hb hby d3_34)
  have st : ∀ t, Steps p.tables e below (T7.setTop (mkF m 37 #[.val (.ref a), .val (.int (5 : Int32)), .val (.int (1 : Int32))] [(.ref pa)])) t → Steps p.tables e below (s₁.setTop (mkF m 0 #[.val (.ref a), .val (.int (5 : Int32)), .unset] [])) t := fun t k => st t (sx t k)
  have st : ∀ t, Steps p.tables e below (T7.setTop (mkF m 39 #[.val (.ref a), .val (.int (5 : Int32)), .val (.int (1 : Int32))] [(.int (1 : Int32)), (.int (1 : Int32)), (.ref pa)])) t → Steps p.tables e below (s₁.setTop (mkF m 0 #[.val (.ref a), .val (.int (5 : Int32)), .unset] [])) t := fun t k => st t (by
      show Steps p.tables e below (T7.setTop (mkF m 37 #[.val (.ref a), .val (.int (5 : Int32)), .val (.int (1 : Int32))] [(.ref pa)])) _
      refine XS.iloadN X.here hx rfl (hb hby d3_37) rfl ?_
      show Steps p.tables e below (T7.setTop (mkF m 38 #[.val (.ref a), .val (.int (5 : Int32)), .val (.int (1 : Int32))] [(.int (1 : Int32)), (.ref pa)])) _
      refine XS.iloadN X.here hx rfl (hb hby d3_38) rfl ?_
      exact k)
  obtain ⟨cl8, Ar8, hin8, hat8⟩ := own_rd V_pa 1 (by decide)
  obtain ⟨T9, h10, X, eh, W8, sx⟩ := stI X hx hZ eh Ar8 (j := Int32.ofNat 1) hin8 (g := (mkF m 39 #[.val (.ref a), .val (.int (5 : Int32)), .val (.int (1 : Int32))] [(.int (1 : Int32)), (.int (1 : Int32)), (.ref pa)])) rfl rfl (hb hby d3_39)
  have st : ∀ t, Steps p.tables e below (T9.setTop (mkF m 40 #[.val (.ref a), .val (.int (5 : Int32)), .val (.int (1 : Int32))] [])) t → Steps p.tables e below (s₁.setTop (mkF m 0 #[.val (.ref a), .val (.int (5 : Int32)), .unset] [])) t := fun t k => st t (sx t k)
  have F_a_parent := F_a_parent.other W8 (Or.inl ne_a_pa)
  have K := K.wr W8 (Or.inl (List.mem_of_getElem? (i := 0) rfl))
  have Z0 := Nat.le_trans Z0 (Keep.of_wr W8).1
  have V_pa := own_st V_pa 1 (by decide) 1 W8
  have N := Fr.snoc X N g_pa
  have st : ∀ t, Steps p.tables e below (T9.setTop (mkF m 34 #[.val (.ref a), .val (.int (5 : Int32)), .val (.int (2 : Int32))] [(.ref a)])) t → Steps p.tables e below (s₁.setTop (mkF m 0 #[.val (.ref a), .val (.int (5 : Int32)), .unset] [])) t := fun t k => st t (by
      show Steps p.tables e below (T9.setTop (mkF m 40 #[.val (.ref a), .val (.int (5 : Int32)), .val (.int (1 : Int32))] [])) _
      refine XS.iinc X.here hx rfl (hb hby d3_40) rfl (l' := #[.val (.ref a), .val (.int (5 : Int32)), .val (.int (2 : Int32))]) rfl ?_
      show Steps p.tables e below (T9.setTop (mkF m 43 #[.val (.ref a), .val (.int (5 : Int32)), .val (.int (2 : Int32))] [])) _
      refine XS.goto X.here hx rfl (pc0 := 43) (pc' := 28) rfl (hb hby d3_43) (by decide) (by decide) ?_
      show Steps p.tables e below (T9.setTop (mkF m 28 #[.val (.ref a), .val (.int (5 : Int32)), .val (.int (2 : Int32))] [])) _
      refine XS.iloadN X.here hx rfl (hb hby d3_28) rfl ?_
      show Steps p.tables e below (T9.setTop (mkF m 29 #[.val (.ref a), .val (.int (5 : Int32)), .val (.int (2 : Int32))] [(.int (2 : Int32))])) _
      refine XS.iloadN X.here hx rfl (hb hby d3_29) rfl ?_
      show Steps p.tables e below (T9.setTop (mkF m 30 #[.val (.ref a), .val (.int (5 : Int32)), .val (.int (2 : Int32))] [(.int (5 : Int32)), (.int (2 : Int32))])) _
      refine XS.icmpNo X.here hx rfl (hb hby d3_30) rfl (tlt (by decide)).2.1 ?_
      show Steps p.tables e below (T9.setTop (mkF m 33 #[.val (.ref a), .val (.int (5 : Int32)), .val (.int (2 : Int32))] [])) _
      refine XS.aloadN X.here hx rfl (hb hby d3_33) rfl rfl ?_
      exact k)
  obtain ⟨T11, X, eh, sx⟩ := getF X hx hZ hown (host := "") (Or.inl (hw _ (List.mem_of_getElem? (i := 10) rfl))) Via.refl eh F_a_parent (g := (mkF m 34 #[.val (.ref a), .val (.int (5 : Int32)), .val (.int (2 : Int32))] [(.ref a)])) rfl rfl (hb hby d3_34)
  have st : ∀ t, Steps p.tables e below (T11.setTop (mkF m 37 #[.val (.ref a), .val (.int (5 : Int32)), .val (.int (2 : Int32))] [(.ref pa)])) t → Steps p.tables e below (s₁.setTop (mkF m 0 #[.val (.ref a), .val (.int (5 : Int32)), .unset] [])) t := fun t k => st t (sx t k)
  have st : ∀ t, Steps p.tables e below (T11.setTop (mkF m 39 #[.val (.ref a), .val (.int (5 : Int32)), .val (.int (2 : Int32))] [(.int (2 : Int32)), (.int (2 : Int32)), (.ref pa)])) t → Steps p.tables e below (s₁.setTop (mkF m 0 #[.val (.ref a), .val (.int (5 : Int32)), .unset] [])) t := fun t k => st t (by
      show Steps p.tables e below (T11.setTop (mkF m 37 #[.val (.ref a), .val (.int (5 : Int32)), .val (.int (2 : Int32))] [(.ref pa)])) _
      refine XS.iloadN X.here hx rfl (hb hby d3_37) rfl ?_
      show Steps p.tables e below (T11.setTop (mkF m 38 #[.val (.ref a), .val (.int (5 : Int32)), .val (.int (2 : Int32))] [(.int (2 : Int32)), (.ref pa)])) _
      refine XS.iloadN X.here hx rfl (hb hby d3_38) rfl ?_
      exact k)
  obtain ⟨cl12, Ar12, hin12, hat12⟩ := own_rd V_pa 2 (by decide)
  obtain ⟨T13, h14, X, eh, W12, sx⟩ := stI X hx hZ eh Ar12 (j := Int32.ofNat 2) hin12 (g := (mkF m 39 #[.val (.ref a), .val (.int (5 : Int32)), .val (.int (2 : Int32))] [(.int (2 : Int32)), (.int (2 : Int32)), (.ref pa)])) rfl rfl (hb hby d3_39)
  have st : ∀ t, Steps p.tables e below (T13.setTop (mkF m 40 #[.val (.ref a), .val (.int (5 : Int32)), .val (.int (2 : Int32))] [])) t → Steps p.tables e below (s₁.setTop (mkF m 0 #[.val (.ref a), .val (.int (5 : Int32)), .unset] [])) t := fun t k => st t (sx t k)
  have F_a_parent := F_a_parent.other W12 (Or.inl ne_a_pa)
  have K := K.wr W12 (Or.inl (List.mem_of_getElem? (i := 0) rfl))
  have Z0 := Nat.le_trans Z0 (Keep.of_wr W12).1
  have V_pa := own_st V_pa 2 (by decide) 2 W12
  have N := Fr.snoc X N g_pa
  have st : ∀ t, Steps p.tables e below (T13.setTop (mkF m 34 #[.val (.ref a), .val (.int (5 : Int32)), .val (.int (3 : Int32))] [(.ref a)])) t → Steps p.tables e below (s₁.setTop (mkF m 0 #[.val (.ref a), .val (.int (5 : Int32)), .unset] [])) t := fun t k => st t (by
      show Steps p.tables e below (T13.setTop (mkF m 40 #[.val (.ref a), .val (.int (5 : Int32)), .val (.int (2 : Int32))] [])) _
      refine XS.iinc X.here hx rfl (hb hby d3_40) rfl (l' := #[.val (.ref a), .val (.int (5 : Int32)), .val (.int (3 : Int32))]) rfl ?_
      show Steps p.tables e below (T13.setTop (mkF m 43 #[.val (.ref a), .val (.int (5 : Int32)), .val (.int (3 : Int32))] [])) _
      refine XS.goto X.here hx rfl (pc0 := 43) (pc' := 28) rfl (hb hby d3_43) (by decide) (by decide) ?_
      show Steps p.tables e below (T13.setTop (mkF m 28 #[.val (.ref a), .val (.int (5 : Int32)), .val (.int (3 : Int32))] [])) _
      refine XS.iloadN X.here hx rfl (hb hby d3_28) rfl ?_
      show Steps p.tables e below (T13.setTop (mkF m 29 #[.val (.ref a), .val (.int (5 : Int32)), .val (.int (3 : Int32))] [(.int (3 : Int32))])) _
      refine XS.iloadN X.here hx rfl (hb hby d3_29) rfl ?_
      show Steps p.tables e below (T13.setTop (mkF m 30 #[.val (.ref a), .val (.int (5 : Int32)), .val (.int (3 : Int32))] [(.int (5 : Int32)), (.int (3 : Int32))])) _
      refine XS.icmpNo X.here hx rfl (hb hby d3_30) rfl (tlt (by decide)).2.1 ?_
      show Steps p.tables e below (T13.setTop (mkF m 33 #[.val (.ref a), .val (.int (5 : Int32)), .val (.int (3 : Int32))] [])) _
      refine XS.aloadN X.here hx rfl (hb hby d3_33) rfl rfl ?_
      exact k)
  obtain ⟨T15, X, eh, sx⟩ := getF X hx hZ hown (host := "") (Or.inl (hw _ (List.mem_of_getElem? (i := 10) rfl))) Via.refl eh F_a_parent (g := (mkF m 34 #[.val (.ref a), .val (.int (5 : Int32)), .val (.int (3 : Int32))] [(.ref a)])) rfl rfl (hb hby d3_34)
  have st : ∀ t, Steps p.tables e below (T15.setTop (mkF m 37 #[.val (.ref a), .val (.int (5 : Int32)), .val (.int (3 : Int32))] [(.ref pa)])) t → Steps p.tables e below (s₁.setTop (mkF m 0 #[.val (.ref a), .val (.int (5 : Int32)), .unset] [])) t := fun t k => st t (sx t k)
  have st : ∀ t, Steps p.tables e below (T15.setTop (mkF m 39 #[.val (.ref a), .val (.int (5 : Int32)), .val (.int (3 : Int32))] [(.int (3 : Int32)), (.int (3 : Int32)), (.ref pa)])) t → Steps p.tables e below (s₁.setTop (mkF m 0 #[.val (.ref a), .val (.int (5 : Int32)), .unset] [])) t := fun t k => st t (by
      show Steps p.tables e below (T15.setTop (mkF m 37 #[.val (.ref a), .val (.int (5 : Int32)), .val (.int (3 : Int32))] [(.ref pa)])) _
      refine XS.iloadN X.here hx rfl (hb hby d3_37) rfl ?_
      show Steps p.tables e below (T15.setTop (mkF m 38 #[.val (.ref a), .val (.int (5 : Int32)), .val (.int (3 : Int32))] [(.int (3 : Int32)), (.ref pa)])) _
      refine XS.iloadN X.here hx rfl (hb hby d3_38) rfl ?_
      exact k)
  obtain ⟨cl16, Ar16, hin16, hat16⟩ := own_rd V_pa 3 (by decide)
  obtain ⟨T17, h18, X, eh, W16, sx⟩ := stI X hx hZ eh Ar16 (j := Int32.ofNat 3) hin16 (g := (mkF m 39 #[.val (.ref a), .val (.int (5 : Int32)), .val (.int (3 : Int32))] [(.int (3 : Int32)), (.int (3 : Int32)), (.ref pa)])) rfl rfl (hb hby d3_39)
  have st : ∀ t, Steps p.tables e below (T17.setTop (mkF m 40 #[.val (.ref a), .val (.int (5 : Int32)), .val (.int (3 : Int32))] [])) t → Steps p.tables e below (s₁.setTop (mkF m 0 #[.val (.ref a), .val (.int (5 : Int32)), .unset] [])) t := fun t k => st t (sx t k)
  have F_a_parent := F_a_parent.other W16 (Or.inl ne_a_pa)
  have K := K.wr W16 (Or.inl (List.mem_of_getElem? (i := 0) rfl))
  have Z0 := Nat.le_trans Z0 (Keep.of_wr W16).1
  have V_pa := own_st V_pa 3 (by decide) 3 W16
  have N := Fr.snoc X N g_pa
  have st : ∀ t, Steps p.tables e below (T17.setTop (mkF m 34 #[.val (.ref a), .val (.int (5 : Int32)), .val (.int (4 : Int32))] [(.ref a)])) t → Steps p.tables e below (s₁.setTop (mkF m 0 #[.val (.ref a), .val (.int (5 : Int32)), .unset] [])) t := fun t k => st t (by
      show Steps p.tables e below (T17.setTop (mkF m 40 #[.val (.ref a), .val (.int (5 : Int32)), .val (.int (3 : Int32))] [])) _
      refine XS.iinc X.here hx rfl (hb hby d3_40) rfl (l' := #[.val (.ref a), .val (.int (5 : Int32)), .val (.int (4 : Int32))]) rfl ?_
      show Steps p.tables e below (T17.setTop (mkF m 43 #[.val (.ref a), .val (.int (5 : Int32)), .val (.int (4 : Int32))] [])) _
      refine XS.goto X.here hx rfl (pc0 := 43) (pc' := 28) rfl (hb hby d3_43) (by decide) (by decide) ?_
      show Steps p.tables e below (T17.setTop (mkF m 28 #[.val (.ref a), .val (.int (5 : Int32)), .val (.int (4 : Int32))] [])) _
      refine XS.iloadN X.here hx rfl (hb hby d3_28) rfl ?_
      show Steps p.tables e below (T17.setTop (mkF m 29 #[.val (.ref a), .val (.int (5 : Int32)), .val (.int (4 : Int32))] [(.int (4 : Int32))])) _
      refine XS.iloadN X.here hx rfl (hb hby d3_29) rfl ?_
      show Steps p.tables e below (T17.setTop (mkF m 30 #[.val (.ref a), .val (.int (5 : Int32)), .val (.int (4 : Int32))] [(.int (5 : Int32)), (.int (4 : Int32))])) _
      refine XS.icmpNo X.here hx rfl (hb hby d3_30) rfl (tlt (by decide)).2.1 ?_
      show Steps p.tables e below (T17.setTop (mkF m 33 #[.val (.ref a), .val (.int (5 : Int32)), .val (.int (4 : Int32))] [])) _
      refine XS.aloadN X.here hx rfl (hb hby d3_33) rfl rfl ?_
      exact k)
  obtain ⟨T19, X, eh, sx⟩ := getF X hx hZ hown (host := "") (Or.inl (hw _ (List.mem_of_getElem? (i := 10) rfl))) Via.refl eh F_a_parent (g := (mkF m 34 #[.val (.ref a), .val (.int (5 : Int32)), .val (.int (4 : Int32))] [(.ref a)])) rfl rfl (hb hby d3_34)
  have st : ∀ t, Steps p.tables e below (T19.setTop (mkF m 37 #[.val (.ref a), .val (.int (5 : Int32)), .val (.int (4 : Int32))] [(.ref pa)])) t → Steps p.tables e below (s₁.setTop (mkF m 0 #[.val (.ref a), .val (.int (5 : Int32)), .unset] [])) t := fun t k => st t (sx t k)
  have st : ∀ t, Steps p.tables e below (T19.setTop (mkF m 39 #[.val (.ref a), .val (.int (5 : Int32)), .val (.int (4 : Int32))] [(.int (4 : Int32)), (.int (4 : Int32)), (.ref pa)])) t → Steps p.tables e below (s₁.setTop (mkF m 0 #[.val (.ref a), .val (.int (5 : Int32)), .unset] [])) t := fun t k => st t (by
      show Steps p.tables e below (T19.setTop (mkF m 37 #[.val (.ref a), .val (.int (5 : Int32)), .val (.int (4 : Int32))] [(.ref pa)])) _
      refine XS.iloadN X.here hx rfl (hb hby d3_37) rfl ?_
      show Steps p.tables e below (T19.setTop (mkF m 38 #[.val (.ref a), .val (.int (5 : Int32)), .val (.int (4 : Int32))] [(.int (4 : Int32)), (.ref pa)])) _
      refine XS.iloadN X.here hx rfl (hb hby d3_38) rfl ?_
      exact k)
  obtain ⟨cl20, Ar20, hin20, hat20⟩ := own_rd V_pa 4 (by decide)
  obtain ⟨T21, h22, X, eh, W20, sx⟩ := stI X hx hZ eh Ar20 (j := Int32.ofNat 4) hin20 (g := (mkF m 39 #[.val (.ref a), .val (.int (5 : Int32)), .val (.int (4 : Int32))] [(.int (4 : Int32)), (.int (4 : Int32)), (.ref pa)])) rfl rfl (hb hby d3_39)
  have st : ∀ t, Steps p.tables e below (T21.setTop (mkF m 40 #[.val (.ref a), .val (.int (5 : Int32)), .val (.int (4 : Int32))] [])) t → Steps p.tables e below (s₁.setTop (mkF m 0 #[.val (.ref a), .val (.int (5 : Int32)), .unset] [])) t := fun t k => st t (sx t k)
  have F_a_parent := F_a_parent.other W20 (Or.inl ne_a_pa)
  have K := K.wr W20 (Or.inl (List.mem_of_getElem? (i := 0) rfl))
  have Z0 := Nat.le_trans Z0 (Keep.of_wr W20).1
  have V_pa := own_st V_pa 4 (by decide) 4 W20
  have N := Fr.snoc X N g_pa
  have st : ∀ t, Steps p.tables e below (T21.setTop (mkF m 46 #[.val (.ref a), .val (.int (5 : Int32)), .val (.int (5 : Int32))] [])) t → Steps p.tables e below (s₁.setTop (mkF m 0 #[.val (.ref a), .val (.int (5 : Int32)), .unset] [])) t := fun t k => st t (by
      show Steps p.tables e below (T21.setTop (mkF m 40 #[.val (.ref a), .val (.int (5 : Int32)), .val (.int (4 : Int32))] [])) _
      refine XS.iinc X.here hx rfl (hb hby d3_40) rfl (l' := #[.val (.ref a), .val (.int (5 : Int32)), .val (.int (5 : Int32))]) rfl ?_
      show Steps p.tables e below (T21.setTop (mkF m 43 #[.val (.ref a), .val (.int (5 : Int32)), .val (.int (5 : Int32))] [])) _
      refine XS.goto X.here hx rfl (pc0 := 43) (pc' := 28) rfl (hb hby d3_43) (by decide) (by decide) ?_
      show Steps p.tables e below (T21.setTop (mkF m 28 #[.val (.ref a), .val (.int (5 : Int32)), .val (.int (5 : Int32))] [])) _
      refine XS.iloadN X.here hx rfl (hb hby d3_28) rfl ?_
      show Steps p.tables e below (T21.setTop (mkF m 29 #[.val (.ref a), .val (.int (5 : Int32)), .val (.int (5 : Int32))] [(.int (5 : Int32))])) _
      refine XS.iloadN X.here hx rfl (hb hby d3_29) rfl ?_
      show Steps p.tables e below (T21.setTop (mkF m 30 #[.val (.ref a), .val (.int (5 : Int32)), .val (.int (5 : Int32))] [(.int (5 : Int32)), (.int (5 : Int32))])) _
      refine XS.icmpYes X.here hx rfl (pc0 := 30) (pc' := 46) rfl (hb hby d3_30) rfl (flt (by decide)).2.1 (by decide) (by decide) ?_
      exact k)
  obtain ⟨fs_, hr, hrun, hended, hW, hsame⟩ := X.leave (v := none) (fun _ => rfl)
  refine ⟨_, _, pre0 _ (st _ ?_), hrun, hended, _, _, rfl, ?_, ⟨_, rfl⟩, hW, hsame.mono (by decide) (by decide)⟩
  · exact X.returnOut hx Bd.returns (hb hby d3_46) hr
  · show Q_rm3 Z a pa k_pa f h0 n0 _ T21.heap _
    rw [eh]
    exact ⟨rfl, N, K, V_pa⟩
theorem d1_0 : decode prog_152_method_1_code 0 = .ok (.aload_n 0, 1) := by decide +kernel
theorem d1_1 : decode prog_152_method_1_code 1 = .ok (.invokespecial 1, 3) := by decide +kernel
theorem d1_4 : decode prog_152_method_1_code 4 = .ok (.aload_n 0, 1) := by decide +kernel
theorem d1_5 : decode prog_152_method_1_code 5 = .ok (.iload_n 1, 1) := by decide +kernel
theorem d1_6 : decode prog_152_method_1_code 6 = .ok (.newarray .int, 2) := by decide +kernel
theorem d1_8 : decode prog_152_method_1_code 8 = .ok (.putfield 7, 3) := by decide +kernel
theorem d1_11 : decode prog_152_method_1_code 11 = .ok (.aload_n 0, 1) := by decide +kernel
theorem d1_12 : decode prog_152_method_1_code 12 = .ok (.iload_n 1, 1) := by decide +kernel
theorem d1_13 : decode prog_152_method_1_code 13 = .ok (.invokevirtual 13, 3) := by decide +kernel
theorem d1_16 : decode prog_152_method_1_code 16 = .ok (.return_, 1) := by decide +kernel
def Q_rm1 (Z : State) (a : Addr)  (h0 : Heap) (n0 : Nat) (v : Option Value) (h : Heap) (L : List Loc) : Prop := v = none ∧ Fr n0 L ∧ Keep h0 h [a] ∧ ∃ (pa : Addr) (k_pa : ClassId), h0.size ≤ pa ∧ n0 ≤ pa ∧ Fld Z h a "isoproof/model/Partition" "parent" "[I" (.ref pa) ∧ Arv Z h pa k_pa .int (5 : Int32) (own_arr (fun i => i)) (.int (0 : Int32))
theorem own_pd0 : parseMethodDescriptor "(I)V" = some ⟨[.int], none⟩ := by decide +kernel
theorem ef_rm1 (m : MethodId) (x0 : Addr) (x1 : Int32) : entryFrame m #[(.ref x0), (.int x1)] 2 = mkF m 0 #[.val (.ref x0), .val (.int x1)] [] := by first | (simp [entryFrame, mkF, argsToLocals, Value.category]; done) | rfl
set_option maxRecDepth 65536 in
set_option maxHeartbeats 40000000 in
theorem rm1 (l : Launch) (Z : State) (a0 : Array Value) (hw : ∀ d ∈ tables_1, d.before a0 Z = true) (ws : List Jvm.Cond) (a : Addr)  (h0 : Heap) (n0 : Nat) (Z0 : n0 ≤ h0.size) (E_a : Exa Z h0 a "isoproof/model/Partition") (g_a : n0 ≤ a) (F_a_parent : Fld Z h0 a "isoproof/model/Partition" "parent" "[I" .null) :
    MetFree l (⟨"isoproof/model/Partition", "<init>", "(I)V"⟩ : MethodName) (head1 (Jvm.Cond.code (⟨"isoproof/model/Partition", "<init>", "(I)V"⟩ : MethodName) prog_152_method_1_code 2 none :: ws) ({ frames := 1, cells := 1, slots := 5, locals := 14 } : Room)) (fun a' U => a' = #[(.ref a), (.int (5 : Int32))] ∧ Z.Warmed39 U.vm ∧ U.heap = h0) (fun _ _ _ _ _ => True) (fun _ U o U' => ∃ v L, o = .returned v ∧ Q_rm1 Z a h0 n0 v U'.heap L ∧ FrameEnd U o U' L ({ frames := 1, cells := 1, slots := 5, locals := 14 } : Room).cells ({ frames := 1, cells := 1, slots := 5, locals := 14 } : Room).slots) := by
  refine MetFree.of_bodySF (plainFor_of_name own_pn3) hisR ?_
  intro p e s m args below meth cd0 s₁ Bd hml0 hP hK
  obtain ⟨rfl, hZ, hh⟩ := hP
  have hx := Bd.exec
  have hby := Bd.bytes
  have hml : cd0.maxLocals = 2 := hml0
  have hown : s.vm.findClass "isoproof/model/Partition" = some m.cls := findClass_of_methodNamed Bd.named
  have hnm := (name_of_methodNamed Bd.named Bd.method).1
  have X : Stand p l e ({ frames := 1, cells := 1, slots := 5, locals := 14 } : Room) s m #[(.ref a), (.int (5 : Int32))] below meth cd0 s₁ [] 0 0 := Stand.of_body Bd
  have eh : s₁.heap = h0 := by rw [← hh, Bd.state]; rfl
  have N := Fr.nil n0
  have K : Keep h0 h0 [a] := Keep.refl _ _
  have pre0 : ∀ t, Steps p.tables e below (s₁.setTop (mkF m 0 #[.val (.ref a), .val (.int (5 : Int32))] [])) t → Steps p.tables e below (s₁.setTop (entryFrame m #[(.ref a), (.int (5 : Int32))] 2)) t := fun t k => castTop (ef_rm1 m a (5 : Int32)) k
  have st : ∀ t, Steps p.tables e below (s₁.setTop (mkF m 0 #[.val (.ref a), .val (.int (5 : Int32))] [])) t → Steps p.tables e below (s₁.setTop (mkF m 0 #[.val (.ref a), .val (.int (5 : Int32))] [])) t := fun t k => k
  have st : ∀ t, Steps p.tables e below (s₁.setTop (mkF m 1 #[.val (.ref a), .val (.int (5 : Int32))] [(.ref a)])) t → Steps p.tables e below (s₁.setTop (mkF m 0 #[.val (.ref a), .val (.int (5 : Int32))] [])) t := fun t k => st t (by
      show Steps p.tables e below (s₁.setTop (mkF m 0 #[.val (.ref a), .val (.int (5 : Int32))] [])) _
      refine XS.aloadN X.here hx rfl (hb hby d1_0) rfl rfl ?_
      exact k)
  obtain ⟨T1, X, eh, sx⟩ := initO X hx hZ hown (hw _ (List.mem_of_getElem? (i := 7) rfl)) (hw _ (List.mem_of_getElem? (i := 8) rfl)) (hw _ (List.mem_of_getElem? (i := 9) rfl)) eh (g := (mkF m 1 #[.val (.ref a), .val (.int (5 : Int32))] [(.ref a)])) rfl (by rw [hml]; rfl) rfl (hb hby d1_1) (by decide) (W := 0) (by show 2 * 0 + _ ≤ _; exact Nat.le_of_eq rfl) (by decide)
  have st : ∀ t, Steps p.tables e below (T1.setTop (mkF m 4 #[.val (.ref a), .val (.int (5 : Int32))] [])) t → Steps p.tables e below (s₁.setTop (mkF m 0 #[.val (.ref a), .val (.int (5 : Int32))] [])) t := fun t k => st t (sx t k)
  have st : ∀ t, Steps p.tables e below (T1.setTop (mkF m 6 #[.val (.ref a), .val (.int (5 : Int32))] [(.int (5 : Int32)), (.ref a)])) t → Steps p.tables e below (s₁.setTop (mkF m 0 #[.val (.ref a), .val (.int (5 : Int32))] [])) t := fun t k => st t (by
      show Steps p.tables e below (T1.setTop (mkF m 4 #[.val (.ref a), .val (.int (5 : Int32))] [])) _
      refine XS.aloadN X.here hx rfl (hb hby d1_4) rfl rfl ?_
      show Steps p.tables e below (T1.setTop (mkF m 5 #[.val (.ref a), .val (.int (5 : Int32))] [(.ref a)])) _
      refine XS.iloadN X.here hx rfl (hb hby d1_5) rfl ?_
      exact k)
  obtain ⟨T2, h3, k_pa, X, eh, E4, A4, sx⟩ := newP X hx hZ (hw _ (List.mem_of_getElem? (i := 0) rfl)) eh (g := (mkF m 6 #[.val (.ref a), .val (.int (5 : Int32))] [(.int (5 : Int32)), (.ref a)])) rfl (hb hby d1_6) rfl (by decide) (cap := 5) (by decide) (by decide) (by decide) (by decide)
  obtain ⟨pa, g4⟩ : ∃ z, z = h0.size := ⟨_, rfl⟩
  have ne_a_pa : a ≠ pa := fun q => absurd E_a.lt (by rw [q, g4]; exact Nat.lt_irrefl _)
  have g_pa : n0 ≤ pa := Nat.le_trans Z0 (Nat.le_of_eq g4.symm)
  have sz_pa : h0.size ≤ pa := Nat.le_trans K.1 (Nat.le_of_eq g4.symm)
  rw [← g4] at A4 sx
  have st : ∀ t, Steps p.tables e below (T2.setTop (mkF m 8 #[.val (.ref a), .val (.int (5 : Int32))] [(.ref pa), (.ref a)])) t → Steps p.tables e below (s₁.setTop (mkF m 0 #[.val (.ref a), .val (.int (5 : Int32))] [])) t := fun t k => st t (sx t k)
  have F_a_parent := F_a_parent.ext E4
  have E_a := E_a.ext E4
  have K := K.ext E4
  have Z0 := Nat.le_trans Z0 E4.1
  have V_pa : Arv Z h3 pa k_pa .int (5 : Int32) (List.replicate 5 (.int (0 : Int32))) (.int (0 : Int32)) := (Arv.new A4 (by decide)).pad (pad_rep [] (.int (0 : Int32)) 5)
  obtain ⟨T5, h6, X, eh, W7, sx⟩ := putF X hx hZ hown (host := "") (Or.inl (hw _ (List.mem_of_getElem? (i := 10) rfl))) Via.refl eh F_a_parent E_a (Or.inl (hw _ (List.mem_of_getElem? (i := 11) rfl))) (hw _ (List.mem_of_getElem? (i := 2) rfl)) (ty := (.array .int)) (by decide) rfl rfl (g := (mkF m 8 #[.val (.ref a), .val (.int (5 : Int32))] [(.ref pa), (.ref a)])) rfl rfl (hb hby d1_8)
  have st : ∀ t, Steps p.tables e below (T5.setTop (mkF m 11 #[.val (.ref a), .val (.int (5 : Int32))] [])) t → Steps p.tables e below (s₁.setTop (mkF m 0 #[.val (.ref a), .val (.int (5 : Int32))] [])) t := fun t k => st t (sx t k)
  have F_a_parent := F_a_parent.same W7
  have E_a := E_a.wr W7
  have V_pa := V_pa.other W7 (Ne.symm ne_a_pa)
  have K := K.wr W7 (Or.inl (List.mem_of_getElem? (i := 0) rfl))
  have Z0 := Nat.le_trans Z0 (Keep.of_wr W7).1
  have N := Fr.snoc X N g_a
  have st : ∀ t, Steps p.tables e below (T5.setTop (mkF m 13 #[.val (.ref a), .val (.int (5 : Int32))] [(.int (5 : Int32)), (.ref a)])) t → Steps p.tables e below (s₁.setTop (mkF m 0 #[.val (.ref a), .val (.int (5 : Int32))] [])) t := fun t k => st t (by
      show Steps p.tables e below (T5.setTop (mkF m 11 #[.val (.ref a), .val (.int (5 : Int32))] [])) _
      refine XS.aloadN X.here hx rfl (hb hby d1_11) rfl rfl ?_
      show Steps p.tables e below (T5.setTop (mkF m 12 #[.val (.ref a), .val (.int (5 : Int32))] [(.ref a)])) _
      refine XS.iloadN X.here hx rfl (hb hby d1_12) rfl ?_
      exact k)
  obtain ⟨cq8, kq8, qa8, qb8, qc8⟩ := isOf hZ eh E_a
  obtain ⟨_, _, ⟨T9, L8, k8, n8⟩, -, X, ⟨Lc8, hQ, l8, y8, z8⟩, sx⟩ := X.virtualBack hx (y := (⟨"isoproof/model/Partition", "reset", "(I)V"⟩ : MethodName)) (z := (⟨"isoproof/model/Partition", "reset", "(I)V"⟩ : MethodName)) hown (mvT hZ (hw _ (List.mem_of_getElem? (i := 12) rfl))) (mvT hZ (hw _ (List.mem_of_getElem? (i := 13) rfl))) (notFace_of_selects (args := #[]) (mvT hZ (hw _ (List.mem_of_getElem? (i := 15) rfl)))) (mvT hZ (hw _ (List.mem_of_getElem? (i := 15) rfl))) (mvT hZ (hw _ (List.mem_of_getElem? (i := 14) rfl))) (by decide) (backOf (W := 0) (rm3 l Z a0 hw [] a pa k_pa (fun _ => 0) h6 n0 Z0 F_a_parent V_pa g_pa ne_a_pa) hZ (hw _ (List.mem_of_getElem? (i := 16) rfl)) (hw _ (List.mem_of_getElem? (i := 3) rfl)) (by decide) (by decide)) qa8 qc8 (g := (mkF m 13 #[.val (.ref a), .val (.int (5 : Int32))] [(.int (5 : Int32)), (.ref a)])) rfl (by rw [hml]; rfl) (Steps.refl _) (argsL := [(.int (5 : Int32))]) (rest := []) (lenOf own_pd0 rfl) rfl (by show 2 * 0 + _ ≤ _; exact Nat.le_of_eq rfl) (hb hby d1_13) (fun _ _ => ⟨rfl, eh, (by decide : 1 + 0 ≤ _), (by decide : 5 + 0 ≤ _)⟩)
  dsimp only [Pt.U, Pt.locs, Pt.cells, Pt.slots] at X l8 y8 z8 sx hQ
  subst l8 y8 z8
  obtain ⟨rfl, Nc, K1, V_pa⟩ := hQ
  have st : ∀ t, Steps p.tables e below (T9.setTop (mkF m 16 #[.val (.ref a), .val (.int (5 : Int32))] [])) t → Steps p.tables e below (s₁.setTop (mkF m 0 #[.val (.ref a), .val (.int (5 : Int32))] [])) t := fun t k => st t (sx.trans k)
  have N := Fr.app N Nc
  obtain ⟨h10, eH⟩ : ∃ z, z = T9.heap := ⟨_, rfl⟩
  rw [← eH] at K1 V_pa
  have eh : T9.heap = h10 := eH.symm
  have F_a_parent := F_a_parent.keep K1 (ninS ne_a_pa nin0)
  have E_a := E_a.keep K1
  have K := K.trans K1 (allS (Or.inr sz_pa) all0)
  have Z0 := Nat.le_trans Z0 K1.1
  obtain ⟨fs_, hr, hrun, hended, hW, hsame⟩ := X.leave (v := none) (fun _ => rfl)
  refine ⟨_, _, pre0 _ (st _ ?_), hrun, hended, _, _, rfl, ?_, ⟨_, rfl⟩, hW, hsame.mono (by decide) (by decide)⟩
  · exact X.returnOut hx Bd.returns (hb hby d1_16) hr
  · show Q_rm1 Z a h0 n0 _ T9.heap _
    rw [eh]
    exact ⟨rfl, N, K, pa, k_pa, sz_pa, g_pa, F_a_parent, V_pa⟩
theorem d6_0 : decode prog_152_method_3_code 0 = .ok (.iload_n 1, 1) := by decide +kernel
theorem d6_1 : decode prog_152_method_3_code 1 = .ok (.istore_n 2, 1) := by decide +kernel
theorem d6_2 : decode prog_152_method_3_code 2 = .ok (.aload_n 0, 1) := by decide +kernel
theorem d6_3 : decode prog_152_method_3_code 3 = .ok (.getfield 7, 3) := by decide +kernel
theorem d6_6 : decode prog_152_method_3_code 6 = .ok (.iload_n 2, 1) := by decide +kernel
theorem d6_7 : decode prog_152_method_3_code 7 = .ok (.iaload, 1) := by decide +kernel
theorem d6_8 : decode prog_152_method_3_code 8 = .ok (.iload_n 2, 1) := by decide +kernel
theorem d6_9 : decode prog_152_method_3_code 9 = .ok (.if_icmp .eq 13, 3) := by decide +kernel
theorem d6_12 : decode prog_152_method_3_code 12 = .ok (.aload_n 0, 1) := by decide +kernel
theorem d6_13 : decode prog_152_method_3_code 13 = .ok (.getfield 7, 3) := by decide +kernel
theorem d6_16 : decode prog_152_method_3_code 16 = .ok (.iload_n 2, 1) := by decide +kernel
theorem d6_17 : decode prog_152_method_3_code 17 = .ok (.iaload, 1) := by decide +kernel
theorem d6_18 : decode prog_152_method_3_code 18 = .ok (.istore_n 2, 1) := by decide +kernel
theorem d6_19 : decode prog_152_method_3_code 19 = .ok (.goto (-17), 3) := by decide +kernel
theorem d6_22 : decode prog_152_method_3_code 22 = .ok (.aload_n 0, 1) := by decide +kernel
theorem d6_23 : decode prog_152_method_3_code 23 = .ok (.getfield 7, 3) := by decide +kernel
theorem d6_26 : decode prog_152_method_3_code 26 = .ok (.iload_n 1, 1) := by decide +kernel
theorem d6_27 : decode prog_152_method_3_code 27 = .ok (.iaload, 1) := by decide +kernel
theorem d6_28 : decode prog_152_method_3_code 28 = .ok (.iload_n 2, 1) := by decide +kernel
theorem d6_29 : decode prog_152_method_3_code 29 = .ok (.if_icmp .eq 22, 3) := by decide +kernel
theorem d6_32 : decode prog_152_method_3_code 32 = .ok (.aload_n 0, 1) := by decide +kernel
theorem d6_33 : decode prog_152_method_3_code 33 = .ok (.getfield 7, 3) := by decide +kernel
theorem d6_36 : decode prog_152_method_3_code 36 = .ok (.iload_n 1, 1) := by decide +kernel
theorem d6_37 : decode prog_152_method_3_code 37 = .ok (.iaload, 1) := by decide +kernel
theorem d6_38 : decode prog_152_method_3_code 38 = .ok (.istore_n 3, 1) := by decide +kernel
theorem d6_39 : decode prog_152_method_3_code 39 = .ok (.aload_n 0, 1) := by decide +kernel
theorem d6_40 : decode prog_152_method_3_code 40 = .ok (.getfield 7, 3) := by decide +kernel
theorem d6_43 : decode prog_152_method_3_code 43 = .ok (.iload_n 1, 1) := by decide +kernel
theorem d6_44 : decode prog_152_method_3_code 44 = .ok (.iload_n 2, 1) := by decide +kernel
theorem d6_45 : decode prog_152_method_3_code 45 = .ok (.iastore, 1) := by decide +kernel
theorem d6_46 : decode prog_152_method_3_code 46 = .ok (.iload_n 3, 1) := by decide +kernel
theorem d6_47 : decode prog_152_method_3_code 47 = .ok (.istore_n 1, 1) := by decide +kernel
theorem d6_48 : decode prog_152_method_3_code 48 = .ok (.goto (-26), 3) := by decide +kernel
theorem d6_51 : decode prog_152_method_3_code 51 = .ok (.iload_n 2, 1) := by decide +kernel
theorem d6_52 : decode prog_152_method_3_code 52 = .ok (.ireturn, 1) := by decide +kernel
def Q_rm6 (Z : State) (a : Addr) (pa : Addr) (k_pa : ClassId) (pr lab : Nat → Nat) (xn : Nat) (h0 : Heap) (n0 : Nat) (v : Option Value) (h : Heap) (L : List Loc) : Prop := v = some (.int (Int32.ofNat (lab xn))) ∧ Fr n0 L ∧ Keep h0 h [pa] ∧ ∃ pr' : Nat → Nat, own_Inv pr' lab ∧ Arv Z h pa k_pa .int (5 : Int32) (own_arr pr') (.int (0 : Int32))
theorem own_os {v0 v1 v2 : Value} {s3 : Slot} {z : Int32} (hs : s3 = .unset ∨ ∃ y : Int32, s3 = .val (.int y)) (c0 : v0.category = 1) (c1 : v1.category = 1) (c2 : v2.category = 1) : storeLocals #[.val v0, .val v1, .val v2, s3] 3 (.int z) = some #[.val v0, .val v1, .val v2, .val (.int z)] :=
  XS.store1 (o := s3) rfl (hs.elim Or.inl fun ⟨y, q⟩ => Or.inr ⟨_, q, rfl⟩) rfl
theorem ef_rm6 (m : MethodId) (x0 : Addr) (x1 : Int32) : entryFrame m #[(.ref x0), (.int x1)] 4 = mkF m 0 #[.val (.ref x0), .val (.int x1), .unset, .unset] [] := by first | (simp [entryFrame, mkF, argsToLocals, Value.category]; done) | rfl
set_option maxRecDepth 65536 in
set_option maxHeartbeats 40000000 in
theorem rm6 (l : Launch) (Z : State) (a0 : Array Value) (hw : ∀ d ∈ tables_1, d.before a0 Z = true) (ws : List Jvm.Cond) (a : Addr) (pa : Addr) (k_pa : ClassId) (pr lab : Nat → Nat) (xn : Nat) (h0 : Heap) (n0 : Nat) (Z0 : n0 ≤ h0.size) (F_a_parent : Fld Z h0 a "isoproof/model/Partition" "parent" "[I" (.ref pa)) (V_pa : Arv Z h0 pa k_pa .int (5 : Int32) (own_arr pr) (.int (0 : Int32))) (g_pa : n0 ≤ pa) (ne_a_pa : a ≠ pa) (I : own_Inv pr lab) (hxn : xn < 5) :
    MetFree l (⟨"isoproof/model/Partition", "find", "(I)I"⟩ : MethodName) (head1 (Jvm.Cond.code (⟨"isoproof/model/Partition", "find", "(I)I"⟩ : MethodName) prog_152_method_3_code 4 (some .int) :: ws) ({ frames := 0, cells := 0, slots := 0, locals := 0 } : Room)) (fun a' U => a' = #[(.ref a), (.int (Int32.ofNat xn))] ∧ Z.Warmed39 U.vm ∧ U.heap = h0) (fun _ _ _ _ _ => True) (fun _ U o U' => ∃ v L, o = .returned v ∧ Q_rm6 Z a pa k_pa pr lab xn h0 n0 v U'.heap L ∧ FrameEnd U o U' L ({ frames := 0, cells := 0, slots := 0, locals := 0 } : Room).cells ({ frames := 0, cells := 0, slots := 0, locals := 0 } : Room).slots) := by
  refine MetFree.of_bodySF (plainFor_of_name own_pn3) hisR ?_
  intro p e s m args below meth cd0 s₁ Bd hml0 hP hK
  obtain ⟨rfl, hZ, hh⟩ := hP
  have hx := Bd.exec
  have hby := Bd.bytes
  have hml : cd0.maxLocals = 4 := hml0
  have hown : s.vm.findClass "isoproof/model/Partition" = some m.cls := findClass_of_methodNamed Bd.named
  have hnm := (name_of_methodNamed Bd.named Bd.method).1
  have X : Stand p l e ({ frames := 0, cells := 0, slots := 0, locals := 0 } : Room) s m #[(.ref a), (.int (Int32.ofNat xn))] below meth cd0 s₁ [] 0 0 := Stand.of_body Bd
  have eh : s₁.heap = h0 := by rw [← hh, Bd.state]; rfl
  have N := Fr.nil n0
  have K : Keep h0 h0 [pa] := Keep.refl _ _
  have pre0 : ∀ t, Steps p.tables e below (s₁.setTop (mkF m 0 #[.val (.ref a), .val (.int (Int32.ofNat xn)), .unset, .unset] [])) t → Steps p.tables e below (s₁.setTop (entryFrame m #[(.ref a), (.int (Int32.ofNat xn))] 4)) t := fun t k => castTop (ef_rm6 m a (Int32.ofNat xn)) k
  have st : ∀ t, Steps p.tables e below (s₁.setTop (mkF m 0 #[.val (.ref a), .val (.int (Int32.ofNat xn)), .unset, .unset] [])) t → Steps p.tables e below (s₁.setTop (mkF m 0 #[.val (.ref a), .val (.int (Int32.ofNat xn)), .unset, .unset] [])) t := fun t k => k
  have st : ∀ t, Steps p.tables e below (s₁.setTop (mkF m 2 #[.val (.ref a), .val (.int (Int32.ofNat xn)), .val (.int (Int32.ofNat xn)), .unset] [])) t → Steps p.tables e below (s₁.setTop (mkF m 0 #[.val (.ref a), .val (.int (Int32.ofNat xn)), .unset, .unset] [])) t := fun t k => st t (by
      show Steps p.tables e below (s₁.setTop (mkF m 0 #[.val (.ref a), .val (.int (Int32.ofNat xn)), .unset, .unset] [])) _
      refine XS.iloadN X.here hx rfl (hb hby d6_0) rfl ?_
      show Steps p.tables e below (s₁.setTop (mkF m 1 #[.val (.ref a), .val (.int (Int32.ofNat xn)), .unset, .unset] [(.int (Int32.ofNat xn))])) _
      refine XS.istoreN X.here hx rfl (hb hby d6_1) rfl (l' := #[.val (.ref a), .val (.int (Int32.ofNat xn)), .val (.int (Int32.ofNat xn)), .unset]) rfl ?_
      exact k)
  obtain ⟨lo1, X, N⟩ : ∃ loX, Stand p l e ({ frames := 0, cells := 0, slots := 0, locals := 0 } : Room) s m #[(.ref a), (.int (Int32.ofNat xn))] below meth cd0 s₁ loX 0 0 ∧ Fr n0 loX := ⟨_, X, N⟩
  have loop1 : ∀ (r : Nat) (T : State), r < 5 → lab r = lab xn → Stand p l e ({ frames := 0, cells := 0, slots := 0, locals := 0 } : Room) s m #[(.ref a), (.int (Int32.ofNat xn))] below meth cd0 T lo1 0 0 → T.heap = h0 → ∃ T' : State, Stand p l e ({ frames := 0, cells := 0, slots := 0, locals := 0 } : Room) s m #[(.ref a), (.int (Int32.ofNat xn))] below meth cd0 T' lo1 0 0 ∧ T'.heap = h0 ∧ ∀ t, Steps p.tables e below (T'.setTop (mkF m 22 #[.val (.ref a), .val (.int (Int32.ofNat xn)), .val (.int (Int32.ofNat (lab xn))), .unset] [])) t → Steps p.tables e below (T.setTop (mkF m 2 #[.val (.ref a), .val (.int (Int32.ofNat xn)), .val (.int (Int32.ofNat r)), .unset] [])) t := by
    intro r
    induction r using Nat.strongRecOn with
    | ind r ih =>
      intro T hr hl X eh
      have hI := I r hr
      have st : ∀ t, Steps p.tables e below (T.setTop (mkF m 2 #[.val (.ref a), .val (.int (Int32.ofNat xn)), .val (.int (Int32.ofNat r)), .unset] [])) t → Steps p.tables e below (T.setTop (mkF m 2 #[.val (.ref a), .val (.int (Int32.ofNat xn)), .val (.int (Int32.ofNat r)), .unset] [])) t := fun t k => k
      have st : ∀ t, Steps p.tables e below (T.setTop (mkF m 3 #[.val (.ref a), .val (.int (Int32.ofNat xn)), .val (.int (Int32.ofNat r)), .unset] [(.ref a)])) t → Steps p.tables e below (T.setTop (mkF m 2 #[.val (.ref a), .val (.int (Int32.ofNat xn)), .val (.int (Int32.ofNat r)), .unset] [])) t := fun t k => st t (by
          show Steps p.tables e below (T.setTop (mkF m 2 #[.val (.ref a), .val (.int (Int32.ofNat xn)), .val (.int (Int32.ofNat r)), .unset] [])) _
          refine XS.aloadN X.here hx rfl (hb hby d6_2) rfl rfl ?_
          exact k)
      obtain ⟨T2, X, eh, sx⟩ := getF X hx hZ hown (host := "") (Or.inl (hw _ (List.mem_of_getElem? (i := 10) rfl))) Via.refl eh F_a_parent (g := (mkF m 3 #[.val (.ref a), .val (.int (Int32.ofNat xn)), .val (.int (Int32.ofNat r)), .unset] [(.ref a)])) rfl rfl (hb hby d6_3)
      have st : ∀ t, Steps p.tables e below (T2.setTop (mkF m 6 #[.val (.ref a), .val (.int (Int32.ofNat xn)), .val (.int (Int32.ofNat r)), .unset] [(.ref pa)])) t → Steps p.tables e below (T.setTop (mkF m 2 #[.val (.ref a), .val (.int (Int32.ofNat xn)), .val (.int (Int32.ofNat r)), .unset] [])) t := fun t k => st t (sx t k)
      have st : ∀ t, Steps p.tables e below (T2.setTop (mkF m 7 #[.val (.ref a), .val (.int (Int32.ofNat xn)), .val (.int (Int32.ofNat r)), .unset] [(.int (Int32.ofNat r)), (.ref pa)])) t → Steps p.tables e below (T.setTop (mkF m 2 #[.val (.ref a), .val (.int (Int32.ofNat xn)), .val (.int (Int32.ofNat r)), .unset] [])) t := fun t k => st t (by
          show Steps p.tables e below (T2.setTop (mkF m 6 #[.val (.ref a), .val (.int (Int32.ofNat xn)), .val (.int (Int32.ofNat r)), .unset] [(.ref pa)])) _
          refine XS.iloadN X.here hx rfl (hb hby d6_6) rfl ?_
          exact k)
      obtain ⟨cl3, Ar3, hin3, hat3⟩ := own_rd V_pa r hr
      have st : ∀ t, Steps p.tables e below (T2.setTop (mkF m 9 #[.val (.ref a), .val (.int (Int32.ofNat xn)), .val (.int (Int32.ofNat r)), .unset] [(.int (Int32.ofNat r)), (.int (Int32.ofNat (pr r)))])) t → Steps p.tables e below (T.setTop (mkF m 2 #[.val (.ref a), .val (.int (Int32.ofNat xn)), .val (.int (Int32.ofNat r)), .unset] [])) t := fun t k => st t (by
          show Steps p.tables e below (T2.setTop (mkF m 7 #[.val (.ref a), .val (.int (Int32.ofNat xn)), .val (.int (Int32.ofNat r)), .unset] [(.int (Int32.ofNat r)), (.ref pa)])) _
          refine X.iaload hx (j := (Int32.ofNat r)) (v := (.int (Int32.ofNat (pr r)))) (by rw [eh]; exact Ar3.1) (State.isArrayOf_alike hZ.alike Ar3.2.1) Ar3.2.2 hin3 hat3 (g := (mkF m 7 #[.val (.ref a), .val (.int (Int32.ofNat xn)), .val (.int (Int32.ofNat r)), .unset] [(.int (Int32.ofNat r)), (.ref pa)])) rfl rfl (hb hby d6_7) _ ?_
          show Steps p.tables e below (T2.setTop (mkF m 8 #[.val (.ref a), .val (.int (Int32.ofNat xn)), .val (.int (Int32.ofNat r)), .unset] [(.int (Int32.ofNat (pr r)))])) _
          refine XS.iloadN X.here hx rfl (hb hby d6_8) rfl ?_
          exact k)
      by_cases hq : (Int32.ofNat (pr r)) = (Int32.ofNat r)
      · have e1 : pr r = r := (own_inj (by omega) hr).mp hq
        have e2 : r = lab xn := by rw [← hl]; exact (hI.2.2.1 e1).symm
        have st : ∀ t, Steps p.tables e below (T2.setTop (mkF m 22 #[.val (.ref a), .val (.int (Int32.ofNat xn)), .val (.int (Int32.ofNat r)), .unset] [])) t → Steps p.tables e below (T.setTop (mkF m 2 #[.val (.ref a), .val (.int (Int32.ofNat xn)), .val (.int (Int32.ofNat r)), .unset] [])) t := fun t k => st t (by
            show Steps p.tables e below (T2.setTop (mkF m 9 #[.val (.ref a), .val (.int (Int32.ofNat xn)), .val (.int (Int32.ofNat r)), .unset] [(.int (Int32.ofNat r)), (.int (Int32.ofNat (pr r)))])) _
            refine XS.icmpYes X.here hx rfl (pc0 := 9) (pc' := 22) rfl (hb hby d6_9) rfl (teq hq).1 (by decide) (by decide) ?_
            exact k)
        have st : ∀ t, Steps p.tables e below (T2.setTop (mkF m 22 #[.val (.ref a), .val (.int (Int32.ofNat xn)), .val (.int (Int32.ofNat (lab xn))), .unset] [])) t → Steps p.tables e below (T.setTop (mkF m 2 #[.val (.ref a), .val (.int (Int32.ofNat xn)), .val (.int (Int32.ofNat r)), .unset] [])) t := by rw [← e2]; exact st
        exact ⟨T2, X, eh, st⟩
      · have e1 : ¬ pr r = r := fun z => hq ((own_inj (by omega) hr).mpr z)
        have st : ∀ t, Steps p.tables e below (T2.setTop (mkF m 13 #[.val (.ref a), .val (.int (Int32.ofNat xn)), .val (.int (Int32.ofNat r)), .unset] [(.ref a)])) t → Steps p.tables e below (T.setTop (mkF m 2 #[.val (.ref a), .val (.int (Int32.ofNat xn)), .val (.int (Int32.ofNat r)), .unset] [])) t := fun t k => st t (by
            show Steps p.tables e below (T2.setTop (mkF m 9 #[.val (.ref a), .val (.int (Int32.ofNat xn)), .val (.int (Int32.ofNat r)), .unset] [(.int (Int32.ofNat r)), (.int (Int32.ofNat (pr r)))])) _
            refine XS.icmpNo X.here hx rfl (hb hby d6_9) rfl (feq hq).1 ?_
            show Steps p.tables e below (T2.setTop (mkF m 12 #[.val (.ref a), .val (.int (Int32.ofNat xn)), .val (.int (Int32.ofNat r)), .unset] [])) _
            refine XS.aloadN X.here hx rfl (hb hby d6_12) rfl rfl ?_
            exact k)
        obtain ⟨T4, X, eh, sx⟩ := getF X hx hZ hown (host := "") (Or.inl (hw _ (List.mem_of_getElem? (i := 10) rfl))) Via.refl eh F_a_parent (g := (mkF m 13 #[.val (.ref a), .val (.int (Int32.ofNat xn)), .val (.int (Int32.ofNat r)), .unset] [(.ref a)])) rfl rfl (hb hby d6_13)
        have st : ∀ t, Steps p.tables e below (T4.setTop (mkF m 16 #[.val (.ref a), .val (.int (Int32.ofNat xn)), .val (.int (Int32.ofNat r)), .unset] [(.ref pa)])) t → Steps p.tables e below (T.setTop (mkF m 2 #[.val (.ref a), .val (.int (Int32.ofNat xn)), .val (.int (Int32.ofNat r)), .unset] [])) t := fun t k => st t (sx t k)
        have st : ∀ t, Steps p.tables e below (T4.setTop (mkF m 17 #[.val (.ref a), .val (.int (Int32.ofNat xn)), .val (.int (Int32.ofNat r)), .unset] [(.int (Int32.ofNat r)), (.ref pa)])) t → Steps p.tables e below (T.setTop (mkF m 2 #[.val (.ref a), .val (.int (Int32.ofNat xn)), .val (.int (Int32.ofNat r)), .unset] [])) t := fun t k => st t (by
            show Steps p.tables e below (T4.setTop (mkF m 16 #[.val (.ref a), .val (.int (Int32.ofNat xn)), .val (.int (Int32.ofNat r)), .unset] [(.ref pa)])) _
            refine XS.iloadN X.here hx rfl (hb hby d6_16) rfl ?_
            exact k)
        obtain ⟨cl5, Ar5, hin5, hat5⟩ := own_rd V_pa r hr
        have st : ∀ t, Steps p.tables e below (T4.setTop (mkF m 2 #[.val (.ref a), .val (.int (Int32.ofNat xn)), .val (.int (Int32.ofNat (pr r))), .unset] [])) t → Steps p.tables e below (T.setTop (mkF m 2 #[.val (.ref a), .val (.int (Int32.ofNat xn)), .val (.int (Int32.ofNat r)), .unset] [])) t := fun t k => st t (by
            show Steps p.tables e below (T4.setTop (mkF m 17 #[.val (.ref a), .val (.int (Int32.ofNat xn)), .val (.int (Int32.ofNat r)), .unset] [(.int (Int32.ofNat r)), (.ref pa)])) _
            refine X.iaload hx (j := (Int32.ofNat r)) (v := (.int (Int32.ofNat (pr r)))) (by rw [eh]; exact Ar5.1) (State.isArrayOf_alike hZ.alike Ar5.2.1) Ar5.2.2 hin5 hat5 (g := (mkF m 17 #[.val (.ref a), .val (.int (Int32.ofNat xn)), .val (.int (Int32.ofNat r)), .unset] [(.int (Int32.ofNat r)), (.ref pa)])) rfl rfl (hb hby d6_17) _ ?_
            show Steps p.tables e below (T4.setTop (mkF m 18 #[.val (.ref a), .val (.int (Int32.ofNat xn)), .val (.int (Int32.ofNat r)), .unset] [(.int (Int32.ofNat (pr r)))])) _
            refine XS.istoreN X.here hx rfl (hb hby d6_18) rfl (l' := #[.val (.ref a), .val (.int (Int32.ofNat xn)), .val (.int (Int32.ofNat (pr r))), .unset]) rfl ?_
            show Steps p.tables e below (T4.setTop (mkF m 19 #[.val (.ref a), .val (.int (Int32.ofNat xn)), .val (.int (Int32.ofNat (pr r))), .unset] [])) _
            refine XS.goto X.here hx rfl (pc0 := 19) (pc' := 2) rfl (hb hby d6_19) (by decide) (by decide) ?_
            exact k)
        obtain ⟨T', X, eh, sy⟩ := ih (pr r) (by omega) T4 (by omega) (by rw [hI.2.1]; exact hl) X eh
        exact ⟨T', X, eh, fun t k => st t (sy t k)⟩
  obtain ⟨T6, X, eh, sx⟩ := loop1 xn s₁ hxn rfl X eh
  have st : ∀ t, Steps p.tables e below (T6.setTop (mkF m 22 #[.val (.ref a), .val (.int (Int32.ofNat xn)), .val (.int (Int32.ofNat (lab xn))), .unset] [])) t → Steps p.tables e below (s₁.setTop (mkF m 0 #[.val (.ref a), .val (.int (Int32.ofNat xn)), .unset, .unset] [])) t := fun t k => st t (sx t k)
  have loop2 : ∀ (x : Nat) (pr : Nat → Nat) (T : State) (h : Heap) (lo : List Loc) (s3 : Slot), x < 5 → own_Inv pr lab → lab x = lab xn → (s3 = .unset ∨ ∃ y : Int32, s3 = .val (.int y)) → Stand p l e ({ frames := 0, cells := 0, slots := 0, locals := 0 } : Room) s m #[(.ref a), (.int (Int32.ofNat xn))] below meth cd0 T lo 0 0 → Fr n0 lo → T.heap = h → n0 ≤ h.size → Keep h0 h [pa] → Fld Z h a "isoproof/model/Partition" "parent" "[I" (.ref pa) → Arv Z h pa k_pa .int (5 : Int32) (own_arr pr) (.int (0 : Int32)) → ∃ (T' : State) (h' : Heap) (lo' : List Loc) (pr' : Nat → Nat) (x' : Int32) (s4 : Slot), Stand p l e ({ frames := 0, cells := 0, slots := 0, locals := 0 } : Room) s m #[(.ref a), (.int (Int32.ofNat xn))] below meth cd0 T' lo' 0 0 ∧ Fr n0 lo' ∧ T'.heap = h' ∧ n0 ≤ h'.size ∧ Keep h0 h' [pa] ∧ own_Inv pr' lab ∧ Arv Z h' pa k_pa .int (5 : Int32) (own_arr pr') (.int (0 : Int32)) ∧ ∀ t, Steps p.tables e below (T'.setTop (mkF m 51 #[.val (.ref a), .val (.int x'), .val (.int (Int32.ofNat (lab xn))), s4] [])) t → Steps p.tables e below (T.setTop (mkF m 22 #[.val (.ref a), .val (.int (Int32.ofNat x)), .val (.int (Int32.ofNat (lab xn))), s3] [])) t := by
    intro x
    induction x using Nat.strongRecOn with
    | ind x ih =>
      intro pr T h lo s3 hx5 I hl hs3 X N eh Z0 K F_a_parent V_pa
      have hI := I x hx5
      have hI2 := I xn hxn
      have st : ∀ t, Steps p.tables e below (T.setTop (mkF m 22 #[.val (.ref a), .val (.int (Int32.ofNat x)), .val (.int (Int32.ofNat (lab xn))), s3] [])) t → Steps p.tables e below (T.setTop (mkF m 22 #[.val (.ref a), .val (.int (Int32.ofNat x)), .val (.int (Int32.ofNat (lab xn))), s3] [])) t := fun t k => k
      have st : ∀ t, Steps p.tables e below (T.setTop (mkF m 23 #[.val (.ref a), .val (.int (Int32.ofNat x)), .val (.int (Int32.ofNat (lab xn))), s3] [(.ref a)])) t → Steps p.tables e below (T.setTop (mkF m 22 #[.val (.ref a), .val (.int (Int32.ofNat x)), .val (.int (Int32.ofNat (lab xn))), s3] [])) t := fun t k => st t (by
          show Steps p.tables e below (T.setTop (mkF m 22 #[.val (.ref a), .val (.int (Int32.ofNat x)), .val (.int (Int32.ofNat (lab xn))), s3] [])) _
          refine XS.aloadN X.here hx rfl (hb hby d6_22) rfl rfl ?_
          exact k)
      obtain ⟨T7, X, eh, sx⟩ := getF X hx hZ hown (host := "") (Or.inl (hw _ (List.mem_of_getElem? (i := 10) rfl))) Via.refl eh F_a_parent (g := (mkF m 23 #[.val (.ref a), .val (.int (Int32.ofNat x)), .val (.int (Int32.ofNat (lab xn))), s3] [(.ref a)])) rfl rfl (hb hby d6_23)
      have st : ∀ t, Steps p.tables e below (T7.setTop (mkF m 26 #[.val (.ref a), .val (.int (Int32.ofNat x)), .val (.int (Int32.ofNat (lab xn))), s3] [(.ref pa)])) t → Steps p.tables e below (T.setTop (mkF m 22 #[.val (.ref a), .val (.int (Int32.ofNat x)), .val (.int (Int32.ofNat (lab xn))), s3] [])) t := fun t k => st t (sx t k)
      have st : ∀ t, Steps p.tables e below (T7.setTop (mkF m 27 #[.val (.ref a), .val (.int (Int32.ofNat x)), .val (.int (Int32.ofNat (lab xn))), s3] [(.int (Int32.ofNat x)), (.ref pa)])) t → Steps p.tables e below (T.setTop (mkF m 22 #[.val (.ref a), .val (.int (Int32.ofNat x)), .val (.int (Int32.ofNat (lab xn))), s3] [])) t := fun t k => st t (by
          show Steps p.tables e below (T7.setTop (mkF m 26 #[.val (.ref a), .val (.int (Int32.ofNat x)), .val (.int (Int32.ofNat (lab xn))), s3] [(.ref pa)])) _
          refine XS.iloadN X.here hx rfl (hb hby d6_26) rfl ?_
          exact k)
      obtain ⟨cl8, Ar8, hin8, hat8⟩ := own_rd V_pa x hx5
      have st : ∀ t, Steps p.tables e below (T7.setTop (mkF m 29 #[.val (.ref a), .val (.int (Int32.ofNat x)), .val (.int (Int32.ofNat (lab xn))), s3] [(.int (Int32.ofNat (lab xn))), (.int (Int32.ofNat (pr x)))])) t → Steps p.tables e below (T.setTop (mkF m 22 #[.val (.ref a), .val (.int (Int32.ofNat x)), .val (.int (Int32.ofNat (lab xn))), s3] [])) t := fun t k => st t (by
          show Steps p.tables e below (T7.setTop (mkF m 27 #[.val (.ref a), .val (.int (Int32.ofNat x)), .val (.int (Int32.ofNat (lab xn))), s3] [(.int (Int32.ofNat x)), (.ref pa)])) _
          refine X.iaload hx (j := (Int32.ofNat x)) (v := (.int (Int32.ofNat (pr x)))) (by rw [eh]; exact Ar8.1) (State.isArrayOf_alike hZ.alike Ar8.2.1) Ar8.2.2 hin8 hat8 (g := (mkF m 27 #[.val (.ref a), .val (.int (Int32.ofNat x)), .val (.int (Int32.ofNat (lab xn))), s3] [(.int (Int32.ofNat x)), (.ref pa)])) rfl rfl (hb hby d6_27) _ ?_
          show Steps p.tables e below (T7.setTop (mkF m 28 #[.val (.ref a), .val (.int (Int32.ofNat x)), .val (.int (Int32.ofNat (lab xn))), s3] [(.int (Int32.ofNat (pr x)))])) _
          refine XS.iloadN X.here hx rfl (hb hby d6_28) rfl ?_
          exact k)
      by_cases hq : (Int32.ofNat (pr x)) = (Int32.ofNat (lab xn))
      · have st : ∀ t, Steps p.tables e below (T7.setTop (mkF m 51 #[.val (.ref a), .val (.int (Int32.ofNat x)), .val (.int (Int32.ofNat (lab xn))), s3] [])) t → Steps p.tables e below (T.setTop (mkF m 22 #[.val (.ref a), .val (.int (Int32.ofNat x)), .val (.int (Int32.ofNat (lab xn))), s3] [])) t := fun t k => st t (by
            show Steps p.tables e below (T7.setTop (mkF m 29 #[.val (.ref a), .val (.int (Int32.ofNat x)), .val (.int (Int32.ofNat (lab xn))), s3] [(.int (Int32.ofNat (lab xn))), (.int (Int32.ofNat (pr x)))])) _
            refine XS.icmpYes X.here hx rfl (pc0 := 29) (pc' := 51) rfl (hb hby d6_29) rfl (teq hq).1 (by decide) (by decide) ?_
            exact k)
        exact ⟨T7, h, lo, pr, _, s3, X, N, eh, Z0, K, I, V_pa, st⟩
      · have e1 : ¬ pr x = lab xn := fun z => hq ((own_inj (by omega) (by omega)).mpr z)
        have e2 : pr x < x := by
          rcases Nat.lt_or_eq_of_le hI.1 with z | z
          · exact z
          · exact absurd (z.trans ((hI.2.2.1 z).symm.trans hl)) e1
        have st : ∀ t, Steps p.tables e below (T7.setTop (mkF m 33 #[.val (.ref a), .val (.int (Int32.ofNat x)), .val (.int (Int32.ofNat (lab xn))), s3] [(.ref a)])) t → Steps p.tables e below (T.setTop (mkF m 22 #[.val (.ref a), .val (.int (Int32.ofNat x)), .val (.int (Int32.ofNat (lab xn))), s3] [])) t := fun t k => st t (by
            show Steps p.tables e below (T7.setTop (mkF m 29 #[.val (.ref a), .val (.int (Int32.ofNat x)), .val (.int (Int32.ofNat (lab xn))), s3] [(.int (Int32.ofNat (lab xn))), (.int (Int32.ofNat (pr x)))])) _
            refine XS.icmpNo X.here hx rfl (hb hby d6_29) rfl (feq hq).1 ?_
            show Steps p.tables e below (T7.setTop (mkF m 32 #[.val (.ref a), .val (.int (Int32.ofNat x)), .val (.int (Int32.ofNat (lab xn))), s3] [])) _
            refine XS.aloadN X.here hx rfl (hb hby d6_32) rfl rfl ?_
            exact k)
        obtain ⟨T9, X, eh, sx⟩ := getF X hx hZ hown (host := "") (Or.inl (hw _ (List.mem_of_getElem? (i := 10) rfl))) Via.refl eh F_a_parent (g := (mkF m 33 #[.val (.ref a), .val (.int (Int32.ofNat x)), .val (.int (Int32.ofNat (lab xn))), s3] [(.ref a)])) rfl rfl (hb hby d6_33)
        have st : ∀ t, Steps p.tables e below (T9.setTop (mkF m 36 #[.val (.ref a), .val (.int (Int32.ofNat x)), .val (.int (Int32.ofNat (lab xn))), s3] [(.ref pa)])) t → Steps p.tables e below (T.setTop (mkF m 22 #[.val (.ref a), .val (.int (Int32.ofNat x)), .val (.int (Int32.ofNat (lab xn))), s3] [])) t := fun t k => st t (sx t k)
        have st : ∀ t, Steps p.tables e below (T9.setTop (mkF m 37 #[.val (.ref a), .val (.int (Int32.ofNat x)), .val (.int (Int32.ofNat (lab xn))), s3] [(.int (Int32.ofNat x)), (.ref pa)])) t → Steps p.tables e below (T.setTop (mkF m 22 #[.val (.ref a), .val (.int (Int32.ofNat x)), .val (.int (Int32.ofNat (lab xn))), s3] [])) t := fun t k => st t (by
            show Steps p.tables e below (T9.setTop (mkF m 36 #[.val (.ref a), .val (.int (Int32.ofNat x)), .val (.int (Int32.ofNat (lab xn))), s3] [(.ref pa)])) _
            refine XS.iloadN X.here hx rfl (hb hby d6_36) rfl ?_
            exact k)
        obtain ⟨cl10, Ar10, hin10, hat10⟩ := own_rd V_pa x hx5
        have st : ∀ t, Steps p.tables e below (T9.setTop (mkF m 40 #[.val (.ref a), .val (.int (Int32.ofNat x)), .val (.int (Int32.ofNat (lab xn))), .val (.int (Int32.ofNat (pr x)))] [(.ref a)])) t → Steps p.tables e below (T.setTop (mkF m 22 #[.val (.ref a), .val (.int (Int32.ofNat x)), .val (.int (Int32.ofNat (lab xn))), s3] [])) t := fun t k => st t (by
            show Steps p.tables e below (T9.setTop (mkF m 37 #[.val (.ref a), .val (.int (Int32.ofNat x)), .val (.int (Int32.ofNat (lab xn))), s3] [(.int (Int32.ofNat x)), (.ref pa)])) _
            refine X.iaload hx (j := (Int32.ofNat x)) (v := (.int (Int32.ofNat (pr x)))) (by rw [eh]; exact Ar10.1) (State.isArrayOf_alike hZ.alike Ar10.2.1) Ar10.2.2 hin10 hat10 (g := (mkF m 37 #[.val (.ref a), .val (.int (Int32.ofNat x)), .val (.int (Int32.ofNat (lab xn))), s3] [(.int (Int32.ofNat x)), (.ref pa)])) rfl rfl (hb hby d6_37) _ ?_
            show Steps p.tables e below (T9.setTop (mkF m 38 #[.val (.ref a), .val (.int (Int32.ofNat x)), .val (.int (Int32.ofNat (lab xn))), s3] [(.int (Int32.ofNat (pr x)))])) _
            refine XS.istoreN X.here hx rfl (hb hby d6_38) rfl (l' := #[.val (.ref a), .val (.int (Int32.ofNat x)), .val (.int (Int32.ofNat (lab xn))), .val (.int (Int32.ofNat (pr x)))]) (own_os hs3 rfl rfl rfl) ?_
            show Steps p.tables e below (T9.setTop (mkF m 39 #[.val (.ref a), .val (.int (Int32.ofNat x)), .val (.int (Int32.ofNat (lab xn))), .val (.int (Int32.ofNat (pr x)))] [])) _
            refine XS.aloadN X.here hx rfl (hb hby d6_39) rfl rfl ?_
            exact k)
        obtain ⟨T11, X, eh, sx⟩ := getF X hx hZ hown (host := "") (Or.inl (hw _ (List.mem_of_getElem? (i := 10) rfl))) Via.refl eh F_a_parent (g := (mkF m 40 #[.val (.ref a), .val (.int (Int32.ofNat x)), .val (.int (Int32.ofNat (lab xn))), .val (.int (Int32.ofNat (pr x)))] [(.ref a)])) rfl rfl (hb hby d6_40)
        have st : ∀ t, Steps p.tables e below (T11.setTop (mkF m 43 #[.val (.ref a), .val (.int (Int32.ofNat x)), .val (.int (Int32.ofNat (lab xn))), .val (.int (Int32.ofNat (pr x)))] [(.ref pa)])) t → Steps p.tables e below (T.setTop (mkF m 22 #[.val (.ref a), .val (.int (Int32.ofNat x)), .val (.int (Int32.ofNat (lab xn))), s3] [])) t := fun t k => st t (sx t k)
        have st : ∀ t, Steps p.tables e below (T11.setTop (mkF m 45 #[.val (.ref a), .val (.int (Int32.ofNat x)), .val (.int (Int32.ofNat (lab xn))), .val (.int (Int32.ofNat (pr x)))] [(.int (Int32.ofNat (lab xn))), (.int (Int32.ofNat x)), (.ref pa)])) t → Steps p.tables e below (T.setTop (mkF m 22 #[.val (.ref a), .val (.int (Int32.ofNat x)), .val (.int (Int32.ofNat (lab xn))), s3] [])) t := fun t k => st t (by
            show Steps p.tables e below (T11.setTop (mkF m 43 #[.val (.ref a), .val (.int (Int32.ofNat x)), .val (.int (Int32.ofNat (lab xn))), .val (.int (Int32.ofNat (pr x)))] [(.ref pa)])) _
            refine XS.iloadN X.here hx rfl (hb hby d6_43) rfl ?_
            show Steps p.tables e below (T11.setTop (mkF m 44 #[.val (.ref a), .val (.int (Int32.ofNat x)), .val (.int (Int32.ofNat (lab xn))), .val (.int (Int32.ofNat (pr x)))] [(.int (Int32.ofNat x)), (.ref pa)])) _
            refine XS.iloadN X.here hx rfl (hb hby d6_44) rfl ?_
            exact k)
        obtain ⟨cl12, Ar12, hin12, hat12⟩ := own_rd V_pa x hx5
        obtain ⟨T13, h14, X, eh, W12, sx⟩ := stI X hx hZ eh Ar12 (j := (Int32.ofNat x)) hin12 (g := (mkF m 45 #[.val (.ref a), .val (.int (Int32.ofNat x)), .val (.int (Int32.ofNat (lab xn))), .val (.int (Int32.ofNat (pr x)))] [(.int (Int32.ofNat (lab xn))), (.int (Int32.ofNat x)), (.ref pa)])) rfl rfl (hb hby d6_45)
        have st : ∀ t, Steps p.tables e below (T13.setTop (mkF m 46 #[.val (.ref a), .val (.int (Int32.ofNat x)), .val (.int (Int32.ofNat (lab xn))), .val (.int (Int32.ofNat (pr x)))] [])) t → Steps p.tables e below (T.setTop (mkF m 22 #[.val (.ref a), .val (.int (Int32.ofNat x)), .val (.int (Int32.ofNat (lab xn))), s3] [])) t := fun t k => st t (sx t k)
        have F_a_parent := F_a_parent.other W12 (Or.inl ne_a_pa)
        have K := K.wr W12 (Or.inl (List.mem_of_getElem? (i := 0) rfl))
        have Z0 := Nat.le_trans Z0 (Keep.of_wr W12).1
        have V_pa := own_st V_pa x hx5 (lab xn) W12
        have N := Fr.snoc X N g_pa
        have st : ∀ t, Steps p.tables e below (T13.setTop (mkF m 22 #[.val (.ref a), .val (.int (Int32.ofNat (pr x))), .val (.int (Int32.ofNat (lab xn))), .val (.int (Int32.ofNat (pr x)))] [])) t → Steps p.tables e below (T.setTop (mkF m 22 #[.val (.ref a), .val (.int (Int32.ofNat x)), .val (.int (Int32.ofNat (lab xn))), s3] [])) t := fun t k => st t (by
            show Steps p.tables e below (T13.setTop (mkF m 46 #[.val (.ref a), .val (.int (Int32.ofNat x)), .val (.int (Int32.ofNat (lab xn))), .val (.int (Int32.ofNat (pr x)))] [])) _
            refine XS.iloadN X.here hx rfl (hb hby d6_46) rfl ?_
            show Steps p.tables e below (T13.setTop (mkF m 47 #[.val (.ref a), .val (.int (Int32.ofNat x)), .val (.int (Int32.ofNat (lab xn))), .val (.int (Int32.ofNat (pr x)))] [(.int (Int32.ofNat (pr x)))])) _
            refine XS.istoreN X.here hx rfl (hb hby d6_47) rfl (l' := #[.val (.ref a), .val (.int (Int32.ofNat (pr x))), .val (.int (Int32.ofNat (lab xn))), .val (.int (Int32.ofNat (pr x)))]) rfl ?_
            show Steps p.tables e below (T13.setTop (mkF m 48 #[.val (.ref a), .val (.int (Int32.ofNat (pr x))), .val (.int (Int32.ofNat (lab xn))), .val (.int (Int32.ofNat (pr x)))] [])) _
            refine XS.goto X.here hx rfl (pc0 := 48) (pc' := 22) rfl (hb hby d6_48) (by decide) (by decide) ?_
            exact k)
        have I2 : own_Inv (own_upd pr x (lab xn)) lab := by rw [← hl]; exact I.press hx5
        obtain ⟨T', h', lo', pr', x', s4, X, N, eh, Z0, K, I, V_pa, sy⟩ := ih (pr x) e2 (own_upd pr x (lab xn)) T13 h14 _ _ (by omega) I2 (by rw [hI.2.1]; exact hl) (Or.inr ⟨_, rfl⟩) X N eh Z0 K F_a_parent V_pa
        exact ⟨T', h', lo', pr', x', s4, X, N, eh, Z0, K, I, V_pa, fun t k => st t (sy t k)⟩
  obtain ⟨T15, h16, lo9, pr9, x9, s9, X, N, eh, Z0, K, I9, V_pa, sx⟩ := loop2 xn pr T6 h0 _ .unset hxn I rfl (Or.inl rfl) X N eh Z0 K F_a_parent V_pa
  have st : ∀ t, Steps p.tables e below (T15.setTop (mkF m 51 #[.val (.ref a), .val (.int x9), .val (.int (Int32.ofNat (lab xn))), s9] [])) t → Steps p.tables e below (s₁.setTop (mkF m 0 #[.val (.ref a), .val (.int (Int32.ofNat xn)), .unset, .unset] [])) t := fun t k => st t (sx t k)
  have st : ∀ t, Steps p.tables e below (T15.setTop (mkF m 52 #[.val (.ref a), .val (.int x9), .val (.int (Int32.ofNat (lab xn))), s9] [(.int (Int32.ofNat (lab xn)))])) t → Steps p.tables e below (s₁.setTop (mkF m 0 #[.val (.ref a), .val (.int (Int32.ofNat xn)), .unset, .unset] [])) t := fun t k => st t (by
      show Steps p.tables e below (T15.setTop (mkF m 51 #[.val (.ref a), .val (.int x9), .val (.int (Int32.ofNat (lab xn))), s9] [])) _
      refine XS.iloadN X.here hx rfl (hb hby d6_51) rfl ?_
      exact k)
  obtain ⟨fs_, hr, hrun, hended, hW, hsame⟩ := X.leave (v := some (.int (Int32.ofNat (lab xn)))) (fun h => by rw [Bd.returns] at h; cases h)
  refine ⟨_, _, pre0 _ (st _ ?_), hrun, hended, _, _, rfl, ?_, ⟨_, rfl⟩, hW, hsame.mono (by decide) (by decide)⟩
  · exact retI X hx Bd.returns (hb hby d6_52) hr
  · show Q_rm6 Z a pa k_pa pr lab xn h0 n0 _ T15.heap _
    rw [eh]
    exact ⟨rfl, N, K, pr9, I9, V_pa⟩
theorem d8_0 : decode jdk_29_method_69_code 0 = .ok (.iload_n 0, 1) := by decide +kernel
theorem d8_1 : decode jdk_29_method_69_code 1 = .ok (.iload_n 1, 1) := by decide +kernel
theorem d8_2 : decode jdk_29_method_69_code 2 = .ok (.if_icmp .gt 7, 3) := by decide +kernel
theorem d8_5 : decode jdk_29_method_69_code 5 = .ok (.iload_n 0, 1) := by decide +kernel
theorem d8_6 : decode jdk_29_method_69_code 6 = .ok (.goto 4, 3) := by decide +kernel
theorem d8_9 : decode jdk_29_method_69_code 9 = .ok (.iload_n 1, 1) := by decide +kernel
theorem d8_10 : decode jdk_29_method_69_code 10 = .ok (.ireturn, 1) := by decide +kernel
def Q_rm8 (Z : State) (q1 : Int32) (q2 : Int32)  (h0 : Heap) (n0 : Nat) (v : Option Value) (h : Heap) (L : List Loc) : Prop := v = some (.int (own_min q1 q2)) ∧ Fr n0 L ∧ h = h0
theorem ef_rm8 (m : MethodId) (x0 : Int32) (x1 : Int32) : entryFrame m #[(.int x0), (.int x1)] 2 = mkF m 0 #[.val (.int x0), .val (.int x1)] [] := by first | (simp [entryFrame, mkF, argsToLocals, Value.category]; done) | rfl
set_option maxRecDepth 65536 in
set_option maxHeartbeats 40000000 in
theorem rm8 (l : Launch) (Z : State) (a0 : Array Value) (hw : ∀ d ∈ tables_1, d.before a0 Z = true) (ws : List Jvm.Cond) (q1 : Int32) (q2 : Int32)  (h0 : Heap) (n0 : Nat) (Z0 : n0 ≤ h0.size)  :
    MetFree l (⟨"java/lang/Math", "min", "(II)I"⟩ : MethodName) (head1 (Jvm.Cond.code (⟨"java/lang/Math", "min", "(II)I"⟩ : MethodName) jdk_29_method_69_code 2 (some .int) :: ws) ({ frames := 0, cells := 0, slots := 0, locals := 0 } : Room)) (fun a' U => a' = #[(.int q1), (.int q2)] ∧ Z.Warmed39 U.vm ∧ U.heap = h0) (fun _ _ _ _ _ => True) (fun _ U o U' => ∃ v L, o = .returned v ∧ Q_rm8 Z q1 q2 h0 n0 v U'.heap L ∧ FrameEnd U o U' L ({ frames := 0, cells := 0, slots := 0, locals := 0 } : Room).cells ({ frames := 0, cells := 0, slots := 0, locals := 0 } : Room).slots) := by
  refine MetFree.of_bodySF (Jvm.Free.JP.mathPlain rfl (by decide +kernel)) hisR ?_
  intro p e s m args below meth cd0 s₁ Bd hml0 hP hK
  obtain ⟨rfl, hZ, hh⟩ := hP
  have hx := Bd.exec
  have hby := Bd.bytes
  have hml : cd0.maxLocals = 2 := hml0
  have hown : s.vm.findClass "java/lang/Math" = some m.cls := findClass_of_methodNamed Bd.named
  have hnm := (name_of_methodNamed Bd.named Bd.method).1
  have X : Stand p l e ({ frames := 0, cells := 0, slots := 0, locals := 0 } : Room) s m #[(.int q1), (.int q2)] below meth cd0 s₁ [] 0 0 := Stand.of_body Bd
  have eh : s₁.heap = h0 := by rw [← hh, Bd.state]; rfl
  have N := Fr.nil n0
  have K : Keep h0 h0 [] := Keep.refl _ _
  have pre0 : ∀ t, Steps p.tables e below (s₁.setTop (mkF m 0 #[.val (.int q1), .val (.int q2)] [])) t → Steps p.tables e below (s₁.setTop (entryFrame m #[(.int q1), (.int q2)] 2)) t := fun t k => castTop (ef_rm8 m q1 q2) k
  have st : ∀ t, Steps p.tables e below (s₁.setTop (mkF m 0 #[.val (.int q1), .val (.int q2)] [])) t → Steps p.tables e below (s₁.setTop (mkF m 0 #[.val (.int q1), .val (.int q2)] [])) t := fun t k => k
  obtain ⟨r, hv_r, sx⟩ : ∃ (r : Int32), r = (if q2 < q1 then q2 else q1) ∧ ∀ t, Steps p.tables e below (s₁.setTop (mkF m 10 #[.val (.int q1), .val (.int q2)] [(.int r)])) t → Steps p.tables e below (s₁.setTop (mkF m 0 #[.val (.int q1), .val (.int q2)] [])) t := by
    by_cases hj1 : q2 < q1
    · refine ⟨q2, by rw [if_pos hj1], fun t k => ?_⟩
      show Steps p.tables e below (s₁.setTop (mkF m 0 #[.val (.int q1), .val (.int q2)] [])) _
      refine XS.iloadN X.here hx rfl (hb hby d8_0) rfl ?_
      show Steps p.tables e below (s₁.setTop (mkF m 1 #[.val (.int q1), .val (.int q2)] [(.int q1)])) _
      refine XS.iloadN X.here hx rfl (hb hby d8_1) rfl ?_
      show Steps p.tables e below (s₁.setTop (mkF m 2 #[.val (.int q1), .val (.int q2)] [(.int q2), (.int q1)])) _
      refine XS.icmpYes X.here hx rfl (pc0 := 2) (pc' := 9) rfl (hb hby d8_2) rfl (tlt hj1).2.2.1 (by decide) (by decide) ?_
      show Steps p.tables e below (s₁.setTop (mkF m 9 #[.val (.int q1), .val (.int q2)] [])) _
      refine XS.iloadN X.here hx rfl (hb hby d8_9) rfl ?_
      exact k
    · refine ⟨q1, by rw [if_neg hj1], fun t k => ?_⟩
      show Steps p.tables e below (s₁.setTop (mkF m 0 #[.val (.int q1), .val (.int q2)] [])) _
      refine XS.iloadN X.here hx rfl (hb hby d8_0) rfl ?_
      show Steps p.tables e below (s₁.setTop (mkF m 1 #[.val (.int q1), .val (.int q2)] [(.int q1)])) _
      refine XS.iloadN X.here hx rfl (hb hby d8_1) rfl ?_
      show Steps p.tables e below (s₁.setTop (mkF m 2 #[.val (.int q1), .val (.int q2)] [(.int q2), (.int q1)])) _
      refine XS.icmpNo X.here hx rfl (hb hby d8_2) rfl (flt hj1).2.2.1 ?_
      show Steps p.tables e below (s₁.setTop (mkF m 5 #[.val (.int q1), .val (.int q2)] [])) _
      refine XS.iloadN X.here hx rfl (hb hby d8_5) rfl ?_
      show Steps p.tables e below (s₁.setTop (mkF m 6 #[.val (.int q1), .val (.int q2)] [(.int q1)])) _
      refine XS.goto X.here hx rfl (pc0 := 6) (pc' := 10) rfl (hb hby d8_6) (by decide) (by decide) ?_
      exact k
  have st : ∀ t, Steps p.tables e below (s₁.setTop (mkF m 10 #[.val (.int q1), .val (.int q2)] [(.int r)])) t → Steps p.tables e below (s₁.setTop (mkF m 0 #[.val (.int q1), .val (.int q2)] [])) t := fun t k => st t (sx t k)
  obtain rfl : r = own_min q1 q2 := hv_r
  obtain ⟨fs_, hr, hrun, hended, hW, hsame⟩ := X.leave (v := some (.int (own_min q1 q2))) (fun h => by rw [Bd.returns] at h; cases h)
  refine ⟨_, _, pre0 _ (st _ ?_), hrun, hended, _, _, rfl, ?_, ⟨_, rfl⟩, hW, hsame.mono (by decide) (by decide)⟩
  · exact retI X hx Bd.returns (hb hby d8_10) hr
  · show Q_rm8 Z q1 q2 h0 n0 _ s₁.heap _
    rw [eh]
    exact ⟨rfl, N, rfl⟩
theorem d7_0 : decode jdk_29_method_65_code 0 = .ok (.iload_n 0, 1) := by decide +kernel
theorem d7_1 : decode jdk_29_method_65_code 1 = .ok (.iload_n 1, 1) := by decide +kernel
theorem d7_2 : decode jdk_29_method_65_code 2 = .ok (.if_icmp .lt 7, 3) := by decide +kernel
theorem d7_5 : decode jdk_29_method_65_code 5 = .ok (.iload_n 0, 1) := by decide +kernel
theorem d7_6 : decode jdk_29_method_65_code 6 = .ok (.goto 4, 3) := by decide +kernel
theorem d7_9 : decode jdk_29_method_65_code 9 = .ok (.iload_n 1, 1) := by decide +kernel
theorem d7_10 : decode jdk_29_method_65_code 10 = .ok (.ireturn, 1) := by decide +kernel
def Q_rm7 (Z : State) (q1 : Int32) (q2 : Int32)  (h0 : Heap) (n0 : Nat) (v : Option Value) (h : Heap) (L : List Loc) : Prop := v = some (.int (own_max q1 q2)) ∧ Fr n0 L ∧ h = h0
theorem ef_rm7 (m : MethodId) (x0 : Int32) (x1 : Int32) : entryFrame m #[(.int x0), (.int x1)] 2 = mkF m 0 #[.val (.int x0), .val (.int x1)] [] := by first | (simp [entryFrame, mkF, argsToLocals, Value.category]; done) | rfl
set_option maxRecDepth 65536 in
set_option maxHeartbeats 40000000 in
theorem rm7 (l : Launch) (Z : State) (a0 : Array Value) (hw : ∀ d ∈ tables_1, d.before a0 Z = true) (ws : List Jvm.Cond) (q1 : Int32) (q2 : Int32)  (h0 : Heap) (n0 : Nat) (Z0 : n0 ≤ h0.size)  :
    MetFree l (⟨"java/lang/Math", "max", "(II)I"⟩ : MethodName) (head1 (Jvm.Cond.code (⟨"java/lang/Math", "max", "(II)I"⟩ : MethodName) jdk_29_method_65_code 2 (some .int) :: ws) ({ frames := 0, cells := 0, slots := 0, locals := 0 } : Room)) (fun a' U => a' = #[(.int q1), (.int q2)] ∧ Z.Warmed39 U.vm ∧ U.heap = h0) (fun _ _ _ _ _ => True) (fun _ U o U' => ∃ v L, o = .returned v ∧ Q_rm7 Z q1 q2 h0 n0 v U'.heap L ∧ FrameEnd U o U' L ({ frames := 0, cells := 0, slots := 0, locals := 0 } : Room).cells ({ frames := 0, cells := 0, slots := 0, locals := 0 } : Room).slots) := by
  refine MetFree.of_bodySF (Jvm.Free.JP.mathPlain rfl (by decide +kernel)) hisR ?_
  intro p e s m args below meth cd0 s₁ Bd hml0 hP hK
  obtain ⟨rfl, hZ, hh⟩ := hP
  have hx := Bd.exec
  have hby := Bd.bytes
  have hml : cd0.maxLocals = 2 := hml0
  have hown : s.vm.findClass "java/lang/Math" = some m.cls := findClass_of_methodNamed Bd.named
  have hnm := (name_of_methodNamed Bd.named Bd.method).1
  have X : Stand p l e ({ frames := 0, cells := 0, slots := 0, locals := 0 } : Room) s m #[(.int q1), (.int q2)] below meth cd0 s₁ [] 0 0 := Stand.of_body Bd
  have eh : s₁.heap = h0 := by rw [← hh, Bd.state]; rfl
  have N := Fr.nil n0
  have K : Keep h0 h0 [] := Keep.refl _ _
  have pre0 : ∀ t, Steps p.tables e below (s₁.setTop (mkF m 0 #[.val (.int q1), .val (.int q2)] [])) t → Steps p.tables e below (s₁.setTop (entryFrame m #[(.int q1), (.int q2)] 2)) t := fun t k => castTop (ef_rm7 m q1 q2) k
  have st : ∀ t, Steps p.tables e below (s₁.setTop (mkF m 0 #[.val (.int q1), .val (.int q2)] [])) t → Steps p.tables e below (s₁.setTop (mkF m 0 #[.val (.int q1), .val (.int q2)] [])) t := fun t k => k
  obtain ⟨r, hv_r, sx⟩ : ∃ (r : Int32), r = (if q1 < q2 then q2 else q1) ∧ ∀ t, Steps p.tables e below (s₁.setTop (mkF m 10 #[.val (.int q1), .val (.int q2)] [(.int r)])) t → Steps p.tables e below (s₁.setTop (mkF m 0 #[.val (.int q1), .val (.int q2)] [])) t := by
    by_cases hj1 : q1 < q2
    · refine ⟨q2, by rw [if_pos hj1], fun t k => ?_⟩
      show Steps p.tables e below (s₁.setTop (mkF m 0 #[.val (.int q1), .val (.int q2)] [])) _
      refine XS.iloadN X.here hx rfl (hb hby d7_0) rfl ?_
      show Steps p.tables e below (s₁.setTop (mkF m 1 #[.val (.int q1), .val (.int q2)] [(.int q1)])) _
      refine XS.iloadN X.here hx rfl (hb hby d7_1) rfl ?_
      show Steps p.tables e below (s₁.setTop (mkF m 2 #[.val (.int q1), .val (.int q2)] [(.int q2), (.int q1)])) _
      refine XS.icmpYes X.here hx rfl (pc0 := 2) (pc' := 9) rfl (hb hby d7_2) rfl (tlt hj1).1 (by decide) (by decide) ?_
      show Steps p.tables e below (s₁.setTop (mkF m 9 #[.val (.int q1), .val (.int q2)] [])) _
      refine XS.iloadN X.here hx rfl (hb hby d7_9) rfl ?_
      exact k
    · refine ⟨q1, by rw [if_neg hj1], fun t k => ?_⟩
      show Steps p.tables e below (s₁.setTop (mkF m 0 #[.val (.int q1), .val (.int q2)] [])) _
      refine XS.iloadN X.here hx rfl (hb hby d7_0) rfl ?_
      show Steps p.tables e below (s₁.setTop (mkF m 1 #[.val (.int q1), .val (.int q2)] [(.int q1)])) _
      refine XS.iloadN X.here hx rfl (hb hby d7_1) rfl ?_
      show Steps p.tables e below (s₁.setTop (mkF m 2 #[.val (.int q1), .val (.int q2)] [(.int q2), (.int q1)])) _
      refine XS.icmpNo X.here hx rfl (hb hby d7_2) rfl (flt hj1).1 ?_
      show Steps p.tables e below (s₁.setTop (mkF m 5 #[.val (.int q1), .val (.int q2)] [])) _
      refine XS.iloadN X.here hx rfl (hb hby d7_5) rfl ?_
      show Steps p.tables e below (s₁.setTop (mkF m 6 #[.val (.int q1), .val (.int q2)] [(.int q1)])) _
      refine XS.goto X.here hx rfl (pc0 := 6) (pc' := 10) rfl (hb hby d7_6) (by decide) (by decide) ?_
      exact k
  have st : ∀ t, Steps p.tables e below (s₁.setTop (mkF m 10 #[.val (.int q1), .val (.int q2)] [(.int r)])) t → Steps p.tables e below (s₁.setTop (mkF m 0 #[.val (.int q1), .val (.int q2)] [])) t := fun t k => st t (sx t k)
  obtain rfl : r = own_max q1 q2 := hv_r
  obtain ⟨fs_, hr, hrun, hended, hW, hsame⟩ := X.leave (v := some (.int (own_max q1 q2))) (fun h => by rw [Bd.returns] at h; cases h)
  refine ⟨_, _, pre0 _ (st _ ?_), hrun, hended, _, _, rfl, ?_, ⟨_, rfl⟩, hW, hsame.mono (by decide) (by decide)⟩
  · exact retI X hx Bd.returns (hb hby d7_10) hr
  · show Q_rm7 Z q1 q2 h0 n0 _ s₁.heap _
    rw [eh]
    exact ⟨rfl, N, rfl⟩
theorem d5_0 : decode prog_152_method_4_code 0 = .ok (.aload_n 0, 1) := by decide +kernel
theorem d5_1 : decode prog_152_method_4_code 1 = .ok (.iload_n 1, 1) := by decide +kernel
theorem d5_2 : decode prog_152_method_4_code 2 = .ok (.invokevirtual 23, 3) := by decide +kernel
theorem d5_5 : decode prog_152_method_4_code 5 = .ok (.istore_n 3, 1) := by decide +kernel
theorem d5_6 : decode prog_152_method_4_code 6 = .ok (.aload_n 0, 1) := by decide +kernel
theorem d5_7 : decode prog_152_method_4_code 7 = .ok (.iload_n 2, 1) := by decide +kernel
theorem d5_8 : decode prog_152_method_4_code 8 = .ok (.invokevirtual 23, 3) := by decide +kernel
theorem d5_11 : decode prog_152_method_4_code 11 = .ok (.istore 4, 2) := by decide +kernel
theorem d5_13 : decode prog_152_method_4_code 13 = .ok (.iload_n 3, 1) := by decide +kernel
theorem d5_14 : decode prog_152_method_4_code 14 = .ok (.iload 4, 2) := by decide +kernel
theorem d5_16 : decode prog_152_method_4_code 16 = .ok (.if_icmp .ne 5, 3) := by decide +kernel
theorem d5_19 : decode prog_152_method_4_code 19 = .ok (.iconst 0, 1) := by decide +kernel
theorem d5_20 : decode prog_152_method_4_code 20 = .ok (.ireturn, 1) := by decide +kernel
theorem d5_21 : decode prog_152_method_4_code 21 = .ok (.aload_n 0, 1) := by decide +kernel
theorem d5_22 : decode prog_152_method_4_code 22 = .ok (.getfield 7, 3) := by decide +kernel
theorem d5_25 : decode prog_152_method_4_code 25 = .ok (.iload_n 3, 1) := by decide +kernel
theorem d5_26 : decode prog_152_method_4_code 26 = .ok (.iload 4, 2) := by decide +kernel
theorem d5_28 : decode prog_152_method_4_code 28 = .ok (.invokestatic 17, 3) := by decide +kernel
theorem d5_31 : decode prog_152_method_4_code 31 = .ok (.iload_n 3, 1) := by decide +kernel
theorem d5_32 : decode prog_152_method_4_code 32 = .ok (.iload 4, 2) := by decide +kernel
theorem d5_34 : decode prog_152_method_4_code 34 = .ok (.invokestatic 27, 3) := by decide +kernel
theorem d5_37 : decode prog_152_method_4_code 37 = .ok (.iastore, 1) := by decide +kernel
theorem d5_38 : decode prog_152_method_4_code 38 = .ok (.iconst 1, 1) := by decide +kernel
theorem d5_39 : decode prog_152_method_4_code 39 = .ok (.ireturn, 1) := by decide +kernel
def Q_rm5 (Z : State) (a : Addr) (pa : Addr) (k_pa : ClassId) (pr lab : Nat → Nat) (xa xb : Nat) (h0 : Heap) (n0 : Nat) (v : Option Value) (h : Heap) (L : List Loc) : Prop := v = some (.int (if lab xa = lab xb then (0 : Int32) else (1 : Int32))) ∧ Fr n0 L ∧ Keep h0 h [pa] ∧ ∃ pr' : Nat → Nat, own_Inv pr' (if lab xa = lab xb then lab else own_rel lab (max (lab xa) (lab xb)) (min (lab xa) (lab xb))) ∧ Arv Z h pa k_pa .int (5 : Int32) (own_arr pr') (.int (0 : Int32))
theorem own_pd1 : parseMethodDescriptor "(I)I" = some ⟨[.int], some .int⟩ := by decide +kernel
theorem own_pd2 : parseMethodDescriptor "(II)I" = some ⟨[.int, .int], some .int⟩ := by decide +kernel
theorem ef_rm5 (m : MethodId) (x0 : Addr) (x1 : Int32) (x2 : Int32) : entryFrame m #[(.ref x0), (.int x1), (.int x2)] 5 = mkF m 0 #[.val (.ref x0), .val (.int x1), .val (.int x2), .unset, .unset] [] := by first | (simp [entryFrame, mkF, argsToLocals, Value.category]; done) | rfl
set_option maxRecDepth 65536 in
set_option maxHeartbeats 40000000 in
theorem rm5 (l : Launch) (Z : State) (a0 : Array Value) (hw : ∀ d ∈ tables_1, d.before a0 Z = true) (ws : List Jvm.Cond) (a : Addr) (pa : Addr) (k_pa : ClassId) (pr lab : Nat → Nat) (xa xb : Nat) (h0 : Heap) (n0 : Nat) (Z0 : n0 ≤ h0.size) (E_a : Exa Z h0 a "isoproof/model/Partition") (F_a_parent : Fld Z h0 a "isoproof/model/Partition" "parent" "[I" (.ref pa)) (V_pa : Arv Z h0 pa k_pa .int (5 : Int32) (own_arr pr) (.int (0 : Int32))) (g_pa : n0 ≤ pa) (ne_a_pa : a ≠ pa) (I : own_Inv pr lab) (hxa : xa < 5) (hxb : xb < 5) :
    MetFree l (⟨"isoproof/model/Partition", "union", "(II)Z"⟩ : MethodName) (head1 (Jvm.Cond.code (⟨"isoproof/model/Partition", "union", "(II)Z"⟩ : MethodName) prog_152_method_4_code 5 (some .boolean) :: ws) ({ frames := 1, cells := 0, slots := 0, locals := 15 } : Room)) (fun a' U => a' = #[(.ref a), (.int (Int32.ofNat xa)), (.int (Int32.ofNat xb))] ∧ Z.Warmed39 U.vm ∧ U.heap = h0) (fun _ _ _ _ _ => True) (fun _ U o U' => ∃ v L, o = .returned v ∧ Q_rm5 Z a pa k_pa pr lab xa xb h0 n0 v U'.heap L ∧ FrameEnd U o U' L ({ frames := 1, cells := 0, slots := 0, locals := 15 } : Room).cells ({ frames := 1, cells := 0, slots := 0, locals := 15 } : Room).slots) := by
  refine MetFree.of_bodySF (plainFor_of_name own_pn3) hisR ?_
  intro p e s m args below meth cd0 s₁ Bd hml0 hP hK
  obtain ⟨rfl, hZ, hh⟩ := hP
  have hx := Bd.exec
  have hby := Bd.bytes
  have hml : cd0.maxLocals = 5 := hml0
  have hown : s.vm.findClass "isoproof/model/Partition" = some m.cls := findClass_of_methodNamed Bd.named
  have hnm := (name_of_methodNamed Bd.named Bd.method).1
  have X : Stand p l e ({ frames := 1, cells := 0, slots := 0, locals := 15 } : Room) s m #[(.ref a), (.int (Int32.ofNat xa)), (.int (Int32.ofNat xb))] below meth cd0 s₁ [] 0 0 := Stand.of_body Bd
  have eh : s₁.heap = h0 := by rw [← hh, Bd.state]; rfl
  have N := Fr.nil n0
  have K : Keep h0 h0 [pa] := Keep.refl _ _
  have pre0 : ∀ t, Steps p.tables e below (s₁.setTop (mkF m 0 #[.val (.ref a), .val (.int (Int32.ofNat xa)), .val (.int (Int32.ofNat xb)), .unset, .unset] [])) t → Steps p.tables e below (s₁.setTop (entryFrame m #[(.ref a), (.int (Int32.ofNat xa)), (.int (Int32.ofNat xb))] 5)) t := fun t k => castTop (ef_rm5 m a (Int32.ofNat xa) (Int32.ofNat xb)) k
  have st : ∀ t, Steps p.tables e below (s₁.setTop (mkF m 0 #[.val (.ref a), .val (.int (Int32.ofNat xa)), .val (.int (Int32.ofNat xb)), .unset, .unset] [])) t → Steps p.tables e below (s₁.setTop (mkF m 0 #[.val (.ref a), .val (.int (Int32.ofNat xa)), .val (.int (Int32.ofNat xb)), .unset, .unset] [])) t := fun t k => k
  have ha5 := I xa hxa
  have hb5 := I xb hxb
  have st : ∀ t, Steps p.tables e below (s₁.setTop (mkF m 2 #[.val (.ref a), .val (.int (Int32.ofNat xa)), .val (.int (Int32.ofNat xb)), .unset, .unset] [(.int (Int32.ofNat xa)), (.ref a)])) t → Steps p.tables e below (s₁.setTop (mkF m 0 #[.val (.ref a), .val (.int (Int32.ofNat xa)), .val (.int (Int32.ofNat xb)), .unset, .unset] [])) t := fun t k => st t (by
      show Steps p.tables e below (s₁.setTop (mkF m 0 #[.val (.ref a), .val (.int (Int32.ofNat xa)), .val (.int (Int32.ofNat xb)), .unset, .unset] [])) _
      refine XS.aloadN X.here hx rfl (hb hby d5_0) rfl rfl ?_
      show Steps p.tables e below (s₁.setTop (mkF m 1 #[.val (.ref a), .val (.int (Int32.ofNat xa)), .val (.int (Int32.ofNat xb)), .unset, .unset] [(.ref a)])) _
      refine XS.iloadN X.here hx rfl (hb hby d5_1) rfl ?_
      exact k)
  obtain ⟨cq1, kq1, qa1, qb1, qc1⟩ := isOf hZ eh E_a
  obtain ⟨_, _, ⟨T2, L1, k1, n1⟩, -, X, ⟨Lc1, hQ, l1, y1, z1⟩, sx⟩ := X.virtualBack hx (y := (⟨"isoproof/model/Partition", "find", "(I)I"⟩ : MethodName)) (z := (⟨"isoproof/model/Partition", "find", "(I)I"⟩ : MethodName)) hown (mvT hZ (hw _ (List.mem_of_getElem? (i := 26) rfl))) (mvT hZ (hw _ (List.mem_of_getElem? (i := 27) rfl))) (notFace_of_selects (args := #[]) (mvT hZ (hw _ (List.mem_of_getElem? (i := 29) rfl)))) (mvT hZ (hw _ (List.mem_of_getElem? (i := 29) rfl))) (mvT hZ (hw _ (List.mem_of_getElem? (i := 28) rfl))) (by decide) (backOf (W := 0) (rm6 l Z a0 hw [] a pa k_pa pr lab xa h0 n0 Z0 F_a_parent V_pa g_pa ne_a_pa I hxa) hZ (hw _ (List.mem_of_getElem? (i := 30) rfl)) (hw _ (List.mem_of_getElem? (i := 3) rfl)) (by decide) (by decide)) qa1 qc1 (g := (mkF m 2 #[.val (.ref a), .val (.int (Int32.ofNat xa)), .val (.int (Int32.ofNat xb)), .unset, .unset] [(.int (Int32.ofNat xa)), (.ref a)])) rfl (by rw [hml]; rfl) (Steps.refl _) (argsL := [(.int (Int32.ofNat xa))]) (rest := []) (lenOf own_pd1 rfl) rfl (by show 2 * 0 + _ ≤ _; exact Nat.le_of_eq rfl) (hb hby d5_2) (fun _ _ => ⟨rfl, eh, (by decide : 0 + 0 ≤ _), (by decide : 0 + 0 ≤ _)⟩)
  dsimp only [Pt.U, Pt.locs, Pt.cells, Pt.slots] at X l1 y1 z1 sx hQ
  subst l1 y1 z1
  obtain ⟨rfl, Nc, K1, pr1, I1, V_pa⟩ := hQ
  have st : ∀ t, Steps p.tables e below (T2.setTop (mkF m 5 #[.val (.ref a), .val (.int (Int32.ofNat xa)), .val (.int (Int32.ofNat xb)), .unset, .unset] [(.int (Int32.ofNat (lab xa)))])) t → Steps p.tables e below (s₁.setTop (mkF m 0 #[.val (.ref a), .val (.int (Int32.ofNat xa)), .val (.int (Int32.ofNat xb)), .unset, .unset] [])) t := fun t k => st t (sx.trans k)
  have N := Fr.app N Nc
  obtain ⟨h3, eH⟩ : ∃ z, z = T2.heap := ⟨_, rfl⟩
  rw [← eH] at K1 V_pa
  have eh : T2.heap = h3 := eH.symm
  have F_a_parent := F_a_parent.keep K1 (ninS ne_a_pa nin0)
  have E_a := E_a.keep K1
  have K := K.trans K1 (allS (Or.inl (List.mem_of_getElem? (i := 0) rfl)) all0)
  have Z0 := Nat.le_trans Z0 K1.1
  have st : ∀ t, Steps p.tables e below (T2.setTop (mkF m 8 #[.val (.ref a), .val (.int (Int32.ofNat xa)), .val (.int (Int32.ofNat xb)), .val (.int (Int32.ofNat (lab xa))), .unset] [(.int (Int32.ofNat xb)), (.ref a)])) t → Steps p.tables e below (s₁.setTop (mkF m 0 #[.val (.ref a), .val (.int (Int32.ofNat xa)), .val (.int (Int32.ofNat xb)), .unset, .unset] [])) t := fun t k => st t (by
      show Steps p.tables e below (T2.setTop (mkF m 5 #[.val (.ref a), .val (.int (Int32.ofNat xa)), .val (.int (Int32.ofNat xb)), .unset, .unset] [(.int (Int32.ofNat (lab xa)))])) _
      refine XS.istoreN X.here hx rfl (hb hby d5_5) rfl (l' := #[.val (.ref a), .val (.int (Int32.ofNat xa)), .val (.int (Int32.ofNat xb)), .val (.int (Int32.ofNat (lab xa))), .unset]) rfl ?_
      show Steps p.tables e below (T2.setTop (mkF m 6 #[.val (.ref a), .val (.int (Int32.ofNat xa)), .val (.int (Int32.ofNat xb)), .val (.int (Int32.ofNat (lab xa))), .unset] [])) _
      refine XS.aloadN X.here hx rfl (hb hby d5_6) rfl rfl ?_
      show Steps p.tables e below (T2.setTop (mkF m 7 #[.val (.ref a), .val (.int (Int32.ofNat xa)), .val (.int (Int32.ofNat xb)), .val (.int (Int32.ofNat (lab xa))), .unset] [(.ref a)])) _
      refine XS.iloadN X.here hx rfl (hb hby d5_7) rfl ?_
      exact k)
  obtain ⟨cq4, kq4, qa4, qb4, qc4⟩ := isOf hZ eh E_a
  obtain ⟨_, _, ⟨T5, L4, k4, n4⟩, -, X, ⟨Lc4, hQ, l4, y4, z4⟩, sx⟩ := X.virtualBack hx (y := (⟨"isoproof/model/Partition", "find", "(I)I"⟩ : MethodName)) (z := (⟨"isoproof/model/Partition", "find", "(I)I"⟩ : MethodName)) hown (mvT hZ (hw _ (List.mem_of_getElem? (i := 26) rfl))) (mvT hZ (hw _ (List.mem_of_getElem? (i := 27) rfl))) (notFace_of_selects (args := #[]) (mvT hZ (hw _ (List.mem_of_getElem? (i := 29) rfl)))) (mvT hZ (hw _ (List.mem_of_getElem? (i := 29) rfl))) (mvT hZ (hw _ (List.mem_of_getElem? (i := 28) rfl))) (by decide) (backOf (W := 0) (rm6 l Z a0 hw [] a pa k_pa pr1 lab xb h3 n0 Z0 F_a_parent V_pa g_pa ne_a_pa I1 hxb) hZ (hw _ (List.mem_of_getElem? (i := 30) rfl)) (hw _ (List.mem_of_getElem? (i := 3) rfl)) (by decide) (by decide)) qa4 qc4 (g := (mkF m 8 #[.val (.ref a), .val (.int (Int32.ofNat xa)), .val (.int (Int32.ofNat xb)), .val (.int (Int32.ofNat (lab xa))), .unset] [(.int (Int32.ofNat xb)), (.ref a)])) rfl (by rw [hml]; rfl) (Steps.refl _) (argsL := [(.int (Int32.ofNat xb))]) (rest := []) (lenOf own_pd1 rfl) rfl (by show 2 * 0 + _ ≤ _; exact Nat.le_of_eq rfl) (hb hby d5_8) (fun _ _ => ⟨rfl, eh, (by decide : 0 + 0 ≤ _), (by decide : 0 + 0 ≤ _)⟩)
  dsimp only [Pt.U, Pt.locs, Pt.cells, Pt.slots] at X l4 y4 z4 sx hQ
  subst l4 y4 z4
  obtain ⟨rfl, Nc, K2, pr2, I2, V_pa⟩ := hQ
  have st : ∀ t, Steps p.tables e below (T5.setTop (mkF m 11 #[.val (.ref a), .val (.int (Int32.ofNat xa)), .val (.int (Int32.ofNat xb)), .val (.int (Int32.ofNat (lab xa))), .unset] [(.int (Int32.ofNat (lab xb)))])) t → Steps p.tables e below (s₁.setTop (mkF m 0 #[.val (.ref a), .val (.int (Int32.ofNat xa)), .val (.int (Int32.ofNat xb)), .unset, .unset] [])) t := fun t k => st t (sx.trans k)
  have N := Fr.app N Nc
  obtain ⟨h6, eH⟩ : ∃ z, z = T5.heap := ⟨_, rfl⟩
  rw [← eH] at K2 V_pa
  have eh : T5.heap = h6 := eH.symm
  have F_a_parent := F_a_parent.keep K2 (ninS ne_a_pa nin0)
  have E_a := E_a.keep K2
  have K := K.trans K2 (allS (Or.inl (List.mem_of_getElem? (i := 0) rfl)) all0)
  have Z0 := Nat.le_trans Z0 K2.1
  have st : ∀ t, Steps p.tables e below (T5.setTop (mkF m 16 #[.val (.ref a), .val (.int (Int32.ofNat xa)), .val (.int (Int32.ofNat xb)), .val (.int (Int32.ofNat (lab xa))), .val (.int (Int32.ofNat (lab xb)))] [(.int (Int32.ofNat (lab xb))), (.int (Int32.ofNat (lab xa)))])) t → Steps p.tables e below (s₁.setTop (mkF m 0 #[.val (.ref a), .val (.int (Int32.ofNat xa)), .val (.int (Int32.ofNat xb)), .unset, .unset] [])) t := fun t k => st t (by
      show Steps p.tables e below (T5.setTop (mkF m 11 #[.val (.ref a), .val (.int (Int32.ofNat xa)), .val (.int (Int32.ofNat xb)), .val (.int (Int32.ofNat (lab xa))), .unset] [(.int (Int32.ofNat (lab xb)))])) _
      refine XS.istore X.here hx rfl (hb hby d5_11) rfl (l' := #[.val (.ref a), .val (.int (Int32.ofNat xa)), .val (.int (Int32.ofNat xb)), .val (.int (Int32.ofNat (lab xa))), .val (.int (Int32.ofNat (lab xb)))]) rfl ?_
      show Steps p.tables e below (T5.setTop (mkF m 13 #[.val (.ref a), .val (.int (Int32.ofNat xa)), .val (.int (Int32.ofNat xb)), .val (.int (Int32.ofNat (lab xa))), .val (.int (Int32.ofNat (lab xb)))] [])) _
      refine XS.iloadN X.here hx rfl (hb hby d5_13) rfl ?_
      show Steps p.tables e below (T5.setTop (mkF m 14 #[.val (.ref a), .val (.int (Int32.ofNat xa)), .val (.int (Int32.ofNat xb)), .val (.int (Int32.ofNat (lab xa))), .val (.int (Int32.ofNat (lab xb)))] [(.int (Int32.ofNat (lab xa)))])) _
      refine XS.iload X.here hx rfl (hb hby d5_14) rfl ?_
      exact k)
  by_cases hq : (Int32.ofNat (lab xa)) = (Int32.ofNat (lab xb))
  · have e1 : lab xa = lab xb := (own_inj (by omega) (by omega)).mp hq
    have st : ∀ t, Steps p.tables e below (T5.setTop (mkF m 20 #[.val (.ref a), .val (.int (Int32.ofNat xa)), .val (.int (Int32.ofNat xb)), .val (.int (Int32.ofNat (lab xa))), .val (.int (Int32.ofNat (lab xb)))] [(.int (0 : Int32))])) t → Steps p.tables e below (s₁.setTop (mkF m 0 #[.val (.ref a), .val (.int (Int32.ofNat xa)), .val (.int (Int32.ofNat xb)), .unset, .unset] [])) t := fun t k => st t (by
        show Steps p.tables e below (T5.setTop (mkF m 16 #[.val (.ref a), .val (.int (Int32.ofNat xa)), .val (.int (Int32.ofNat xb)), .val (.int (Int32.ofNat (lab xa))), .val (.int (Int32.ofNat (lab xb)))] [(.int (Int32.ofNat (lab xb))), (.int (Int32.ofNat (lab xa)))])) _
        refine XS.icmpNo X.here hx rfl (hb hby d5_16) rfl (teq hq).2 ?_
        show Steps p.tables e below (T5.setTop (mkF m 19 #[.val (.ref a), .val (.int (Int32.ofNat xa)), .val (.int (Int32.ofNat xb)), .val (.int (Int32.ofNat (lab xa))), .val (.int (Int32.ofNat (lab xb)))] [])) _
        refine XS.iconst X.here hx rfl (hb hby d5_19) ?_
        exact k)
    obtain ⟨fs_, hr, hrun, hended, hW, hsame⟩ := X.leave (v := some (.int (0 : Int32))) (fun h => by rw [Bd.returns] at h; cases h)
    refine ⟨_, _, pre0 _ (st _ ?_), hrun, hended, _, _, rfl, ?_, ⟨_, rfl⟩, hW, hsame.mono (by decide) (by decide)⟩
    · exact retN X hx (t := .boolean) Bd.returns (by simp) (hb hby d5_20) hr
    · show Q_rm5 Z a pa k_pa pr lab xa xb h0 n0 _ T5.heap _
      rw [eh]
      exact ⟨by rw [if_pos e1], N, K, pr2, by rw [if_pos e1]; exact I2, V_pa⟩
  · have e1 : ¬ lab xa = lab xb := fun z => hq ((own_inj (by omega) (by omega)).mpr z)
    have st : ∀ t, Steps p.tables e below (T5.setTop (mkF m 22 #[.val (.ref a), .val (.int (Int32.ofNat xa)), .val (.int (Int32.ofNat xb)), .val (.int (Int32.ofNat (lab xa))), .val (.int (Int32.ofNat (lab xb)))] [(.ref a)])) t → Steps p.tables e below (s₁.setTop (mkF m 0 #[.val (.ref a), .val (.int (Int32.ofNat xa)), .val (.int (Int32.ofNat xb)), .unset, .unset] [])) t := fun t k => st t (by
        show Steps p.tables e below (T5.setTop (mkF m 16 #[.val (.ref a), .val (.int (Int32.ofNat xa)), .val (.int (Int32.ofNat xb)), .val (.int (Int32.ofNat (lab xa))), .val (.int (Int32.ofNat (lab xb)))] [(.int (Int32.ofNat (lab xb))), (.int (Int32.ofNat (lab xa)))])) _
        refine XS.icmpYes X.here hx rfl (pc0 := 16) (pc' := 21) rfl (hb hby d5_16) rfl (feq hq).2 (by decide) (by decide) ?_
        show Steps p.tables e below (T5.setTop (mkF m 21 #[.val (.ref a), .val (.int (Int32.ofNat xa)), .val (.int (Int32.ofNat xb)), .val (.int (Int32.ofNat (lab xa))), .val (.int (Int32.ofNat (lab xb)))] [])) _
        refine XS.aloadN X.here hx rfl (hb hby d5_21) rfl rfl ?_
        exact k)
    obtain ⟨T7, X, eh, sx⟩ := getF X hx hZ hown (host := "") (Or.inl (hw _ (List.mem_of_getElem? (i := 10) rfl))) Via.refl eh F_a_parent (g := (mkF m 22 #[.val (.ref a), .val (.int (Int32.ofNat xa)), .val (.int (Int32.ofNat xb)), .val (.int (Int32.ofNat (lab xa))), .val (.int (Int32.ofNat (lab xb)))] [(.ref a)])) rfl rfl (hb hby d5_22)
    have st : ∀ t, Steps p.tables e below (T7.setTop (mkF m 25 #[.val (.ref a), .val (.int (Int32.ofNat xa)), .val (.int (Int32.ofNat xb)), .val (.int (Int32.ofNat (lab xa))), .val (.int (Int32.ofNat (lab xb)))] [(.ref pa)])) t → Steps p.tables e below (s₁.setTop (mkF m 0 #[.val (.ref a), .val (.int (Int32.ofNat xa)), .val (.int (Int32.ofNat xb)), .unset, .unset] [])) t := fun t k => st t (sx t k)
    have st : ∀ t, Steps p.tables e below (T7.setTop (mkF m 28 #[.val (.ref a), .val (.int (Int32.ofNat xa)), .val (.int (Int32.ofNat xb)), .val (.int (Int32.ofNat (lab xa))), .val (.int (Int32.ofNat (lab xb)))] [(.int (Int32.ofNat (lab xb))), (.int (Int32.ofNat (lab xa))), (.ref pa)])) t → Steps p.tables e below (s₁.setTop (mkF m 0 #[.val (.ref a), .val (.int (Int32.ofNat xa)), .val (.int (Int32.ofNat xb)), .unset, .unset] [])) t := fun t k => st t (by
        show Steps p.tables e below (T7.setTop (mkF m 25 #[.val (.ref a), .val (.int (Int32.ofNat xa)), .val (.int (Int32.ofNat xb)), .val (.int (Int32.ofNat (lab xa))), .val (.int (Int32.ofNat (lab xb)))] [(.ref pa)])) _
        refine XS.iloadN X.here hx rfl (hb hby d5_25) rfl ?_
        show Steps p.tables e below (T7.setTop (mkF m 26 #[.val (.ref a), .val (.int (Int32.ofNat xa)), .val (.int (Int32.ofNat xb)), .val (.int (Int32.ofNat (lab xa))), .val (.int (Int32.ofNat (lab xb)))] [(.int (Int32.ofNat (lab xa))), (.ref pa)])) _
        refine XS.iload X.here hx rfl (hb hby d5_26) rfl ?_
        exact k)
    obtain ⟨_, _, ⟨T9, L8, k8, n8⟩, -, X, ⟨Lc8, hQ, l8, y8, z8⟩, sx⟩ := Jvm.LawKit.callS X hx (y := (⟨"java/lang/Math", "max", "(II)I"⟩ : MethodName)) hown (mvT hZ (hw _ (List.mem_of_getElem? (i := 31) rfl))) (mvT hZ (hw _ (List.mem_of_getElem? (i := 32) rfl))) (mvT hZ (hw _ (List.mem_of_getElem? (i := 33) rfl))) (mvT hZ (hw _ (List.mem_of_getElem? (i := 34) rfl))) (by decide) (backOf (W := 1) (rm7 l Z a0 hw [] (Int32.ofNat (lab xa)) (Int32.ofNat (lab xb))  h6 n0 Z0 ) hZ (hw _ (List.mem_of_getElem? (i := 34) rfl)) (hw _ (List.mem_of_getElem? (i := 33) rfl)) (by decide) (by decide)) (g := (mkF m 28 #[.val (.ref a), .val (.int (Int32.ofNat xa)), .val (.int (Int32.ofNat xb)), .val (.int (Int32.ofNat (lab xa))), .val (.int (Int32.ofNat (lab xb)))] [(.int (Int32.ofNat (lab xb))), (.int (Int32.ofNat (lab xa))), (.ref pa)])) rfl (by rw [hml]; rfl) (argsL := [(.int (Int32.ofNat (lab xa))), (.int (Int32.ofNat (lab xb)))]) (rest := [(.ref pa)]) (lenOf own_pd2 rfl) rfl (by show 2 * 0 + _ ≤ _; exact Nat.le_of_eq rfl) (hb hby d5_28) (fun _ _ => ⟨rfl, eh, (by decide : 0 + 0 ≤ _), (by decide : 0 + 0 ≤ _)⟩)
    dsimp only [Pt.U, Pt.locs, Pt.cells, Pt.slots] at X l8 y8 z8 sx hQ
    subst l8 y8 z8
    obtain ⟨rfl, Nc, hsame_⟩ := hQ
    have st : ∀ t, Steps p.tables e below (T9.setTop (mkF m 31 #[.val (.ref a), .val (.int (Int32.ofNat xa)), .val (.int (Int32.ofNat xb)), .val (.int (Int32.ofNat (lab xa))), .val (.int (Int32.ofNat (lab xb)))] [(.int (own_max (Int32.ofNat (lab xa)) (Int32.ofNat (lab xb)))), (.ref pa)])) t → Steps p.tables e below (s₁.setTop (mkF m 0 #[.val (.ref a), .val (.int (Int32.ofNat xa)), .val (.int (Int32.ofNat xb)), .unset, .unset] [])) t := fun t k => st t (sx t k)
    have N := Fr.app N Nc
    have eh : T9.heap = h6 := hsame_
    rw [own_mx (by omega) (by omega)] at st
    have st : ∀ t, Steps p.tables e below (T9.setTop (mkF m 34 #[.val (.ref a), .val (.int (Int32.ofNat xa)), .val (.int (Int32.ofNat xb)), .val (.int (Int32.ofNat (lab xa))), .val (.int (Int32.ofNat (lab xb)))] [(.int (Int32.ofNat (lab xb))), (.int (Int32.ofNat (lab xa))), (.int (Int32.ofNat (max (lab xa) (lab xb)))), (.ref pa)])) t → Steps p.tables e below (s₁.setTop (mkF m 0 #[.val (.ref a), .val (.int (Int32.ofNat xa)), .val (.int (Int32.ofNat xb)), .unset, .unset] [])) t := fun t k => st t (by
        show Steps p.tables e below (T9.setTop (mkF m 31 #[.val (.ref a), .val (.int (Int32.ofNat xa)), .val (.int (Int32.ofNat xb)), .val (.int (Int32.ofNat (lab xa))), .val (.int (Int32.ofNat (lab xb)))] [(.int (Int32.ofNat (max (lab xa) (lab xb)))), (.ref pa)])) _
        refine XS.iloadN X.here hx rfl (hb hby d5_31) rfl ?_
        show Steps p.tables e below (T9.setTop (mkF m 32 #[.val (.ref a), .val (.int (Int32.ofNat xa)), .val (.int (Int32.ofNat xb)), .val (.int (Int32.ofNat (lab xa))), .val (.int (Int32.ofNat (lab xb)))] [(.int (Int32.ofNat (lab xa))), (.int (Int32.ofNat (max (lab xa) (lab xb)))), (.ref pa)])) _
        refine XS.iload X.here hx rfl (hb hby d5_32) rfl ?_
        exact k)
    obtain ⟨_, _, ⟨T11, L10, k10, n10⟩, -, X, ⟨Lc10, hQ, l10, y10, z10⟩, sx⟩ := Jvm.LawKit.callS X hx (y := (⟨"java/lang/Math", "min", "(II)I"⟩ : MethodName)) hown (mvT hZ (hw _ (List.mem_of_getElem? (i := 35) rfl))) (mvT hZ (hw _ (List.mem_of_getElem? (i := 36) rfl))) (mvT hZ (hw _ (List.mem_of_getElem? (i := 33) rfl))) (mvT hZ (hw _ (List.mem_of_getElem? (i := 37) rfl))) (by decide) (backOf (W := 2) (rm8 l Z a0 hw [] (Int32.ofNat (lab xa)) (Int32.ofNat (lab xb))  h6 n0 Z0 ) hZ (hw _ (List.mem_of_getElem? (i := 37) rfl)) (hw _ (List.mem_of_getElem? (i := 33) rfl)) (by decide) (by decide)) (g := (mkF m 34 #[.val (.ref a), .val (.int (Int32.ofNat xa)), .val (.int (Int32.ofNat xb)), .val (.int (Int32.ofNat (lab xa))), .val (.int (Int32.ofNat (lab xb)))] [(.int (Int32.ofNat (lab xb))), (.int (Int32.ofNat (lab xa))), (.int (Int32.ofNat (max (lab xa) (lab xb)))), (.ref pa)])) rfl (by rw [hml]; rfl) (argsL := [(.int (Int32.ofNat (lab xa))), (.int (Int32.ofNat (lab xb)))]) (rest := [(.int (Int32.ofNat (max (lab xa) (lab xb)))), (.ref pa)]) (lenOf own_pd2 rfl) rfl (by show 2 * 0 + _ ≤ _; exact Nat.le_of_eq rfl) (hb hby d5_34) (fun _ _ => ⟨rfl, eh, (by decide : 0 + 0 ≤ _), (by decide : 0 + 0 ≤ _)⟩)
    dsimp only [Pt.U, Pt.locs, Pt.cells, Pt.slots] at X l10 y10 z10 sx hQ
    subst l10 y10 z10
    obtain ⟨rfl, Nc, hsame_⟩ := hQ
    have st : ∀ t, Steps p.tables e below (T11.setTop (mkF m 37 #[.val (.ref a), .val (.int (Int32.ofNat xa)), .val (.int (Int32.ofNat xb)), .val (.int (Int32.ofNat (lab xa))), .val (.int (Int32.ofNat (lab xb)))] [(.int (own_min (Int32.ofNat (lab xa)) (Int32.ofNat (lab xb)))), (.int (Int32.ofNat (max (lab xa) (lab xb)))), (.ref pa)])) t → Steps p.tables e below (s₁.setTop (mkF m 0 #[.val (.ref a), .val (.int (Int32.ofNat xa)), .val (.int (Int32.ofNat xb)), .unset, .unset] [])) t := fun t k => st t (sx t k)
    have N := Fr.app N Nc
    have eh : T11.heap = h6 := hsame_
    rw [own_mn (by omega) (by omega)] at st
    have hmx : (max (lab xa) (lab xb)) < 5 := by omega
    obtain ⟨cl12, Ar12, hin12, hat12⟩ := own_rd V_pa (max (lab xa) (lab xb)) hmx
    obtain ⟨T13, h14, X, eh, W12, sx⟩ := stI X hx hZ eh Ar12 (j := (Int32.ofNat (max (lab xa) (lab xb)))) hin12 (g := (mkF m 37 #[.val (.ref a), .val (.int (Int32.ofNat xa)), .val (.int (Int32.ofNat xb)), .val (.int (Int32.ofNat (lab xa))), .val (.int (Int32.ofNat (lab xb)))] [(.int (Int32.ofNat (min (lab xa) (lab xb)))), (.int (Int32.ofNat (max (lab xa) (lab xb)))), (.ref pa)])) rfl rfl (hb hby d5_37)
    have st : ∀ t, Steps p.tables e below (T13.setTop (mkF m 38 #[.val (.ref a), .val (.int (Int32.ofNat xa)), .val (.int (Int32.ofNat xb)), .val (.int (Int32.ofNat (lab xa))), .val (.int (Int32.ofNat (lab xb)))] [])) t → Steps p.tables e below (s₁.setTop (mkF m 0 #[.val (.ref a), .val (.int (Int32.ofNat xa)), .val (.int (Int32.ofNat xb)), .unset, .unset] [])) t := fun t k => st t (sx t k)
    have F_a_parent := F_a_parent.other W12 (Or.inl ne_a_pa)
    have E_a := E_a.wr W12
    have K := K.wr W12 (Or.inl (List.mem_of_getElem? (i := 0) rfl))
    have Z0 := Nat.le_trans Z0 (Keep.of_wr W12).1
    have V_pa := own_st V_pa (max (lab xa) (lab xb)) hmx (min (lab xa) (lab xb)) W12
    have N := Fr.snoc X N g_pa
    have st : ∀ t, Steps p.tables e below (T13.setTop (mkF m 39 #[.val (.ref a), .val (.int (Int32.ofNat xa)), .val (.int (Int32.ofNat xb)), .val (.int (Int32.ofNat (lab xa))), .val (.int (Int32.ofNat (lab xb)))] [(.int (1 : Int32))])) t → Steps p.tables e below (s₁.setTop (mkF m 0 #[.val (.ref a), .val (.int (Int32.ofNat xa)), .val (.int (Int32.ofNat xb)), .unset, .unset] [])) t := fun t k => st t (by
        show Steps p.tables e below (T13.setTop (mkF m 38 #[.val (.ref a), .val (.int (Int32.ofNat xa)), .val (.int (Int32.ofNat xb)), .val (.int (Int32.ofNat (lab xa))), .val (.int (Int32.ofNat (lab xb)))] [])) _
        refine XS.iconst X.here hx rfl (hb hby d5_38) ?_
        exact k)
    obtain ⟨fs_, hr, hrun, hended, hW, hsame⟩ := X.leave (v := some (.int (1 : Int32))) (fun h => by rw [Bd.returns] at h; cases h)
    refine ⟨_, _, pre0 _ (st _ ?_), hrun, hended, _, _, rfl, ?_, ⟨_, rfl⟩, hW, hsame.mono (by decide) (by decide)⟩
    · exact retN X hx (t := .boolean) Bd.returns (by simp) (hb hby d5_39) hr
    · show Q_rm5 Z a pa k_pa pr lab xa xb h0 n0 _ T13.heap _
      rw [eh]
      exact ⟨by rw [if_neg e1], N, K, _, by rw [if_neg e1]; exact I2.join hxa hxb e1, V_pa⟩
def own_part (lab : Nat → Nat) (hi lo n : Nat) : Nat → Nat := fun i => if i < n ∧ lab i = hi then lo else lab i
theorem own_partAt (lab : Nat → Nat) (hi lo n : Nat) : own_part lab hi lo n n = lab n := by unfold own_part; rw [if_neg (fun q => Nat.lt_irrefl _ q.1)]
theorem own_partYes {lab : Nat → Nat} {hi lo n : Nat} (h : lab n = hi) : own_arr (own_upd (own_part lab hi lo n) n lo) = own_arr (own_part lab hi lo (n + 1)) := own_eqf fun i _ => by
  unfold own_upd own_part
  by_cases q : i = n
  · subst q; rw [if_pos rfl, if_pos ⟨Nat.lt_succ_self _, h⟩]
  · rw [if_neg q]
    by_cases r : i < n ∧ lab i = hi
    · rw [if_pos r, if_pos ⟨by omega, r.2⟩]
    · rw [if_neg r, if_neg (fun z => r ⟨by omega, z.2⟩)]
theorem own_partNo {lab : Nat → Nat} {hi lo n : Nat} (h : ¬ lab n = hi) : own_arr (own_part lab hi lo n) = own_arr (own_part lab hi lo (n + 1)) := own_eqf fun i _ => by
  unfold own_part
  by_cases q : i = n
  · subst q; rw [if_neg (fun z => h z.2), if_neg (fun z => h z.2)]
  · by_cases r : i < n ∧ lab i = hi
    · rw [if_pos r, if_pos ⟨by omega, r.2⟩]
    · rw [if_neg r, if_neg (fun z => r ⟨by omega, z.2⟩)]
theorem own_part0 (lab : Nat → Nat) (hi lo : Nat) : own_arr lab = own_arr (own_part lab hi lo 0) := own_eqf fun i _ => by unfold own_part; rw [if_neg (fun q => Nat.not_lt_zero _ q.1)]
theorem own_part5 (lab : Nat → Nat) (hi lo : Nat) : own_arr (own_part lab hi lo 5) = own_arr (own_rel lab hi lo) := own_eqf fun i hi5 => by
  unfold own_part own_rel
  by_cases r : lab i = hi
  · rw [if_pos ⟨hi5, r⟩, if_pos r]
  · rw [if_neg (fun z => r z.2), if_neg r]
theorem d9_0 : decode method_4_code 0 = .ok (.aload_n 0, 1) := by decide +kernel
theorem d9_1 : decode method_4_code 1 = .ok (.iconst 0, 1) := by decide +kernel
theorem d9_2 : decode method_4_code 2 = .ok (.iaload, 1) := by decide +kernel
theorem d9_3 : decode method_4_code 3 = .ok (.iload_n 1, 1) := by decide +kernel
theorem d9_4 : decode method_4_code 4 = .ok (.if_icmp .ne 7, 3) := by decide +kernel
theorem d9_7 : decode method_4_code 7 = .ok (.aload_n 0, 1) := by decide +kernel
theorem d9_8 : decode method_4_code 8 = .ok (.iconst 0, 1) := by decide +kernel
theorem d9_9 : decode method_4_code 9 = .ok (.iload_n 2, 1) := by decide +kernel
theorem d9_10 : decode method_4_code 10 = .ok (.iastore, 1) := by decide +kernel
theorem d9_11 : decode method_4_code 11 = .ok (.aload_n 0, 1) := by decide +kernel
theorem d9_12 : decode method_4_code 12 = .ok (.iconst 1, 1) := by decide +kernel
theorem d9_13 : decode method_4_code 13 = .ok (.iaload, 1) := by decide +kernel
theorem d9_14 : decode method_4_code 14 = .ok (.iload_n 1, 1) := by decide +kernel
theorem d9_15 : decode method_4_code 15 = .ok (.if_icmp .ne 7, 3) := by decide +kernel
theorem d9_18 : decode method_4_code 18 = .ok (.aload_n 0, 1) := by decide +kernel
theorem d9_19 : decode method_4_code 19 = .ok (.iconst 1, 1) := by decide +kernel
theorem d9_20 : decode method_4_code 20 = .ok (.iload_n 2, 1) := by decide +kernel
theorem d9_21 : decode method_4_code 21 = .ok (.iastore, 1) := by decide +kernel
theorem d9_22 : decode method_4_code 22 = .ok (.aload_n 0, 1) := by decide +kernel
theorem d9_23 : decode method_4_code 23 = .ok (.iconst 2, 1) := by decide +kernel
theorem d9_24 : decode method_4_code 24 = .ok (.iaload, 1) := by decide +kernel
theorem d9_25 : decode method_4_code 25 = .ok (.iload_n 1, 1) := by decide +kernel
theorem d9_26 : decode method_4_code 26 = .ok (.if_icmp .ne 7, 3) := by decide +kernel
theorem d9_29 : decode method_4_code 29 = .ok (.aload_n 0, 1) := by decide +kernel
theorem d9_30 : decode method_4_code 30 = .ok (.iconst 2, 1) := by decide +kernel
theorem d9_31 : decode method_4_code 31 = .ok (.iload_n 2, 1) := by decide +kernel
theorem d9_32 : decode method_4_code 32 = .ok (.iastore, 1) := by decide +kernel
theorem d9_33 : decode method_4_code 33 = .ok (.aload_n 0, 1) := by decide +kernel
theorem d9_34 : decode method_4_code 34 = .ok (.iconst 3, 1) := by decide +kernel
theorem d9_35 : decode method_4_code 35 = .ok (.iaload, 1) := by decide +kernel
theorem d9_36 : decode method_4_code 36 = .ok (.iload_n 1, 1) := by decide +kernel
theorem d9_37 : decode method_4_code 37 = .ok (.if_icmp .ne 7, 3) := by decide +kernel
theorem d9_40 : decode method_4_code 40 = .ok (.aload_n 0, 1) := by decide +kernel
theorem d9_41 : decode method_4_code 41 = .ok (.iconst 3, 1) := by decide +kernel
theorem d9_42 : decode method_4_code 42 = .ok (.iload_n 2, 1) := by decide +kernel
theorem d9_43 : decode method_4_code 43 = .ok (.iastore, 1) := by decide +kernel
theorem d9_44 : decode method_4_code 44 = .ok (.aload_n 0, 1) := by decide +kernel
theorem d9_45 : decode method_4_code 45 = .ok (.iconst 4, 1) := by decide +kernel
theorem d9_46 : decode method_4_code 46 = .ok (.iaload, 1) := by decide +kernel
theorem d9_47 : decode method_4_code 47 = .ok (.iload_n 1, 1) := by decide +kernel
theorem d9_48 : decode method_4_code 48 = .ok (.if_icmp .ne 7, 3) := by decide +kernel
theorem d9_51 : decode method_4_code 51 = .ok (.aload_n 0, 1) := by decide +kernel
theorem d9_52 : decode method_4_code 52 = .ok (.iconst 4, 1) := by decide +kernel
theorem d9_53 : decode method_4_code 53 = .ok (.iload_n 2, 1) := by decide +kernel
theorem d9_54 : decode method_4_code 54 = .ok (.iastore, 1) := by decide +kernel
theorem d9_55 : decode method_4_code 55 = .ok (.return_, 1) := by decide +kernel
theorem own_pn9 : plainName "isoproof/model/PartitionFindPinLaw" = true := by first | (simp [plainName, overriddenIn]; done) | decide +kernel
def Q_rm9 (Z : State) (la : Addr) (k_la : ClassId) (lab : Nat → Nat) (hi lo : Nat) (h0 : Heap) (n0 : Nat) (v : Option Value) (h : Heap) (L : List Loc) : Prop := v = none ∧ Fr n0 L ∧ Keep h0 h [la] ∧ Arv Z h la k_la .int (5 : Int32) (own_arr (own_rel lab hi lo)) (.int (0 : Int32))
theorem ef_rm9 (m : MethodId) (x0 : Addr) (x1 : Int32) (x2 : Int32) : entryFrame m #[(.ref x0), (.int x1), (.int x2)] 3 = mkF m 0 #[.val (.ref x0), .val (.int x1), .val (.int x2)] [] := by first | (simp [entryFrame, mkF, argsToLocals, Value.category]; done) | rfl
set_option maxRecDepth 65536 in
set_option maxHeartbeats 40000000 in
theorem rm9 (l : Launch) (Z : State) (a0 : Array Value) (hw : ∀ d ∈ tables_1, d.before a0 Z = true) (ws : List Jvm.Cond) (la : Addr) (k_la : ClassId) (lab : Nat → Nat) (hi lo : Nat) (h0 : Heap) (n0 : Nat) (Z0 : n0 ≤ h0.size) (V_la : Arv Z h0 la k_la .int (5 : Int32) (own_arr lab) (.int (0 : Int32))) (g_la : n0 ≤ la) (hlab : ∀ i, i < 5 → lab i < 5) (hhi : hi < 5) :
    MetFree l (⟨"isoproof/model/PartitionFindPinLaw", "relabel", "([III)V"⟩ : MethodName) (head1 (Jvm.Cond.code (⟨"isoproof/model/PartitionFindPinLaw", "relabel", "([III)V"⟩ : MethodName) method_4_code 3 none :: ws) ({ frames := 0, cells := 0, slots := 0, locals := 0 } : Room)) (fun a' U => a' = #[(.ref la), (.int (Int32.ofNat hi)), (.int (Int32.ofNat lo))] ∧ Z.Warmed39 U.vm ∧ U.heap = h0) (fun _ _ _ _ _ => True) (fun _ U o U' => ∃ v L, o = .returned v ∧ Q_rm9 Z la k_la lab hi lo h0 n0 v U'.heap L ∧ FrameEnd U o U' L ({ frames := 0, cells := 0, slots := 0, locals := 0 } : Room).cells ({ frames := 0, cells := 0, slots := 0, locals := 0 } : Room).slots) := by
  refine MetFree.of_bodySF (plainFor_of_name own_pn9) hisR ?_
  intro p e s m args below meth cd0 s₁ Bd hml0 hP hK
  obtain ⟨rfl, hZ, hh⟩ := hP
  have hx := Bd.exec
  have hby := Bd.bytes
  have hml : cd0.maxLocals = 3 := hml0
  have hown : s.vm.findClass "isoproof/model/PartitionFindPinLaw" = some m.cls := findClass_of_methodNamed Bd.named
  have hnm := (name_of_methodNamed Bd.named Bd.method).1
  have X : Stand p l e ({ frames := 0, cells := 0, slots := 0, locals := 0 } : Room) s m #[(.ref la), (.int (Int32.ofNat hi)), (.int (Int32.ofNat lo))] below meth cd0 s₁ [] 0 0 := Stand.of_body Bd
  have eh : s₁.heap = h0 := by rw [← hh, Bd.state]; rfl
  have N := Fr.nil n0
  have K : Keep h0 h0 [la] := Keep.refl _ _
  have pre0 : ∀ t, Steps p.tables e below (s₁.setTop (mkF m 0 #[.val (.ref la), .val (.int (Int32.ofNat hi)), .val (.int (Int32.ofNat lo))] [])) t → Steps p.tables e below (s₁.setTop (entryFrame m #[(.ref la), (.int (Int32.ofNat hi)), (.int (Int32.ofNat lo))] 3)) t := fun t k => castTop (ef_rm9 m la (Int32.ofNat hi) (Int32.ofNat lo)) k
  have st : ∀ t, Steps p.tables e below (s₁.setTop (mkF m 0 #[.val (.ref la), .val (.int (Int32.ofNat hi)), .val (.int (Int32.ofNat lo))] [])) t → Steps p.tables e below (s₁.setTop (mkF m 0 #[.val (.ref la), .val (.int (Int32.ofNat hi)), .val (.int (Int32.ofNat lo))] [])) t := fun t k => k
  rw [own_part0 lab hi lo] at V_la
  obtain ⟨lo1, X, N⟩ : ∃ loX, Stand p l e ({ frames := 0, cells := 0, slots := 0, locals := 0 } : Room) s m #[(.ref la), (.int (Int32.ofNat hi)), (.int (Int32.ofNat lo))] below meth cd0 s₁ loX 0 0 ∧ Fr n0 loX := ⟨_, X, N⟩
  obtain ⟨T2, h3, lo4, X, N, eh, K, Z0, V_la, sx⟩ : ∃ (T2 : State) (h3 : Heap) (lo4 : List Loc), Stand p l e ({ frames := 0, cells := 0, slots := 0, locals := 0 } : Room) s m #[(.ref la), (.int (Int32.ofNat hi)), (.int (Int32.ofNat lo))] below meth cd0 T2 lo4 0 0 ∧ Fr n0 lo4 ∧ T2.heap = h3 ∧ Keep h0 h3 [la] ∧ n0 ≤ h3.size ∧ Arv Z h3 la k_la .int (5 : Int32) (own_arr (own_part lab hi lo 1)) (.int (0 : Int32)) ∧ (∀ t, Steps p.tables e below (T2.setTop (mkF m 11 #[.val (.ref la), .val (.int (Int32.ofNat hi)), .val (.int (Int32.ofNat lo))] [])) t → Steps p.tables e below (s₁.setTop (mkF m 0 #[.val (.ref la), .val (.int (Int32.ofNat hi)), .val (.int (Int32.ofNat lo))] [])) t) := by
    have st : ∀ t, Steps p.tables e below (s₁.setTop (mkF m 0 #[.val (.ref la), .val (.int (Int32.ofNat hi)), .val (.int (Int32.ofNat lo))] [])) t → Steps p.tables e below (s₁.setTop (mkF m 0 #[.val (.ref la), .val (.int (Int32.ofNat hi)), .val (.int (Int32.ofNat lo))] [])) t := fun t k => k
    have st : ∀ t, Steps p.tables e below (s₁.setTop (mkF m 2 #[.val (.ref la), .val (.int (Int32.ofNat hi)), .val (.int (Int32.ofNat lo))] [(.int (0 : Int32)), (.ref la)])) t → Steps p.tables e below (s₁.setTop (mkF m 0 #[.val (.ref la), .val (.int (Int32.ofNat hi)), .val (.int (Int32.ofNat lo))] [])) t := fun t k => st t (by
        show Steps p.tables e below (s₁.setTop (mkF m 0 #[.val (.ref la), .val (.int (Int32.ofNat hi)), .val (.int (Int32.ofNat lo))] [])) _
        refine XS.aloadN X.here hx rfl (hb hby d9_0) rfl rfl ?_
        show Steps p.tables e below (s₁.setTop (mkF m 1 #[.val (.ref la), .val (.int (Int32.ofNat hi)), .val (.int (Int32.ofNat lo))] [(.ref la)])) _
        refine XS.iconst X.here hx rfl (hb hby d9_1) ?_
        exact k)
    obtain ⟨cl5, Ar5, hin5, hat5⟩ := own_rd V_la 0 (by decide)
    have st : ∀ t, Steps p.tables e below (s₁.setTop (mkF m 4 #[.val (.ref la), .val (.int (Int32.ofNat hi)), .val (.int (Int32.ofNat lo))] [(.int (Int32.ofNat hi)), (.int (Int32.ofNat (own_part lab hi lo 0 0)))])) t → Steps p.tables e below (s₁.setTop (mkF m 0 #[.val (.ref la), .val (.int (Int32.ofNat hi)), .val (.int (Int32.ofNat lo))] [])) t := fun t k => st t (by
        show Steps p.tables e below (s₁.setTop (mkF m 2 #[.val (.ref la), .val (.int (Int32.ofNat hi)), .val (.int (Int32.ofNat lo))] [(.int (0 : Int32)), (.ref la)])) _
        refine X.iaload hx (j := Int32.ofNat 0) (v := (.int (Int32.ofNat (own_part lab hi lo 0 0)))) (by rw [eh]; exact Ar5.1) (State.isArrayOf_alike hZ.alike Ar5.2.1) Ar5.2.2 hin5 hat5 (g := (mkF m 2 #[.val (.ref la), .val (.int (Int32.ofNat hi)), .val (.int (Int32.ofNat lo))] [(.int (0 : Int32)), (.ref la)])) rfl rfl (hb hby d9_2) _ ?_
        show Steps p.tables e below (s₁.setTop (mkF m 3 #[.val (.ref la), .val (.int (Int32.ofNat hi)), .val (.int (Int32.ofNat lo))] [(.int (Int32.ofNat (own_part lab hi lo 0 0)))])) _
        refine XS.iloadN X.here hx rfl (hb hby d9_3) rfl ?_
        exact k)
    by_cases hq : (Int32.ofNat (own_part lab hi lo 0 0)) = (Int32.ofNat hi)
    · have e1 : lab 0 = hi := by rw [← own_partAt lab hi lo 0]; exact (own_inj (by rw [own_partAt]; exact hlab _ (by decide)) hhi).mp hq
      have st : ∀ t, Steps p.tables e below (s₁.setTop (mkF m 10 #[.val (.ref la), .val (.int (Int32.ofNat hi)), .val (.int (Int32.ofNat lo))] [(.int (Int32.ofNat lo)), (.int (0 : Int32)), (.ref la)])) t → Steps p.tables e below (s₁.setTop (mkF m 0 #[.val (.ref la), .val (.int (Int32.ofNat hi)), .val (.int (Int32.ofNat lo))] [])) t := fun t k => st t (by
          show Steps p.tables e below (s₁.setTop (mkF m 4 #[.val (.ref la), .val (.int (Int32.ofNat hi)), .val (.int (Int32.ofNat lo))] [(.int (Int32.ofNat hi)), (.int (Int32.ofNat (own_part lab hi lo 0 0)))])) _
          refine XS.icmpNo X.here hx rfl (hb hby d9_4) rfl (teq hq).2 ?_
          show Steps p.tables e below (s₁.setTop (mkF m 7 #[.val (.ref la), .val (.int (Int32.ofNat hi)), .val (.int (Int32.ofNat lo))] [])) _
          refine XS.aloadN X.here hx rfl (hb hby d9_7) rfl rfl ?_
          show Steps p.tables e below (s₁.setTop (mkF m 8 #[.val (.ref la), .val (.int (Int32.ofNat hi)), .val (.int (Int32.ofNat lo))] [(.ref la)])) _
          refine XS.iconst X.here hx rfl (hb hby d9_8) ?_
          show Steps p.tables e below (s₁.setTop (mkF m 9 #[.val (.ref la), .val (.int (Int32.ofNat hi)), .val (.int (Int32.ofNat lo))] [(.int (0 : Int32)), (.ref la)])) _
          refine XS.iloadN X.here hx rfl (hb hby d9_9) rfl ?_
          exact k)
      obtain ⟨cl6, Ar6, hin6, hat6⟩ := own_rd V_la 0 (by decide)
      obtain ⟨T7, h8, X, eh, W6, sx⟩ := stI X hx hZ eh Ar6 (j := Int32.ofNat 0) hin6 (g := (mkF m 10 #[.val (.ref la), .val (.int (Int32.ofNat hi)), .val (.int (Int32.ofNat lo))] [(.int (Int32.ofNat lo)), (.int (0 : Int32)), (.ref la)])) rfl rfl (hb hby d9_10)
      have st : ∀ t, Steps p.tables e below (T7.setTop (mkF m 11 #[.val (.ref la), .val (.int (Int32.ofNat hi)), .val (.int (Int32.ofNat lo))] [])) t → Steps p.tables e below (s₁.setTop (mkF m 0 #[.val (.ref la), .val (.int (Int32.ofNat hi)), .val (.int (Int32.ofNat lo))] [])) t := fun t k => st t (sx t k)
      have K := K.wr W6 (Or.inl (List.mem_of_getElem? (i := 0) rfl))
      have Z0 := Nat.le_trans Z0 (Keep.of_wr W6).1
      have V_la := own_st V_la 0 (by decide) lo W6
      have N := Fr.snoc X N g_la
      rw [own_partYes e1] at V_la
      exact ⟨T7, h8, _, X, N, eh, K, Z0, V_la, st⟩
    · have e1 : ¬ lab 0 = hi := fun z => hq ((own_inj (by rw [own_partAt]; exact hlab _ (by decide)) hhi).mpr (by rw [own_partAt]; exact z))
      rw [own_partNo e1] at V_la
      have st : ∀ t, Steps p.tables e below (s₁.setTop (mkF m 11 #[.val (.ref la), .val (.int (Int32.ofNat hi)), .val (.int (Int32.ofNat lo))] [])) t → Steps p.tables e below (s₁.setTop (mkF m 0 #[.val (.ref la), .val (.int (Int32.ofNat hi)), .val (.int (Int32.ofNat lo))] [])) t := fun t k => st t (by
          show Steps p.tables e below (s₁.setTop (mkF m 4 #[.val (.ref la), .val (.int (Int32.ofNat hi)), .val (.int (Int32.ofNat lo))] [(.int (Int32.ofNat hi)), (.int (Int32.ofNat (own_part lab hi lo 0 0)))])) _
          refine XS.icmpYes X.here hx rfl (pc0 := 4) (pc' := 11) rfl (hb hby d9_4) rfl (feq hq).2 (by decide) (by decide) ?_
          exact k)
      exact ⟨s₁, h0, _, X, N, eh, K, Z0, V_la, st⟩
  have st : ∀ t, Steps p.tables e below (T2.setTop (mkF m 11 #[.val (.ref la), .val (.int (Int32.ofNat hi)), .val (.int (Int32.ofNat lo))] [])) t → Steps p.tables e below (s₁.setTop (mkF m 0 #[.val (.ref la), .val (.int (Int32.ofNat hi)), .val (.int (Int32.ofNat lo))] [])) t := fun t k => st t (sx t k)
  obtain ⟨lo9, X, N⟩ : ∃ loX, Stand p l e ({ frames := 0, cells := 0, slots := 0, locals := 0 } : Room) s m #[(.ref la), (.int (Int32.ofNat hi)), (.int (Int32.ofNat lo))] below meth cd0 T2 loX 0 0 ∧ Fr n0 loX := ⟨_, X, N⟩
  obtain ⟨T10, h11, lo12, X, N, eh, K, Z0, V_la, sx⟩ : ∃ (T10 : State) (h11 : Heap) (lo12 : List Loc), Stand p l e ({ frames := 0, cells := 0, slots := 0, locals := 0 } : Room) s m #[(.ref la), (.int (Int32.ofNat hi)), (.int (Int32.ofNat lo))] below meth cd0 T10 lo12 0 0 ∧ Fr n0 lo12 ∧ T10.heap = h11 ∧ Keep h0 h11 [la] ∧ n0 ≤ h11.size ∧ Arv Z h11 la k_la .int (5 : Int32) (own_arr (own_part lab hi lo 2)) (.int (0 : Int32)) ∧ (∀ t, Steps p.tables e below (T10.setTop (mkF m 22 #[.val (.ref la), .val (.int (Int32.ofNat hi)), .val (.int (Int32.ofNat lo))] [])) t → Steps p.tables e below (T2.setTop (mkF m 11 #[.val (.ref la), .val (.int (Int32.ofNat hi)), .val (.int (Int32.ofNat lo))] [])) t) := by
    have st : ∀ t, Steps p.tables e below (T2.setTop (mkF m 11 #[.val (.ref la), .val (.int (Int32.ofNat hi)), .val (.int (Int32.ofNat lo))] [])) t → Steps p.tables e below (T2.setTop (mkF m 11 #[.val (.ref la), .val (.int (Int32.ofNat hi)), .val (.int (Int32.ofNat lo))] [])) t := fun t k => k
    have st : ∀ t, Steps p.tables e below (T2.setTop (mkF m 13 #[.val (.ref la), .val (.int (Int32.ofNat hi)), .val (.int (Int32.ofNat lo))] [(.int (1 : Int32)), (.ref la)])) t → Steps p.tables e below (T2.setTop (mkF m 11 #[.val (.ref la), .val (.int (Int32.ofNat hi)), .val (.int (Int32.ofNat lo))] [])) t := fun t k => st t (by
        show Steps p.tables e below (T2.setTop (mkF m 11 #[.val (.ref la), .val (.int (Int32.ofNat hi)), .val (.int (Int32.ofNat lo))] [])) _
        refine XS.aloadN X.here hx rfl (hb hby d9_11) rfl rfl ?_
        show Steps p.tables e below (T2.setTop (mkF m 12 #[.val (.ref la), .val (.int (Int32.ofNat hi)), .val (.int (Int32.ofNat lo))] [(.ref la)])) _
        refine XS.iconst X.here hx rfl (hb hby d9_12) ?_
        exact k)
    obtain ⟨cl13, Ar13, hin13, hat13⟩ := own_rd V_la 1 (by decide)
    have st : ∀ t, Steps p.tables e below (T2.setTop (mkF m 15 #[.val (.ref la), .val (.int (Int32.ofNat hi)), .val (.int (Int32.ofNat lo))] [(.int (Int32.ofNat hi)), (.int (Int32.ofNat (own_part lab hi lo 1 1)))])) t → Steps p.tables e below (T2.setTop (mkF m 11 #[.val (.ref la), .val (.int (Int32.ofNat hi)), .val (.int (Int32.ofNat lo))] [])) t := fun t k => st t (by
        show Steps p.tables e below (T2.setTop (mkF m 13 #[.val (.ref la), .val (.int (Int32.ofNat hi)), .val (.int (Int32.ofNat lo))] [(.int (1 : Int32)), (.ref la)])) _
        refine X.iaload hx (j := Int32.ofNat 1) (v := (.int (Int32.ofNat (own_part lab hi lo 1 1)))) (by rw [eh]; exact Ar13.1) (State.isArrayOf_alike hZ.alike Ar13.2.1) Ar13.2.2 hin13 hat13 (g := (mkF m 13 #[.val (.ref la), .val (.int (Int32.ofNat hi)), .val (.int (Int32.ofNat lo))] [(.int (1 : Int32)), (.ref la)])) rfl rfl (hb hby d9_13) _ ?_
        show Steps p.tables e below (T2.setTop (mkF m 14 #[.val (.ref la), .val (.int (Int32.ofNat hi)), .val (.int (Int32.ofNat lo))] [(.int (Int32.ofNat (own_part lab hi lo 1 1)))])) _
        refine XS.iloadN X.here hx rfl (hb hby d9_14) rfl ?_
        exact k)
    by_cases hq : (Int32.ofNat (own_part lab hi lo 1 1)) = (Int32.ofNat hi)
    · have e1 : lab 1 = hi := by rw [← own_partAt lab hi lo 1]; exact (own_inj (by rw [own_partAt]; exact hlab _ (by decide)) hhi).mp hq
      have st : ∀ t, Steps p.tables e below (T2.setTop (mkF m 21 #[.val (.ref la), .val (.int (Int32.ofNat hi)), .val (.int (Int32.ofNat lo))] [(.int (Int32.ofNat lo)), (.int (1 : Int32)), (.ref la)])) t → Steps p.tables e below (T2.setTop (mkF m 11 #[.val (.ref la), .val (.int (Int32.ofNat hi)), .val (.int (Int32.ofNat lo))] [])) t := fun t k => st t (by
          show Steps p.tables e below (T2.setTop (mkF m 15 #[.val (.ref la), .val (.int (Int32.ofNat hi)), .val (.int (Int32.ofNat lo))] [(.int (Int32.ofNat hi)), (.int (Int32.ofNat (own_part lab hi lo 1 1)))])) _
          refine XS.icmpNo X.here hx rfl (hb hby d9_15) rfl (teq hq).2 ?_
          show Steps p.tables e below (T2.setTop (mkF m 18 #[.val (.ref la), .val (.int (Int32.ofNat hi)), .val (.int (Int32.ofNat lo))] [])) _
          refine XS.aloadN X.here hx rfl (hb hby d9_18) rfl rfl ?_
          show Steps p.tables e below (T2.setTop (mkF m 19 #[.val (.ref la), .val (.int (Int32.ofNat hi)), .val (.int (Int32.ofNat lo))] [(.ref la)])) _
          refine XS.iconst X.here hx rfl (hb hby d9_19) ?_
          show Steps p.tables e below (T2.setTop (mkF m 20 #[.val (.ref la), .val (.int (Int32.ofNat hi)), .val (.int (Int32.ofNat lo))] [(.int (1 : Int32)), (.ref la)])) _
          refine XS.iloadN X.here hx rfl (hb hby d9_20) rfl ?_
          exact k)
      obtain ⟨cl14, Ar14, hin14, hat14⟩ := own_rd V_la 1 (by decide)
      obtain ⟨T15, h16, X, eh, W14, sx⟩ := stI X hx hZ eh Ar14 (j := Int32.ofNat 1) hin14 (g := (mkF m 21 #[.val (.ref la), .val (.int (Int32.ofNat hi)), .val (.int (Int32.ofNat lo))] [(.int (Int32.ofNat lo)), (.int (1 : Int32)), (.ref la)])) rfl rfl (hb hby d9_21)
      have st : ∀ t, Steps p.tables e below (T15.setTop (mkF m 22 #[.val (.ref la), .val (.int (Int32.ofNat hi)), .val (.int (Int32.ofNat lo))] [])) t → Steps p.tables e below (T2.setTop (mkF m 11 #[.val (.ref la), .val (.int (Int32.ofNat hi)), .val (.int (Int32.ofNat lo))] [])) t := fun t k => st t (sx t k)
      have K := K.wr W14 (Or.inl (List.mem_of_getElem? (i := 0) rfl))
      have Z0 := Nat.le_trans Z0 (Keep.of_wr W14).1
      have V_la := own_st V_la 1 (by decide) lo W14
      have N := Fr.snoc X N g_la
      rw [own_partYes e1] at V_la
      exact ⟨T15, h16, _, X, N, eh, K, Z0, V_la, st⟩
    · have e1 : ¬ lab 1 = hi := fun z => hq ((own_inj (by rw [own_partAt]; exact hlab _ (by decide)) hhi).mpr (by rw [own_partAt]; exact z))
      rw [own_partNo e1] at V_la
      have st : ∀ t, Steps p.tables e below (T2.setTop (mkF m 22 #[.val (.ref la), .val (.int (Int32.ofNat hi)), .val (.int (Int32.ofNat lo))] [])) t → Steps p.tables e below (T2.setTop (mkF m 11 #[.val (.ref la), .val (.int (Int32.ofNat hi)), .val (.int (Int32.ofNat lo))] [])) t := fun t k => st t (by
          show Steps p.tables e below (T2.setTop (mkF m 15 #[.val (.ref la), .val (.int (Int32.ofNat hi)), .val (.int (Int32.ofNat lo))] [(.int (Int32.ofNat hi)), (.int (Int32.ofNat (own_part lab hi lo 1 1)))])) _
          refine XS.icmpYes X.here hx rfl (pc0 := 15) (pc' := 22) rfl (hb hby d9_15) rfl (feq hq).2 (by decide) (by decide) ?_
          exact k)
      exact ⟨T2, h3, _, X, N, eh, K, Z0, V_la, st⟩
  have st : ∀ t, Steps p.tables e below (T10.setTop (mkF m 22 #[.val (.ref la), .val (.int (Int32.ofNat hi)), .val (.int (Int32.ofNat lo))] [])) t → Steps p.tables e below (s₁.setTop (mkF m 0 #[.val (.ref la), .val (.int (Int32.ofNat hi)), .val (.int (Int32.ofNat lo))] [])) t := fun t k => st t (sx t k)
  obtain ⟨lo17, X, N⟩ : ∃ loX, Stand p l e ({ frames := 0, cells := 0, slots := 0, locals := 0 } : Room) s m #[(.ref la), (.int (Int32.ofNat hi)), (.int (Int32.ofNat lo))] below meth cd0 T10 loX 0 0 ∧ Fr n0 loX := ⟨_, X, N⟩
  obtain ⟨T18, h19, lo20, X, N, eh, K, Z0, V_la, sx⟩ : ∃ (T18 : State) (h19 : Heap) (lo20 : List Loc), Stand p l e ({ frames := 0, cells := 0, slots := 0, locals := 0 } : Room) s m #[(.ref la), (.int (Int32.ofNat hi)), (.int (Int32.ofNat lo))] below meth cd0 T18 lo20 0 0 ∧ Fr n0 lo20 ∧ T18.heap = h19 ∧ Keep h0 h19 [la] ∧ n0 ≤ h19.size ∧ Arv Z h19 la k_la .int (5 : Int32) (own_arr (own_part lab hi lo 3)) (.int (0 : Int32)) ∧ (∀ t, Steps p.tables e below (T18.setTop (mkF m 33 #[.val (.ref la), .val (.int (Int32.ofNat hi)), .val (.int (Int32.ofNat lo))] [])) t → Steps p.tables e below (T10.setTop (mkF m 22 #[.val (.ref la), .val (.int (Int32.ofNat hi)), .val (.int (Int32.ofNat lo))] [])) t) := by
    have st : ∀ t, Steps p.tables e below (T10.setTop (mkF m 22 #[.val (.ref la), .val (.int (Int32.ofNat hi)), .val (.int (Int32.ofNat lo))] [])) t → Steps p.tables e below (T10.setTop (mkF m 22 #[.val (.ref la), .val (.int (Int32.ofNat hi)), .val (.int (Int32.ofNat lo))] [])) t := fun t k => k
    have st : ∀ t, Steps p.tables e below (T10.setTop (mkF m 24 #[.val (.ref la), .val (.int (Int32.ofNat hi)), .val (.int (Int32.ofNat lo))] [(.int (2 : Int32)), (.ref la)])) t → Steps p.tables e below (T10.setTop (mkF m 22 #[.val (.ref la), .val (.int (Int32.ofNat hi)), .val (.int (Int32.ofNat lo))] [])) t := fun t k => st t (by
        show Steps p.tables e below (T10.setTop (mkF m 22 #[.val (.ref la), .val (.int (Int32.ofNat hi)), .val (.int (Int32.ofNat lo))] [])) _
        refine XS.aloadN X.here hx rfl (hb hby d9_22) rfl rfl ?_
        show Steps p.tables e below (T10.setTop (mkF m 23 #[.val (.ref la), .val (.int (Int32.ofNat hi)), .val (.int (Int32.ofNat lo))] [(.ref la)])) _
        refine XS.iconst X.here hx rfl (hb hby d9_23) ?_
        exact k)
    obtain ⟨cl21, Ar21, hin21, hat21⟩ := own_rd V_la 2 (by decide)
    have st : ∀ t, Steps p.tables e below (T10.setTop (mkF m 26 #[.val (.ref la), .val (.int (Int32.ofNat hi)), .val (.int (Int32.ofNat lo))] [(.int (Int32.ofNat hi)), (.int (Int32.ofNat (own_part lab hi lo 2 2)))])) t → Steps p.tables e below (T10.setTop (mkF m 22 #[.val (.ref la), .val (.int (Int32.ofNat hi)), .val (.int (Int32.ofNat lo))] [])) t := fun t k => st t (by
        show Steps p.tables e below (T10.setTop (mkF m 24 #[.val (.ref la), .val (.int (Int32.ofNat hi)), .val (.int (Int32.ofNat lo))] [(.int (2 : Int32)), (.ref la)])) _
        refine X.iaload hx (j := Int32.ofNat 2) (v := (.int (Int32.ofNat (own_part lab hi lo 2 2)))) (by rw [eh]; exact Ar21.1) (State.isArrayOf_alike hZ.alike Ar21.2.1) Ar21.2.2 hin21 hat21 (g := (mkF m 24 #[.val (.ref la), .val (.int (Int32.ofNat hi)), .val (.int (Int32.ofNat lo))] [(.int (2 : Int32)), (.ref la)])) rfl rfl (hb hby d9_24) _ ?_
        show Steps p.tables e below (T10.setTop (mkF m 25 #[.val (.ref la), .val (.int (Int32.ofNat hi)), .val (.int (Int32.ofNat lo))] [(.int (Int32.ofNat (own_part lab hi lo 2 2)))])) _
        refine XS.iloadN X.here hx rfl (hb hby d9_25) rfl ?_
        exact k)
    by_cases hq : (Int32.ofNat (own_part lab hi lo 2 2)) = (Int32.ofNat hi)
    · have e1 : lab 2 = hi := by rw [← own_partAt lab hi lo 2]; exact (own_inj (by rw [own_partAt]; exact hlab _ (by decide)) hhi).mp hq
      have st : ∀ t, Steps p.tables e below (T10.setTop (mkF m 32 #[.val (.ref la), .val (.int (Int32.ofNat hi)), .val (.int (Int32.ofNat lo))] [(.int (Int32.ofNat lo)), (.int (2 : Int32)), (.ref la)])) t → Steps p.tables e below (T10.setTop (mkF m 22 #[.val (.ref la), .val (.int (Int32.ofNat hi)), .val (.int (Int32.ofNat lo))] [])) t := fun t k => st t (by
          show Steps p.tables e below (T10.setTop (mkF m 26 #[.val (.ref la), .val (.int (Int32.ofNat hi)), .val (.int (Int32.ofNat lo))] [(.int (Int32.ofNat hi)), (.int (Int32.ofNat (own_part lab hi lo 2 2)))])) _
          refine XS.icmpNo X.here hx rfl (hb hby d9_26) rfl (teq hq).2 ?_
          show Steps p.tables e below (T10.setTop (mkF m 29 #[.val (.ref la), .val (.int (Int32.ofNat hi)), .val (.int (Int32.ofNat lo))] [])) _
          refine XS.aloadN X.here hx rfl (hb hby d9_29) rfl rfl ?_
          show Steps p.tables e below (T10.setTop (mkF m 30 #[.val (.ref la), .val (.int (Int32.ofNat hi)), .val (.int (Int32.ofNat lo))] [(.ref la)])) _
          refine XS.iconst X.here hx rfl (hb hby d9_30) ?_
          show Steps p.tables e below (T10.setTop (mkF m 31 #[.val (.ref la), .val (.int (Int32.ofNat hi)), .val (.int (Int32.ofNat lo))] [(.int (2 : Int32)), (.ref la)])) _
          refine XS.iloadN X.here hx rfl (hb hby d9_31) rfl ?_
          exact k)
      obtain ⟨cl22, Ar22, hin22, hat22⟩ := own_rd V_la 2 (by decide)
      obtain ⟨T23, h24, X, eh, W22, sx⟩ := stI X hx hZ eh Ar22 (j := Int32.ofNat 2) hin22 (g := (mkF m 32 #[.val (.ref la), .val (.int (Int32.ofNat hi)), .val (.int (Int32.ofNat lo))] [(.int (Int32.ofNat lo)), (.int (2 : Int32)), (.ref la)])) rfl rfl (hb hby d9_32)
      have st : ∀ t, Steps p.tables e below (T23.setTop (mkF m 33 #[.val (.ref la), .val (.int (Int32.ofNat hi)), .val (.int (Int32.ofNat lo))] [])) t → Steps p.tables e below (T10.setTop (mkF m 22 #[.val (.ref la), .val (.int (Int32.ofNat hi)), .val (.int (Int32.ofNat lo))] [])) t := fun t k => st t (sx t k)
      have K := K.wr W22 (Or.inl (List.mem_of_getElem? (i := 0) rfl))
      have Z0 := Nat.le_trans Z0 (Keep.of_wr W22).1
      have V_la := own_st V_la 2 (by decide) lo W22
      have N := Fr.snoc X N g_la
      rw [own_partYes e1] at V_la
      exact ⟨T23, h24, _, X, N, eh, K, Z0, V_la, st⟩
    · have e1 : ¬ lab 2 = hi := fun z => hq ((own_inj (by rw [own_partAt]; exact hlab _ (by decide)) hhi).mpr (by rw [own_partAt]; exact z))
      rw [own_partNo e1] at V_la
      have st : ∀ t, Steps p.tables e below (T10.setTop (mkF m 33 #[.val (.ref la), .val (.int (Int32.ofNat hi)), .val (.int (Int32.ofNat lo))] [])) t → Steps p.tables e below (T10.setTop (mkF m 22 #[.val (.ref la), .val (.int (Int32.ofNat hi)), .val (.int (Int32.ofNat lo))] [])) t := fun t k => st t (by
          show Steps p.tables e below (T10.setTop (mkF m 26 #[.val (.ref la), .val (.int (Int32.ofNat hi)), .val (.int (Int32.ofNat lo))] [(.int (Int32.ofNat hi)), (.int (Int32.ofNat (own_part lab hi lo 2 2)))])) _
          refine XS.icmpYes X.here hx rfl (pc0 := 26) (pc' := 33) rfl (hb hby d9_26) rfl (feq hq).2 (by decide) (by decide) ?_
          exact k)
      exact ⟨T10, h11, _, X, N, eh, K, Z0, V_la, st⟩
  have st : ∀ t, Steps p.tables e below (T18.setTop (mkF m 33 #[.val (.ref la), .val (.int (Int32.ofNat hi)), .val (.int (Int32.ofNat lo))] [])) t → Steps p.tables e below (s₁.setTop (mkF m 0 #[.val (.ref la), .val (.int (Int32.ofNat hi)), .val (.int (Int32.ofNat lo))] [])) t := fun t k => st t (sx t k)
  obtain ⟨lo25, X, N⟩ : ∃ loX, Stand p l e ({ frames := 0, cells := 0, slots := 0, locals := 0 } : Room) s m #[(.ref la), (.int (Int32.ofNat hi)), (.int (Int32.ofNat lo))] below meth cd0 T18 loX 0 0 ∧ Fr n0 loX := ⟨_, X, N⟩
  obtain ⟨T26, h27, lo28, X, N, eh, K, Z0, V_la, sx⟩ : ∃ (T26 : State) (h27 : Heap) (lo28 : List Loc), Stand p l e ({ frames := 0, cells := 0, slots := 0, locals := 0 } : Room) s m #[(.ref la), (.int (Int32.ofNat hi)), (.int (Int32.ofNat lo))] below meth cd0 T26 lo28 0 0 ∧ Fr n0 lo28 ∧ T26.heap = h27 ∧ Keep h0 h27 [la] ∧ n0 ≤ h27.size ∧ Arv Z h27 la k_la .int (5 : Int32) (own_arr (own_part lab hi lo 4)) (.int (0 : Int32)) ∧ (∀ t, Steps p.tables e below (T26.setTop (mkF m 44 #[.val (.ref la), .val (.int (Int32.ofNat hi)), .val (.int (Int32.ofNat lo))] [])) t → Steps p.tables e below (T18.setTop (mkF m 33 #[.val (.ref la), .val (.int (Int32.ofNat hi)), .val (.int (Int32.ofNat lo))] [])) t) := by
    have st : ∀ t, Steps p.tables e below (T18.setTop (mkF m 33 #[.val (.ref la), .val (.int (Int32.ofNat hi)), .val (.int (Int32.ofNat lo))] [])) t → Steps p.tables e below (T18.setTop (mkF m 33 #[.val (.ref la), .val (.int (Int32.ofNat hi)), .val (.int (Int32.ofNat lo))] [])) t := fun t k => k
    have st : ∀ t, Steps p.tables e below (T18.setTop (mkF m 35 #[.val (.ref la), .val (.int (Int32.ofNat hi)), .val (.int (Int32.ofNat lo))] [(.int (3 : Int32)), (.ref la)])) t → Steps p.tables e below (T18.setTop (mkF m 33 #[.val (.ref la), .val (.int (Int32.ofNat hi)), .val (.int (Int32.ofNat lo))] [])) t := fun t k => st t (by
        show Steps p.tables e below (T18.setTop (mkF m 33 #[.val (.ref la), .val (.int (Int32.ofNat hi)), .val (.int (Int32.ofNat lo))] [])) _
        refine XS.aloadN X.here hx rfl (hb hby d9_33) rfl rfl ?_
        show Steps p.tables e below (T18.setTop (mkF m 34 #[.val (.ref la), .val (.int (Int32.ofNat hi)), .val (.int (Int32.ofNat lo))] [(.ref la)])) _
        refine XS.iconst X.here hx rfl (hb hby d9_34) ?_
        exact k)
    obtain ⟨cl29, Ar29, hin29, hat29⟩ := own_rd V_la 3 (by decide)
    have st : ∀ t, Steps p.tables e below (T18.setTop (mkF m 37 #[.val (.ref la), .val (.int (Int32.ofNat hi)), .val (.int (Int32.ofNat lo))] [(.int (Int32.ofNat hi)), (.int (Int32.ofNat (own_part lab hi lo 3 3)))])) t → Steps p.tables e below (T18.setTop (mkF m 33 #[.val (.ref la), .val (.int (Int32.ofNat hi)), .val (.int (Int32.ofNat lo))] [])) t := fun t k => st t (by
        show Steps p.tables e below (T18.setTop (mkF m 35 #[.val (.ref la), .val (.int (Int32.ofNat hi)), .val (.int (Int32.ofNat lo))] [(.int (3 : Int32)), (.ref la)])) _
        refine X.iaload hx (j := Int32.ofNat 3) (v := (.int (Int32.ofNat (own_part lab hi lo 3 3)))) (by rw [eh]; exact Ar29.1) (State.isArrayOf_alike hZ.alike Ar29.2.1) Ar29.2.2 hin29 hat29 (g := (mkF m 35 #[.val (.ref la), .val (.int (Int32.ofNat hi)), .val (.int (Int32.ofNat lo))] [(.int (3 : Int32)), (.ref la)])) rfl rfl (hb hby d9_35) _ ?_
        show Steps p.tables e below (T18.setTop (mkF m 36 #[.val (.ref la), .val (.int (Int32.ofNat hi)), .val (.int (Int32.ofNat lo))] [(.int (Int32.ofNat (own_part lab hi lo 3 3)))])) _
        refine XS.iloadN X.here hx rfl (hb hby d9_36) rfl ?_
        exact k)
    by_cases hq : (Int32.ofNat (own_part lab hi lo 3 3)) = (Int32.ofNat hi)
    · have e1 : lab 3 = hi := by rw [← own_partAt lab hi lo 3]; exact (own_inj (by rw [own_partAt]; exact hlab _ (by decide)) hhi).mp hq
      have st : ∀ t, Steps p.tables e below (T18.setTop (mkF m 43 #[.val (.ref la), .val (.int (Int32.ofNat hi)), .val (.int (Int32.ofNat lo))] [(.int (Int32.ofNat lo)), (.int (3 : Int32)), (.ref la)])) t → Steps p.tables e below (T18.setTop (mkF m 33 #[.val (.ref la), .val (.int (Int32.ofNat hi)), .val (.int (Int32.ofNat lo))] [])) t := fun t k => st t (by
          show Steps p.tables e below (T18.setTop (mkF m 37 #[.val (.ref la), .val (.int (Int32.ofNat hi)), .val (.int (Int32.ofNat lo))] [(.int (Int32.ofNat hi)), (.int (Int32.ofNat (own_part lab hi lo 3 3)))])) _
          refine XS.icmpNo X.here hx rfl (hb hby d9_37) rfl (teq hq).2 ?_
          show Steps p.tables e below (T18.setTop (mkF m 40 #[.val (.ref la), .val (.int (Int32.ofNat hi)), .val (.int (Int32.ofNat lo))] [])) _
          refine XS.aloadN X.here hx rfl (hb hby d9_40) rfl rfl ?_
          show Steps p.tables e below (T18.setTop (mkF m 41 #[.val (.ref la), .val (.int (Int32.ofNat hi)), .val (.int (Int32.ofNat lo))] [(.ref la)])) _
          refine XS.iconst X.here hx rfl (hb hby d9_41) ?_
          show Steps p.tables e below (T18.setTop (mkF m 42 #[.val (.ref la), .val (.int (Int32.ofNat hi)), .val (.int (Int32.ofNat lo))] [(.int (3 : Int32)), (.ref la)])) _
          refine XS.iloadN X.here hx rfl (hb hby d9_42) rfl ?_
          exact k)
      obtain ⟨cl30, Ar30, hin30, hat30⟩ := own_rd V_la 3 (by decide)
      obtain ⟨T31, h32, X, eh, W30, sx⟩ := stI X hx hZ eh Ar30 (j := Int32.ofNat 3) hin30 (g := (mkF m 43 #[.val (.ref la), .val (.int (Int32.ofNat hi)), .val (.int (Int32.ofNat lo))] [(.int (Int32.ofNat lo)), (.int (3 : Int32)), (.ref la)])) rfl rfl (hb hby d9_43)
      have st : ∀ t, Steps p.tables e below (T31.setTop (mkF m 44 #[.val (.ref la), .val (.int (Int32.ofNat hi)), .val (.int (Int32.ofNat lo))] [])) t → Steps p.tables e below (T18.setTop (mkF m 33 #[.val (.ref la), .val (.int (Int32.ofNat hi)), .val (.int (Int32.ofNat lo))] [])) t := fun t k => st t (sx t k)
      have K := K.wr W30 (Or.inl (List.mem_of_getElem? (i := 0) rfl))
      have Z0 := Nat.le_trans Z0 (Keep.of_wr W30).1
      have V_la := own_st V_la 3 (by decide) lo W30
      have N := Fr.snoc X N g_la
      rw [own_partYes e1] at V_la
      exact ⟨T31, h32, _, X, N, eh, K, Z0, V_la, st⟩
    · have e1 : ¬ lab 3 = hi := fun z => hq ((own_inj (by rw [own_partAt]; exact hlab _ (by decide)) hhi).mpr (by rw [own_partAt]; exact z))
      rw [own_partNo e1] at V_la
      have st : ∀ t, Steps p.tables e below (T18.setTop (mkF m 44 #[.val (.ref la), .val (.int (Int32.ofNat hi)), .val (.int (Int32.ofNat lo))] [])) t → Steps p.tables e below (T18.setTop (mkF m 33 #[.val (.ref la), .val (.int (Int32.ofNat hi)), .val (.int (Int32.ofNat lo))] [])) t := fun t k => st t (by
          show Steps p.tables e below (T18.setTop (mkF m 37 #[.val (.ref la), .val (.int (Int32.ofNat hi)), .val (.int (Int32.ofNat lo))] [(.int (Int32.ofNat hi)), (.int (Int32.ofNat (own_part lab hi lo 3 3)))])) _
          refine XS.icmpYes X.here hx rfl (pc0 := 37) (pc' := 44) rfl (hb hby d9_37) rfl (feq hq).2 (by decide) (by decide) ?_
          exact k)
      exact ⟨T18, h19, _, X, N, eh, K, Z0, V_la, st⟩
  have st : ∀ t, Steps p.tables e below (T26.setTop (mkF m 44 #[.val (.ref la), .val (.int (Int32.ofNat hi)), .val (.int (Int32.ofNat lo))] [])) t → Steps p.tables e below (s₁.setTop (mkF m 0 #[.val (.ref la), .val (.int (Int32.ofNat hi)), .val (.int (Int32.ofNat lo))] [])) t := fun t k => st t (sx t k)
  obtain ⟨lo33, X, N⟩ : ∃ loX, Stand p l e ({ frames := 0, cells := 0, slots := 0, locals := 0 } : Room) s m #[(.ref la), (.int (Int32.ofNat hi)), (.int (Int32.ofNat lo))] below meth cd0 T26 loX 0 0 ∧ Fr n0 loX := ⟨_, X, N⟩
  obtain ⟨T34, h35, lo36, X, N, eh, K, Z0, V_la, sx⟩ : ∃ (T34 : State) (h35 : Heap) (lo36 : List Loc), Stand p l e ({ frames := 0, cells := 0, slots := 0, locals := 0 } : Room) s m #[(.ref la), (.int (Int32.ofNat hi)), (.int (Int32.ofNat lo))] below meth cd0 T34 lo36 0 0 ∧ Fr n0 lo36 ∧ T34.heap = h35 ∧ Keep h0 h35 [la] ∧ n0 ≤ h35.size ∧ Arv Z h35 la k_la .int (5 : Int32) (own_arr (own_part lab hi lo 5)) (.int (0 : Int32)) ∧ (∀ t, Steps p.tables e below (T34.setTop (mkF m 55 #[.val (.ref la), .val (.int (Int32.ofNat hi)), .val (.int (Int32.ofNat lo))] [])) t → Steps p.tables e below (T26.setTop (mkF m 44 #[.val (.ref la), .val (.int (Int32.ofNat hi)), .val (.int (Int32.ofNat lo))] [])) t) := by
    have st : ∀ t, Steps p.tables e below (T26.setTop (mkF m 44 #[.val (.ref la), .val (.int (Int32.ofNat hi)), .val (.int (Int32.ofNat lo))] [])) t → Steps p.tables e below (T26.setTop (mkF m 44 #[.val (.ref la), .val (.int (Int32.ofNat hi)), .val (.int (Int32.ofNat lo))] [])) t := fun t k => k
    have st : ∀ t, Steps p.tables e below (T26.setTop (mkF m 46 #[.val (.ref la), .val (.int (Int32.ofNat hi)), .val (.int (Int32.ofNat lo))] [(.int (4 : Int32)), (.ref la)])) t → Steps p.tables e below (T26.setTop (mkF m 44 #[.val (.ref la), .val (.int (Int32.ofNat hi)), .val (.int (Int32.ofNat lo))] [])) t := fun t k => st t (by
        show Steps p.tables e below (T26.setTop (mkF m 44 #[.val (.ref la), .val (.int (Int32.ofNat hi)), .val (.int (Int32.ofNat lo))] [])) _
        refine XS.aloadN X.here hx rfl (hb hby d9_44) rfl rfl ?_
        show Steps p.tables e below (T26.setTop (mkF m 45 #[.val (.ref la), .val (.int (Int32.ofNat hi)), .val (.int (Int32.ofNat lo))] [(.ref la)])) _
        refine XS.iconst X.here hx rfl (hb hby d9_45) ?_
        exact k)
    obtain ⟨cl37, Ar37, hin37, hat37⟩ := own_rd V_la 4 (by decide)
    have st : ∀ t, Steps p.tables e below (T26.setTop (mkF m 48 #[.val (.ref la), .val (.int (Int32.ofNat hi)), .val (.int (Int32.ofNat lo))] [(.int (Int32.ofNat hi)), (.int (Int32.ofNat (own_part lab hi lo 4 4)))])) t → Steps p.tables e below (T26.setTop (mkF m 44 #[.val (.ref la), .val (.int (Int32.ofNat hi)), .val (.int (Int32.ofNat lo))] [])) t := fun t k => st t (by
        show Steps p.tables e below (T26.setTop (mkF m 46 #[.val (.ref la), .val (.int (Int32.ofNat hi)), .val (.int (Int32.ofNat lo))] [(.int (4 : Int32)), (.ref la)])) _
        refine X.iaload hx (j := Int32.ofNat 4) (v := (.int (Int32.ofNat (own_part lab hi lo 4 4)))) (by rw [eh]; exact Ar37.1) (State.isArrayOf_alike hZ.alike Ar37.2.1) Ar37.2.2 hin37 hat37 (g := (mkF m 46 #[.val (.ref la), .val (.int (Int32.ofNat hi)), .val (.int (Int32.ofNat lo))] [(.int (4 : Int32)), (.ref la)])) rfl rfl (hb hby d9_46) _ ?_
        show Steps p.tables e below (T26.setTop (mkF m 47 #[.val (.ref la), .val (.int (Int32.ofNat hi)), .val (.int (Int32.ofNat lo))] [(.int (Int32.ofNat (own_part lab hi lo 4 4)))])) _
        refine XS.iloadN X.here hx rfl (hb hby d9_47) rfl ?_
        exact k)
    by_cases hq : (Int32.ofNat (own_part lab hi lo 4 4)) = (Int32.ofNat hi)
    · have e1 : lab 4 = hi := by rw [← own_partAt lab hi lo 4]; exact (own_inj (by rw [own_partAt]; exact hlab _ (by decide)) hhi).mp hq
      have st : ∀ t, Steps p.tables e below (T26.setTop (mkF m 54 #[.val (.ref la), .val (.int (Int32.ofNat hi)), .val (.int (Int32.ofNat lo))] [(.int (Int32.ofNat lo)), (.int (4 : Int32)), (.ref la)])) t → Steps p.tables e below (T26.setTop (mkF m 44 #[.val (.ref la), .val (.int (Int32.ofNat hi)), .val (.int (Int32.ofNat lo))] [])) t := fun t k => st t (by
          show Steps p.tables e below (T26.setTop (mkF m 48 #[.val (.ref la), .val (.int (Int32.ofNat hi)), .val (.int (Int32.ofNat lo))] [(.int (Int32.ofNat hi)), (.int (Int32.ofNat (own_part lab hi lo 4 4)))])) _
          refine XS.icmpNo X.here hx rfl (hb hby d9_48) rfl (teq hq).2 ?_
          show Steps p.tables e below (T26.setTop (mkF m 51 #[.val (.ref la), .val (.int (Int32.ofNat hi)), .val (.int (Int32.ofNat lo))] [])) _
          refine XS.aloadN X.here hx rfl (hb hby d9_51) rfl rfl ?_
          show Steps p.tables e below (T26.setTop (mkF m 52 #[.val (.ref la), .val (.int (Int32.ofNat hi)), .val (.int (Int32.ofNat lo))] [(.ref la)])) _
          refine XS.iconst X.here hx rfl (hb hby d9_52) ?_
          show Steps p.tables e below (T26.setTop (mkF m 53 #[.val (.ref la), .val (.int (Int32.ofNat hi)), .val (.int (Int32.ofNat lo))] [(.int (4 : Int32)), (.ref la)])) _
          refine XS.iloadN X.here hx rfl (hb hby d9_53) rfl ?_
          exact k)
      obtain ⟨cl38, Ar38, hin38, hat38⟩ := own_rd V_la 4 (by decide)
      obtain ⟨T39, h40, X, eh, W38, sx⟩ := stI X hx hZ eh Ar38 (j := Int32.ofNat 4) hin38 (g := (mkF m 54 #[.val (.ref la), .val (.int (Int32.ofNat hi)), .val (.int (Int32.ofNat lo))] [(.int (Int32.ofNat lo)), (.int (4 : Int32)), (.ref la)])) rfl rfl (hb hby d9_54)
      have st : ∀ t, Steps p.tables e below (T39.setTop (mkF m 55 #[.val (.ref la), .val (.int (Int32.ofNat hi)), .val (.int (Int32.ofNat lo))] [])) t → Steps p.tables e below (T26.setTop (mkF m 44 #[.val (.ref la), .val (.int (Int32.ofNat hi)), .val (.int (Int32.ofNat lo))] [])) t := fun t k => st t (sx t k)
      have K := K.wr W38 (Or.inl (List.mem_of_getElem? (i := 0) rfl))
      have Z0 := Nat.le_trans Z0 (Keep.of_wr W38).1
      have V_la := own_st V_la 4 (by decide) lo W38
      have N := Fr.snoc X N g_la
      rw [own_partYes e1] at V_la
      exact ⟨T39, h40, _, X, N, eh, K, Z0, V_la, st⟩
    · have e1 : ¬ lab 4 = hi := fun z => hq ((own_inj (by rw [own_partAt]; exact hlab _ (by decide)) hhi).mpr (by rw [own_partAt]; exact z))
      rw [own_partNo e1] at V_la
      have st : ∀ t, Steps p.tables e below (T26.setTop (mkF m 55 #[.val (.ref la), .val (.int (Int32.ofNat hi)), .val (.int (Int32.ofNat lo))] [])) t → Steps p.tables e below (T26.setTop (mkF m 44 #[.val (.ref la), .val (.int (Int32.ofNat hi)), .val (.int (Int32.ofNat lo))] [])) t := fun t k => st t (by
          show Steps p.tables e below (T26.setTop (mkF m 48 #[.val (.ref la), .val (.int (Int32.ofNat hi)), .val (.int (Int32.ofNat lo))] [(.int (Int32.ofNat hi)), (.int (Int32.ofNat (own_part lab hi lo 4 4)))])) _
          refine XS.icmpYes X.here hx rfl (pc0 := 48) (pc' := 55) rfl (hb hby d9_48) rfl (feq hq).2 (by decide) (by decide) ?_
          exact k)
      exact ⟨T26, h27, _, X, N, eh, K, Z0, V_la, st⟩
  have st : ∀ t, Steps p.tables e below (T34.setTop (mkF m 55 #[.val (.ref la), .val (.int (Int32.ofNat hi)), .val (.int (Int32.ofNat lo))] [])) t → Steps p.tables e below (s₁.setTop (mkF m 0 #[.val (.ref la), .val (.int (Int32.ofNat hi)), .val (.int (Int32.ofNat lo))] [])) t := fun t k => st t (sx t k)
  rw [own_part5] at V_la
  obtain ⟨fs_, hr, hrun, hended, hW, hsame⟩ := X.leave (v := none) (fun _ => rfl)
  refine ⟨_, _, pre0 _ (st _ ?_), hrun, hended, _, _, rfl, ?_, ⟨_, rfl⟩, hW, hsame.mono (by decide) (by decide)⟩
  · exact X.returnOut hx Bd.returns (hb hby d9_55) hr
  · show Q_rm9 Z la k_la lab hi lo h0 n0 _ T34.heap _
    rw [eh]
    exact ⟨rfl, N, K, V_la⟩
theorem d4_0 : decode method_3_code 0 = .ok (.iload_n 2, 1) := by decide +kernel
theorem d4_1 : decode method_3_code 1 = .ok (.sipush 255, 3) := by decide +kernel
theorem d4_4 : decode method_3_code 4 = .ok (.iand, 1) := by decide +kernel
theorem d4_5 : decode method_3_code 5 = .ok (.iconst 5, 1) := by decide +kernel
theorem d4_6 : decode method_3_code 6 = .ok (.irem, 1) := by decide +kernel
theorem d4_7 : decode method_3_code 7 = .ok (.istore_n 3, 1) := by decide +kernel
theorem d4_8 : decode method_3_code 8 = .ok (.iload_n 2, 1) := by decide +kernel
theorem d4_9 : decode method_3_code 9 = .ok (.bipush 8, 2) := by decide +kernel
theorem d4_11 : decode method_3_code 11 = .ok (.iushr, 1) := by decide +kernel
theorem d4_12 : decode method_3_code 12 = .ok (.sipush 255, 3) := by decide +kernel
theorem d4_15 : decode method_3_code 15 = .ok (.iand, 1) := by decide +kernel
theorem d4_16 : decode method_3_code 16 = .ok (.iconst 5, 1) := by decide +kernel
theorem d4_17 : decode method_3_code 17 = .ok (.irem, 1) := by decide +kernel
theorem d4_18 : decode method_3_code 18 = .ok (.istore 4, 2) := by decide +kernel
theorem d4_20 : decode method_3_code 20 = .ok (.aload_n 1, 1) := by decide +kernel
theorem d4_21 : decode method_3_code 21 = .ok (.iload_n 3, 1) := by decide +kernel
theorem d4_22 : decode method_3_code 22 = .ok (.iaload, 1) := by decide +kernel
theorem d4_23 : decode method_3_code 23 = .ok (.istore 5, 2) := by decide +kernel
theorem d4_25 : decode method_3_code 25 = .ok (.aload_n 1, 1) := by decide +kernel
theorem d4_26 : decode method_3_code 26 = .ok (.iload 4, 2) := by decide +kernel
theorem d4_28 : decode method_3_code 28 = .ok (.iaload, 1) := by decide +kernel
theorem d4_29 : decode method_3_code 29 = .ok (.istore 6, 2) := by decide +kernel
theorem d4_31 : decode method_3_code 31 = .ok (.aload_n 0, 1) := by decide +kernel
theorem d4_32 : decode method_3_code 32 = .ok (.iload_n 3, 1) := by decide +kernel
theorem d4_33 : decode method_3_code 33 = .ok (.iload 4, 2) := by decide +kernel
theorem d4_35 : decode method_3_code 35 = .ok (.invokevirtual 22, 3) := by decide +kernel
theorem d4_38 : decode method_3_code 38 = .ok (.istore 7, 2) := by decide +kernel
theorem d4_40 : decode method_3_code 40 = .ok (.iload 5, 2) := by decide +kernel
theorem d4_42 : decode method_3_code 42 = .ok (.iload 6, 2) := by decide +kernel
theorem d4_44 : decode method_3_code 44 = .ok (.if_icmp .eq 29, 3) := by decide +kernel
theorem d4_47 : decode method_3_code 47 = .ok (.iload 5, 2) := by decide +kernel
theorem d4_49 : decode method_3_code 49 = .ok (.iload 6, 2) := by decide +kernel
theorem d4_51 : decode method_3_code 51 = .ok (.invokestatic 26, 3) := by decide +kernel
theorem d4_54 : decode method_3_code 54 = .ok (.istore 8, 2) := by decide +kernel
theorem d4_56 : decode method_3_code 56 = .ok (.iload 5, 2) := by decide +kernel
theorem d4_58 : decode method_3_code 58 = .ok (.iload 6, 2) := by decide +kernel
theorem d4_60 : decode method_3_code 60 = .ok (.invokestatic 32, 3) := by decide +kernel
theorem d4_63 : decode method_3_code 63 = .ok (.istore 9, 2) := by decide +kernel
theorem d4_65 : decode method_3_code 65 = .ok (.aload_n 1, 1) := by decide +kernel
theorem d4_66 : decode method_3_code 66 = .ok (.iload 9, 2) := by decide +kernel
theorem d4_68 : decode method_3_code 68 = .ok (.iload 8, 2) := by decide +kernel
theorem d4_70 : decode method_3_code 70 = .ok (.invokestatic 35, 3) := by decide +kernel
theorem d4_73 : decode method_3_code 73 = .ok (.iload 7, 2) := by decide +kernel
theorem d4_75 : decode method_3_code 75 = .ok (.iload 5, 2) := by decide +kernel
theorem d4_77 : decode method_3_code 77 = .ok (.iload 6, 2) := by decide +kernel
theorem d4_79 : decode method_3_code 79 = .ok (.if_icmp .eq 7, 3) := by decide +kernel
theorem d4_82 : decode method_3_code 82 = .ok (.iconst 1, 1) := by decide +kernel
theorem d4_83 : decode method_3_code 83 = .ok (.goto 4, 3) := by decide +kernel
theorem d4_86 : decode method_3_code 86 = .ok (.iconst 0, 1) := by decide +kernel
theorem d4_87 : decode method_3_code 87 = .ok (.if_icmp .ne 7, 3) := by decide +kernel
theorem d4_90 : decode method_3_code 90 = .ok (.iconst 1, 1) := by decide +kernel
theorem d4_91 : decode method_3_code 91 = .ok (.goto 4, 3) := by decide +kernel
theorem d4_95 : decode method_3_code 95 = .ok (.ireturn, 1) := by decide +kernel
def Q_rm4 (Z : State) (pt : Addr) (la : Addr) (z0 : Int32) (pa : Addr) (k_pa k_la : ClassId) (pr lab : Nat → Nat) (h0 : Heap) (n0 : Nat) (v : Option Value) (h : Heap) (L : List Loc) : Prop := v = some (.int 1) ∧ Fr n0 L ∧ Keep h0 h [pa, la] ∧ ∃ (pr' lab' : Nat → Nat), own_Inv pr' lab' ∧ Arv Z h pa k_pa .int (5 : Int32) (own_arr pr') (.int (0 : Int32)) ∧ Arv Z h la k_la .int (5 : Int32) (own_arr lab') (.int (0 : Int32))
theorem own_pd3 : parseMethodDescriptor "(II)Z" = some ⟨[.int, .int], some .boolean⟩ := by decide +kernel
theorem own_pd4 : parseMethodDescriptor "([III)V" = some ⟨[(.array .int), .int, .int], none⟩ := by decide +kernel
theorem ef_rm4 (m : MethodId) (x0 : Addr) (x1 : Addr) (x2 : Int32) : entryFrame m #[(.ref x0), (.ref x1), (.int x2)] 10 = mkF m 0 #[.val (.ref x0), .val (.ref x1), .val (.int x2), .unset, .unset, .unset, .unset, .unset, .unset, .unset] [] := by first | (simp [entryFrame, mkF, argsToLocals, Value.category]; done) | rfl
set_option maxRecDepth 65536 in
set_option maxHeartbeats 40000000 in
theorem rm4 (l : Launch) (Z : State) (a0 : Array Value) (hw : ∀ d ∈ tables_1, d.before a0 Z = true) (ws : List Jvm.Cond) (pt : Addr) (la : Addr) (z0 : Int32) (pa : Addr) (k_pa k_la : ClassId) (pr lab : Nat → Nat) (h0 : Heap) (n0 : Nat) (Z0 : n0 ≤ h0.size) (E_pt : Exa Z h0 pt "isoproof/model/Partition") (F_pt_parent : Fld Z h0 pt "isoproof/model/Partition" "parent" "[I" (.ref pa)) (V_pa : Arv Z h0 pa k_pa .int (5 : Int32) (own_arr pr) (.int (0 : Int32))) (V_la : Arv Z h0 la k_la .int (5 : Int32) (own_arr lab) (.int (0 : Int32))) (g_pa : n0 ≤ pa) (g_la : n0 ≤ la) (ne_pt_pa : pt ≠ pa) (ne_pt_la : pt ≠ la) (ne_pa_la : pa ≠ la) (I : own_Inv pr lab) :
    MetFree l (⟨"isoproof/model/PartitionFindPinLaw", "step", "(Lisoproof/model/Partition;[II)Z"⟩ : MethodName) (head1 (Jvm.Cond.code (⟨"isoproof/model/PartitionFindPinLaw", "step", "(Lisoproof/model/Partition;[II)Z"⟩ : MethodName) method_3_code 10 (some .boolean) :: ws) ({ frames := 2, cells := 0, slots := 0, locals := 31 } : Room)) (fun a' U => a' = #[(.ref pt), (.ref la), (.int z0)] ∧ Z.Warmed39 U.vm ∧ U.heap = h0) (fun _ _ _ _ _ => True) (fun _ U o U' => ∃ v L, o = .returned v ∧ Q_rm4 Z pt la z0 pa k_pa k_la pr lab h0 n0 v U'.heap L ∧ FrameEnd U o U' L ({ frames := 2, cells := 0, slots := 0, locals := 31 } : Room).cells ({ frames := 2, cells := 0, slots := 0, locals := 31 } : Room).slots) := by
  refine MetFree.of_bodySF (plainFor_of_name own_pn9) hisR ?_
  intro p e s m args below meth cd0 s₁ Bd hml0 hP hK
  obtain ⟨rfl, hZ, hh⟩ := hP
  have hx := Bd.exec
  have hby := Bd.bytes
  have hml : cd0.maxLocals = 10 := hml0
  have hown : s.vm.findClass "isoproof/model/PartitionFindPinLaw" = some m.cls := findClass_of_methodNamed Bd.named
  have hnm := (name_of_methodNamed Bd.named Bd.method).1
  have X : Stand p l e ({ frames := 2, cells := 0, slots := 0, locals := 31 } : Room) s m #[(.ref pt), (.ref la), (.int z0)] below meth cd0 s₁ [] 0 0 := Stand.of_body Bd
  have eh : s₁.heap = h0 := by rw [← hh, Bd.state]; rfl
  have N := Fr.nil n0
  have K : Keep h0 h0 [pa, la] := Keep.refl _ _
  have pre0 : ∀ t, Steps p.tables e below (s₁.setTop (mkF m 0 #[.val (.ref pt), .val (.ref la), .val (.int z0), .unset, .unset, .unset, .unset, .unset, .unset, .unset] [])) t → Steps p.tables e below (s₁.setTop (entryFrame m #[(.ref pt), (.ref la), (.int z0)] 10)) t := fun t k => castTop (ef_rm4 m pt la z0) k
  have st : ∀ t, Steps p.tables e below (s₁.setTop (mkF m 0 #[.val (.ref pt), .val (.ref la), .val (.int z0), .unset, .unset, .unset, .unset, .unset, .unset, .unset] [])) t → Steps p.tables e below (s₁.setTop (mkF m 0 #[.val (.ref pt), .val (.ref la), .val (.int z0), .unset, .unset, .unset, .unset, .unset, .unset, .unset] [])) t := fun t k => k
  have st : ∀ t, Steps p.tables e below (s₁.setTop (mkF m 7 #[.val (.ref pt), .val (.ref la), .val (.int z0), .unset, .unset, .unset, .unset, .unset, .unset, .unset] [(.int ((z0 &&& (255 : Int32)) - ((z0 &&& (255 : Int32)) / (5 : Int32)) * (5 : Int32)))])) t → Steps p.tables e below (s₁.setTop (mkF m 0 #[.val (.ref pt), .val (.ref la), .val (.int z0), .unset, .unset, .unset, .unset, .unset, .unset, .unset] [])) t := fun t k => st t (by
      show Steps p.tables e below (s₁.setTop (mkF m 0 #[.val (.ref pt), .val (.ref la), .val (.int z0), .unset, .unset, .unset, .unset, .unset, .unset, .unset] [])) _
      refine XS.iloadN X.here hx rfl (hb hby d4_0) rfl ?_
      show Steps p.tables e below (s₁.setTop (mkF m 1 #[.val (.ref pt), .val (.ref la), .val (.int z0), .unset, .unset, .unset, .unset, .unset, .unset, .unset] [(.int z0)])) _
      refine XS.sipush X.here hx rfl (hb hby d4_1) ?_
      show Steps p.tables e below (s₁.setTop (mkF m 4 #[.val (.ref pt), .val (.ref la), .val (.int z0), .unset, .unset, .unset, .unset, .unset, .unset, .unset] [(.int (255 : Int32)), (.int z0)])) _
      refine XS.iand X.here hx rfl (hb hby d4_4) rfl ?_
      show Steps p.tables e below (s₁.setTop (mkF m 5 #[.val (.ref pt), .val (.ref la), .val (.int z0), .unset, .unset, .unset, .unset, .unset, .unset, .unset] [(.int (z0 &&& (255 : Int32)))])) _
      refine XS.iconst X.here hx rfl (hb hby d4_5) ?_
      show Steps p.tables e below (s₁.setTop (mkF m 6 #[.val (.ref pt), .val (.ref la), .val (.int z0), .unset, .unset, .unset, .unset, .unset, .unset, .unset] [(.int (5 : Int32)), (.int (z0 &&& (255 : Int32)))])) _
      refine XS.irem X.here hx rfl (hb hby d4_6) rfl (by decide) ?_
      exact k)
  obtain ⟨i, hi5, ei⟩ := own_rem z0
  have st : ∀ t, Steps p.tables e below (s₁.setTop (mkF m 7 #[.val (.ref pt), .val (.ref la), .val (.int z0), .unset, .unset, .unset, .unset, .unset, .unset, .unset] [(.int (Int32.ofNat i))])) t → Steps p.tables e below (s₁.setTop (mkF m 0 #[.val (.ref pt), .val (.ref la), .val (.int z0), .unset, .unset, .unset, .unset, .unset, .unset, .unset] [])) t := by rw [← ei]; exact st
  have st : ∀ t, Steps p.tables e below (s₁.setTop (mkF m 18 #[.val (.ref pt), .val (.ref la), .val (.int z0), .val (.int (Int32.ofNat i)), .unset, .unset, .unset, .unset, .unset, .unset] [(.int ((((z0.toUInt32 >>> ((8 : Int32) &&& 31).toUInt32).toInt32) &&& (255 : Int32)) - ((((z0.toUInt32 >>> ((8 : Int32) &&& 31).toUInt32).toInt32) &&& (255 : Int32)) / (5 : Int32)) * (5 : Int32)))])) t → Steps p.tables e below (s₁.setTop (mkF m 0 #[.val (.ref pt), .val (.ref la), .val (.int z0), .unset, .unset, .unset, .unset, .unset, .unset, .unset] [])) t := fun t k => st t (by
      show Steps p.tables e below (s₁.setTop (mkF m 7 #[.val (.ref pt), .val (.ref la), .val (.int z0), .unset, .unset, .unset, .unset, .unset, .unset, .unset] [(.int (Int32.ofNat i))])) _
      refine XS.istoreN X.here hx rfl (hb hby d4_7) rfl (l' := #[.val (.ref pt), .val (.ref la), .val (.int z0), .val (.int (Int32.ofNat i)), .unset, .unset, .unset, .unset, .unset, .unset]) rfl ?_
      show Steps p.tables e below (s₁.setTop (mkF m 8 #[.val (.ref pt), .val (.ref la), .val (.int z0), .val (.int (Int32.ofNat i)), .unset, .unset, .unset, .unset, .unset, .unset] [])) _
      refine XS.iloadN X.here hx rfl (hb hby d4_8) rfl ?_
      show Steps p.tables e below (s₁.setTop (mkF m 9 #[.val (.ref pt), .val (.ref la), .val (.int z0), .val (.int (Int32.ofNat i)), .unset, .unset, .unset, .unset, .unset, .unset] [(.int z0)])) _
      refine XS.bipush X.here hx rfl (hb hby d4_9) ?_
      show Steps p.tables e below (s₁.setTop (mkF m 11 #[.val (.ref pt), .val (.ref la), .val (.int z0), .val (.int (Int32.ofNat i)), .unset, .unset, .unset, .unset, .unset, .unset] [(.int (8 : Int32)), (.int z0)])) _
      refine XS.iushr X.here hx rfl (hb hby d4_11) rfl ?_
      show Steps p.tables e below (s₁.setTop (mkF m 12 #[.val (.ref pt), .val (.ref la), .val (.int z0), .val (.int (Int32.ofNat i)), .unset, .unset, .unset, .unset, .unset, .unset] [(.int ((z0.toUInt32 >>> ((8 : Int32) &&& 31).toUInt32).toInt32))])) _
      refine XS.sipush X.here hx rfl (hb hby d4_12) ?_
      show Steps p.tables e below (s₁.setTop (mkF m 15 #[.val (.ref pt), .val (.ref la), .val (.int z0), .val (.int (Int32.ofNat i)), .unset, .unset, .unset, .unset, .unset, .unset] [(.int (255 : Int32)), (.int ((z0.toUInt32 >>> ((8 : Int32) &&& 31).toUInt32).toInt32))])) _
      refine XS.iand X.here hx rfl (hb hby d4_15) rfl ?_
      show Steps p.tables e below (s₁.setTop (mkF m 16 #[.val (.ref pt), .val (.ref la), .val (.int z0), .val (.int (Int32.ofNat i)), .unset, .unset, .unset, .unset, .unset, .unset] [(.int (((z0.toUInt32 >>> ((8 : Int32) &&& 31).toUInt32).toInt32) &&& (255 : Int32)))])) _
      refine XS.iconst X.here hx rfl (hb hby d4_16) ?_
      show Steps p.tables e below (s₁.setTop (mkF m 17 #[.val (.ref pt), .val (.ref la), .val (.int z0), .val (.int (Int32.ofNat i)), .unset, .unset, .unset, .unset, .unset, .unset] [(.int (5 : Int32)), (.int (((z0.toUInt32 >>> ((8 : Int32) &&& 31).toUInt32).toInt32) &&& (255 : Int32)))])) _
      refine XS.irem X.here hx rfl (hb hby d4_17) rfl (by decide) ?_
      exact k)
  obtain ⟨j, hj5, ej⟩ := own_rem ((z0.toUInt32 >>> ((8 : Int32) &&& 31).toUInt32).toInt32)
  have st : ∀ t, Steps p.tables e below (s₁.setTop (mkF m 18 #[.val (.ref pt), .val (.ref la), .val (.int z0), .val (.int (Int32.ofNat i)), .unset, .unset, .unset, .unset, .unset, .unset] [(.int (Int32.ofNat j))])) t → Steps p.tables e below (s₁.setTop (mkF m 0 #[.val (.ref pt), .val (.ref la), .val (.int z0), .unset, .unset, .unset, .unset, .unset, .unset, .unset] [])) t := by rw [← ej]; exact st
  have hIi := I i hi5
  have hIj := I j hj5
  have st : ∀ t, Steps p.tables e below (s₁.setTop (mkF m 22 #[.val (.ref pt), .val (.ref la), .val (.int z0), .val (.int (Int32.ofNat i)), .val (.int (Int32.ofNat j)), .unset, .unset, .unset, .unset, .unset] [(.int (Int32.ofNat i)), (.ref la)])) t → Steps p.tables e below (s₁.setTop (mkF m 0 #[.val (.ref pt), .val (.ref la), .val (.int z0), .unset, .unset, .unset, .unset, .unset, .unset, .unset] [])) t := fun t k => st t (by
      show Steps p.tables e below (s₁.setTop (mkF m 18 #[.val (.ref pt), .val (.ref la), .val (.int z0), .val (.int (Int32.ofNat i)), .unset, .unset, .unset, .unset, .unset, .unset] [(.int (Int32.ofNat j))])) _
      refine XS.istore X.here hx rfl (hb hby d4_18) rfl (l' := #[.val (.ref pt), .val (.ref la), .val (.int z0), .val (.int (Int32.ofNat i)), .val (.int (Int32.ofNat j)), .unset, .unset, .unset, .unset, .unset]) rfl ?_
      show Steps p.tables e below (s₁.setTop (mkF m 20 #[.val (.ref pt), .val (.ref la), .val (.int z0), .val (.int (Int32.ofNat i)), .val (.int (Int32.ofNat j)), .unset, .unset, .unset, .unset, .unset] [])) _
      refine XS.aloadN X.here hx rfl (hb hby d4_20) rfl rfl ?_
      show Steps p.tables e below (s₁.setTop (mkF m 21 #[.val (.ref pt), .val (.ref la), .val (.int z0), .val (.int (Int32.ofNat i)), .val (.int (Int32.ofNat j)), .unset, .unset, .unset, .unset, .unset] [(.ref la)])) _
      refine XS.iloadN X.here hx rfl (hb hby d4_21) rfl ?_
      exact k)
  obtain ⟨cl1, Ar1, hin1, hat1⟩ := own_rd V_la i hi5
  have st : ∀ t, Steps p.tables e below (s₁.setTop (mkF m 28 #[.val (.ref pt), .val (.ref la), .val (.int z0), .val (.int (Int32.ofNat i)), .val (.int (Int32.ofNat j)), .val (.int (Int32.ofNat (lab i))), .unset, .unset, .unset, .unset] [(.int (Int32.ofNat j)), (.ref la)])) t → Steps p.tables e below (s₁.setTop (mkF m 0 #[.val (.ref pt), .val (.ref la), .val (.int z0), .unset, .unset, .unset, .unset, .unset, .unset, .unset] [])) t := fun t k => st t (by
      show Steps p.tables e below (s₁.setTop (mkF m 22 #[.val (.ref pt), .val (.ref la), .val (.int z0), .val (.int (Int32.ofNat i)), .val (.int (Int32.ofNat j)), .unset, .unset, .unset, .unset, .unset] [(.int (Int32.ofNat i)), (.ref la)])) _
      refine X.iaload hx (j := (Int32.ofNat i)) (v := (.int (Int32.ofNat (lab i)))) (by rw [eh]; exact Ar1.1) (State.isArrayOf_alike hZ.alike Ar1.2.1) Ar1.2.2 hin1 hat1 (g := (mkF m 22 #[.val (.ref pt), .val (.ref la), .val (.int z0), .val (.int (Int32.ofNat i)), .val (.int (Int32.ofNat j)), .unset, .unset, .unset, .unset, .unset] [(.int (Int32.ofNat i)), (.ref la)])) rfl rfl (hb hby d4_22) _ ?_
      show Steps p.tables e below (s₁.setTop (mkF m 23 #[.val (.ref pt), .val (.ref la), .val (.int z0), .val (.int (Int32.ofNat i)), .val (.int (Int32.ofNat j)), .unset, .unset, .unset, .unset, .unset] [(.int (Int32.ofNat (lab i)))])) _
      refine XS.istore X.here hx rfl (hb hby d4_23) rfl (l' := #[.val (.ref pt), .val (.ref la), .val (.int z0), .val (.int (Int32.ofNat i)), .val (.int (Int32.ofNat j)), .val (.int (Int32.ofNat (lab i))), .unset, .unset, .unset, .unset]) rfl ?_
      show Steps p.tables e below (s₁.setTop (mkF m 25 #[.val (.ref pt), .val (.ref la), .val (.int z0), .val (.int (Int32.ofNat i)), .val (.int (Int32.ofNat j)), .val (.int (Int32.ofNat (lab i))), .unset, .unset, .unset, .unset] [])) _
      refine XS.aloadN X.here hx rfl (hb hby d4_25) rfl rfl ?_
      show Steps p.tables e below (s₁.setTop (mkF m 26 #[.val (.ref pt), .val (.ref la), .val (.int z0), .val (.int (Int32.ofNat i)), .val (.int (Int32.ofNat j)), .val (.int (Int32.ofNat (lab i))), .unset, .unset, .unset, .unset] [(.ref la)])) _
      refine XS.iload X.here hx rfl (hb hby d4_26) rfl ?_
      exact k)
  obtain ⟨cl2, Ar2, hin2, hat2⟩ := own_rd V_la j hj5
  have st : ∀ t, Steps p.tables e below (s₁.setTop (mkF m 35 #[.val (.ref pt), .val (.ref la), .val (.int z0), .val (.int (Int32.ofNat i)), .val (.int (Int32.ofNat j)), .val (.int (Int32.ofNat (lab i))), .val (.int (Int32.ofNat (lab j))), .unset, .unset, .unset] [(.int (Int32.ofNat j)), (.int (Int32.ofNat i)), (.ref pt)])) t → Steps p.tables e below (s₁.setTop (mkF m 0 #[.val (.ref pt), .val (.ref la), .val (.int z0), .unset, .unset, .unset, .unset, .unset, .unset, .unset] [])) t := fun t k => st t (by
      show Steps p.tables e below (s₁.setTop (mkF m 28 #[.val (.ref pt), .val (.ref la), .val (.int z0), .val (.int (Int32.ofNat i)), .val (.int (Int32.ofNat j)), .val (.int (Int32.ofNat (lab i))), .unset, .unset, .unset, .unset] [(.int (Int32.ofNat j)), (.ref la)])) _
      refine X.iaload hx (j := (Int32.ofNat j)) (v := (.int (Int32.ofNat (lab j)))) (by rw [eh]; exact Ar2.1) (State.isArrayOf_alike hZ.alike Ar2.2.1) Ar2.2.2 hin2 hat2 (g := (mkF m 28 #[.val (.ref pt), .val (.ref la), .val (.int z0), .val (.int (Int32.ofNat i)), .val (.int (Int32.ofNat j)), .val (.int (Int32.ofNat (lab i))), .unset, .unset, .unset, .unset] [(.int (Int32.ofNat j)), (.ref la)])) rfl rfl (hb hby d4_28) _ ?_
      show Steps p.tables e below (s₁.setTop (mkF m 29 #[.val (.ref pt), .val (.ref la), .val (.int z0), .val (.int (Int32.ofNat i)), .val (.int (Int32.ofNat j)), .val (.int (Int32.ofNat (lab i))), .unset, .unset, .unset, .unset] [(.int (Int32.ofNat (lab j)))])) _
      refine XS.istore X.here hx rfl (hb hby d4_29) rfl (l' := #[.val (.ref pt), .val (.ref la), .val (.int z0), .val (.int (Int32.ofNat i)), .val (.int (Int32.ofNat j)), .val (.int (Int32.ofNat (lab i))), .val (.int (Int32.ofNat (lab j))), .unset, .unset, .unset]) rfl ?_
      show Steps p.tables e below (s₁.setTop (mkF m 31 #[.val (.ref pt), .val (.ref la), .val (.int z0), .val (.int (Int32.ofNat i)), .val (.int (Int32.ofNat j)), .val (.int (Int32.ofNat (lab i))), .val (.int (Int32.ofNat (lab j))), .unset, .unset, .unset] [])) _
      refine XS.aloadN X.here hx rfl (hb hby d4_31) rfl rfl ?_
      show Steps p.tables e below (s₁.setTop (mkF m 32 #[.val (.ref pt), .val (.ref la), .val (.int z0), .val (.int (Int32.ofNat i)), .val (.int (Int32.ofNat j)), .val (.int (Int32.ofNat (lab i))), .val (.int (Int32.ofNat (lab j))), .unset, .unset, .unset] [(.ref pt)])) _
      refine XS.iloadN X.here hx rfl (hb hby d4_32) rfl ?_
      show Steps p.tables e below (s₁.setTop (mkF m 33 #[.val (.ref pt), .val (.ref la), .val (.int z0), .val (.int (Int32.ofNat i)), .val (.int (Int32.ofNat j)), .val (.int (Int32.ofNat (lab i))), .val (.int (Int32.ofNat (lab j))), .unset, .unset, .unset] [(.int (Int32.ofNat i)), (.ref pt)])) _
      refine XS.iload X.here hx rfl (hb hby d4_33) rfl ?_
      exact k)
  obtain ⟨cq3, kq3, qa3, qb3, qc3⟩ := isOf hZ eh E_pt
  obtain ⟨_, _, ⟨T4, L3, k3, n3⟩, -, X, ⟨Lc3, hQ, l3, y3, z3⟩, sx⟩ := X.virtualBack hx (y := (⟨"isoproof/model/Partition", "union", "(II)Z"⟩ : MethodName)) (z := (⟨"isoproof/model/Partition", "union", "(II)Z"⟩ : MethodName)) hown (mvT hZ (hw _ (List.mem_of_getElem? (i := 21) rfl))) (mvT hZ (hw _ (List.mem_of_getElem? (i := 22) rfl))) (notFace_of_selects (args := #[]) (mvT hZ (hw _ (List.mem_of_getElem? (i := 24) rfl)))) (mvT hZ (hw _ (List.mem_of_getElem? (i := 24) rfl))) (mvT hZ (hw _ (List.mem_of_getElem? (i := 23) rfl))) (by decide) (backOf (W := 0) (rm5 l Z a0 hw [] pt pa k_pa pr lab i j h0 n0 Z0 E_pt F_pt_parent V_pa g_pa ne_pt_pa I hi5 hj5) hZ (hw _ (List.mem_of_getElem? (i := 25) rfl)) (hw _ (List.mem_of_getElem? (i := 3) rfl)) (by decide) (by decide)) qa3 qc3 (g := (mkF m 35 #[.val (.ref pt), .val (.ref la), .val (.int z0), .val (.int (Int32.ofNat i)), .val (.int (Int32.ofNat j)), .val (.int (Int32.ofNat (lab i))), .val (.int (Int32.ofNat (lab j))), .unset, .unset, .unset] [(.int (Int32.ofNat j)), (.int (Int32.ofNat i)), (.ref pt)])) rfl (by rw [hml]; rfl) (Steps.refl _) (argsL := [(.int (Int32.ofNat i)), (.int (Int32.ofNat j))]) (rest := []) (lenOf own_pd3 rfl) rfl (by show 2 * 0 + _ ≤ _; exact Nat.le_of_eq rfl) (hb hby d4_35) (fun _ _ => ⟨rfl, eh, (by decide : 0 + 0 ≤ _), (by decide : 0 + 0 ≤ _)⟩)
  dsimp only [Pt.U, Pt.locs, Pt.cells, Pt.slots] at X l3 y3 z3 sx hQ
  subst l3 y3 z3
  obtain ⟨rfl, Nc, K1, pr1, I1, V_pa⟩ := hQ
  have st : ∀ t, Steps p.tables e below (T4.setTop (mkF m 38 #[.val (.ref pt), .val (.ref la), .val (.int z0), .val (.int (Int32.ofNat i)), .val (.int (Int32.ofNat j)), .val (.int (Int32.ofNat (lab i))), .val (.int (Int32.ofNat (lab j))), .unset, .unset, .unset] [(.int (if lab i = lab j then (0 : Int32) else (1 : Int32)))])) t → Steps p.tables e below (s₁.setTop (mkF m 0 #[.val (.ref pt), .val (.ref la), .val (.int z0), .unset, .unset, .unset, .unset, .unset, .unset, .unset] [])) t := fun t k => st t (sx.trans k)
  have N := Fr.app N Nc
  obtain ⟨h5, eH⟩ : ∃ z, z = T4.heap := ⟨_, rfl⟩
  rw [← eH] at K1 V_pa
  have eh : T4.heap = h5 := eH.symm
  have F_pt_parent := F_pt_parent.keep K1 (ninS ne_pt_pa nin0)
  have E_pt := E_pt.keep K1
  have V_la := V_la.keep K1 (ninS (Ne.symm ne_pa_la) nin0)
  have K := K.trans K1 (allS (Or.inl (List.mem_of_getElem? (i := 0) rfl)) all0)
  have Z0 := Nat.le_trans Z0 K1.1
  have st : ∀ t, Steps p.tables e below (T4.setTop (mkF m 44 #[.val (.ref pt), .val (.ref la), .val (.int z0), .val (.int (Int32.ofNat i)), .val (.int (Int32.ofNat j)), .val (.int (Int32.ofNat (lab i))), .val (.int (Int32.ofNat (lab j))), .val (.int (if lab i = lab j then (0 : Int32) else (1 : Int32))), .unset, .unset] [(.int (Int32.ofNat (lab j))), (.int (Int32.ofNat (lab i)))])) t → Steps p.tables e below (s₁.setTop (mkF m 0 #[.val (.ref pt), .val (.ref la), .val (.int z0), .unset, .unset, .unset, .unset, .unset, .unset, .unset] [])) t := fun t k => st t (by
      show Steps p.tables e below (T4.setTop (mkF m 38 #[.val (.ref pt), .val (.ref la), .val (.int z0), .val (.int (Int32.ofNat i)), .val (.int (Int32.ofNat j)), .val (.int (Int32.ofNat (lab i))), .val (.int (Int32.ofNat (lab j))), .unset, .unset, .unset] [(.int (if lab i = lab j then (0 : Int32) else (1 : Int32)))])) _
      refine XS.istore X.here hx rfl (hb hby d4_38) rfl (l' := #[.val (.ref pt), .val (.ref la), .val (.int z0), .val (.int (Int32.ofNat i)), .val (.int (Int32.ofNat j)), .val (.int (Int32.ofNat (lab i))), .val (.int (Int32.ofNat (lab j))), .val (.int (if lab i = lab j then (0 : Int32) else (1 : Int32))), .unset, .unset]) rfl ?_
      show Steps p.tables e below (T4.setTop (mkF m 40 #[.val (.ref pt), .val (.ref la), .val (.int z0), .val (.int (Int32.ofNat i)), .val (.int (Int32.ofNat j)), .val (.int (Int32.ofNat (lab i))), .val (.int (Int32.ofNat (lab j))), .val (.int (if lab i = lab j then (0 : Int32) else (1 : Int32))), .unset, .unset] [])) _
      refine XS.iload X.here hx rfl (hb hby d4_40) rfl ?_
      show Steps p.tables e below (T4.setTop (mkF m 42 #[.val (.ref pt), .val (.ref la), .val (.int z0), .val (.int (Int32.ofNat i)), .val (.int (Int32.ofNat j)), .val (.int (Int32.ofNat (lab i))), .val (.int (Int32.ofNat (lab j))), .val (.int (if lab i = lab j then (0 : Int32) else (1 : Int32))), .unset, .unset] [(.int (Int32.ofNat (lab i)))])) _
      refine XS.iload X.here hx rfl (hb hby d4_42) rfl ?_
      exact k)
  by_cases hq : (Int32.ofNat (lab i)) = (Int32.ofNat (lab j))
  · have e1 : lab i = lab j := (own_inj (by omega) (by omega)).mp hq
    rw [if_pos e1] at I1
    have st : ∀ t, Steps p.tables e below (T4.setTop (mkF m 95 #[.val (.ref pt), .val (.ref la), .val (.int z0), .val (.int (Int32.ofNat i)), .val (.int (Int32.ofNat j)), .val (.int (Int32.ofNat (lab i))), .val (.int (Int32.ofNat (lab j))), .val (.int (if lab i = lab j then (0 : Int32) else (1 : Int32))), .unset, .unset] [(.int (1 : Int32))])) t → Steps p.tables e below (s₁.setTop (mkF m 0 #[.val (.ref pt), .val (.ref la), .val (.int z0), .unset, .unset, .unset, .unset, .unset, .unset, .unset] [])) t := fun t k => st t (by
        show Steps p.tables e below (T4.setTop (mkF m 44 #[.val (.ref pt), .val (.ref la), .val (.int z0), .val (.int (Int32.ofNat i)), .val (.int (Int32.ofNat j)), .val (.int (Int32.ofNat (lab i))), .val (.int (Int32.ofNat (lab j))), .val (.int (if lab i = lab j then (0 : Int32) else (1 : Int32))), .unset, .unset] [(.int (Int32.ofNat (lab j))), (.int (Int32.ofNat (lab i)))])) _
        refine XS.icmpYes X.here hx rfl (pc0 := 44) (pc' := 73) rfl (hb hby d4_44) rfl (teq hq).1 (by decide) (by decide) ?_
        show Steps p.tables e below (T4.setTop (mkF m 73 #[.val (.ref pt), .val (.ref la), .val (.int z0), .val (.int (Int32.ofNat i)), .val (.int (Int32.ofNat j)), .val (.int (Int32.ofNat (lab i))), .val (.int (Int32.ofNat (lab j))), .val (.int (if lab i = lab j then (0 : Int32) else (1 : Int32))), .unset, .unset] [])) _
        refine XS.iload X.here hx rfl (hb hby d4_73) rfl ?_
        show Steps p.tables e below (T4.setTop (mkF m 75 #[.val (.ref pt), .val (.ref la), .val (.int z0), .val (.int (Int32.ofNat i)), .val (.int (Int32.ofNat j)), .val (.int (Int32.ofNat (lab i))), .val (.int (Int32.ofNat (lab j))), .val (.int (if lab i = lab j then (0 : Int32) else (1 : Int32))), .unset, .unset] [(.int (if lab i = lab j then (0 : Int32) else (1 : Int32)))])) _
        refine XS.iload X.here hx rfl (hb hby d4_75) rfl ?_
        show Steps p.tables e below (T4.setTop (mkF m 77 #[.val (.ref pt), .val (.ref la), .val (.int z0), .val (.int (Int32.ofNat i)), .val (.int (Int32.ofNat j)), .val (.int (Int32.ofNat (lab i))), .val (.int (Int32.ofNat (lab j))), .val (.int (if lab i = lab j then (0 : Int32) else (1 : Int32))), .unset, .unset] [(.int (Int32.ofNat (lab i))), (.int (if lab i = lab j then (0 : Int32) else (1 : Int32)))])) _
        refine XS.iload X.here hx rfl (hb hby d4_77) rfl ?_
        show Steps p.tables e below (T4.setTop (mkF m 79 #[.val (.ref pt), .val (.ref la), .val (.int z0), .val (.int (Int32.ofNat i)), .val (.int (Int32.ofNat j)), .val (.int (Int32.ofNat (lab i))), .val (.int (Int32.ofNat (lab j))), .val (.int (if lab i = lab j then (0 : Int32) else (1 : Int32))), .unset, .unset] [(.int (Int32.ofNat (lab j))), (.int (Int32.ofNat (lab i))), (.int (if lab i = lab j then (0 : Int32) else (1 : Int32)))])) _
        refine XS.icmpYes X.here hx rfl (pc0 := 79) (pc' := 86) rfl (hb hby d4_79) rfl (teq hq).1 (by decide) (by decide) ?_
        show Steps p.tables e below (T4.setTop (mkF m 86 #[.val (.ref pt), .val (.ref la), .val (.int z0), .val (.int (Int32.ofNat i)), .val (.int (Int32.ofNat j)), .val (.int (Int32.ofNat (lab i))), .val (.int (Int32.ofNat (lab j))), .val (.int (if lab i = lab j then (0 : Int32) else (1 : Int32))), .unset, .unset] [(.int (if lab i = lab j then (0 : Int32) else (1 : Int32)))])) _
        refine XS.iconst X.here hx rfl (hb hby d4_86) ?_
        show Steps p.tables e below (T4.setTop (mkF m 87 #[.val (.ref pt), .val (.ref la), .val (.int z0), .val (.int (Int32.ofNat i)), .val (.int (Int32.ofNat j)), .val (.int (Int32.ofNat (lab i))), .val (.int (Int32.ofNat (lab j))), .val (.int (if lab i = lab j then (0 : Int32) else (1 : Int32))), .unset, .unset] [(.int (0 : Int32)), (.int (if lab i = lab j then (0 : Int32) else (1 : Int32)))])) _
        refine XS.icmpNo X.here hx rfl (hb hby d4_87) rfl (teq (if_pos e1)).2 ?_
        show Steps p.tables e below (T4.setTop (mkF m 90 #[.val (.ref pt), .val (.ref la), .val (.int z0), .val (.int (Int32.ofNat i)), .val (.int (Int32.ofNat j)), .val (.int (Int32.ofNat (lab i))), .val (.int (Int32.ofNat (lab j))), .val (.int (if lab i = lab j then (0 : Int32) else (1 : Int32))), .unset, .unset] [])) _
        refine XS.iconst X.here hx rfl (hb hby d4_90) ?_
        show Steps p.tables e below (T4.setTop (mkF m 91 #[.val (.ref pt), .val (.ref la), .val (.int z0), .val (.int (Int32.ofNat i)), .val (.int (Int32.ofNat j)), .val (.int (Int32.ofNat (lab i))), .val (.int (Int32.ofNat (lab j))), .val (.int (if lab i = lab j then (0 : Int32) else (1 : Int32))), .unset, .unset] [(.int (1 : Int32))])) _
        refine XS.goto X.here hx rfl (pc0 := 91) (pc' := 95) rfl (hb hby d4_91) (by decide) (by decide) ?_
        exact k)
    obtain ⟨fs_, hr, hrun, hended, hW, hsame⟩ := X.leave (v := some (.int (1 : Int32))) (fun h => by rw [Bd.returns] at h; cases h)
    refine ⟨_, _, pre0 _ (st _ ?_), hrun, hended, _, _, rfl, ?_, ⟨_, rfl⟩, hW, hsame.mono (by decide) (by decide)⟩
    · exact retN X hx (t := .boolean) Bd.returns (by simp) (hb hby d4_95) hr
    · show Q_rm4 Z pt la z0 pa k_pa k_la pr lab h0 n0 _ T4.heap _
      rw [eh]
      exact ⟨rfl, N, K, pr1, lab, I1, V_pa, V_la⟩
  · have e1 : ¬ lab i = lab j := fun z => hq ((own_inj (by omega) (by omega)).mpr z)
    rw [if_neg e1] at I1
    have st : ∀ t, Steps p.tables e below (T4.setTop (mkF m 51 #[.val (.ref pt), .val (.ref la), .val (.int z0), .val (.int (Int32.ofNat i)), .val (.int (Int32.ofNat j)), .val (.int (Int32.ofNat (lab i))), .val (.int (Int32.ofNat (lab j))), .val (.int (if lab i = lab j then (0 : Int32) else (1 : Int32))), .unset, .unset] [(.int (Int32.ofNat (lab j))), (.int (Int32.ofNat (lab i)))])) t → Steps p.tables e below (s₁.setTop (mkF m 0 #[.val (.ref pt), .val (.ref la), .val (.int z0), .unset, .unset, .unset, .unset, .unset, .unset, .unset] [])) t := fun t k => st t (by
        show Steps p.tables e below (T4.setTop (mkF m 44 #[.val (.ref pt), .val (.ref la), .val (.int z0), .val (.int (Int32.ofNat i)), .val (.int (Int32.ofNat j)), .val (.int (Int32.ofNat (lab i))), .val (.int (Int32.ofNat (lab j))), .val (.int (if lab i = lab j then (0 : Int32) else (1 : Int32))), .unset, .unset] [(.int (Int32.ofNat (lab j))), (.int (Int32.ofNat (lab i)))])) _
        refine XS.icmpNo X.here hx rfl (hb hby d4_44) rfl (feq hq).1 ?_
        show Steps p.tables e below (T4.setTop (mkF m 47 #[.val (.ref pt), .val (.ref la), .val (.int z0), .val (.int (Int32.ofNat i)), .val (.int (Int32.ofNat j)), .val (.int (Int32.ofNat (lab i))), .val (.int (Int32.ofNat (lab j))), .val (.int (if lab i = lab j then (0 : Int32) else (1 : Int32))), .unset, .unset] [])) _
        refine XS.iload X.here hx rfl (hb hby d4_47) rfl ?_
        show Steps p.tables e below (T4.setTop (mkF m 49 #[.val (.ref pt), .val (.ref la), .val (.int z0), .val (.int (Int32.ofNat i)), .val (.int (Int32.ofNat j)), .val (.int (Int32.ofNat (lab i))), .val (.int (Int32.ofNat (lab j))), .val (.int (if lab i = lab j then (0 : Int32) else (1 : Int32))), .unset, .unset] [(.int (Int32.ofNat (lab i)))])) _
        refine XS.iload X.here hx rfl (hb hby d4_49) rfl ?_
        exact k)
    obtain ⟨_, _, ⟨T7, L6, k6, n6⟩, -, X, ⟨Lc6, hQ, l6, y6, z6⟩, sx⟩ := Jvm.LawKit.callS X hx (y := (⟨"java/lang/Math", "min", "(II)I"⟩ : MethodName)) hown (mvT hZ (hw _ (List.mem_of_getElem? (i := 38) rfl))) (mvT hZ (hw _ (List.mem_of_getElem? (i := 36) rfl))) (mvT hZ (hw _ (List.mem_of_getElem? (i := 33) rfl))) (mvT hZ (hw _ (List.mem_of_getElem? (i := 37) rfl))) (by decide) (backOf (W := 0) (rm8 l Z a0 hw [] (Int32.ofNat (lab i)) (Int32.ofNat (lab j))  h5 n0 Z0 ) hZ (hw _ (List.mem_of_getElem? (i := 37) rfl)) (hw _ (List.mem_of_getElem? (i := 33) rfl)) (by decide) (by decide)) (g := (mkF m 51 #[.val (.ref pt), .val (.ref la), .val (.int z0), .val (.int (Int32.ofNat i)), .val (.int (Int32.ofNat j)), .val (.int (Int32.ofNat (lab i))), .val (.int (Int32.ofNat (lab j))), .val (.int (if lab i = lab j then (0 : Int32) else (1 : Int32))), .unset, .unset] [(.int (Int32.ofNat (lab j))), (.int (Int32.ofNat (lab i)))])) rfl (by rw [hml]; rfl) (argsL := [(.int (Int32.ofNat (lab i))), (.int (Int32.ofNat (lab j)))]) (rest := []) (lenOf own_pd2 rfl) rfl (by show 2 * 0 + _ ≤ _; exact Nat.le_of_eq rfl) (hb hby d4_51) (fun _ _ => ⟨rfl, eh, (by decide : 0 + 0 ≤ _), (by decide : 0 + 0 ≤ _)⟩)
    dsimp only [Pt.U, Pt.locs, Pt.cells, Pt.slots] at X l6 y6 z6 sx hQ
    subst l6 y6 z6
    obtain ⟨rfl, Nc, hsame_⟩ := hQ
    have st : ∀ t, Steps p.tables e below (T7.setTop (mkF m 54 #[.val (.ref pt), .val (.ref la), .val (.int z0), .val (.int (Int32.ofNat i)), .val (.int (Int32.ofNat j)), .val (.int (Int32.ofNat (lab i))), .val (.int (Int32.ofNat (lab j))), .val (.int (if lab i = lab j then (0 : Int32) else (1 : Int32))), .unset, .unset] [(.int (own_min (Int32.ofNat (lab i)) (Int32.ofNat (lab j))))])) t → Steps p.tables e below (s₁.setTop (mkF m 0 #[.val (.ref pt), .val (.ref la), .val (.int z0), .unset, .unset, .unset, .unset, .unset, .unset, .unset] [])) t := fun t k => st t (sx t k)
    have N := Fr.app N Nc
    have eh : T7.heap = h5 := hsame_
    rw [own_mn (by omega) (by omega)] at st
    have st : ∀ t, Steps p.tables e below (T7.setTop (mkF m 60 #[.val (.ref pt), .val (.ref la), .val (.int z0), .val (.int (Int32.ofNat i)), .val (.int (Int32.ofNat j)), .val (.int (Int32.ofNat (lab i))), .val (.int (Int32.ofNat (lab j))), .val (.int (if lab i = lab j then (0 : Int32) else (1 : Int32))), .val (.int (Int32.ofNat (min (lab i) (lab j)))), .unset] [(.int (Int32.ofNat (lab j))), (.int (Int32.ofNat (lab i)))])) t → Steps p.tables e below (s₁.setTop (mkF m 0 #[.val (.ref pt), .val (.ref la), .val (.int z0), .unset, .unset, .unset, .unset, .unset, .unset, .unset] [])) t := fun t k => st t (by
        show Steps p.tables e below (T7.setTop (mkF m 54 #[.val (.ref pt), .val (.ref la), .val (.int z0), .val (.int (Int32.ofNat i)), .val (.int (Int32.ofNat j)), .val (.int (Int32.ofNat (lab i))), .val (.int (Int32.ofNat (lab j))), .val (.int (if lab i = lab j then (0 : Int32) else (1 : Int32))), .unset, .unset] [(.int (Int32.ofNat (min (lab i) (lab j))))])) _
        refine XS.istore X.here hx rfl (hb hby d4_54) rfl (l' := #[.val (.ref pt), .val (.ref la), .val (.int z0), .val (.int (Int32.ofNat i)), .val (.int (Int32.ofNat j)), .val (.int (Int32.ofNat (lab i))), .val (.int (Int32.ofNat (lab j))), .val (.int (if lab i = lab j then (0 : Int32) else (1 : Int32))), .val (.int (Int32.ofNat (min (lab i) (lab j)))), .unset]) rfl ?_
        show Steps p.tables e below (T7.setTop (mkF m 56 #[.val (.ref pt), .val (.ref la), .val (.int z0), .val (.int (Int32.ofNat i)), .val (.int (Int32.ofNat j)), .val (.int (Int32.ofNat (lab i))), .val (.int (Int32.ofNat (lab j))), .val (.int (if lab i = lab j then (0 : Int32) else (1 : Int32))), .val (.int (Int32.ofNat (min (lab i) (lab j)))), .unset] [])) _
        refine XS.iload X.here hx rfl (hb hby d4_56) rfl ?_
        show Steps p.tables e below (T7.setTop (mkF m 58 #[.val (.ref pt), .val (.ref la), .val (.int z0), .val (.int (Int32.ofNat i)), .val (.int (Int32.ofNat j)), .val (.int (Int32.ofNat (lab i))), .val (.int (Int32.ofNat (lab j))), .val (.int (if lab i = lab j then (0 : Int32) else (1 : Int32))), .val (.int (Int32.ofNat (min (lab i) (lab j)))), .unset] [(.int (Int32.ofNat (lab i)))])) _
        refine XS.iload X.here hx rfl (hb hby d4_58) rfl ?_
        exact k)
    obtain ⟨_, _, ⟨T9, L8, k8, n8⟩, -, X, ⟨Lc8, hQ, l8, y8, z8⟩, sx⟩ := Jvm.LawKit.callS X hx (y := (⟨"java/lang/Math", "max", "(II)I"⟩ : MethodName)) hown (mvT hZ (hw _ (List.mem_of_getElem? (i := 39) rfl))) (mvT hZ (hw _ (List.mem_of_getElem? (i := 32) rfl))) (mvT hZ (hw _ (List.mem_of_getElem? (i := 33) rfl))) (mvT hZ (hw _ (List.mem_of_getElem? (i := 34) rfl))) (by decide) (backOf (W := 0) (rm7 l Z a0 hw [] (Int32.ofNat (lab i)) (Int32.ofNat (lab j))  h5 n0 Z0 ) hZ (hw _ (List.mem_of_getElem? (i := 34) rfl)) (hw _ (List.mem_of_getElem? (i := 33) rfl)) (by decide) (by decide)) (g := (mkF m 60 #[.val (.ref pt), .val (.ref la), .val (.int z0), .val (.int (Int32.ofNat i)), .val (.int (Int32.ofNat j)), .val (.int (Int32.ofNat (lab i))), .val (.int (Int32.ofNat (lab j))), .val (.int (if lab i = lab j then (0 : Int32) else (1 : Int32))), .val (.int (Int32.ofNat (min (lab i) (lab j)))), .unset] [(.int (Int32.ofNat (lab j))), (.int (Int32.ofNat (lab i)))])) rfl (by rw [hml]; rfl) (argsL := [(.int (Int32.ofNat (lab i))), (.int (Int32.ofNat (lab j)))]) (rest := []) (lenOf own_pd2 rfl) rfl (by show 2 * 0 + _ ≤ _; exact Nat.le_of_eq rfl) (hb hby d4_60) (fun _ _ => ⟨rfl, eh, (by decide : 0 + 0 ≤ _), (by decide : 0 + 0 ≤ _)⟩)
    dsimp only [Pt.U, Pt.locs, Pt.cells, Pt.slots] at X l8 y8 z8 sx hQ
    subst l8 y8 z8
    obtain ⟨rfl, Nc, hsame_⟩ := hQ
    have st : ∀ t, Steps p.tables e below (T9.setTop (mkF m 63 #[.val (.ref pt), .val (.ref la), .val (.int z0), .val (.int (Int32.ofNat i)), .val (.int (Int32.ofNat j)), .val (.int (Int32.ofNat (lab i))), .val (.int (Int32.ofNat (lab j))), .val (.int (if lab i = lab j then (0 : Int32) else (1 : Int32))), .val (.int (Int32.ofNat (min (lab i) (lab j)))), .unset] [(.int (own_max (Int32.ofNat (lab i)) (Int32.ofNat (lab j))))])) t → Steps p.tables e below (s₁.setTop (mkF m 0 #[.val (.ref pt), .val (.ref la), .val (.int z0), .unset, .unset, .unset, .unset, .unset, .unset, .unset] [])) t := fun t k => st t (sx t k)
    have N := Fr.app N Nc
    have eh : T9.heap = h5 := hsame_
    rw [own_mx (by omega) (by omega)] at st
    have st : ∀ t, Steps p.tables e below (T9.setTop (mkF m 70 #[.val (.ref pt), .val (.ref la), .val (.int z0), .val (.int (Int32.ofNat i)), .val (.int (Int32.ofNat j)), .val (.int (Int32.ofNat (lab i))), .val (.int (Int32.ofNat (lab j))), .val (.int (if lab i = lab j then (0 : Int32) else (1 : Int32))), .val (.int (Int32.ofNat (min (lab i) (lab j)))), .val (.int (Int32.ofNat (max (lab i) (lab j))))] [(.int (Int32.ofNat (min (lab i) (lab j)))), (.int (Int32.ofNat (max (lab i) (lab j)))), (.ref la)])) t → Steps p.tables e below (s₁.setTop (mkF m 0 #[.val (.ref pt), .val (.ref la), .val (.int z0), .unset, .unset, .unset, .unset, .unset, .unset, .unset] [])) t := fun t k => st t (by
        show Steps p.tables e below (T9.setTop (mkF m 63 #[.val (.ref pt), .val (.ref la), .val (.int z0), .val (.int (Int32.ofNat i)), .val (.int (Int32.ofNat j)), .val (.int (Int32.ofNat (lab i))), .val (.int (Int32.ofNat (lab j))), .val (.int (if lab i = lab j then (0 : Int32) else (1 : Int32))), .val (.int (Int32.ofNat (min (lab i) (lab j)))), .unset] [(.int (Int32.ofNat (max (lab i) (lab j))))])) _
        refine XS.istore X.here hx rfl (hb hby d4_63) rfl (l' := #[.val (.ref pt), .val (.ref la), .val (.int z0), .val (.int (Int32.ofNat i)), .val (.int (Int32.ofNat j)), .val (.int (Int32.ofNat (lab i))), .val (.int (Int32.ofNat (lab j))), .val (.int (if lab i = lab j then (0 : Int32) else (1 : Int32))), .val (.int (Int32.ofNat (min (lab i) (lab j)))), .val (.int (Int32.ofNat (max (lab i) (lab j))))]) rfl ?_
        show Steps p.tables e below (T9.setTop (mkF m 65 #[.val (.ref pt), .val (.ref la), .val (.int z0), .val (.int (Int32.ofNat i)), .val (.int (Int32.ofNat j)), .val (.int (Int32.ofNat (lab i))), .val (.int (Int32.ofNat (lab j))), .val (.int (if lab i = lab j then (0 : Int32) else (1 : Int32))), .val (.int (Int32.ofNat (min (lab i) (lab j)))), .val (.int (Int32.ofNat (max (lab i) (lab j))))] [])) _
        refine XS.aloadN X.here hx rfl (hb hby d4_65) rfl rfl ?_
        show Steps p.tables e below (T9.setTop (mkF m 66 #[.val (.ref pt), .val (.ref la), .val (.int z0), .val (.int (Int32.ofNat i)), .val (.int (Int32.ofNat j)), .val (.int (Int32.ofNat (lab i))), .val (.int (Int32.ofNat (lab j))), .val (.int (if lab i = lab j then (0 : Int32) else (1 : Int32))), .val (.int (Int32.ofNat (min (lab i) (lab j)))), .val (.int (Int32.ofNat (max (lab i) (lab j))))] [(.ref la)])) _
        refine XS.iload X.here hx rfl (hb hby d4_66) rfl ?_
        show Steps p.tables e below (T9.setTop (mkF m 68 #[.val (.ref pt), .val (.ref la), .val (.int z0), .val (.int (Int32.ofNat i)), .val (.int (Int32.ofNat j)), .val (.int (Int32.ofNat (lab i))), .val (.int (Int32.ofNat (lab j))), .val (.int (if lab i = lab j then (0 : Int32) else (1 : Int32))), .val (.int (Int32.ofNat (min (lab i) (lab j)))), .val (.int (Int32.ofNat (max (lab i) (lab j))))] [(.int (Int32.ofNat (max (lab i) (lab j)))), (.ref la)])) _
        refine XS.iload X.here hx rfl (hb hby d4_68) rfl ?_
        exact k)
    obtain ⟨_, _, ⟨T11, L10, k10, n10⟩, -, X, ⟨Lc10, hQ, l10, y10, z10⟩, sx⟩ := Jvm.LawKit.callS X hx (y := (⟨"isoproof/model/PartitionFindPinLaw", "relabel", "([III)V"⟩ : MethodName)) hown (mvT hZ (hw _ (List.mem_of_getElem? (i := 40) rfl))) (mvT hZ (hw _ (List.mem_of_getElem? (i := 41) rfl))) (mvT hZ (hw _ (List.mem_of_getElem? (i := 19) rfl))) (mvT hZ (hw _ (List.mem_of_getElem? (i := 42) rfl))) (by decide) (backOf (W := 0) (rm9 l Z a0 hw [] la k_la lab (max (lab i) (lab j)) (min (lab i) (lab j)) h5 n0 Z0 V_la g_la (fun y hy => Nat.lt_of_le_of_lt (I y hy).2.2.2.1 hy) (by omega)) hZ (hw _ (List.mem_of_getElem? (i := 42) rfl)) (hw _ (List.mem_of_getElem? (i := 19) rfl)) (by decide) (by decide)) (g := (mkF m 70 #[.val (.ref pt), .val (.ref la), .val (.int z0), .val (.int (Int32.ofNat i)), .val (.int (Int32.ofNat j)), .val (.int (Int32.ofNat (lab i))), .val (.int (Int32.ofNat (lab j))), .val (.int (if lab i = lab j then (0 : Int32) else (1 : Int32))), .val (.int (Int32.ofNat (min (lab i) (lab j)))), .val (.int (Int32.ofNat (max (lab i) (lab j))))] [(.int (Int32.ofNat (min (lab i) (lab j)))), (.int (Int32.ofNat (max (lab i) (lab j)))), (.ref la)])) rfl (by rw [hml]; rfl) (argsL := [(.ref la), (.int (Int32.ofNat (max (lab i) (lab j)))), (.int (Int32.ofNat (min (lab i) (lab j))))]) (rest := []) (lenOf own_pd4 rfl) rfl (by show 2 * 0 + _ ≤ _; exact Nat.le_of_eq rfl) (hb hby d4_70) (fun _ _ => ⟨rfl, eh, (by decide : 0 + 0 ≤ _), (by decide : 0 + 0 ≤ _)⟩)
    dsimp only [Pt.U, Pt.locs, Pt.cells, Pt.slots] at X l10 y10 z10 sx hQ
    subst l10 y10 z10
    obtain ⟨rfl, Nc, K2, V_la⟩ := hQ
    have st : ∀ t, Steps p.tables e below (T11.setTop (mkF m 73 #[.val (.ref pt), .val (.ref la), .val (.int z0), .val (.int (Int32.ofNat i)), .val (.int (Int32.ofNat j)), .val (.int (Int32.ofNat (lab i))), .val (.int (Int32.ofNat (lab j))), .val (.int (if lab i = lab j then (0 : Int32) else (1 : Int32))), .val (.int (Int32.ofNat (min (lab i) (lab j)))), .val (.int (Int32.ofNat (max (lab i) (lab j))))] [])) t → Steps p.tables e below (s₁.setTop (mkF m 0 #[.val (.ref pt), .val (.ref la), .val (.int z0), .unset, .unset, .unset, .unset, .unset, .unset, .unset] [])) t := fun t k => st t (sx t k)
    have N := Fr.app N Nc
    obtain ⟨h12, eH⟩ : ∃ z, z = T11.heap := ⟨_, rfl⟩
    rw [← eH] at K2 V_la
    have eh : T11.heap = h12 := eH.symm
    have F_pt_parent := F_pt_parent.keep K2 (ninS ne_pt_la nin0)
    have E_pt := E_pt.keep K2
    have V_pa := V_pa.keep K2 (ninS ne_pa_la nin0)
    have K := K.trans K2 (allS (Or.inl (List.mem_of_getElem? (i := 1) rfl)) all0)
    have Z0 := Nat.le_trans Z0 K2.1
    have st : ∀ t, Steps p.tables e below (T11.setTop (mkF m 95 #[.val (.ref pt), .val (.ref la), .val (.int z0), .val (.int (Int32.ofNat i)), .val (.int (Int32.ofNat j)), .val (.int (Int32.ofNat (lab i))), .val (.int (Int32.ofNat (lab j))), .val (.int (if lab i = lab j then (0 : Int32) else (1 : Int32))), .val (.int (Int32.ofNat (min (lab i) (lab j)))), .val (.int (Int32.ofNat (max (lab i) (lab j))))] [(.int (1 : Int32))])) t → Steps p.tables e below (s₁.setTop (mkF m 0 #[.val (.ref pt), .val (.ref la), .val (.int z0), .unset, .unset, .unset, .unset, .unset, .unset, .unset] [])) t := fun t k => st t (by
        show Steps p.tables e below (T11.setTop (mkF m 73 #[.val (.ref pt), .val (.ref la), .val (.int z0), .val (.int (Int32.ofNat i)), .val (.int (Int32.ofNat j)), .val (.int (Int32.ofNat (lab i))), .val (.int (Int32.ofNat (lab j))), .val (.int (if lab i = lab j then (0 : Int32) else (1 : Int32))), .val (.int (Int32.ofNat (min (lab i) (lab j)))), .val (.int (Int32.ofNat (max (lab i) (lab j))))] [])) _
        refine XS.iload X.here hx rfl (hb hby d4_73) rfl ?_
        show Steps p.tables e below (T11.setTop (mkF m 75 #[.val (.ref pt), .val (.ref la), .val (.int z0), .val (.int (Int32.ofNat i)), .val (.int (Int32.ofNat j)), .val (.int (Int32.ofNat (lab i))), .val (.int (Int32.ofNat (lab j))), .val (.int (if lab i = lab j then (0 : Int32) else (1 : Int32))), .val (.int (Int32.ofNat (min (lab i) (lab j)))), .val (.int (Int32.ofNat (max (lab i) (lab j))))] [(.int (if lab i = lab j then (0 : Int32) else (1 : Int32)))])) _
        refine XS.iload X.here hx rfl (hb hby d4_75) rfl ?_
        show Steps p.tables e below (T11.setTop (mkF m 77 #[.val (.ref pt), .val (.ref la), .val (.int z0), .val (.int (Int32.ofNat i)), .val (.int (Int32.ofNat j)), .val (.int (Int32.ofNat (lab i))), .val (.int (Int32.ofNat (lab j))), .val (.int (if lab i = lab j then (0 : Int32) else (1 : Int32))), .val (.int (Int32.ofNat (min (lab i) (lab j)))), .val (.int (Int32.ofNat (max (lab i) (lab j))))] [(.int (Int32.ofNat (lab i))), (.int (if lab i = lab j then (0 : Int32) else (1 : Int32)))])) _
        refine XS.iload X.here hx rfl (hb hby d4_77) rfl ?_
        show Steps p.tables e below (T11.setTop (mkF m 79 #[.val (.ref pt), .val (.ref la), .val (.int z0), .val (.int (Int32.ofNat i)), .val (.int (Int32.ofNat j)), .val (.int (Int32.ofNat (lab i))), .val (.int (Int32.ofNat (lab j))), .val (.int (if lab i = lab j then (0 : Int32) else (1 : Int32))), .val (.int (Int32.ofNat (min (lab i) (lab j)))), .val (.int (Int32.ofNat (max (lab i) (lab j))))] [(.int (Int32.ofNat (lab j))), (.int (Int32.ofNat (lab i))), (.int (if lab i = lab j then (0 : Int32) else (1 : Int32)))])) _
        refine XS.icmpNo X.here hx rfl (hb hby d4_79) rfl (feq hq).1 ?_
        show Steps p.tables e below (T11.setTop (mkF m 82 #[.val (.ref pt), .val (.ref la), .val (.int z0), .val (.int (Int32.ofNat i)), .val (.int (Int32.ofNat j)), .val (.int (Int32.ofNat (lab i))), .val (.int (Int32.ofNat (lab j))), .val (.int (if lab i = lab j then (0 : Int32) else (1 : Int32))), .val (.int (Int32.ofNat (min (lab i) (lab j)))), .val (.int (Int32.ofNat (max (lab i) (lab j))))] [(.int (if lab i = lab j then (0 : Int32) else (1 : Int32)))])) _
        refine XS.iconst X.here hx rfl (hb hby d4_82) ?_
        show Steps p.tables e below (T11.setTop (mkF m 83 #[.val (.ref pt), .val (.ref la), .val (.int z0), .val (.int (Int32.ofNat i)), .val (.int (Int32.ofNat j)), .val (.int (Int32.ofNat (lab i))), .val (.int (Int32.ofNat (lab j))), .val (.int (if lab i = lab j then (0 : Int32) else (1 : Int32))), .val (.int (Int32.ofNat (min (lab i) (lab j)))), .val (.int (Int32.ofNat (max (lab i) (lab j))))] [(.int (1 : Int32)), (.int (if lab i = lab j then (0 : Int32) else (1 : Int32)))])) _
        refine XS.goto X.here hx rfl (pc0 := 83) (pc' := 87) rfl (hb hby d4_83) (by decide) (by decide) ?_
        show Steps p.tables e below (T11.setTop (mkF m 87 #[.val (.ref pt), .val (.ref la), .val (.int z0), .val (.int (Int32.ofNat i)), .val (.int (Int32.ofNat j)), .val (.int (Int32.ofNat (lab i))), .val (.int (Int32.ofNat (lab j))), .val (.int (if lab i = lab j then (0 : Int32) else (1 : Int32))), .val (.int (Int32.ofNat (min (lab i) (lab j)))), .val (.int (Int32.ofNat (max (lab i) (lab j))))] [(.int (1 : Int32)), (.int (if lab i = lab j then (0 : Int32) else (1 : Int32)))])) _
        refine XS.icmpNo X.here hx rfl (hb hby d4_87) rfl (teq (if_neg e1)).2 ?_
        show Steps p.tables e below (T11.setTop (mkF m 90 #[.val (.ref pt), .val (.ref la), .val (.int z0), .val (.int (Int32.ofNat i)), .val (.int (Int32.ofNat j)), .val (.int (Int32.ofNat (lab i))), .val (.int (Int32.ofNat (lab j))), .val (.int (if lab i = lab j then (0 : Int32) else (1 : Int32))), .val (.int (Int32.ofNat (min (lab i) (lab j)))), .val (.int (Int32.ofNat (max (lab i) (lab j))))] [])) _
        refine XS.iconst X.here hx rfl (hb hby d4_90) ?_
        show Steps p.tables e below (T11.setTop (mkF m 91 #[.val (.ref pt), .val (.ref la), .val (.int z0), .val (.int (Int32.ofNat i)), .val (.int (Int32.ofNat j)), .val (.int (Int32.ofNat (lab i))), .val (.int (Int32.ofNat (lab j))), .val (.int (if lab i = lab j then (0 : Int32) else (1 : Int32))), .val (.int (Int32.ofNat (min (lab i) (lab j)))), .val (.int (Int32.ofNat (max (lab i) (lab j))))] [(.int (1 : Int32))])) _
        refine XS.goto X.here hx rfl (pc0 := 91) (pc' := 95) rfl (hb hby d4_91) (by decide) (by decide) ?_
        exact k)
    obtain ⟨fs_, hr, hrun, hended, hW, hsame⟩ := X.leave (v := some (.int (1 : Int32))) (fun h => by rw [Bd.returns] at h; cases h)
    refine ⟨_, _, pre0 _ (st _ ?_), hrun, hended, _, _, rfl, ?_, ⟨_, rfl⟩, hW, hsame.mono (by decide) (by decide)⟩
    · exact retN X hx (t := .boolean) Bd.returns (by simp) (hb hby d4_95) hr
    · show Q_rm4 Z pt la z0 pa k_pa k_la pr lab h0 n0 _ T11.heap _
      rw [eh]
      exact ⟨rfl, N, K, pr1, _, I1, V_pa, V_la⟩
def Q_rm0 (Z : State) (z1 : Int32) (z2 : Int32) (z3 : Int32) (z4 : Int32)  (h0 : Heap) (n0 : Nat) (v : Option Value) (h : Heap) (L : List Loc) : Prop := v = some (.int 1) ∧ Fr n0 L
theorem own_pd5 : parseMethodDescriptor "(Lisoproof/model/Partition;[II)Z" = some ⟨[(.object "isoproof/model/Partition"), (.array .int), .int], some .boolean⟩ := by decide +kernel
theorem ef_rm0 (m : MethodId) (x0 : Int32) (x1 : Int32) (x2 : Int32) (x3 : Int32) : entryFrame m #[(.int x0), (.int x1), (.int x2), (.int x3)] maxLocals = mkF m 0 #[.val (.int x0), .val (.int x1), .val (.int x2), .val (.int x3), .unset, .unset, .unset, .unset, .unset, .unset, .unset, .unset, .unset, .unset, .unset] [] := by first | (simp [entryFrame, mkF, argsToLocals, Value.category, maxLocals]; done) | rfl
set_option maxRecDepth 65536 in
set_option maxHeartbeats 40000000 in
theorem rm0 (l : Launch) (Z : State) (a0 : Array Value) (hw : ∀ d ∈ tables_1, d.before a0 Z = true) (ws : List Jvm.Cond) (z1 : Int32) (z2 : Int32) (z3 : Int32) (z4 : Int32)  (h0 : Heap) (n0 : Nat) (Z0 : n0 ≤ h0.size)  :
    MetFree l x (head1 (Jvm.Cond.code x code maxLocals ret :: ws) room_1) (fun a' U => a' = #[(.int z1), (.int z2), (.int z3), (.int z4)] ∧ Z.Warmed39 U.vm ∧ U.heap = h0) (fun _ _ _ _ _ => True) (fun _ U o U' => ∃ v L, o = .returned v ∧ Q_rm0 Z z1 z2 z3 z4 h0 n0 v U'.heap L ∧ FrameEnd U o U' L room_1.cells room_1.slots) := by
  refine MetFree.of_bodySF (plainFor_of_name own_pn9) hisR ?_
  intro p e s m args below meth cd0 s₁ Bd hml0 hP hK
  obtain ⟨rfl, hZ, hh⟩ := hP
  have hx := Bd.exec
  have hby := Bd.bytes
  have hml : cd0.maxLocals = 15 := hml0
  have hown : s.vm.findClass "isoproof/model/PartitionFindPinLaw" = some m.cls := findClass_of_methodNamed Bd.named
  have hnm := (name_of_methodNamed Bd.named Bd.method).1
  have X : Stand p l e room_1 s m #[(.int z1), (.int z2), (.int z3), (.int z4)] below meth cd0 s₁ [] 0 0 := Stand.of_body Bd
  have eh : s₁.heap = h0 := by rw [← hh, Bd.state]; rfl
  have N := Fr.nil n0
  have K : Keep h0 h0 [] := Keep.refl _ _
  have pre0 : ∀ t, Steps p.tables e below (s₁.setTop (mkF m 0 #[.val (.int z1), .val (.int z2), .val (.int z3), .val (.int z4), .unset, .unset, .unset, .unset, .unset, .unset, .unset, .unset, .unset, .unset, .unset] [])) t → Steps p.tables e below (s₁.setTop (entryFrame m #[(.int z1), (.int z2), (.int z3), (.int z4)] maxLocals)) t := fun t k => castTop (ef_rm0 m z1 z2 z3 z4) k
  have st : ∀ t, Steps p.tables e below (s₁.setTop (mkF m 0 #[.val (.int z1), .val (.int z2), .val (.int z3), .val (.int z4), .unset, .unset, .unset, .unset, .unset, .unset, .unset, .unset, .unset, .unset, .unset] [])) t → Steps p.tables e below (s₁.setTop (mkF m 0 #[.val (.int z1), .val (.int z2), .val (.int z3), .val (.int z4), .unset, .unset, .unset, .unset, .unset, .unset, .unset, .unset, .unset, .unset, .unset] [])) t := fun t k => k
  have st : ∀ t, Steps p.tables e below (s₁.setTop (mkF m 1 #[.val (.int z1), .val (.int z2), .val (.int z3), .val (.int z4), .unset, .unset, .unset, .unset, .unset, .unset, .unset, .unset, .unset, .unset, .unset] [(.int (5 : Int32))])) t → Steps p.tables e below (s₁.setTop (mkF m 0 #[.val (.int z1), .val (.int z2), .val (.int z3), .val (.int z4), .unset, .unset, .unset, .unset, .unset, .unset, .unset, .unset, .unset, .unset, .unset] [])) t := fun t k => st t (by
      show Steps p.tables e below (s₁.setTop (mkF m 0 #[.val (.int z1), .val (.int z2), .val (.int z3), .val (.int z4), .unset, .unset, .unset, .unset, .unset, .unset, .unset, .unset, .unset, .unset, .unset] [])) _
      refine XS.iconst X.here hx rfl (hb hby at_0) ?_
      exact k)
  obtain ⟨T1, h2, k_la, X, eh, E3, A3, sx⟩ := newP X hx hZ (hw _ (List.mem_of_getElem? (i := 0) rfl)) eh (g := (mkF m 1 #[.val (.int z1), .val (.int z2), .val (.int z3), .val (.int z4), .unset, .unset, .unset, .unset, .unset, .unset, .unset, .unset, .unset, .unset, .unset] [(.int (5 : Int32))])) rfl (hb hby at_1) rfl (by decide) (cap := 5) (by decide) (by decide) (by decide) (by decide)
  obtain ⟨la, g3⟩ : ∃ z, z = h0.size := ⟨_, rfl⟩
  have g_la : n0 ≤ la := Nat.le_trans Z0 (Nat.le_of_eq g3.symm)
  have sz_la : h0.size ≤ la := Nat.le_trans K.1 (Nat.le_of_eq g3.symm)
  rw [← g3] at A3 sx
  have st : ∀ t, Steps p.tables e below (T1.setTop (mkF m 3 #[.val (.int z1), .val (.int z2), .val (.int z3), .val (.int z4), .unset, .unset, .unset, .unset, .unset, .unset, .unset, .unset, .unset, .unset, .unset] [(.ref la)])) t → Steps p.tables e below (s₁.setTop (mkF m 0 #[.val (.int z1), .val (.int z2), .val (.int z3), .val (.int z4), .unset, .unset, .unset, .unset, .unset, .unset, .unset, .unset, .unset, .unset, .unset] [])) t := fun t k => st t (sx t k)
  have K := K.ext E3
  have Z0 := Nat.le_trans Z0 E3.1
  have V_la : Arv Z h2 la k_la .int (5 : Int32) (List.replicate 5 (.int (0 : Int32))) (.int (0 : Int32)) := (Arv.new A3 (by decide)).pad (pad_rep [] (.int (0 : Int32)) 5)
  have V_la : Arv Z h2 la k_la .int (5 : Int32) (own_arr (fun _ => 0)) (.int (0 : Int32)) := V_la
  have st : ∀ t, Steps p.tables e below (T1.setTop (mkF m 6 #[.val (.int z1), .val (.int z2), .val (.int z3), .val (.int z4), .unset, .unset, .unset, .unset, .unset, .unset, .unset, .unset, .unset, .unset, .unset] [(.int (0 : Int32)), (.int (0 : Int32)), (.ref la), (.ref la)])) t → Steps p.tables e below (s₁.setTop (mkF m 0 #[.val (.int z1), .val (.int z2), .val (.int z3), .val (.int z4), .unset, .unset, .unset, .unset, .unset, .unset, .unset, .unset, .unset, .unset, .unset] [])) t := fun t k => st t (by
      show Steps p.tables e below (T1.setTop (mkF m 3 #[.val (.int z1), .val (.int z2), .val (.int z3), .val (.int z4), .unset, .unset, .unset, .unset, .unset, .unset, .unset, .unset, .unset, .unset, .unset] [(.ref la)])) _
      refine XS.dup X.here hx rfl (hb hby at_3) rfl rfl ?_
      show Steps p.tables e below (T1.setTop (mkF m 4 #[.val (.int z1), .val (.int z2), .val (.int z3), .val (.int z4), .unset, .unset, .unset, .unset, .unset, .unset, .unset, .unset, .unset, .unset, .unset] [(.ref la), (.ref la)])) _
      refine XS.iconst X.here hx rfl (hb hby at_4) ?_
      show Steps p.tables e below (T1.setTop (mkF m 5 #[.val (.int z1), .val (.int z2), .val (.int z3), .val (.int z4), .unset, .unset, .unset, .unset, .unset, .unset, .unset, .unset, .unset, .unset, .unset] [(.int (0 : Int32)), (.ref la), (.ref la)])) _
      refine XS.iconst X.here hx rfl (hb hby at_5) ?_
      exact k)
  obtain ⟨cl4, Ar4, hin4, hat4⟩ := own_rd V_la 0 (by decide)
  obtain ⟨T5, h6, X, eh, W4, sx⟩ := stI X hx hZ eh Ar4 (j := Int32.ofNat 0) hin4 (g := (mkF m 6 #[.val (.int z1), .val (.int z2), .val (.int z3), .val (.int z4), .unset, .unset, .unset, .unset, .unset, .unset, .unset, .unset, .unset, .unset, .unset] [(.int (0 : Int32)), (.int (0 : Int32)), (.ref la), (.ref la)])) rfl rfl (hb hby at_6)
  have st : ∀ t, Steps p.tables e below (T5.setTop (mkF m 7 #[.val (.int z1), .val (.int z2), .val (.int z3), .val (.int z4), .unset, .unset, .unset, .unset, .unset, .unset, .unset, .unset, .unset, .unset, .unset] [(.ref la)])) t → Steps p.tables e below (s₁.setTop (mkF m 0 #[.val (.int z1), .val (.int z2), .val (.int z3), .val (.int z4), .unset, .unset, .unset, .unset, .unset, .unset, .unset, .unset, .unset, .unset, .unset] [])) t := fun t k => st t (sx t k)
  have K := K.wr W4 (Or.inr sz_la)
  have Z0 := Nat.le_trans Z0 (Keep.of_wr W4).1
  have V_la := own_st V_la 0 (by decide) 0 W4
  have N := Fr.snoc X N g_la
  have st : ∀ t, Steps p.tables e below (T5.setTop (mkF m 10 #[.val (.int z1), .val (.int z2), .val (.int z3), .val (.int z4), .unset, .unset, .unset, .unset, .unset, .unset, .unset, .unset, .unset, .unset, .unset] [(.int (1 : Int32)), (.int (1 : Int32)), (.ref la), (.ref la)])) t → Steps p.tables e below (s₁.setTop (mkF m 0 #[.val (.int z1), .val (.int z2), .val (.int z3), .val (.int z4), .unset, .unset, .unset, .unset, .unset, .unset, .unset, .unset, .unset, .unset, .unset] [])) t := fun t k => st t (by
      show Steps p.tables e below (T5.setTop (mkF m 7 #[.val (.int z1), .val (.int z2), .val (.int z3), .val (.int z4), .unset, .unset, .unset, .unset, .unset, .unset, .unset, .unset, .unset, .unset, .unset] [(.ref la)])) _
      refine XS.dup X.here hx rfl (hb hby at_7) rfl rfl ?_
      show Steps p.tables e below (T5.setTop (mkF m 8 #[.val (.int z1), .val (.int z2), .val (.int z3), .val (.int z4), .unset, .unset, .unset, .unset, .unset, .unset, .unset, .unset, .unset, .unset, .unset] [(.ref la), (.ref la)])) _
      refine XS.iconst X.here hx rfl (hb hby at_8) ?_
      show Steps p.tables e below (T5.setTop (mkF m 9 #[.val (.int z1), .val (.int z2), .val (.int z3), .val (.int z4), .unset, .unset, .unset, .unset, .unset, .unset, .unset, .unset, .unset, .unset, .unset] [(.int (1 : Int32)), (.ref la), (.ref la)])) _
      refine XS.iconst X.here hx rfl (hb hby at_9) ?_
      exact k)
  obtain ⟨cl7, Ar7, hin7, hat7⟩ := own_rd V_la 1 (by decide)
  obtain ⟨T8, h9, X, eh, W7, sx⟩ := stI X hx hZ eh Ar7 (j := Int32.ofNat 1) hin7 (g := (mkF m 10 #[.val (.int z1), .val (.int z2), .val (.int z3), .val (.int z4), .unset, .unset, .unset, .unset, .unset, .unset, .unset, .unset, .unset, .unset, .unset] [(.int (1 : Int32)), (.int (1 : Int32)), (.ref la), (.ref la)])) rfl rfl (hb hby at_10)
  have st : ∀ t, Steps p.tables e below (T8.setTop (mkF m 11 #[.val (.int z1), .val (.int z2), .val (.int z3), .val (.int z4), .unset, .unset, .unset, .unset, .unset, .unset, .unset, .unset, .unset, .unset, .unset] [(.ref la)])) t → Steps p.tables e below (s₁.setTop (mkF m 0 #[.val (.int z1), .val (.int z2), .val (.int z3), .val (.int z4), .unset, .unset, .unset, .unset, .unset, .unset, .unset, .unset, .unset, .unset, .unset] [])) t := fun t k => st t (sx t k)
  have K := K.wr W7 (Or.inr sz_la)
  have Z0 := Nat.le_trans Z0 (Keep.of_wr W7).1
  have V_la := own_st V_la 1 (by decide) 1 W7
  have N := Fr.snoc X N g_la
  have st : ∀ t, Steps p.tables e below (T8.setTop (mkF m 14 #[.val (.int z1), .val (.int z2), .val (.int z3), .val (.int z4), .unset, .unset, .unset, .unset, .unset, .unset, .unset, .unset, .unset, .unset, .unset] [(.int (2 : Int32)), (.int (2 : Int32)), (.ref la), (.ref la)])) t → Steps p.tables e below (s₁.setTop (mkF m 0 #[.val (.int z1), .val (.int z2), .val (.int z3), .val (.int z4), .unset, .unset, .unset, .unset, .unset, .unset, .unset, .unset, .unset, .unset, .unset] [])) t := fun t k => st t (by
      show Steps p.tables e below (T8.setTop (mkF m 11 #[.val (.int z1), .val (.int z2), .val (.int z3), .val (.int z4), .unset, .unset, .unset, .unset, .unset, .unset, .unset, .unset, .unset, .unset, .unset] [(.ref la)])) _
      refine XS.dup X.here hx rfl (hb hby at_11) rfl rfl ?_
      show Steps p.tables e below (T8.setTop (mkF m 12 #[.val (.int z1), .val (.int z2), .val (.int z3), .val (.int z4), .unset, .unset, .unset, .unset, .unset, .unset, .unset, .unset, .unset, .unset, .unset] [(.ref la), (.ref la)])) _
      refine XS.iconst X.here hx rfl (hb hby at_12) ?_
      show Steps p.tables e below (T8.setTop (mkF m 13 #[.val (.int z1), .val (.int z2), .val (.int z3), .val (.int z4), .unset, .unset, .unset, .unset, .unset, .unset, .unset, .unset, .unset, .unset, .unset] [(.int (2 : Int32)), (.ref la), (.ref la)])) _
      refine XS.iconst X.here hx rfl (hb hby at_13) ?_
      exact k)
  obtain ⟨cl10, Ar10, hin10, hat10⟩ := own_rd V_la 2 (by decide)
  obtain ⟨T11, h12, X, eh, W10, sx⟩ := stI X hx hZ eh Ar10 (j := Int32.ofNat 2) hin10 (g := (mkF m 14 #[.val (.int z1), .val (.int z2), .val (.int z3), .val (.int z4), .unset, .unset, .unset, .unset, .unset, .unset, .unset, .unset, .unset, .unset, .unset] [(.int (2 : Int32)), (.int (2 : Int32)), (.ref la), (.ref la)])) rfl rfl (hb hby at_14)
  have st : ∀ t, Steps p.tables e below (T11.setTop (mkF m 15 #[.val (.int z1), .val (.int z2), .val (.int z3), .val (.int z4), .unset, .unset, .unset, .unset, .unset, .unset, .unset, .unset, .unset, .unset, .unset] [(.ref la)])) t → Steps p.tables e below (s₁.setTop (mkF m 0 #[.val (.int z1), .val (.int z2), .val (.int z3), .val (.int z4), .unset, .unset, .unset, .unset, .unset, .unset, .unset, .unset, .unset, .unset, .unset] [])) t := fun t k => st t (sx t k)
  have K := K.wr W10 (Or.inr sz_la)
  have Z0 := Nat.le_trans Z0 (Keep.of_wr W10).1
  have V_la := own_st V_la 2 (by decide) 2 W10
  have N := Fr.snoc X N g_la
  have st : ∀ t, Steps p.tables e below (T11.setTop (mkF m 18 #[.val (.int z1), .val (.int z2), .val (.int z3), .val (.int z4), .unset, .unset, .unset, .unset, .unset, .unset, .unset, .unset, .unset, .unset, .unset] [(.int (3 : Int32)), (.int (3 : Int32)), (.ref la), (.ref la)])) t → Steps p.tables e below (s₁.setTop (mkF m 0 #[.val (.int z1), .val (.int z2), .val (.int z3), .val (.int z4), .unset, .unset, .unset, .unset, .unset, .unset, .unset, .unset, .unset, .unset, .unset] [])) t := fun t k => st t (by
      show Steps p.tables e below (T11.setTop (mkF m 15 #[.val (.int z1), .val (.int z2), .val (.int z3), .val (.int z4), .unset, .unset, .unset, .unset, .unset, .unset, .unset, .unset, .unset, .unset, .unset] [(.ref la)])) _
      refine XS.dup X.here hx rfl (hb hby at_15) rfl rfl ?_
      show Steps p.tables e below (T11.setTop (mkF m 16 #[.val (.int z1), .val (.int z2), .val (.int z3), .val (.int z4), .unset, .unset, .unset, .unset, .unset, .unset, .unset, .unset, .unset, .unset, .unset] [(.ref la), (.ref la)])) _
      refine XS.iconst X.here hx rfl (hb hby at_16) ?_
      show Steps p.tables e below (T11.setTop (mkF m 17 #[.val (.int z1), .val (.int z2), .val (.int z3), .val (.int z4), .unset, .unset, .unset, .unset, .unset, .unset, .unset, .unset, .unset, .unset, .unset] [(.int (3 : Int32)), (.ref la), (.ref la)])) _
      refine XS.iconst X.here hx rfl (hb hby at_17) ?_
      exact k)
  obtain ⟨cl13, Ar13, hin13, hat13⟩ := own_rd V_la 3 (by decide)
  obtain ⟨T14, h15, X, eh, W13, sx⟩ := stI X hx hZ eh Ar13 (j := Int32.ofNat 3) hin13 (g := (mkF m 18 #[.val (.int z1), .val (.int z2), .val (.int z3), .val (.int z4), .unset, .unset, .unset, .unset, .unset, .unset, .unset, .unset, .unset, .unset, .unset] [(.int (3 : Int32)), (.int (3 : Int32)), (.ref la), (.ref la)])) rfl rfl (hb hby at_18)
  have st : ∀ t, Steps p.tables e below (T14.setTop (mkF m 19 #[.val (.int z1), .val (.int z2), .val (.int z3), .val (.int z4), .unset, .unset, .unset, .unset, .unset, .unset, .unset, .unset, .unset, .unset, .unset] [(.ref la)])) t → Steps p.tables e below (s₁.setTop (mkF m 0 #[.val (.int z1), .val (.int z2), .val (.int z3), .val (.int z4), .unset, .unset, .unset, .unset, .unset, .unset, .unset, .unset, .unset, .unset, .unset] [])) t := fun t k => st t (sx t k)
  have K := K.wr W13 (Or.inr sz_la)
  have Z0 := Nat.le_trans Z0 (Keep.of_wr W13).1
  have V_la := own_st V_la 3 (by decide) 3 W13
  have N := Fr.snoc X N g_la
  have st : ∀ t, Steps p.tables e below (T14.setTop (mkF m 22 #[.val (.int z1), .val (.int z2), .val (.int z3), .val (.int z4), .unset, .unset, .unset, .unset, .unset, .unset, .unset, .unset, .unset, .unset, .unset] [(.int (4 : Int32)), (.int (4 : Int32)), (.ref la), (.ref la)])) t → Steps p.tables e below (s₁.setTop (mkF m 0 #[.val (.int z1), .val (.int z2), .val (.int z3), .val (.int z4), .unset, .unset, .unset, .unset, .unset, .unset, .unset, .unset, .unset, .unset, .unset] [])) t := fun t k => st t (by
      show Steps p.tables e below (T14.setTop (mkF m 19 #[.val (.int z1), .val (.int z2), .val (.int z3), .val (.int z4), .unset, .unset, .unset, .unset, .unset, .unset, .unset, .unset, .unset, .unset, .unset] [(.ref la)])) _
      refine XS.dup X.here hx rfl (hb hby at_19) rfl rfl ?_
      show Steps p.tables e below (T14.setTop (mkF m 20 #[.val (.int z1), .val (.int z2), .val (.int z3), .val (.int z4), .unset, .unset, .unset, .unset, .unset, .unset, .unset, .unset, .unset, .unset, .unset] [(.ref la), (.ref la)])) _
      refine XS.iconst X.here hx rfl (hb hby at_20) ?_
      show Steps p.tables e below (T14.setTop (mkF m 21 #[.val (.int z1), .val (.int z2), .val (.int z3), .val (.int z4), .unset, .unset, .unset, .unset, .unset, .unset, .unset, .unset, .unset, .unset, .unset] [(.int (4 : Int32)), (.ref la), (.ref la)])) _
      refine XS.iconst X.here hx rfl (hb hby at_21) ?_
      exact k)
  obtain ⟨cl16, Ar16, hin16, hat16⟩ := own_rd V_la 4 (by decide)
  obtain ⟨T17, h18, X, eh, W16, sx⟩ := stI X hx hZ eh Ar16 (j := Int32.ofNat 4) hin16 (g := (mkF m 22 #[.val (.int z1), .val (.int z2), .val (.int z3), .val (.int z4), .unset, .unset, .unset, .unset, .unset, .unset, .unset, .unset, .unset, .unset, .unset] [(.int (4 : Int32)), (.int (4 : Int32)), (.ref la), (.ref la)])) rfl rfl (hb hby at_22)
  have st : ∀ t, Steps p.tables e below (T17.setTop (mkF m 23 #[.val (.int z1), .val (.int z2), .val (.int z3), .val (.int z4), .unset, .unset, .unset, .unset, .unset, .unset, .unset, .unset, .unset, .unset, .unset] [(.ref la)])) t → Steps p.tables e below (s₁.setTop (mkF m 0 #[.val (.int z1), .val (.int z2), .val (.int z3), .val (.int z4), .unset, .unset, .unset, .unset, .unset, .unset, .unset, .unset, .unset, .unset, .unset] [])) t := fun t k => st t (sx t k)
  have K := K.wr W16 (Or.inr sz_la)
  have Z0 := Nat.le_trans Z0 (Keep.of_wr W16).1
  have V_la := own_st V_la 4 (by decide) 4 W16
  have N := Fr.snoc X N g_la
  have V_la : Arv Z h18 la k_la .int (5 : Int32) (own_arr (fun i => i)) (.int (0 : Int32)) := V_la
  have st : ∀ t, Steps p.tables e below (T17.setTop (mkF m 25 #[.val (.int z1), .val (.int z2), .val (.int z3), .val (.int z4), .val (.ref la), .unset, .unset, .unset, .unset, .unset, .unset, .unset, .unset, .unset, .unset] [])) t → Steps p.tables e below (s₁.setTop (mkF m 0 #[.val (.int z1), .val (.int z2), .val (.int z3), .val (.int z4), .unset, .unset, .unset, .unset, .unset, .unset, .unset, .unset, .unset, .unset, .unset] [])) t := fun t k => st t (by
      show Steps p.tables e below (T17.setTop (mkF m 23 #[.val (.int z1), .val (.int z2), .val (.int z3), .val (.int z4), .unset, .unset, .unset, .unset, .unset, .unset, .unset, .unset, .unset, .unset, .unset] [(.ref la)])) _
      refine XS.astore X.here hx rfl (hb hby at_23) rfl rfl (l' := #[.val (.int z1), .val (.int z2), .val (.int z3), .val (.int z4), .val (.ref la), .unset, .unset, .unset, .unset, .unset, .unset, .unset, .unset, .unset, .unset]) rfl ?_
      exact k)
  obtain ⟨T19, h20, X, eh, E21, E_pt, D21, -, sx⟩ := newO X hx hZ hown (hw _ (List.mem_of_getElem? (i := 1) rfl)) (hw _ (List.mem_of_getElem? (i := 2) rfl)) (hw _ (List.mem_of_getElem? (i := 3) rfl)) eh (g := (mkF m 25 #[.val (.int z1), .val (.int z2), .val (.int z3), .val (.int z4), .val (.ref la), .unset, .unset, .unset, .unset, .unset, .unset, .unset, .unset, .unset, .unset] [])) rfl (hb hby at_25) (by decide) (by decide)
  obtain ⟨pt, g21⟩ : ∃ z, z = h18.size := ⟨_, rfl⟩
  have ne_la_pt : la ≠ pt := fun q => absurd V_la.lt (by rw [q, g21]; exact Nat.lt_irrefl _)
  have g_pt : n0 ≤ pt := Nat.le_trans Z0 (Nat.le_of_eq g21.symm)
  have sz_pt : h0.size ≤ pt := Nat.le_trans K.1 (Nat.le_of_eq g21.symm)
  rw [← g21] at E_pt D21 sx
  have st : ∀ t, Steps p.tables e below (T19.setTop (mkF m 28 #[.val (.int z1), .val (.int z2), .val (.int z3), .val (.int z4), .val (.ref la), .unset, .unset, .unset, .unset, .unset, .unset, .unset, .unset, .unset, .unset] [(.ref pt)])) t → Steps p.tables e below (s₁.setTop (mkF m 0 #[.val (.int z1), .val (.int z2), .val (.int z3), .val (.int z4), .unset, .unset, .unset, .unset, .unset, .unset, .unset, .unset, .unset, .unset, .unset] [])) t := fun t k => st t (sx t k)
  have V_la := V_la.ext E21
  have K := K.ext E21
  have Z0 := Nat.le_trans Z0 E21.1
  have F_pt_parent : Fld Z h20 pt "isoproof/model/Partition" "parent" "[I" .null := D21 (Or.inl (hw _ (List.mem_of_getElem? (i := 11) rfl))) (ty := (.array .int)) (by decide)
  have st : ∀ t, Steps p.tables e below (T19.setTop (mkF m 30 #[.val (.int z1), .val (.int z2), .val (.int z3), .val (.int z4), .val (.ref la), .unset, .unset, .unset, .unset, .unset, .unset, .unset, .unset, .unset, .unset] [(.int (5 : Int32)), (.ref pt), (.ref pt)])) t → Steps p.tables e below (s₁.setTop (mkF m 0 #[.val (.int z1), .val (.int z2), .val (.int z3), .val (.int z4), .unset, .unset, .unset, .unset, .unset, .unset, .unset, .unset, .unset, .unset, .unset] [])) t := fun t k => st t (by
      show Steps p.tables e below (T19.setTop (mkF m 28 #[.val (.int z1), .val (.int z2), .val (.int z3), .val (.int z4), .val (.ref la), .unset, .unset, .unset, .unset, .unset, .unset, .unset, .unset, .unset, .unset] [(.ref pt)])) _
      refine XS.dup X.here hx rfl (hb hby at_28) rfl rfl ?_
      show Steps p.tables e below (T19.setTop (mkF m 29 #[.val (.int z1), .val (.int z2), .val (.int z3), .val (.int z4), .val (.ref la), .unset, .unset, .unset, .unset, .unset, .unset, .unset, .unset, .unset, .unset] [(.ref pt), (.ref pt)])) _
      refine XS.iconst X.here hx rfl (hb hby at_29) ?_
      exact k)
  have K00 := K
  have lt_pt := E_pt.lt
  have lt_la := V_la.lt
  obtain ⟨_, _, ⟨T23, L22, k22, n22⟩, -, X, ⟨Lc22, hQ, l22, y22, z22⟩, sx⟩ := X.specialBack hx (y := (⟨"isoproof/model/Partition", "<init>", "(I)V"⟩ : MethodName)) rfl hown (mvT hZ (hw _ (List.mem_of_getElem? (i := 4) rfl))) (mvT hZ (hw _ (List.mem_of_getElem? (i := 5) rfl))) (mvT hZ (hw _ (List.mem_of_getElem? (i := 6) rfl))) (by decide) (backOf (W := 1) (rm1 l Z a0 hw [] pt  h20 n0 Z0 E_pt g_pt F_pt_parent) hZ (hw _ (List.mem_of_getElem? (i := 6) rfl)) (hw _ (List.mem_of_getElem? (i := 3) rfl)) (by decide) (by decide)) (g := (mkF m 30 #[.val (.int z1), .val (.int z2), .val (.int z3), .val (.int z4), .val (.ref la), .unset, .unset, .unset, .unset, .unset, .unset, .unset, .unset, .unset, .unset] [(.int (5 : Int32)), (.ref pt), (.ref pt)])) rfl (by rw [hml]; rfl) (Steps.refl _) (a := pt) (argsL := [(.int (5 : Int32))]) (rest := [(.ref pt)]) (lenOf own_pd0 rfl) rfl (by show 2 * 0 + _ ≤ _; exact Nat.le_of_eq rfl) (hb hby at_30) (fun _ _ => ⟨rfl, eh, (by decide : 2 + 1 ≤ _), (by decide : 6 + 5 ≤ _)⟩)
  dsimp only [Pt.U, Pt.locs, Pt.cells, Pt.slots] at X l22 y22 z22 sx hQ
  subst l22 y22 z22
  obtain ⟨rfl, Nc, K1, pa, k_pa, szp, g_pa, F_pt_parent, V_pa⟩ := hQ
  have st : ∀ t, Steps p.tables e below (T23.setTop (mkF m 33 #[.val (.int z1), .val (.int z2), .val (.int z3), .val (.int z4), .val (.ref la), .unset, .unset, .unset, .unset, .unset, .unset, .unset, .unset, .unset, .unset] [(.ref pt)])) t → Steps p.tables e below (s₁.setTop (mkF m 0 #[.val (.int z1), .val (.int z2), .val (.int z3), .val (.int z4), .unset, .unset, .unset, .unset, .unset, .unset, .unset, .unset, .unset, .unset, .unset] [])) t := fun t k => st t (sx.trans k)
  have N := Fr.app N Nc
  obtain ⟨h24, eH⟩ : ∃ z, z = T23.heap := ⟨_, rfl⟩
  rw [← eH] at K1 F_pt_parent V_pa
  have eh : T23.heap = h24 := eH.symm
  have E_pt := E_pt.keep K1
  have V_la := V_la.keep K1 (ninS ne_la_pt nin0)
  have K := K.trans K1 (allS (Or.inr sz_pt) all0)
  have Z0 := Nat.le_trans Z0 K1.1
  have sz_pa : h0.size ≤ pa := Nat.le_trans K00.1 szp
  have ne_pt_pa : pt ≠ pa := Nat.ne_of_lt (Nat.lt_of_lt_of_le lt_pt szp)
  have ne_pa_la : pa ≠ la := Ne.symm (Nat.ne_of_lt (Nat.lt_of_lt_of_le lt_la szp))
  have ne_pt_la : pt ≠ la := Ne.symm ne_la_pt
  have I0 := own_Inv0
  have st : ∀ t, Steps p.tables e below (T23.setTop (mkF m 40 #[.val (.int z1), .val (.int z2), .val (.int z3), .val (.int z4), .val (.ref la), .val (.ref pt), .unset, .unset, .unset, .unset, .unset, .unset, .unset, .unset, .unset] [(.int z1), (.ref la), (.ref pt)])) t → Steps p.tables e below (s₁.setTop (mkF m 0 #[.val (.int z1), .val (.int z2), .val (.int z3), .val (.int z4), .unset, .unset, .unset, .unset, .unset, .unset, .unset, .unset, .unset, .unset, .unset] [])) t := fun t k => st t (by
      show Steps p.tables e below (T23.setTop (mkF m 33 #[.val (.int z1), .val (.int z2), .val (.int z3), .val (.int z4), .val (.ref la), .unset, .unset, .unset, .unset, .unset, .unset, .unset, .unset, .unset, .unset] [(.ref pt)])) _
      refine XS.astore X.here hx rfl (hb hby at_33) rfl rfl (l' := #[.val (.int z1), .val (.int z2), .val (.int z3), .val (.int z4), .val (.ref la), .val (.ref pt), .unset, .unset, .unset, .unset, .unset, .unset, .unset, .unset, .unset]) rfl ?_
      show Steps p.tables e below (T23.setTop (mkF m 35 #[.val (.int z1), .val (.int z2), .val (.int z3), .val (.int z4), .val (.ref la), .val (.ref pt), .unset, .unset, .unset, .unset, .unset, .unset, .unset, .unset, .unset] [])) _
      refine XS.aload X.here hx rfl (hb hby at_35) rfl rfl ?_
      show Steps p.tables e below (T23.setTop (mkF m 37 #[.val (.int z1), .val (.int z2), .val (.int z3), .val (.int z4), .val (.ref la), .val (.ref pt), .unset, .unset, .unset, .unset, .unset, .unset, .unset, .unset, .unset] [(.ref pt)])) _
      refine XS.aload X.here hx rfl (hb hby at_37) rfl rfl ?_
      show Steps p.tables e below (T23.setTop (mkF m 39 #[.val (.int z1), .val (.int z2), .val (.int z3), .val (.int z4), .val (.ref la), .val (.ref pt), .unset, .unset, .unset, .unset, .unset, .unset, .unset, .unset, .unset] [(.ref la), (.ref pt)])) _
      refine XS.iloadN X.here hx rfl (hb hby at_39) rfl ?_
      exact k)
  obtain ⟨_, _, ⟨T26, L25, k25, n25⟩, -, X, ⟨Lc25, hQ, l25, y25, z25⟩, sx⟩ := Jvm.LawKit.callS X hx (y := (⟨"isoproof/model/PartitionFindPinLaw", "step", "(Lisoproof/model/Partition;[II)Z"⟩ : MethodName)) hown (mvT hZ (hw _ (List.mem_of_getElem? (i := 17) rfl))) (mvT hZ (hw _ (List.mem_of_getElem? (i := 18) rfl))) (mvT hZ (hw _ (List.mem_of_getElem? (i := 19) rfl))) (mvT hZ (hw _ (List.mem_of_getElem? (i := 20) rfl))) (by decide) (backOf (W := 0) (rm4 l Z a0 hw [] pt la z1 pa k_pa k_la (fun i => i) (fun i => i) h24 n0 Z0 E_pt F_pt_parent V_pa V_la g_pa g_la ne_pt_pa ne_pt_la ne_pa_la I0) hZ (hw _ (List.mem_of_getElem? (i := 20) rfl)) (hw _ (List.mem_of_getElem? (i := 19) rfl)) (by decide) (by decide)) (g := (mkF m 40 #[.val (.int z1), .val (.int z2), .val (.int z3), .val (.int z4), .val (.ref la), .val (.ref pt), .unset, .unset, .unset, .unset, .unset, .unset, .unset, .unset, .unset] [(.int z1), (.ref la), (.ref pt)])) rfl (by rw [hml]; rfl) (argsL := [(.ref pt), (.ref la), (.int z1)]) (rest := []) (lenOf own_pd5 rfl) rfl (by show 2 * 0 + _ ≤ _; exact Nat.le_of_eq rfl) (hb hby at_40) (fun _ _ => ⟨rfl, eh, (by decide : 3 + 0 ≤ _), (by decide : 11 + 0 ≤ _)⟩)
  dsimp only [Pt.U, Pt.locs, Pt.cells, Pt.slots] at X l25 y25 z25 sx hQ
  subst l25 y25 z25
  obtain ⟨rfl, Nc, K1, pr1, lab1, I1, V_pa, V_la⟩ := hQ
  have st : ∀ t, Steps p.tables e below (T26.setTop (mkF m 43 #[.val (.int z1), .val (.int z2), .val (.int z3), .val (.int z4), .val (.ref la), .val (.ref pt), .unset, .unset, .unset, .unset, .unset, .unset, .unset, .unset, .unset] [(.int (1 : Int32))])) t → Steps p.tables e below (s₁.setTop (mkF m 0 #[.val (.int z1), .val (.int z2), .val (.int z3), .val (.int z4), .unset, .unset, .unset, .unset, .unset, .unset, .unset, .unset, .unset, .unset, .unset] [])) t := fun t k => st t (sx t k)
  have N := Fr.app N Nc
  obtain ⟨h27, eH⟩ : ∃ z, z = T26.heap := ⟨_, rfl⟩
  rw [← eH] at K1 V_pa V_la
  have eh : T26.heap = h27 := eH.symm
  have F_pt_parent := F_pt_parent.keep K1 (ninS ne_pt_pa (ninS (Ne.symm ne_la_pt) nin0))
  have E_pt := E_pt.keep K1
  have K := K.trans K1 (allS (Or.inr sz_pa) (allS (Or.inr sz_la) all0))
  have Z0 := Nat.le_trans Z0 K1.1
  have st : ∀ t, Steps p.tables e below (T26.setTop (mkF m 50 #[.val (.int z1), .val (.int z2), .val (.int z3), .val (.int z4), .val (.ref la), .val (.ref pt), .val (.int (1 : Int32)), .unset, .unset, .unset, .unset, .unset, .unset, .unset, .unset] [(.int z2), (.ref la), (.ref pt)])) t → Steps p.tables e below (s₁.setTop (mkF m 0 #[.val (.int z1), .val (.int z2), .val (.int z3), .val (.int z4), .unset, .unset, .unset, .unset, .unset, .unset, .unset, .unset, .unset, .unset, .unset] [])) t := fun t k => st t (by
      show Steps p.tables e below (T26.setTop (mkF m 43 #[.val (.int z1), .val (.int z2), .val (.int z3), .val (.int z4), .val (.ref la), .val (.ref pt), .unset, .unset, .unset, .unset, .unset, .unset, .unset, .unset, .unset] [(.int (1 : Int32))])) _
      refine XS.istore X.here hx rfl (hb hby at_43) rfl (l' := #[.val (.int z1), .val (.int z2), .val (.int z3), .val (.int z4), .val (.ref la), .val (.ref pt), .val (.int (1 : Int32)), .unset, .unset, .unset, .unset, .unset, .unset, .unset, .unset]) rfl ?_
      show Steps p.tables e below (T26.setTop (mkF m 45 #[.val (.int z1), .val (.int z2), .val (.int z3), .val (.int z4), .val (.ref la), .val (.ref pt), .val (.int (1 : Int32)), .unset, .unset, .unset, .unset, .unset, .unset, .unset, .unset] [])) _
      refine XS.aload X.here hx rfl (hb hby at_45) rfl rfl ?_
      show Steps p.tables e below (T26.setTop (mkF m 47 #[.val (.int z1), .val (.int z2), .val (.int z3), .val (.int z4), .val (.ref la), .val (.ref pt), .val (.int (1 : Int32)), .unset, .unset, .unset, .unset, .unset, .unset, .unset, .unset] [(.ref pt)])) _
      refine XS.aload X.here hx rfl (hb hby at_47) rfl rfl ?_
      show Steps p.tables e below (T26.setTop (mkF m 49 #[.val (.int z1), .val (.int z2), .val (.int z3), .val (.int z4), .val (.ref la), .val (.ref pt), .val (.int (1 : Int32)), .unset, .unset, .unset, .unset, .unset, .unset, .unset, .unset] [(.ref la), (.ref pt)])) _
      refine XS.iloadN X.here hx rfl (hb hby at_49) rfl ?_
      exact k)
  obtain ⟨_, _, ⟨T29, L28, k28, n28⟩, -, X, ⟨Lc28, hQ, l28, y28, z28⟩, sx⟩ := Jvm.LawKit.callS X hx (y := (⟨"isoproof/model/PartitionFindPinLaw", "step", "(Lisoproof/model/Partition;[II)Z"⟩ : MethodName)) hown (mvT hZ (hw _ (List.mem_of_getElem? (i := 17) rfl))) (mvT hZ (hw _ (List.mem_of_getElem? (i := 18) rfl))) (mvT hZ (hw _ (List.mem_of_getElem? (i := 19) rfl))) (mvT hZ (hw _ (List.mem_of_getElem? (i := 20) rfl))) (by decide) (backOf (W := 0) (rm4 l Z a0 hw [] pt la z2 pa k_pa k_la pr1 lab1 h27 n0 Z0 E_pt F_pt_parent V_pa V_la g_pa g_la ne_pt_pa ne_pt_la ne_pa_la I1) hZ (hw _ (List.mem_of_getElem? (i := 20) rfl)) (hw _ (List.mem_of_getElem? (i := 19) rfl)) (by decide) (by decide)) (g := (mkF m 50 #[.val (.int z1), .val (.int z2), .val (.int z3), .val (.int z4), .val (.ref la), .val (.ref pt), .val (.int (1 : Int32)), .unset, .unset, .unset, .unset, .unset, .unset, .unset, .unset] [(.int z2), (.ref la), (.ref pt)])) rfl (by rw [hml]; rfl) (argsL := [(.ref pt), (.ref la), (.int z2)]) (rest := []) (lenOf own_pd5 rfl) rfl (by show 2 * 0 + _ ≤ _; exact Nat.le_of_eq rfl) (hb hby at_50) (fun _ _ => ⟨rfl, eh, (by decide : 3 + 0 ≤ _), (by decide : 11 + 0 ≤ _)⟩)
  dsimp only [Pt.U, Pt.locs, Pt.cells, Pt.slots] at X l28 y28 z28 sx hQ
  subst l28 y28 z28
  obtain ⟨rfl, Nc, K1, pr2, lab2, I2, V_pa, V_la⟩ := hQ
  have st : ∀ t, Steps p.tables e below (T29.setTop (mkF m 53 #[.val (.int z1), .val (.int z2), .val (.int z3), .val (.int z4), .val (.ref la), .val (.ref pt), .val (.int (1 : Int32)), .unset, .unset, .unset, .unset, .unset, .unset, .unset, .unset] [(.int (1 : Int32))])) t → Steps p.tables e below (s₁.setTop (mkF m 0 #[.val (.int z1), .val (.int z2), .val (.int z3), .val (.int z4), .unset, .unset, .unset, .unset, .unset, .unset, .unset, .unset, .unset, .unset, .unset] [])) t := fun t k => st t (sx t k)
  have N := Fr.app N Nc
  obtain ⟨h30, eH⟩ : ∃ z, z = T29.heap := ⟨_, rfl⟩
  rw [← eH] at K1 V_pa V_la
  have eh : T29.heap = h30 := eH.symm
  have F_pt_parent := F_pt_parent.keep K1 (ninS ne_pt_pa (ninS (Ne.symm ne_la_pt) nin0))
  have E_pt := E_pt.keep K1
  have K := K.trans K1 (allS (Or.inr sz_pa) (allS (Or.inr sz_la) all0))
  have Z0 := Nat.le_trans Z0 K1.1
  have st : ∀ t, Steps p.tables e below (T29.setTop (mkF m 60 #[.val (.int z1), .val (.int z2), .val (.int z3), .val (.int z4), .val (.ref la), .val (.ref pt), .val (.int (1 : Int32)), .val (.int (1 : Int32)), .unset, .unset, .unset, .unset, .unset, .unset, .unset] [(.int z3), (.ref la), (.ref pt)])) t → Steps p.tables e below (s₁.setTop (mkF m 0 #[.val (.int z1), .val (.int z2), .val (.int z3), .val (.int z4), .unset, .unset, .unset, .unset, .unset, .unset, .unset, .unset, .unset, .unset, .unset] [])) t := fun t k => st t (by
      show Steps p.tables e below (T29.setTop (mkF m 53 #[.val (.int z1), .val (.int z2), .val (.int z3), .val (.int z4), .val (.ref la), .val (.ref pt), .val (.int (1 : Int32)), .unset, .unset, .unset, .unset, .unset, .unset, .unset, .unset] [(.int (1 : Int32))])) _
      refine XS.istore X.here hx rfl (hb hby at_53) rfl (l' := #[.val (.int z1), .val (.int z2), .val (.int z3), .val (.int z4), .val (.ref la), .val (.ref pt), .val (.int (1 : Int32)), .val (.int (1 : Int32)), .unset, .unset, .unset, .unset, .unset, .unset, .unset]) rfl ?_
      show Steps p.tables e below (T29.setTop (mkF m 55 #[.val (.int z1), .val (.int z2), .val (.int z3), .val (.int z4), .val (.ref la), .val (.ref pt), .val (.int (1 : Int32)), .val (.int (1 : Int32)), .unset, .unset, .unset, .unset, .unset, .unset, .unset] [])) _
      refine XS.aload X.here hx rfl (hb hby at_55) rfl rfl ?_
      show Steps p.tables e below (T29.setTop (mkF m 57 #[.val (.int z1), .val (.int z2), .val (.int z3), .val (.int z4), .val (.ref la), .val (.ref pt), .val (.int (1 : Int32)), .val (.int (1 : Int32)), .unset, .unset, .unset, .unset, .unset, .unset, .unset] [(.ref pt)])) _
      refine XS.aload X.here hx rfl (hb hby at_57) rfl rfl ?_
      show Steps p.tables e below (T29.setTop (mkF m 59 #[.val (.int z1), .val (.int z2), .val (.int z3), .val (.int z4), .val (.ref la), .val (.ref pt), .val (.int (1 : Int32)), .val (.int (1 : Int32)), .unset, .unset, .unset, .unset, .unset, .unset, .unset] [(.ref la), (.ref pt)])) _
      refine XS.iloadN X.here hx rfl (hb hby at_59) rfl ?_
      exact k)
  obtain ⟨_, _, ⟨T32, L31, k31, n31⟩, -, X, ⟨Lc31, hQ, l31, y31, z31⟩, sx⟩ := Jvm.LawKit.callS X hx (y := (⟨"isoproof/model/PartitionFindPinLaw", "step", "(Lisoproof/model/Partition;[II)Z"⟩ : MethodName)) hown (mvT hZ (hw _ (List.mem_of_getElem? (i := 17) rfl))) (mvT hZ (hw _ (List.mem_of_getElem? (i := 18) rfl))) (mvT hZ (hw _ (List.mem_of_getElem? (i := 19) rfl))) (mvT hZ (hw _ (List.mem_of_getElem? (i := 20) rfl))) (by decide) (backOf (W := 0) (rm4 l Z a0 hw [] pt la z3 pa k_pa k_la pr2 lab2 h30 n0 Z0 E_pt F_pt_parent V_pa V_la g_pa g_la ne_pt_pa ne_pt_la ne_pa_la I2) hZ (hw _ (List.mem_of_getElem? (i := 20) rfl)) (hw _ (List.mem_of_getElem? (i := 19) rfl)) (by decide) (by decide)) (g := (mkF m 60 #[.val (.int z1), .val (.int z2), .val (.int z3), .val (.int z4), .val (.ref la), .val (.ref pt), .val (.int (1 : Int32)), .val (.int (1 : Int32)), .unset, .unset, .unset, .unset, .unset, .unset, .unset] [(.int z3), (.ref la), (.ref pt)])) rfl (by rw [hml]; rfl) (argsL := [(.ref pt), (.ref la), (.int z3)]) (rest := []) (lenOf own_pd5 rfl) rfl (by show 2 * 0 + _ ≤ _; exact Nat.le_of_eq rfl) (hb hby at_60) (fun _ _ => ⟨rfl, eh, (by decide : 3 + 0 ≤ _), (by decide : 11 + 0 ≤ _)⟩)
  dsimp only [Pt.U, Pt.locs, Pt.cells, Pt.slots] at X l31 y31 z31 sx hQ
  subst l31 y31 z31
  obtain ⟨rfl, Nc, K1, pr3, lab3, I3, V_pa, V_la⟩ := hQ
  have st : ∀ t, Steps p.tables e below (T32.setTop (mkF m 63 #[.val (.int z1), .val (.int z2), .val (.int z3), .val (.int z4), .val (.ref la), .val (.ref pt), .val (.int (1 : Int32)), .val (.int (1 : Int32)), .unset, .unset, .unset, .unset, .unset, .unset, .unset] [(.int (1 : Int32))])) t → Steps p.tables e below (s₁.setTop (mkF m 0 #[.val (.int z1), .val (.int z2), .val (.int z3), .val (.int z4), .unset, .unset, .unset, .unset, .unset, .unset, .unset, .unset, .unset, .unset, .unset] [])) t := fun t k => st t (sx t k)
  have N := Fr.app N Nc
  obtain ⟨h33, eH⟩ : ∃ z, z = T32.heap := ⟨_, rfl⟩
  rw [← eH] at K1 V_pa V_la
  have eh : T32.heap = h33 := eH.symm
  have F_pt_parent := F_pt_parent.keep K1 (ninS ne_pt_pa (ninS (Ne.symm ne_la_pt) nin0))
  have E_pt := E_pt.keep K1
  have K := K.trans K1 (allS (Or.inr sz_pa) (allS (Or.inr sz_la) all0))
  have Z0 := Nat.le_trans Z0 K1.1
  have st : ∀ t, Steps p.tables e below (T32.setTop (mkF m 70 #[.val (.int z1), .val (.int z2), .val (.int z3), .val (.int z4), .val (.ref la), .val (.ref pt), .val (.int (1 : Int32)), .val (.int (1 : Int32)), .val (.int (1 : Int32)), .unset, .unset, .unset, .unset, .unset, .unset] [(.int z4), (.ref la), (.ref pt)])) t → Steps p.tables e below (s₁.setTop (mkF m 0 #[.val (.int z1), .val (.int z2), .val (.int z3), .val (.int z4), .unset, .unset, .unset, .unset, .unset, .unset, .unset, .unset, .unset, .unset, .unset] [])) t := fun t k => st t (by
      show Steps p.tables e below (T32.setTop (mkF m 63 #[.val (.int z1), .val (.int z2), .val (.int z3), .val (.int z4), .val (.ref la), .val (.ref pt), .val (.int (1 : Int32)), .val (.int (1 : Int32)), .unset, .unset, .unset, .unset, .unset, .unset, .unset] [(.int (1 : Int32))])) _
      refine XS.istore X.here hx rfl (hb hby at_63) rfl (l' := #[.val (.int z1), .val (.int z2), .val (.int z3), .val (.int z4), .val (.ref la), .val (.ref pt), .val (.int (1 : Int32)), .val (.int (1 : Int32)), .val (.int (1 : Int32)), .unset, .unset, .unset, .unset, .unset, .unset]) rfl ?_
      show Steps p.tables e below (T32.setTop (mkF m 65 #[.val (.int z1), .val (.int z2), .val (.int z3), .val (.int z4), .val (.ref la), .val (.ref pt), .val (.int (1 : Int32)), .val (.int (1 : Int32)), .val (.int (1 : Int32)), .unset, .unset, .unset, .unset, .unset, .unset] [])) _
      refine XS.aload X.here hx rfl (hb hby at_65) rfl rfl ?_
      show Steps p.tables e below (T32.setTop (mkF m 67 #[.val (.int z1), .val (.int z2), .val (.int z3), .val (.int z4), .val (.ref la), .val (.ref pt), .val (.int (1 : Int32)), .val (.int (1 : Int32)), .val (.int (1 : Int32)), .unset, .unset, .unset, .unset, .unset, .unset] [(.ref pt)])) _
      refine XS.aload X.here hx rfl (hb hby at_67) rfl rfl ?_
      show Steps p.tables e below (T32.setTop (mkF m 69 #[.val (.int z1), .val (.int z2), .val (.int z3), .val (.int z4), .val (.ref la), .val (.ref pt), .val (.int (1 : Int32)), .val (.int (1 : Int32)), .val (.int (1 : Int32)), .unset, .unset, .unset, .unset, .unset, .unset] [(.ref la), (.ref pt)])) _
      refine XS.iloadN X.here hx rfl (hb hby at_69) rfl ?_
      exact k)
  obtain ⟨_, _, ⟨T35, L34, k34, n34⟩, -, X, ⟨Lc34, hQ, l34, y34, z34⟩, sx⟩ := Jvm.LawKit.callS X hx (y := (⟨"isoproof/model/PartitionFindPinLaw", "step", "(Lisoproof/model/Partition;[II)Z"⟩ : MethodName)) hown (mvT hZ (hw _ (List.mem_of_getElem? (i := 17) rfl))) (mvT hZ (hw _ (List.mem_of_getElem? (i := 18) rfl))) (mvT hZ (hw _ (List.mem_of_getElem? (i := 19) rfl))) (mvT hZ (hw _ (List.mem_of_getElem? (i := 20) rfl))) (by decide) (backOf (W := 0) (rm4 l Z a0 hw [] pt la z4 pa k_pa k_la pr3 lab3 h33 n0 Z0 E_pt F_pt_parent V_pa V_la g_pa g_la ne_pt_pa ne_pt_la ne_pa_la I3) hZ (hw _ (List.mem_of_getElem? (i := 20) rfl)) (hw _ (List.mem_of_getElem? (i := 19) rfl)) (by decide) (by decide)) (g := (mkF m 70 #[.val (.int z1), .val (.int z2), .val (.int z3), .val (.int z4), .val (.ref la), .val (.ref pt), .val (.int (1 : Int32)), .val (.int (1 : Int32)), .val (.int (1 : Int32)), .unset, .unset, .unset, .unset, .unset, .unset] [(.int z4), (.ref la), (.ref pt)])) rfl (by rw [hml]; rfl) (argsL := [(.ref pt), (.ref la), (.int z4)]) (rest := []) (lenOf own_pd5 rfl) rfl (by show 2 * 0 + _ ≤ _; exact Nat.le_of_eq rfl) (hb hby at_70) (fun _ _ => ⟨rfl, eh, (by decide : 3 + 0 ≤ _), (by decide : 11 + 0 ≤ _)⟩)
  dsimp only [Pt.U, Pt.locs, Pt.cells, Pt.slots] at X l34 y34 z34 sx hQ
  subst l34 y34 z34
  obtain ⟨rfl, Nc, K1, pr4, lab4, I4, V_pa, V_la⟩ := hQ
  have st : ∀ t, Steps p.tables e below (T35.setTop (mkF m 73 #[.val (.int z1), .val (.int z2), .val (.int z3), .val (.int z4), .val (.ref la), .val (.ref pt), .val (.int (1 : Int32)), .val (.int (1 : Int32)), .val (.int (1 : Int32)), .unset, .unset, .unset, .unset, .unset, .unset] [(.int (1 : Int32))])) t → Steps p.tables e below (s₁.setTop (mkF m 0 #[.val (.int z1), .val (.int z2), .val (.int z3), .val (.int z4), .unset, .unset, .unset, .unset, .unset, .unset, .unset, .unset, .unset, .unset, .unset] [])) t := fun t k => st t (sx t k)
  have N := Fr.app N Nc
  obtain ⟨h36, eH⟩ : ∃ z, z = T35.heap := ⟨_, rfl⟩
  rw [← eH] at K1 V_pa V_la
  have eh : T35.heap = h36 := eH.symm
  have F_pt_parent := F_pt_parent.keep K1 (ninS ne_pt_pa (ninS (Ne.symm ne_la_pt) nin0))
  have E_pt := E_pt.keep K1
  have K := K.trans K1 (allS (Or.inr sz_pa) (allS (Or.inr sz_la) all0))
  have Z0 := Nat.le_trans Z0 K1.1
  have st : ∀ t, Steps p.tables e below (T35.setTop (mkF m 78 #[.val (.int z1), .val (.int z2), .val (.int z3), .val (.int z4), .val (.ref la), .val (.ref pt), .val (.int (1 : Int32)), .val (.int (1 : Int32)), .val (.int (1 : Int32)), .val (.int (1 : Int32)), .unset, .unset, .unset, .unset, .unset] [(.int (4 : Int32)), (.ref pt)])) t → Steps p.tables e below (s₁.setTop (mkF m 0 #[.val (.int z1), .val (.int z2), .val (.int z3), .val (.int z4), .unset, .unset, .unset, .unset, .unset, .unset, .unset, .unset, .unset, .unset, .unset] [])) t := fun t k => st t (by
      show Steps p.tables e below (T35.setTop (mkF m 73 #[.val (.int z1), .val (.int z2), .val (.int z3), .val (.int z4), .val (.ref la), .val (.ref pt), .val (.int (1 : Int32)), .val (.int (1 : Int32)), .val (.int (1 : Int32)), .unset, .unset, .unset, .unset, .unset, .unset] [(.int (1 : Int32))])) _
      refine XS.istore X.here hx rfl (hb hby at_73) rfl (l' := #[.val (.int z1), .val (.int z2), .val (.int z3), .val (.int z4), .val (.ref la), .val (.ref pt), .val (.int (1 : Int32)), .val (.int (1 : Int32)), .val (.int (1 : Int32)), .val (.int (1 : Int32)), .unset, .unset, .unset, .unset, .unset]) rfl ?_
      show Steps p.tables e below (T35.setTop (mkF m 75 #[.val (.int z1), .val (.int z2), .val (.int z3), .val (.int z4), .val (.ref la), .val (.ref pt), .val (.int (1 : Int32)), .val (.int (1 : Int32)), .val (.int (1 : Int32)), .val (.int (1 : Int32)), .unset, .unset, .unset, .unset, .unset] [])) _
      refine XS.aload X.here hx rfl (hb hby at_75) rfl rfl ?_
      show Steps p.tables e below (T35.setTop (mkF m 77 #[.val (.int z1), .val (.int z2), .val (.int z3), .val (.int z4), .val (.ref la), .val (.ref pt), .val (.int (1 : Int32)), .val (.int (1 : Int32)), .val (.int (1 : Int32)), .val (.int (1 : Int32)), .unset, .unset, .unset, .unset, .unset] [(.ref pt)])) _
      refine XS.iconst X.here hx rfl (hb hby at_77) ?_
      exact k)
  obtain ⟨cq37, kq37, qa37, qb37, qc37⟩ := isOf hZ eh E_pt
  obtain ⟨_, _, ⟨T38, L37, k37, n37⟩, -, X, ⟨Lc37, hQ, l37, y37, z37⟩, sx⟩ := X.virtualBack hx (y := (⟨"isoproof/model/Partition", "find", "(I)I"⟩ : MethodName)) (z := (⟨"isoproof/model/Partition", "find", "(I)I"⟩ : MethodName)) hown (mvT hZ (hw _ (List.mem_of_getElem? (i := 43) rfl))) (mvT hZ (hw _ (List.mem_of_getElem? (i := 27) rfl))) (notFace_of_selects (args := #[]) (mvT hZ (hw _ (List.mem_of_getElem? (i := 29) rfl)))) (mvT hZ (hw _ (List.mem_of_getElem? (i := 29) rfl))) (mvT hZ (hw _ (List.mem_of_getElem? (i := 28) rfl))) (by decide) (backOf (W := 0) (rm6 l Z a0 hw [] pt pa k_pa pr4 lab4 4 h36 n0 Z0 F_pt_parent V_pa g_pa ne_pt_pa I4 (by decide)) hZ (hw _ (List.mem_of_getElem? (i := 30) rfl)) (hw _ (List.mem_of_getElem? (i := 3) rfl)) (by decide) (by decide)) qa37 qc37 (g := (mkF m 78 #[.val (.int z1), .val (.int z2), .val (.int z3), .val (.int z4), .val (.ref la), .val (.ref pt), .val (.int (1 : Int32)), .val (.int (1 : Int32)), .val (.int (1 : Int32)), .val (.int (1 : Int32)), .unset, .unset, .unset, .unset, .unset] [(.int (4 : Int32)), (.ref pt)])) rfl (by rw [hml]; rfl) (Steps.refl _) (argsL := [(.int (4 : Int32))]) (rest := []) (lenOf own_pd1 rfl) rfl (by show 2 * 0 + _ ≤ _; exact Nat.le_of_eq rfl) (hb hby at_78) (fun _ _ => ⟨rfl, eh, (by decide : 3 + 0 ≤ _), (by decide : 11 + 0 ≤ _)⟩)
  dsimp only [Pt.U, Pt.locs, Pt.cells, Pt.slots] at X l37 y37 z37 sx hQ
  subst l37 y37 z37
  obtain ⟨rfl, Nc, K1, pr5, I5, V_pa⟩ := hQ
  have st : ∀ t, Steps p.tables e below (T38.setTop (mkF m 81 #[.val (.int z1), .val (.int z2), .val (.int z3), .val (.int z4), .val (.ref la), .val (.ref pt), .val (.int (1 : Int32)), .val (.int (1 : Int32)), .val (.int (1 : Int32)), .val (.int (1 : Int32)), .unset, .unset, .unset, .unset, .unset] [(.int (Int32.ofNat (lab4 4)))])) t → Steps p.tables e below (s₁.setTop (mkF m 0 #[.val (.int z1), .val (.int z2), .val (.int z3), .val (.int z4), .unset, .unset, .unset, .unset, .unset, .unset, .unset, .unset, .unset, .unset, .unset] [])) t := fun t k => st t (sx.trans k)
  have N := Fr.app N Nc
  obtain ⟨h39, eH⟩ : ∃ z, z = T38.heap := ⟨_, rfl⟩
  rw [← eH] at K1 V_pa
  have eh : T38.heap = h39 := eH.symm
  have F_pt_parent := F_pt_parent.keep K1 (ninS ne_pt_pa nin0)
  have E_pt := E_pt.keep K1
  have V_la := V_la.keep K1 (ninS (Ne.symm ne_pa_la) nin0)
  have K := K.trans K1 (allS (Or.inr sz_pa) all0)
  have Z0 := Nat.le_trans Z0 K1.1
  have st : ∀ t, Steps p.tables e below (T38.setTop (mkF m 84 #[.val (.int z1), .val (.int z2), .val (.int z3), .val (.int z4), .val (.ref la), .val (.ref pt), .val (.int (1 : Int32)), .val (.int (1 : Int32)), .val (.int (1 : Int32)), .val (.int (1 : Int32)), .unset, .unset, .unset, .unset, .unset] [(.int (4 : Int32)), (.ref la), (.int (Int32.ofNat (lab4 4)))])) t → Steps p.tables e below (s₁.setTop (mkF m 0 #[.val (.int z1), .val (.int z2), .val (.int z3), .val (.int z4), .unset, .unset, .unset, .unset, .unset, .unset, .unset, .unset, .unset, .unset, .unset] [])) t := fun t k => st t (by
      show Steps p.tables e below (T38.setTop (mkF m 81 #[.val (.int z1), .val (.int z2), .val (.int z3), .val (.int z4), .val (.ref la), .val (.ref pt), .val (.int (1 : Int32)), .val (.int (1 : Int32)), .val (.int (1 : Int32)), .val (.int (1 : Int32)), .unset, .unset, .unset, .unset, .unset] [(.int (Int32.ofNat (lab4 4)))])) _
      refine XS.aload X.here hx rfl (hb hby at_81) rfl rfl ?_
      show Steps p.tables e below (T38.setTop (mkF m 83 #[.val (.int z1), .val (.int z2), .val (.int z3), .val (.int z4), .val (.ref la), .val (.ref pt), .val (.int (1 : Int32)), .val (.int (1 : Int32)), .val (.int (1 : Int32)), .val (.int (1 : Int32)), .unset, .unset, .unset, .unset, .unset] [(.ref la), (.int (Int32.ofNat (lab4 4)))])) _
      refine XS.iconst X.here hx rfl (hb hby at_83) ?_
      exact k)
  obtain ⟨cl40, Ar40, hin40, hat40⟩ := own_rd V_la 4 (by decide)
  have st : ∀ t, Steps p.tables e below (T38.setTop (mkF m 98 #[.val (.int z1), .val (.int z2), .val (.int z3), .val (.int z4), .val (.ref la), .val (.ref pt), .val (.int (1 : Int32)), .val (.int (1 : Int32)), .val (.int (1 : Int32)), .val (.int (1 : Int32)), .val (.int (1 : Int32)), .unset, .unset, .unset, .unset] [(.int (3 : Int32)), (.ref pt)])) t → Steps p.tables e below (s₁.setTop (mkF m 0 #[.val (.int z1), .val (.int z2), .val (.int z3), .val (.int z4), .unset, .unset, .unset, .unset, .unset, .unset, .unset, .unset, .unset, .unset, .unset] [])) t := fun t k => st t (by
      show Steps p.tables e below (T38.setTop (mkF m 84 #[.val (.int z1), .val (.int z2), .val (.int z3), .val (.int z4), .val (.ref la), .val (.ref pt), .val (.int (1 : Int32)), .val (.int (1 : Int32)), .val (.int (1 : Int32)), .val (.int (1 : Int32)), .unset, .unset, .unset, .unset, .unset] [(.int (4 : Int32)), (.ref la), (.int (Int32.ofNat (lab4 4)))])) _
      refine X.iaload hx (j := Int32.ofNat 4) (v := (.int (Int32.ofNat (lab4 4)))) (by rw [eh]; exact Ar40.1) (State.isArrayOf_alike hZ.alike Ar40.2.1) Ar40.2.2 hin40 hat40 (g := (mkF m 84 #[.val (.int z1), .val (.int z2), .val (.int z3), .val (.int z4), .val (.ref la), .val (.ref pt), .val (.int (1 : Int32)), .val (.int (1 : Int32)), .val (.int (1 : Int32)), .val (.int (1 : Int32)), .unset, .unset, .unset, .unset, .unset] [(.int (4 : Int32)), (.ref la), (.int (Int32.ofNat (lab4 4)))])) rfl rfl (hb hby at_84) _ ?_
      show Steps p.tables e below (T38.setTop (mkF m 85 #[.val (.int z1), .val (.int z2), .val (.int z3), .val (.int z4), .val (.ref la), .val (.ref pt), .val (.int (1 : Int32)), .val (.int (1 : Int32)), .val (.int (1 : Int32)), .val (.int (1 : Int32)), .unset, .unset, .unset, .unset, .unset] [(.int (Int32.ofNat (lab4 4))), (.int (Int32.ofNat (lab4 4)))])) _
      refine XS.icmpNo X.here hx rfl (hb hby at_85) rfl (teq rfl).2 ?_
      show Steps p.tables e below (T38.setTop (mkF m 88 #[.val (.int z1), .val (.int z2), .val (.int z3), .val (.int z4), .val (.ref la), .val (.ref pt), .val (.int (1 : Int32)), .val (.int (1 : Int32)), .val (.int (1 : Int32)), .val (.int (1 : Int32)), .unset, .unset, .unset, .unset, .unset] [])) _
      refine XS.iconst X.here hx rfl (hb hby at_88) ?_
      show Steps p.tables e below (T38.setTop (mkF m 89 #[.val (.int z1), .val (.int z2), .val (.int z3), .val (.int z4), .val (.ref la), .val (.ref pt), .val (.int (1 : Int32)), .val (.int (1 : Int32)), .val (.int (1 : Int32)), .val (.int (1 : Int32)), .unset, .unset, .unset, .unset, .unset] [(.int (1 : Int32))])) _
      refine XS.goto X.here hx rfl (pc0 := 89) (pc' := 93) rfl (hb hby at_89) (by decide) (by decide) ?_
      show Steps p.tables e below (T38.setTop (mkF m 93 #[.val (.int z1), .val (.int z2), .val (.int z3), .val (.int z4), .val (.ref la), .val (.ref pt), .val (.int (1 : Int32)), .val (.int (1 : Int32)), .val (.int (1 : Int32)), .val (.int (1 : Int32)), .unset, .unset, .unset, .unset, .unset] [(.int (1 : Int32))])) _
      refine XS.istore X.here hx rfl (hb hby at_93) rfl (l' := #[.val (.int z1), .val (.int z2), .val (.int z3), .val (.int z4), .val (.ref la), .val (.ref pt), .val (.int (1 : Int32)), .val (.int (1 : Int32)), .val (.int (1 : Int32)), .val (.int (1 : Int32)), .val (.int (1 : Int32)), .unset, .unset, .unset, .unset]) rfl ?_
      show Steps p.tables e below (T38.setTop (mkF m 95 #[.val (.int z1), .val (.int z2), .val (.int z3), .val (.int z4), .val (.ref la), .val (.ref pt), .val (.int (1 : Int32)), .val (.int (1 : Int32)), .val (.int (1 : Int32)), .val (.int (1 : Int32)), .val (.int (1 : Int32)), .unset, .unset, .unset, .unset] [])) _
      refine XS.aload X.here hx rfl (hb hby at_95) rfl rfl ?_
      show Steps p.tables e below (T38.setTop (mkF m 97 #[.val (.int z1), .val (.int z2), .val (.int z3), .val (.int z4), .val (.ref la), .val (.ref pt), .val (.int (1 : Int32)), .val (.int (1 : Int32)), .val (.int (1 : Int32)), .val (.int (1 : Int32)), .val (.int (1 : Int32)), .unset, .unset, .unset, .unset] [(.ref pt)])) _
      refine XS.iconst X.here hx rfl (hb hby at_97) ?_
      exact k)
  obtain ⟨cq41, kq41, qa41, qb41, qc41⟩ := isOf hZ eh E_pt
  obtain ⟨_, _, ⟨T42, L41, k41, n41⟩, -, X, ⟨Lc41, hQ, l41, y41, z41⟩, sx⟩ := X.virtualBack hx (y := (⟨"isoproof/model/Partition", "find", "(I)I"⟩ : MethodName)) (z := (⟨"isoproof/model/Partition", "find", "(I)I"⟩ : MethodName)) hown (mvT hZ (hw _ (List.mem_of_getElem? (i := 43) rfl))) (mvT hZ (hw _ (List.mem_of_getElem? (i := 27) rfl))) (notFace_of_selects (args := #[]) (mvT hZ (hw _ (List.mem_of_getElem? (i := 29) rfl)))) (mvT hZ (hw _ (List.mem_of_getElem? (i := 29) rfl))) (mvT hZ (hw _ (List.mem_of_getElem? (i := 28) rfl))) (by decide) (backOf (W := 0) (rm6 l Z a0 hw [] pt pa k_pa pr5 lab4 3 h39 n0 Z0 F_pt_parent V_pa g_pa ne_pt_pa I5 (by decide)) hZ (hw _ (List.mem_of_getElem? (i := 30) rfl)) (hw _ (List.mem_of_getElem? (i := 3) rfl)) (by decide) (by decide)) qa41 qc41 (g := (mkF m 98 #[.val (.int z1), .val (.int z2), .val (.int z3), .val (.int z4), .val (.ref la), .val (.ref pt), .val (.int (1 : Int32)), .val (.int (1 : Int32)), .val (.int (1 : Int32)), .val (.int (1 : Int32)), .val (.int (1 : Int32)), .unset, .unset, .unset, .unset] [(.int (3 : Int32)), (.ref pt)])) rfl (by rw [hml]; rfl) (Steps.refl _) (argsL := [(.int (3 : Int32))]) (rest := []) (lenOf own_pd1 rfl) rfl (by show 2 * 0 + _ ≤ _; exact Nat.le_of_eq rfl) (hb hby at_98) (fun _ _ => ⟨rfl, eh, (by decide : 3 + 0 ≤ _), (by decide : 11 + 0 ≤ _)⟩)
  dsimp only [Pt.U, Pt.locs, Pt.cells, Pt.slots] at X l41 y41 z41 sx hQ
  subst l41 y41 z41
  obtain ⟨rfl, Nc, K1, pr6, I6, V_pa⟩ := hQ
  have st : ∀ t, Steps p.tables e below (T42.setTop (mkF m 101 #[.val (.int z1), .val (.int z2), .val (.int z3), .val (.int z4), .val (.ref la), .val (.ref pt), .val (.int (1 : Int32)), .val (.int (1 : Int32)), .val (.int (1 : Int32)), .val (.int (1 : Int32)), .val (.int (1 : Int32)), .unset, .unset, .unset, .unset] [(.int (Int32.ofNat (lab4 3)))])) t → Steps p.tables e below (s₁.setTop (mkF m 0 #[.val (.int z1), .val (.int z2), .val (.int z3), .val (.int z4), .unset, .unset, .unset, .unset, .unset, .unset, .unset, .unset, .unset, .unset, .unset] [])) t := fun t k => st t (sx.trans k)
  have N := Fr.app N Nc
  obtain ⟨h43, eH⟩ : ∃ z, z = T42.heap := ⟨_, rfl⟩
  rw [← eH] at K1 V_pa
  have eh : T42.heap = h43 := eH.symm
  have F_pt_parent := F_pt_parent.keep K1 (ninS ne_pt_pa nin0)
  have E_pt := E_pt.keep K1
  have V_la := V_la.keep K1 (ninS (Ne.symm ne_pa_la) nin0)
  have K := K.trans K1 (allS (Or.inr sz_pa) all0)
  have Z0 := Nat.le_trans Z0 K1.1
  have st : ∀ t, Steps p.tables e below (T42.setTop (mkF m 104 #[.val (.int z1), .val (.int z2), .val (.int z3), .val (.int z4), .val (.ref la), .val (.ref pt), .val (.int (1 : Int32)), .val (.int (1 : Int32)), .val (.int (1 : Int32)), .val (.int (1 : Int32)), .val (.int (1 : Int32)), .unset, .unset, .unset, .unset] [(.int (3 : Int32)), (.ref la), (.int (Int32.ofNat (lab4 3)))])) t → Steps p.tables e below (s₁.setTop (mkF m 0 #[.val (.int z1), .val (.int z2), .val (.int z3), .val (.int z4), .unset, .unset, .unset, .unset, .unset, .unset, .unset, .unset, .unset, .unset, .unset] [])) t := fun t k => st t (by
      show Steps p.tables e below (T42.setTop (mkF m 101 #[.val (.int z1), .val (.int z2), .val (.int z3), .val (.int z4), .val (.ref la), .val (.ref pt), .val (.int (1 : Int32)), .val (.int (1 : Int32)), .val (.int (1 : Int32)), .val (.int (1 : Int32)), .val (.int (1 : Int32)), .unset, .unset, .unset, .unset] [(.int (Int32.ofNat (lab4 3)))])) _
      refine XS.aload X.here hx rfl (hb hby at_101) rfl rfl ?_
      show Steps p.tables e below (T42.setTop (mkF m 103 #[.val (.int z1), .val (.int z2), .val (.int z3), .val (.int z4), .val (.ref la), .val (.ref pt), .val (.int (1 : Int32)), .val (.int (1 : Int32)), .val (.int (1 : Int32)), .val (.int (1 : Int32)), .val (.int (1 : Int32)), .unset, .unset, .unset, .unset] [(.ref la), (.int (Int32.ofNat (lab4 3)))])) _
      refine XS.iconst X.here hx rfl (hb hby at_103) ?_
      exact k)
  obtain ⟨cl44, Ar44, hin44, hat44⟩ := own_rd V_la 3 (by decide)
  have st : ∀ t, Steps p.tables e below (T42.setTop (mkF m 118 #[.val (.int z1), .val (.int z2), .val (.int z3), .val (.int z4), .val (.ref la), .val (.ref pt), .val (.int (1 : Int32)), .val (.int (1 : Int32)), .val (.int (1 : Int32)), .val (.int (1 : Int32)), .val (.int (1 : Int32)), .val (.int (1 : Int32)), .unset, .unset, .unset] [(.int (2 : Int32)), (.ref pt)])) t → Steps p.tables e below (s₁.setTop (mkF m 0 #[.val (.int z1), .val (.int z2), .val (.int z3), .val (.int z4), .unset, .unset, .unset, .unset, .unset, .unset, .unset, .unset, .unset, .unset, .unset] [])) t := fun t k => st t (by
      show Steps p.tables e below (T42.setTop (mkF m 104 #[.val (.int z1), .val (.int z2), .val (.int z3), .val (.int z4), .val (.ref la), .val (.ref pt), .val (.int (1 : Int32)), .val (.int (1 : Int32)), .val (.int (1 : Int32)), .val (.int (1 : Int32)), .val (.int (1 : Int32)), .unset, .unset, .unset, .unset] [(.int (3 : Int32)), (.ref la), (.int (Int32.ofNat (lab4 3)))])) _
      refine X.iaload hx (j := Int32.ofNat 3) (v := (.int (Int32.ofNat (lab4 3)))) (by rw [eh]; exact Ar44.1) (State.isArrayOf_alike hZ.alike Ar44.2.1) Ar44.2.2 hin44 hat44 (g := (mkF m 104 #[.val (.int z1), .val (.int z2), .val (.int z3), .val (.int z4), .val (.ref la), .val (.ref pt), .val (.int (1 : Int32)), .val (.int (1 : Int32)), .val (.int (1 : Int32)), .val (.int (1 : Int32)), .val (.int (1 : Int32)), .unset, .unset, .unset, .unset] [(.int (3 : Int32)), (.ref la), (.int (Int32.ofNat (lab4 3)))])) rfl rfl (hb hby at_104) _ ?_
      show Steps p.tables e below (T42.setTop (mkF m 105 #[.val (.int z1), .val (.int z2), .val (.int z3), .val (.int z4), .val (.ref la), .val (.ref pt), .val (.int (1 : Int32)), .val (.int (1 : Int32)), .val (.int (1 : Int32)), .val (.int (1 : Int32)), .val (.int (1 : Int32)), .unset, .unset, .unset, .unset] [(.int (Int32.ofNat (lab4 3))), (.int (Int32.ofNat (lab4 3)))])) _
      refine XS.icmpNo X.here hx rfl (hb hby at_105) rfl (teq rfl).2 ?_
      show Steps p.tables e below (T42.setTop (mkF m 108 #[.val (.int z1), .val (.int z2), .val (.int z3), .val (.int z4), .val (.ref la), .val (.ref pt), .val (.int (1 : Int32)), .val (.int (1 : Int32)), .val (.int (1 : Int32)), .val (.int (1 : Int32)), .val (.int (1 : Int32)), .unset, .unset, .unset, .unset] [])) _
      refine XS.iconst X.here hx rfl (hb hby at_108) ?_
      show Steps p.tables e below (T42.setTop (mkF m 109 #[.val (.int z1), .val (.int z2), .val (.int z3), .val (.int z4), .val (.ref la), .val (.ref pt), .val (.int (1 : Int32)), .val (.int (1 : Int32)), .val (.int (1 : Int32)), .val (.int (1 : Int32)), .val (.int (1 : Int32)), .unset, .unset, .unset, .unset] [(.int (1 : Int32))])) _
      refine XS.goto X.here hx rfl (pc0 := 109) (pc' := 113) rfl (hb hby at_109) (by decide) (by decide) ?_
      show Steps p.tables e below (T42.setTop (mkF m 113 #[.val (.int z1), .val (.int z2), .val (.int z3), .val (.int z4), .val (.ref la), .val (.ref pt), .val (.int (1 : Int32)), .val (.int (1 : Int32)), .val (.int (1 : Int32)), .val (.int (1 : Int32)), .val (.int (1 : Int32)), .unset, .unset, .unset, .unset] [(.int (1 : Int32))])) _
      refine XS.istore X.here hx rfl (hb hby at_113) rfl (l' := #[.val (.int z1), .val (.int z2), .val (.int z3), .val (.int z4), .val (.ref la), .val (.ref pt), .val (.int (1 : Int32)), .val (.int (1 : Int32)), .val (.int (1 : Int32)), .val (.int (1 : Int32)), .val (.int (1 : Int32)), .val (.int (1 : Int32)), .unset, .unset, .unset]) rfl ?_
      show Steps p.tables e below (T42.setTop (mkF m 115 #[.val (.int z1), .val (.int z2), .val (.int z3), .val (.int z4), .val (.ref la), .val (.ref pt), .val (.int (1 : Int32)), .val (.int (1 : Int32)), .val (.int (1 : Int32)), .val (.int (1 : Int32)), .val (.int (1 : Int32)), .val (.int (1 : Int32)), .unset, .unset, .unset] [])) _
      refine XS.aload X.here hx rfl (hb hby at_115) rfl rfl ?_
      show Steps p.tables e below (T42.setTop (mkF m 117 #[.val (.int z1), .val (.int z2), .val (.int z3), .val (.int z4), .val (.ref la), .val (.ref pt), .val (.int (1 : Int32)), .val (.int (1 : Int32)), .val (.int (1 : Int32)), .val (.int (1 : Int32)), .val (.int (1 : Int32)), .val (.int (1 : Int32)), .unset, .unset, .unset] [(.ref pt)])) _
      refine XS.iconst X.here hx rfl (hb hby at_117) ?_
      exact k)
  obtain ⟨cq45, kq45, qa45, qb45, qc45⟩ := isOf hZ eh E_pt
  obtain ⟨_, _, ⟨T46, L45, k45, n45⟩, -, X, ⟨Lc45, hQ, l45, y45, z45⟩, sx⟩ := X.virtualBack hx (y := (⟨"isoproof/model/Partition", "find", "(I)I"⟩ : MethodName)) (z := (⟨"isoproof/model/Partition", "find", "(I)I"⟩ : MethodName)) hown (mvT hZ (hw _ (List.mem_of_getElem? (i := 43) rfl))) (mvT hZ (hw _ (List.mem_of_getElem? (i := 27) rfl))) (notFace_of_selects (args := #[]) (mvT hZ (hw _ (List.mem_of_getElem? (i := 29) rfl)))) (mvT hZ (hw _ (List.mem_of_getElem? (i := 29) rfl))) (mvT hZ (hw _ (List.mem_of_getElem? (i := 28) rfl))) (by decide) (backOf (W := 0) (rm6 l Z a0 hw [] pt pa k_pa pr6 lab4 2 h43 n0 Z0 F_pt_parent V_pa g_pa ne_pt_pa I6 (by decide)) hZ (hw _ (List.mem_of_getElem? (i := 30) rfl)) (hw _ (List.mem_of_getElem? (i := 3) rfl)) (by decide) (by decide)) qa45 qc45 (g := (mkF m 118 #[.val (.int z1), .val (.int z2), .val (.int z3), .val (.int z4), .val (.ref la), .val (.ref pt), .val (.int (1 : Int32)), .val (.int (1 : Int32)), .val (.int (1 : Int32)), .val (.int (1 : Int32)), .val (.int (1 : Int32)), .val (.int (1 : Int32)), .unset, .unset, .unset] [(.int (2 : Int32)), (.ref pt)])) rfl (by rw [hml]; rfl) (Steps.refl _) (argsL := [(.int (2 : Int32))]) (rest := []) (lenOf own_pd1 rfl) rfl (by show 2 * 0 + _ ≤ _; exact Nat.le_of_eq rfl) (hb hby at_118) (fun _ _ => ⟨rfl, eh, (by decide : 3 + 0 ≤ _), (by decide : 11 + 0 ≤ _)⟩)
  dsimp only [Pt.U, Pt.locs, Pt.cells, Pt.slots] at X l45 y45 z45 sx hQ
  subst l45 y45 z45
  obtain ⟨rfl, Nc, K1, pr7, I7, V_pa⟩ := hQ
  have st : ∀ t, Steps p.tables e below (T46.setTop (mkF m 121 #[.val (.int z1), .val (.int z2), .val (.int z3), .val (.int z4), .val (.ref la), .val (.ref pt), .val (.int (1 : Int32)), .val (.int (1 : Int32)), .val (.int (1 : Int32)), .val (.int (1 : Int32)), .val (.int (1 : Int32)), .val (.int (1 : Int32)), .unset, .unset, .unset] [(.int (Int32.ofNat (lab4 2)))])) t → Steps p.tables e below (s₁.setTop (mkF m 0 #[.val (.int z1), .val (.int z2), .val (.int z3), .val (.int z4), .unset, .unset, .unset, .unset, .unset, .unset, .unset, .unset, .unset, .unset, .unset] [])) t := fun t k => st t (sx.trans k)
  have N := Fr.app N Nc
  obtain ⟨h47, eH⟩ : ∃ z, z = T46.heap := ⟨_, rfl⟩
  rw [← eH] at K1 V_pa
  have eh : T46.heap = h47 := eH.symm
  have F_pt_parent := F_pt_parent.keep K1 (ninS ne_pt_pa nin0)
  have E_pt := E_pt.keep K1
  have V_la := V_la.keep K1 (ninS (Ne.symm ne_pa_la) nin0)
  have K := K.trans K1 (allS (Or.inr sz_pa) all0)
  have Z0 := Nat.le_trans Z0 K1.1
  have st : ∀ t, Steps p.tables e below (T46.setTop (mkF m 124 #[.val (.int z1), .val (.int z2), .val (.int z3), .val (.int z4), .val (.ref la), .val (.ref pt), .val (.int (1 : Int32)), .val (.int (1 : Int32)), .val (.int (1 : Int32)), .val (.int (1 : Int32)), .val (.int (1 : Int32)), .val (.int (1 : Int32)), .unset, .unset, .unset] [(.int (2 : Int32)), (.ref la), (.int (Int32.ofNat (lab4 2)))])) t → Steps p.tables e below (s₁.setTop (mkF m 0 #[.val (.int z1), .val (.int z2), .val (.int z3), .val (.int z4), .unset, .unset, .unset, .unset, .unset, .unset, .unset, .unset, .unset, .unset, .unset] [])) t := fun t k => st t (by
      show Steps p.tables e below (T46.setTop (mkF m 121 #[.val (.int z1), .val (.int z2), .val (.int z3), .val (.int z4), .val (.ref la), .val (.ref pt), .val (.int (1 : Int32)), .val (.int (1 : Int32)), .val (.int (1 : Int32)), .val (.int (1 : Int32)), .val (.int (1 : Int32)), .val (.int (1 : Int32)), .unset, .unset, .unset] [(.int (Int32.ofNat (lab4 2)))])) _
      refine XS.aload X.here hx rfl (hb hby at_121) rfl rfl ?_
      show Steps p.tables e below (T46.setTop (mkF m 123 #[.val (.int z1), .val (.int z2), .val (.int z3), .val (.int z4), .val (.ref la), .val (.ref pt), .val (.int (1 : Int32)), .val (.int (1 : Int32)), .val (.int (1 : Int32)), .val (.int (1 : Int32)), .val (.int (1 : Int32)), .val (.int (1 : Int32)), .unset, .unset, .unset] [(.ref la), (.int (Int32.ofNat (lab4 2)))])) _
      refine XS.iconst X.here hx rfl (hb hby at_123) ?_
      exact k)
  obtain ⟨cl48, Ar48, hin48, hat48⟩ := own_rd V_la 2 (by decide)
  have st : ∀ t, Steps p.tables e below (T46.setTop (mkF m 138 #[.val (.int z1), .val (.int z2), .val (.int z3), .val (.int z4), .val (.ref la), .val (.ref pt), .val (.int (1 : Int32)), .val (.int (1 : Int32)), .val (.int (1 : Int32)), .val (.int (1 : Int32)), .val (.int (1 : Int32)), .val (.int (1 : Int32)), .val (.int (1 : Int32)), .unset, .unset] [(.int (1 : Int32)), (.ref pt)])) t → Steps p.tables e below (s₁.setTop (mkF m 0 #[.val (.int z1), .val (.int z2), .val (.int z3), .val (.int z4), .unset, .unset, .unset, .unset, .unset, .unset, .unset, .unset, .unset, .unset, .unset] [])) t := fun t k => st t (by
      show Steps p.tables e below (T46.setTop (mkF m 124 #[.val (.int z1), .val (.int z2), .val (.int z3), .val (.int z4), .val (.ref la), .val (.ref pt), .val (.int (1 : Int32)), .val (.int (1 : Int32)), .val (.int (1 : Int32)), .val (.int (1 : Int32)), .val (.int (1 : Int32)), .val (.int (1 : Int32)), .unset, .unset, .unset] [(.int (2 : Int32)), (.ref la), (.int (Int32.ofNat (lab4 2)))])) _
      refine X.iaload hx (j := Int32.ofNat 2) (v := (.int (Int32.ofNat (lab4 2)))) (by rw [eh]; exact Ar48.1) (State.isArrayOf_alike hZ.alike Ar48.2.1) Ar48.2.2 hin48 hat48 (g := (mkF m 124 #[.val (.int z1), .val (.int z2), .val (.int z3), .val (.int z4), .val (.ref la), .val (.ref pt), .val (.int (1 : Int32)), .val (.int (1 : Int32)), .val (.int (1 : Int32)), .val (.int (1 : Int32)), .val (.int (1 : Int32)), .val (.int (1 : Int32)), .unset, .unset, .unset] [(.int (2 : Int32)), (.ref la), (.int (Int32.ofNat (lab4 2)))])) rfl rfl (hb hby at_124) _ ?_
      show Steps p.tables e below (T46.setTop (mkF m 125 #[.val (.int z1), .val (.int z2), .val (.int z3), .val (.int z4), .val (.ref la), .val (.ref pt), .val (.int (1 : Int32)), .val (.int (1 : Int32)), .val (.int (1 : Int32)), .val (.int (1 : Int32)), .val (.int (1 : Int32)), .val (.int (1 : Int32)), .unset, .unset, .unset] [(.int (Int32.ofNat (lab4 2))), (.int (Int32.ofNat (lab4 2)))])) _
      refine XS.icmpNo X.here hx rfl (hb hby at_125) rfl (teq rfl).2 ?_
      show Steps p.tables e below (T46.setTop (mkF m 128 #[.val (.int z1), .val (.int z2), .val (.int z3), .val (.int z4), .val (.ref la), .val (.ref pt), .val (.int (1 : Int32)), .val (.int (1 : Int32)), .val (.int (1 : Int32)), .val (.int (1 : Int32)), .val (.int (1 : Int32)), .val (.int (1 : Int32)), .unset, .unset, .unset] [])) _
      refine XS.iconst X.here hx rfl (hb hby at_128) ?_
      show Steps p.tables e below (T46.setTop (mkF m 129 #[.val (.int z1), .val (.int z2), .val (.int z3), .val (.int z4), .val (.ref la), .val (.ref pt), .val (.int (1 : Int32)), .val (.int (1 : Int32)), .val (.int (1 : Int32)), .val (.int (1 : Int32)), .val (.int (1 : Int32)), .val (.int (1 : Int32)), .unset, .unset, .unset] [(.int (1 : Int32))])) _
      refine XS.goto X.here hx rfl (pc0 := 129) (pc' := 133) rfl (hb hby at_129) (by decide) (by decide) ?_
      show Steps p.tables e below (T46.setTop (mkF m 133 #[.val (.int z1), .val (.int z2), .val (.int z3), .val (.int z4), .val (.ref la), .val (.ref pt), .val (.int (1 : Int32)), .val (.int (1 : Int32)), .val (.int (1 : Int32)), .val (.int (1 : Int32)), .val (.int (1 : Int32)), .val (.int (1 : Int32)), .unset, .unset, .unset] [(.int (1 : Int32))])) _
      refine XS.istore X.here hx rfl (hb hby at_133) rfl (l' := #[.val (.int z1), .val (.int z2), .val (.int z3), .val (.int z4), .val (.ref la), .val (.ref pt), .val (.int (1 : Int32)), .val (.int (1 : Int32)), .val (.int (1 : Int32)), .val (.int (1 : Int32)), .val (.int (1 : Int32)), .val (.int (1 : Int32)), .val (.int (1 : Int32)), .unset, .unset]) rfl ?_
      show Steps p.tables e below (T46.setTop (mkF m 135 #[.val (.int z1), .val (.int z2), .val (.int z3), .val (.int z4), .val (.ref la), .val (.ref pt), .val (.int (1 : Int32)), .val (.int (1 : Int32)), .val (.int (1 : Int32)), .val (.int (1 : Int32)), .val (.int (1 : Int32)), .val (.int (1 : Int32)), .val (.int (1 : Int32)), .unset, .unset] [])) _
      refine XS.aload X.here hx rfl (hb hby at_135) rfl rfl ?_
      show Steps p.tables e below (T46.setTop (mkF m 137 #[.val (.int z1), .val (.int z2), .val (.int z3), .val (.int z4), .val (.ref la), .val (.ref pt), .val (.int (1 : Int32)), .val (.int (1 : Int32)), .val (.int (1 : Int32)), .val (.int (1 : Int32)), .val (.int (1 : Int32)), .val (.int (1 : Int32)), .val (.int (1 : Int32)), .unset, .unset] [(.ref pt)])) _
      refine XS.iconst X.here hx rfl (hb hby at_137) ?_
      exact k)
  obtain ⟨cq49, kq49, qa49, qb49, qc49⟩ := isOf hZ eh E_pt
  obtain ⟨_, _, ⟨T50, L49, k49, n49⟩, -, X, ⟨Lc49, hQ, l49, y49, z49⟩, sx⟩ := X.virtualBack hx (y := (⟨"isoproof/model/Partition", "find", "(I)I"⟩ : MethodName)) (z := (⟨"isoproof/model/Partition", "find", "(I)I"⟩ : MethodName)) hown (mvT hZ (hw _ (List.mem_of_getElem? (i := 43) rfl))) (mvT hZ (hw _ (List.mem_of_getElem? (i := 27) rfl))) (notFace_of_selects (args := #[]) (mvT hZ (hw _ (List.mem_of_getElem? (i := 29) rfl)))) (mvT hZ (hw _ (List.mem_of_getElem? (i := 29) rfl))) (mvT hZ (hw _ (List.mem_of_getElem? (i := 28) rfl))) (by decide) (backOf (W := 0) (rm6 l Z a0 hw [] pt pa k_pa pr7 lab4 1 h47 n0 Z0 F_pt_parent V_pa g_pa ne_pt_pa I7 (by decide)) hZ (hw _ (List.mem_of_getElem? (i := 30) rfl)) (hw _ (List.mem_of_getElem? (i := 3) rfl)) (by decide) (by decide)) qa49 qc49 (g := (mkF m 138 #[.val (.int z1), .val (.int z2), .val (.int z3), .val (.int z4), .val (.ref la), .val (.ref pt), .val (.int (1 : Int32)), .val (.int (1 : Int32)), .val (.int (1 : Int32)), .val (.int (1 : Int32)), .val (.int (1 : Int32)), .val (.int (1 : Int32)), .val (.int (1 : Int32)), .unset, .unset] [(.int (1 : Int32)), (.ref pt)])) rfl (by rw [hml]; rfl) (Steps.refl _) (argsL := [(.int (1 : Int32))]) (rest := []) (lenOf own_pd1 rfl) rfl (by show 2 * 0 + _ ≤ _; exact Nat.le_of_eq rfl) (hb hby at_138) (fun _ _ => ⟨rfl, eh, (by decide : 3 + 0 ≤ _), (by decide : 11 + 0 ≤ _)⟩)
  dsimp only [Pt.U, Pt.locs, Pt.cells, Pt.slots] at X l49 y49 z49 sx hQ
  subst l49 y49 z49
  obtain ⟨rfl, Nc, K1, pr8, I8, V_pa⟩ := hQ
  have st : ∀ t, Steps p.tables e below (T50.setTop (mkF m 141 #[.val (.int z1), .val (.int z2), .val (.int z3), .val (.int z4), .val (.ref la), .val (.ref pt), .val (.int (1 : Int32)), .val (.int (1 : Int32)), .val (.int (1 : Int32)), .val (.int (1 : Int32)), .val (.int (1 : Int32)), .val (.int (1 : Int32)), .val (.int (1 : Int32)), .unset, .unset] [(.int (Int32.ofNat (lab4 1)))])) t → Steps p.tables e below (s₁.setTop (mkF m 0 #[.val (.int z1), .val (.int z2), .val (.int z3), .val (.int z4), .unset, .unset, .unset, .unset, .unset, .unset, .unset, .unset, .unset, .unset, .unset] [])) t := fun t k => st t (sx.trans k)
  have N := Fr.app N Nc
  obtain ⟨h51, eH⟩ : ∃ z, z = T50.heap := ⟨_, rfl⟩
  rw [← eH] at K1 V_pa
  have eh : T50.heap = h51 := eH.symm
  have F_pt_parent := F_pt_parent.keep K1 (ninS ne_pt_pa nin0)
  have E_pt := E_pt.keep K1
  have V_la := V_la.keep K1 (ninS (Ne.symm ne_pa_la) nin0)
  have K := K.trans K1 (allS (Or.inr sz_pa) all0)
  have Z0 := Nat.le_trans Z0 K1.1
  have st : ∀ t, Steps p.tables e below (T50.setTop (mkF m 144 #[.val (.int z1), .val (.int z2), .val (.int z3), .val (.int z4), .val (.ref la), .val (.ref pt), .val (.int (1 : Int32)), .val (.int (1 : Int32)), .val (.int (1 : Int32)), .val (.int (1 : Int32)), .val (.int (1 : Int32)), .val (.int (1 : Int32)), .val (.int (1 : Int32)), .unset, .unset] [(.int (1 : Int32)), (.ref la), (.int (Int32.ofNat (lab4 1)))])) t → Steps p.tables e below (s₁.setTop (mkF m 0 #[.val (.int z1), .val (.int z2), .val (.int z3), .val (.int z4), .unset, .unset, .unset, .unset, .unset, .unset, .unset, .unset, .unset, .unset, .unset] [])) t := fun t k => st t (by
      show Steps p.tables e below (T50.setTop (mkF m 141 #[.val (.int z1), .val (.int z2), .val (.int z3), .val (.int z4), .val (.ref la), .val (.ref pt), .val (.int (1 : Int32)), .val (.int (1 : Int32)), .val (.int (1 : Int32)), .val (.int (1 : Int32)), .val (.int (1 : Int32)), .val (.int (1 : Int32)), .val (.int (1 : Int32)), .unset, .unset] [(.int (Int32.ofNat (lab4 1)))])) _
      refine XS.aload X.here hx rfl (hb hby at_141) rfl rfl ?_
      show Steps p.tables e below (T50.setTop (mkF m 143 #[.val (.int z1), .val (.int z2), .val (.int z3), .val (.int z4), .val (.ref la), .val (.ref pt), .val (.int (1 : Int32)), .val (.int (1 : Int32)), .val (.int (1 : Int32)), .val (.int (1 : Int32)), .val (.int (1 : Int32)), .val (.int (1 : Int32)), .val (.int (1 : Int32)), .unset, .unset] [(.ref la), (.int (Int32.ofNat (lab4 1)))])) _
      refine XS.iconst X.here hx rfl (hb hby at_143) ?_
      exact k)
  obtain ⟨cl52, Ar52, hin52, hat52⟩ := own_rd V_la 1 (by decide)
  have st : ∀ t, Steps p.tables e below (T50.setTop (mkF m 158 #[.val (.int z1), .val (.int z2), .val (.int z3), .val (.int z4), .val (.ref la), .val (.ref pt), .val (.int (1 : Int32)), .val (.int (1 : Int32)), .val (.int (1 : Int32)), .val (.int (1 : Int32)), .val (.int (1 : Int32)), .val (.int (1 : Int32)), .val (.int (1 : Int32)), .val (.int (1 : Int32)), .unset] [(.int (0 : Int32)), (.ref pt)])) t → Steps p.tables e below (s₁.setTop (mkF m 0 #[.val (.int z1), .val (.int z2), .val (.int z3), .val (.int z4), .unset, .unset, .unset, .unset, .unset, .unset, .unset, .unset, .unset, .unset, .unset] [])) t := fun t k => st t (by
      show Steps p.tables e below (T50.setTop (mkF m 144 #[.val (.int z1), .val (.int z2), .val (.int z3), .val (.int z4), .val (.ref la), .val (.ref pt), .val (.int (1 : Int32)), .val (.int (1 : Int32)), .val (.int (1 : Int32)), .val (.int (1 : Int32)), .val (.int (1 : Int32)), .val (.int (1 : Int32)), .val (.int (1 : Int32)), .unset, .unset] [(.int (1 : Int32)), (.ref la), (.int (Int32.ofNat (lab4 1)))])) _
      refine X.iaload hx (j := Int32.ofNat 1) (v := (.int (Int32.ofNat (lab4 1)))) (by rw [eh]; exact Ar52.1) (State.isArrayOf_alike hZ.alike Ar52.2.1) Ar52.2.2 hin52 hat52 (g := (mkF m 144 #[.val (.int z1), .val (.int z2), .val (.int z3), .val (.int z4), .val (.ref la), .val (.ref pt), .val (.int (1 : Int32)), .val (.int (1 : Int32)), .val (.int (1 : Int32)), .val (.int (1 : Int32)), .val (.int (1 : Int32)), .val (.int (1 : Int32)), .val (.int (1 : Int32)), .unset, .unset] [(.int (1 : Int32)), (.ref la), (.int (Int32.ofNat (lab4 1)))])) rfl rfl (hb hby at_144) _ ?_
      show Steps p.tables e below (T50.setTop (mkF m 145 #[.val (.int z1), .val (.int z2), .val (.int z3), .val (.int z4), .val (.ref la), .val (.ref pt), .val (.int (1 : Int32)), .val (.int (1 : Int32)), .val (.int (1 : Int32)), .val (.int (1 : Int32)), .val (.int (1 : Int32)), .val (.int (1 : Int32)), .val (.int (1 : Int32)), .unset, .unset] [(.int (Int32.ofNat (lab4 1))), (.int (Int32.ofNat (lab4 1)))])) _
      refine XS.icmpNo X.here hx rfl (hb hby at_145) rfl (teq rfl).2 ?_
      show Steps p.tables e below (T50.setTop (mkF m 148 #[.val (.int z1), .val (.int z2), .val (.int z3), .val (.int z4), .val (.ref la), .val (.ref pt), .val (.int (1 : Int32)), .val (.int (1 : Int32)), .val (.int (1 : Int32)), .val (.int (1 : Int32)), .val (.int (1 : Int32)), .val (.int (1 : Int32)), .val (.int (1 : Int32)), .unset, .unset] [])) _
      refine XS.iconst X.here hx rfl (hb hby at_148) ?_
      show Steps p.tables e below (T50.setTop (mkF m 149 #[.val (.int z1), .val (.int z2), .val (.int z3), .val (.int z4), .val (.ref la), .val (.ref pt), .val (.int (1 : Int32)), .val (.int (1 : Int32)), .val (.int (1 : Int32)), .val (.int (1 : Int32)), .val (.int (1 : Int32)), .val (.int (1 : Int32)), .val (.int (1 : Int32)), .unset, .unset] [(.int (1 : Int32))])) _
      refine XS.goto X.here hx rfl (pc0 := 149) (pc' := 153) rfl (hb hby at_149) (by decide) (by decide) ?_
      show Steps p.tables e below (T50.setTop (mkF m 153 #[.val (.int z1), .val (.int z2), .val (.int z3), .val (.int z4), .val (.ref la), .val (.ref pt), .val (.int (1 : Int32)), .val (.int (1 : Int32)), .val (.int (1 : Int32)), .val (.int (1 : Int32)), .val (.int (1 : Int32)), .val (.int (1 : Int32)), .val (.int (1 : Int32)), .unset, .unset] [(.int (1 : Int32))])) _
      refine XS.istore X.here hx rfl (hb hby at_153) rfl (l' := #[.val (.int z1), .val (.int z2), .val (.int z3), .val (.int z4), .val (.ref la), .val (.ref pt), .val (.int (1 : Int32)), .val (.int (1 : Int32)), .val (.int (1 : Int32)), .val (.int (1 : Int32)), .val (.int (1 : Int32)), .val (.int (1 : Int32)), .val (.int (1 : Int32)), .val (.int (1 : Int32)), .unset]) rfl ?_
      show Steps p.tables e below (T50.setTop (mkF m 155 #[.val (.int z1), .val (.int z2), .val (.int z3), .val (.int z4), .val (.ref la), .val (.ref pt), .val (.int (1 : Int32)), .val (.int (1 : Int32)), .val (.int (1 : Int32)), .val (.int (1 : Int32)), .val (.int (1 : Int32)), .val (.int (1 : Int32)), .val (.int (1 : Int32)), .val (.int (1 : Int32)), .unset] [])) _
      refine XS.aload X.here hx rfl (hb hby at_155) rfl rfl ?_
      show Steps p.tables e below (T50.setTop (mkF m 157 #[.val (.int z1), .val (.int z2), .val (.int z3), .val (.int z4), .val (.ref la), .val (.ref pt), .val (.int (1 : Int32)), .val (.int (1 : Int32)), .val (.int (1 : Int32)), .val (.int (1 : Int32)), .val (.int (1 : Int32)), .val (.int (1 : Int32)), .val (.int (1 : Int32)), .val (.int (1 : Int32)), .unset] [(.ref pt)])) _
      refine XS.iconst X.here hx rfl (hb hby at_157) ?_
      exact k)
  obtain ⟨cq53, kq53, qa53, qb53, qc53⟩ := isOf hZ eh E_pt
  obtain ⟨_, _, ⟨T54, L53, k53, n53⟩, -, X, ⟨Lc53, hQ, l53, y53, z53⟩, sx⟩ := X.virtualBack hx (y := (⟨"isoproof/model/Partition", "find", "(I)I"⟩ : MethodName)) (z := (⟨"isoproof/model/Partition", "find", "(I)I"⟩ : MethodName)) hown (mvT hZ (hw _ (List.mem_of_getElem? (i := 43) rfl))) (mvT hZ (hw _ (List.mem_of_getElem? (i := 27) rfl))) (notFace_of_selects (args := #[]) (mvT hZ (hw _ (List.mem_of_getElem? (i := 29) rfl)))) (mvT hZ (hw _ (List.mem_of_getElem? (i := 29) rfl))) (mvT hZ (hw _ (List.mem_of_getElem? (i := 28) rfl))) (by decide) (backOf (W := 0) (rm6 l Z a0 hw [] pt pa k_pa pr8 lab4 0 h51 n0 Z0 F_pt_parent V_pa g_pa ne_pt_pa I8 (by decide)) hZ (hw _ (List.mem_of_getElem? (i := 30) rfl)) (hw _ (List.mem_of_getElem? (i := 3) rfl)) (by decide) (by decide)) qa53 qc53 (g := (mkF m 158 #[.val (.int z1), .val (.int z2), .val (.int z3), .val (.int z4), .val (.ref la), .val (.ref pt), .val (.int (1 : Int32)), .val (.int (1 : Int32)), .val (.int (1 : Int32)), .val (.int (1 : Int32)), .val (.int (1 : Int32)), .val (.int (1 : Int32)), .val (.int (1 : Int32)), .val (.int (1 : Int32)), .unset] [(.int (0 : Int32)), (.ref pt)])) rfl (by rw [hml]; rfl) (Steps.refl _) (argsL := [(.int (0 : Int32))]) (rest := []) (lenOf own_pd1 rfl) rfl (by show 2 * 0 + _ ≤ _; exact Nat.le_of_eq rfl) (hb hby at_158) (fun _ _ => ⟨rfl, eh, (by decide : 3 + 0 ≤ _), (by decide : 11 + 0 ≤ _)⟩)
  dsimp only [Pt.U, Pt.locs, Pt.cells, Pt.slots] at X l53 y53 z53 sx hQ
  subst l53 y53 z53
  obtain ⟨rfl, Nc, K1, pr9, I9, V_pa⟩ := hQ
  have st : ∀ t, Steps p.tables e below (T54.setTop (mkF m 161 #[.val (.int z1), .val (.int z2), .val (.int z3), .val (.int z4), .val (.ref la), .val (.ref pt), .val (.int (1 : Int32)), .val (.int (1 : Int32)), .val (.int (1 : Int32)), .val (.int (1 : Int32)), .val (.int (1 : Int32)), .val (.int (1 : Int32)), .val (.int (1 : Int32)), .val (.int (1 : Int32)), .unset] [(.int (Int32.ofNat (lab4 0)))])) t → Steps p.tables e below (s₁.setTop (mkF m 0 #[.val (.int z1), .val (.int z2), .val (.int z3), .val (.int z4), .unset, .unset, .unset, .unset, .unset, .unset, .unset, .unset, .unset, .unset, .unset] [])) t := fun t k => st t (sx.trans k)
  have N := Fr.app N Nc
  obtain ⟨h55, eH⟩ : ∃ z, z = T54.heap := ⟨_, rfl⟩
  rw [← eH] at K1 V_pa
  have eh : T54.heap = h55 := eH.symm
  have F_pt_parent := F_pt_parent.keep K1 (ninS ne_pt_pa nin0)
  have E_pt := E_pt.keep K1
  have V_la := V_la.keep K1 (ninS (Ne.symm ne_pa_la) nin0)
  have K := K.trans K1 (allS (Or.inr sz_pa) all0)
  have Z0 := Nat.le_trans Z0 K1.1
  have st : ∀ t, Steps p.tables e below (T54.setTop (mkF m 164 #[.val (.int z1), .val (.int z2), .val (.int z3), .val (.int z4), .val (.ref la), .val (.ref pt), .val (.int (1 : Int32)), .val (.int (1 : Int32)), .val (.int (1 : Int32)), .val (.int (1 : Int32)), .val (.int (1 : Int32)), .val (.int (1 : Int32)), .val (.int (1 : Int32)), .val (.int (1 : Int32)), .unset] [(.int (0 : Int32)), (.ref la), (.int (Int32.ofNat (lab4 0)))])) t → Steps p.tables e below (s₁.setTop (mkF m 0 #[.val (.int z1), .val (.int z2), .val (.int z3), .val (.int z4), .unset, .unset, .unset, .unset, .unset, .unset, .unset, .unset, .unset, .unset, .unset] [])) t := fun t k => st t (by
      show Steps p.tables e below (T54.setTop (mkF m 161 #[.val (.int z1), .val (.int z2), .val (.int z3), .val (.int z4), .val (.ref la), .val (.ref pt), .val (.int (1 : Int32)), .val (.int (1 : Int32)), .val (.int (1 : Int32)), .val (.int (1 : Int32)), .val (.int (1 : Int32)), .val (.int (1 : Int32)), .val (.int (1 : Int32)), .val (.int (1 : Int32)), .unset] [(.int (Int32.ofNat (lab4 0)))])) _
      refine XS.aload X.here hx rfl (hb hby at_161) rfl rfl ?_
      show Steps p.tables e below (T54.setTop (mkF m 163 #[.val (.int z1), .val (.int z2), .val (.int z3), .val (.int z4), .val (.ref la), .val (.ref pt), .val (.int (1 : Int32)), .val (.int (1 : Int32)), .val (.int (1 : Int32)), .val (.int (1 : Int32)), .val (.int (1 : Int32)), .val (.int (1 : Int32)), .val (.int (1 : Int32)), .val (.int (1 : Int32)), .unset] [(.ref la), (.int (Int32.ofNat (lab4 0)))])) _
      refine XS.iconst X.here hx rfl (hb hby at_163) ?_
      exact k)
  obtain ⟨cl56, Ar56, hin56, hat56⟩ := own_rd V_la 0 (by decide)
  have st : ∀ t, Steps p.tables e below (T54.setTop (mkF m 225 #[.val (.int z1), .val (.int z2), .val (.int z3), .val (.int z4), .val (.ref la), .val (.ref pt), .val (.int (1 : Int32)), .val (.int (1 : Int32)), .val (.int (1 : Int32)), .val (.int (1 : Int32)), .val (.int (1 : Int32)), .val (.int (1 : Int32)), .val (.int (1 : Int32)), .val (.int (1 : Int32)), .val (.int (1 : Int32))] [(.int (1 : Int32))])) t → Steps p.tables e below (s₁.setTop (mkF m 0 #[.val (.int z1), .val (.int z2), .val (.int z3), .val (.int z4), .unset, .unset, .unset, .unset, .unset, .unset, .unset, .unset, .unset, .unset, .unset] [])) t := fun t k => st t (by
      show Steps p.tables e below (T54.setTop (mkF m 164 #[.val (.int z1), .val (.int z2), .val (.int z3), .val (.int z4), .val (.ref la), .val (.ref pt), .val (.int (1 : Int32)), .val (.int (1 : Int32)), .val (.int (1 : Int32)), .val (.int (1 : Int32)), .val (.int (1 : Int32)), .val (.int (1 : Int32)), .val (.int (1 : Int32)), .val (.int (1 : Int32)), .unset] [(.int (0 : Int32)), (.ref la), (.int (Int32.ofNat (lab4 0)))])) _
      refine X.iaload hx (j := Int32.ofNat 0) (v := (.int (Int32.ofNat (lab4 0)))) (by rw [eh]; exact Ar56.1) (State.isArrayOf_alike hZ.alike Ar56.2.1) Ar56.2.2 hin56 hat56 (g := (mkF m 164 #[.val (.int z1), .val (.int z2), .val (.int z3), .val (.int z4), .val (.ref la), .val (.ref pt), .val (.int (1 : Int32)), .val (.int (1 : Int32)), .val (.int (1 : Int32)), .val (.int (1 : Int32)), .val (.int (1 : Int32)), .val (.int (1 : Int32)), .val (.int (1 : Int32)), .val (.int (1 : Int32)), .unset] [(.int (0 : Int32)), (.ref la), (.int (Int32.ofNat (lab4 0)))])) rfl rfl (hb hby at_164) _ ?_
      show Steps p.tables e below (T54.setTop (mkF m 165 #[.val (.int z1), .val (.int z2), .val (.int z3), .val (.int z4), .val (.ref la), .val (.ref pt), .val (.int (1 : Int32)), .val (.int (1 : Int32)), .val (.int (1 : Int32)), .val (.int (1 : Int32)), .val (.int (1 : Int32)), .val (.int (1 : Int32)), .val (.int (1 : Int32)), .val (.int (1 : Int32)), .unset] [(.int (Int32.ofNat (lab4 0))), (.int (Int32.ofNat (lab4 0)))])) _
      refine XS.icmpNo X.here hx rfl (hb hby at_165) rfl (teq rfl).2 ?_
      show Steps p.tables e below (T54.setTop (mkF m 168 #[.val (.int z1), .val (.int z2), .val (.int z3), .val (.int z4), .val (.ref la), .val (.ref pt), .val (.int (1 : Int32)), .val (.int (1 : Int32)), .val (.int (1 : Int32)), .val (.int (1 : Int32)), .val (.int (1 : Int32)), .val (.int (1 : Int32)), .val (.int (1 : Int32)), .val (.int (1 : Int32)), .unset] [])) _
      refine XS.iconst X.here hx rfl (hb hby at_168) ?_
      show Steps p.tables e below (T54.setTop (mkF m 169 #[.val (.int z1), .val (.int z2), .val (.int z3), .val (.int z4), .val (.ref la), .val (.ref pt), .val (.int (1 : Int32)), .val (.int (1 : Int32)), .val (.int (1 : Int32)), .val (.int (1 : Int32)), .val (.int (1 : Int32)), .val (.int (1 : Int32)), .val (.int (1 : Int32)), .val (.int (1 : Int32)), .unset] [(.int (1 : Int32))])) _
      refine XS.goto X.here hx rfl (pc0 := 169) (pc' := 173) rfl (hb hby at_169) (by decide) (by decide) ?_
      show Steps p.tables e below (T54.setTop (mkF m 173 #[.val (.int z1), .val (.int z2), .val (.int z3), .val (.int z4), .val (.ref la), .val (.ref pt), .val (.int (1 : Int32)), .val (.int (1 : Int32)), .val (.int (1 : Int32)), .val (.int (1 : Int32)), .val (.int (1 : Int32)), .val (.int (1 : Int32)), .val (.int (1 : Int32)), .val (.int (1 : Int32)), .unset] [(.int (1 : Int32))])) _
      refine XS.istore X.here hx rfl (hb hby at_173) rfl (l' := #[.val (.int z1), .val (.int z2), .val (.int z3), .val (.int z4), .val (.ref la), .val (.ref pt), .val (.int (1 : Int32)), .val (.int (1 : Int32)), .val (.int (1 : Int32)), .val (.int (1 : Int32)), .val (.int (1 : Int32)), .val (.int (1 : Int32)), .val (.int (1 : Int32)), .val (.int (1 : Int32)), .val (.int (1 : Int32))]) rfl ?_
      show Steps p.tables e below (T54.setTop (mkF m 175 #[.val (.int z1), .val (.int z2), .val (.int z3), .val (.int z4), .val (.ref la), .val (.ref pt), .val (.int (1 : Int32)), .val (.int (1 : Int32)), .val (.int (1 : Int32)), .val (.int (1 : Int32)), .val (.int (1 : Int32)), .val (.int (1 : Int32)), .val (.int (1 : Int32)), .val (.int (1 : Int32)), .val (.int (1 : Int32))] [])) _
      refine XS.iload X.here hx rfl (hb hby at_175) rfl ?_
      show Steps p.tables e below (T54.setTop (mkF m 177 #[.val (.int z1), .val (.int z2), .val (.int z3), .val (.int z4), .val (.ref la), .val (.ref pt), .val (.int (1 : Int32)), .val (.int (1 : Int32)), .val (.int (1 : Int32)), .val (.int (1 : Int32)), .val (.int (1 : Int32)), .val (.int (1 : Int32)), .val (.int (1 : Int32)), .val (.int (1 : Int32)), .val (.int (1 : Int32))] [(.int (1 : Int32))])) _
      refine XS.ifNo X.here hx rfl (hb hby at_177) rfl ((if0 _ _).trans (feq (by decide)).1) ?_
      show Steps p.tables e below (T54.setTop (mkF m 180 #[.val (.int z1), .val (.int z2), .val (.int z3), .val (.int z4), .val (.ref la), .val (.ref pt), .val (.int (1 : Int32)), .val (.int (1 : Int32)), .val (.int (1 : Int32)), .val (.int (1 : Int32)), .val (.int (1 : Int32)), .val (.int (1 : Int32)), .val (.int (1 : Int32)), .val (.int (1 : Int32)), .val (.int (1 : Int32))] [])) _
      refine XS.iload X.here hx rfl (hb hby at_180) rfl ?_
      show Steps p.tables e below (T54.setTop (mkF m 182 #[.val (.int z1), .val (.int z2), .val (.int z3), .val (.int z4), .val (.ref la), .val (.ref pt), .val (.int (1 : Int32)), .val (.int (1 : Int32)), .val (.int (1 : Int32)), .val (.int (1 : Int32)), .val (.int (1 : Int32)), .val (.int (1 : Int32)), .val (.int (1 : Int32)), .val (.int (1 : Int32)), .val (.int (1 : Int32))] [(.int (1 : Int32))])) _
      refine XS.ifNo X.here hx rfl (hb hby at_182) rfl ((if0 _ _).trans (feq (by decide)).1) ?_
      show Steps p.tables e below (T54.setTop (mkF m 185 #[.val (.int z1), .val (.int z2), .val (.int z3), .val (.int z4), .val (.ref la), .val (.ref pt), .val (.int (1 : Int32)), .val (.int (1 : Int32)), .val (.int (1 : Int32)), .val (.int (1 : Int32)), .val (.int (1 : Int32)), .val (.int (1 : Int32)), .val (.int (1 : Int32)), .val (.int (1 : Int32)), .val (.int (1 : Int32))] [])) _
      refine XS.iload X.here hx rfl (hb hby at_185) rfl ?_
      show Steps p.tables e below (T54.setTop (mkF m 187 #[.val (.int z1), .val (.int z2), .val (.int z3), .val (.int z4), .val (.ref la), .val (.ref pt), .val (.int (1 : Int32)), .val (.int (1 : Int32)), .val (.int (1 : Int32)), .val (.int (1 : Int32)), .val (.int (1 : Int32)), .val (.int (1 : Int32)), .val (.int (1 : Int32)), .val (.int (1 : Int32)), .val (.int (1 : Int32))] [(.int (1 : Int32))])) _
      refine XS.ifNo X.here hx rfl (hb hby at_187) rfl ((if0 _ _).trans (feq (by decide)).1) ?_
      show Steps p.tables e below (T54.setTop (mkF m 190 #[.val (.int z1), .val (.int z2), .val (.int z3), .val (.int z4), .val (.ref la), .val (.ref pt), .val (.int (1 : Int32)), .val (.int (1 : Int32)), .val (.int (1 : Int32)), .val (.int (1 : Int32)), .val (.int (1 : Int32)), .val (.int (1 : Int32)), .val (.int (1 : Int32)), .val (.int (1 : Int32)), .val (.int (1 : Int32))] [])) _
      refine XS.iload X.here hx rfl (hb hby at_190) rfl ?_
      show Steps p.tables e below (T54.setTop (mkF m 192 #[.val (.int z1), .val (.int z2), .val (.int z3), .val (.int z4), .val (.ref la), .val (.ref pt), .val (.int (1 : Int32)), .val (.int (1 : Int32)), .val (.int (1 : Int32)), .val (.int (1 : Int32)), .val (.int (1 : Int32)), .val (.int (1 : Int32)), .val (.int (1 : Int32)), .val (.int (1 : Int32)), .val (.int (1 : Int32))] [(.int (1 : Int32))])) _
      refine XS.ifNo X.here hx rfl (hb hby at_192) rfl ((if0 _ _).trans (feq (by decide)).1) ?_
      show Steps p.tables e below (T54.setTop (mkF m 195 #[.val (.int z1), .val (.int z2), .val (.int z3), .val (.int z4), .val (.ref la), .val (.ref pt), .val (.int (1 : Int32)), .val (.int (1 : Int32)), .val (.int (1 : Int32)), .val (.int (1 : Int32)), .val (.int (1 : Int32)), .val (.int (1 : Int32)), .val (.int (1 : Int32)), .val (.int (1 : Int32)), .val (.int (1 : Int32))] [])) _
      refine XS.iload X.here hx rfl (hb hby at_195) rfl ?_
      show Steps p.tables e below (T54.setTop (mkF m 197 #[.val (.int z1), .val (.int z2), .val (.int z3), .val (.int z4), .val (.ref la), .val (.ref pt), .val (.int (1 : Int32)), .val (.int (1 : Int32)), .val (.int (1 : Int32)), .val (.int (1 : Int32)), .val (.int (1 : Int32)), .val (.int (1 : Int32)), .val (.int (1 : Int32)), .val (.int (1 : Int32)), .val (.int (1 : Int32))] [(.int (1 : Int32))])) _
      refine XS.ifNo X.here hx rfl (hb hby at_197) rfl ((if0 _ _).trans (feq (by decide)).1) ?_
      show Steps p.tables e below (T54.setTop (mkF m 200 #[.val (.int z1), .val (.int z2), .val (.int z3), .val (.int z4), .val (.ref la), .val (.ref pt), .val (.int (1 : Int32)), .val (.int (1 : Int32)), .val (.int (1 : Int32)), .val (.int (1 : Int32)), .val (.int (1 : Int32)), .val (.int (1 : Int32)), .val (.int (1 : Int32)), .val (.int (1 : Int32)), .val (.int (1 : Int32))] [])) _
      refine XS.iload X.here hx rfl (hb hby at_200) rfl ?_
      show Steps p.tables e below (T54.setTop (mkF m 202 #[.val (.int z1), .val (.int z2), .val (.int z3), .val (.int z4), .val (.ref la), .val (.ref pt), .val (.int (1 : Int32)), .val (.int (1 : Int32)), .val (.int (1 : Int32)), .val (.int (1 : Int32)), .val (.int (1 : Int32)), .val (.int (1 : Int32)), .val (.int (1 : Int32)), .val (.int (1 : Int32)), .val (.int (1 : Int32))] [(.int (1 : Int32))])) _
      refine XS.ifNo X.here hx rfl (hb hby at_202) rfl ((if0 _ _).trans (feq (by decide)).1) ?_
      show Steps p.tables e below (T54.setTop (mkF m 205 #[.val (.int z1), .val (.int z2), .val (.int z3), .val (.int z4), .val (.ref la), .val (.ref pt), .val (.int (1 : Int32)), .val (.int (1 : Int32)), .val (.int (1 : Int32)), .val (.int (1 : Int32)), .val (.int (1 : Int32)), .val (.int (1 : Int32)), .val (.int (1 : Int32)), .val (.int (1 : Int32)), .val (.int (1 : Int32))] [])) _
      refine XS.iload X.here hx rfl (hb hby at_205) rfl ?_
      show Steps p.tables e below (T54.setTop (mkF m 207 #[.val (.int z1), .val (.int z2), .val (.int z3), .val (.int z4), .val (.ref la), .val (.ref pt), .val (.int (1 : Int32)), .val (.int (1 : Int32)), .val (.int (1 : Int32)), .val (.int (1 : Int32)), .val (.int (1 : Int32)), .val (.int (1 : Int32)), .val (.int (1 : Int32)), .val (.int (1 : Int32)), .val (.int (1 : Int32))] [(.int (1 : Int32))])) _
      refine XS.ifNo X.here hx rfl (hb hby at_207) rfl ((if0 _ _).trans (feq (by decide)).1) ?_
      show Steps p.tables e below (T54.setTop (mkF m 210 #[.val (.int z1), .val (.int z2), .val (.int z3), .val (.int z4), .val (.ref la), .val (.ref pt), .val (.int (1 : Int32)), .val (.int (1 : Int32)), .val (.int (1 : Int32)), .val (.int (1 : Int32)), .val (.int (1 : Int32)), .val (.int (1 : Int32)), .val (.int (1 : Int32)), .val (.int (1 : Int32)), .val (.int (1 : Int32))] [])) _
      refine XS.iload X.here hx rfl (hb hby at_210) rfl ?_
      show Steps p.tables e below (T54.setTop (mkF m 212 #[.val (.int z1), .val (.int z2), .val (.int z3), .val (.int z4), .val (.ref la), .val (.ref pt), .val (.int (1 : Int32)), .val (.int (1 : Int32)), .val (.int (1 : Int32)), .val (.int (1 : Int32)), .val (.int (1 : Int32)), .val (.int (1 : Int32)), .val (.int (1 : Int32)), .val (.int (1 : Int32)), .val (.int (1 : Int32))] [(.int (1 : Int32))])) _
      refine XS.ifNo X.here hx rfl (hb hby at_212) rfl ((if0 _ _).trans (feq (by decide)).1) ?_
      show Steps p.tables e below (T54.setTop (mkF m 215 #[.val (.int z1), .val (.int z2), .val (.int z3), .val (.int z4), .val (.ref la), .val (.ref pt), .val (.int (1 : Int32)), .val (.int (1 : Int32)), .val (.int (1 : Int32)), .val (.int (1 : Int32)), .val (.int (1 : Int32)), .val (.int (1 : Int32)), .val (.int (1 : Int32)), .val (.int (1 : Int32)), .val (.int (1 : Int32))] [])) _
      refine XS.iload X.here hx rfl (hb hby at_215) rfl ?_
      show Steps p.tables e below (T54.setTop (mkF m 217 #[.val (.int z1), .val (.int z2), .val (.int z3), .val (.int z4), .val (.ref la), .val (.ref pt), .val (.int (1 : Int32)), .val (.int (1 : Int32)), .val (.int (1 : Int32)), .val (.int (1 : Int32)), .val (.int (1 : Int32)), .val (.int (1 : Int32)), .val (.int (1 : Int32)), .val (.int (1 : Int32)), .val (.int (1 : Int32))] [(.int (1 : Int32))])) _
      refine XS.ifNo X.here hx rfl (hb hby at_217) rfl ((if0 _ _).trans (feq (by decide)).1) ?_
      show Steps p.tables e below (T54.setTop (mkF m 220 #[.val (.int z1), .val (.int z2), .val (.int z3), .val (.int z4), .val (.ref la), .val (.ref pt), .val (.int (1 : Int32)), .val (.int (1 : Int32)), .val (.int (1 : Int32)), .val (.int (1 : Int32)), .val (.int (1 : Int32)), .val (.int (1 : Int32)), .val (.int (1 : Int32)), .val (.int (1 : Int32)), .val (.int (1 : Int32))] [])) _
      refine XS.iconst X.here hx rfl (hb hby at_220) ?_
      show Steps p.tables e below (T54.setTop (mkF m 221 #[.val (.int z1), .val (.int z2), .val (.int z3), .val (.int z4), .val (.ref la), .val (.ref pt), .val (.int (1 : Int32)), .val (.int (1 : Int32)), .val (.int (1 : Int32)), .val (.int (1 : Int32)), .val (.int (1 : Int32)), .val (.int (1 : Int32)), .val (.int (1 : Int32)), .val (.int (1 : Int32)), .val (.int (1 : Int32))] [(.int (1 : Int32))])) _
      refine XS.goto X.here hx rfl (pc0 := 221) (pc' := 225) rfl (hb hby at_221) (by decide) (by decide) ?_
      exact k)
  obtain ⟨fs_, hr, hrun, hended, hW, hsame⟩ := X.leave (v := some (.int (1 : Int32))) (fun h => by rw [Bd.returns] at h; cases h)
  refine ⟨_, _, pre0 _ (st _ ?_), hrun, hended, _, _, rfl, ?_, ⟨_, rfl⟩, hW, hsame.mono (by decide) (by decide)⟩
  · exact retN X hx (t := .boolean) Bd.returns (by simp) (hb hby at_225) hr
  · show Q_rm0 Z z1 z2 z3 z4 h0 n0 _ T54.heap _
    rw [eh]
    exact ⟨rfl, N⟩
set_option maxRecDepth 65536 in
set_option maxHeartbeats 40000000 in
theorem comes_1 {Post : Tables → Env → Array Value → State → Outcome → State → Prop} (hpost : ∀ tb e args s v u, (limb_1_1.after args s (.returned v) u = true ∧ limb_1_2.after args s (.returned v) u = true ∧ True) → FrameEnd s (.returned v) u (Jvm.fieldLocs frame_1_writes args s ++ Jvm.arrayLocs frame_1_arrays args s ++ Jvm.staticLocs frame_1_statics s) 16 128 → Post tb e args s (.returned v) u) :
    ArmFor flags0 classFile x code maxLocals ret World_1 tables_1 room_1 Calls_1 rest_1 Pre_1 Post := by
  intro l hfl _ _ p e ha hc hk s m args below hf hA hF happ hP
  obtain ⟨hcalls, hrest, hpre⟩ := hP
  obtain ⟨-, -, -, hnamed, -, -, -, hat⟩ := (Spec.applies_iff hf).mp happ
  obtain ⟨hg, hn⟩ := and_e (Cond.before_iff.mp (show (Jvm.Cond.and given_1 narrow_1).before args s = true from hpre))
  obtain ⟨g0, hg1⟩ := and_e hg
  obtain ⟨ha0, hg2⟩ := and_e hg1
  obtain ⟨ha1, hg3⟩ := and_e hg2
  obtain ⟨ha2, hg4⟩ := and_e hg3
  have ha3 := hg4
  obtain ⟨w0, w1, w2, w3, rfl⟩ : ∃ w0 w1 w2 w3 : Value, args = #[w0, w1, w2, w3] := by
    have hs : args.size = 4 := by simpa [Cond.value, given_1] using g0
    obtain ⟨L⟩ := args
    match L, hs with
    | [w0, w1, w2, w3], _ => exact ⟨w0, w1, w2, w3, rfl⟩
  have hw := fun d (hd : d ∈ tables_1) => atoms_spec (ws := Jvm.Cond.code x code maxLocals ret :: tables_1) hat d (List.mem_cons_of_mem _ hd)
  obtain ⟨i0, ei0⟩ := is_v ha0
  obtain rfl : w0 = (.int i0) := Option.some.inj ei0
  obtain ⟨i1, ei1⟩ := is_v ha1
  obtain rfl : w1 = (.int i1) := Option.some.inj ei1
  obtain ⟨i2, ei2⟩ := is_v ha2
  obtain rfl : w2 = (.int i2) := Option.some.inj ei2
  obtain ⟨i3, ei3⟩ := is_v ha3
  obtain rfl : w3 = (.int i3) := Option.some.inj ei3
  obtain ⟨n, o, h1, h2, h3, _, L, rfl, ⟨rfl, N⟩, hq⟩ := rm0 l s _ hw tables_1 i0 i1 i2 i3 s.heap s.heap.size (Nat.le_refl _) p e ha hc hk s m _ below hf ((Spec.applies_iff_loose hf).mp happ).1 ⟨rfl, State.Warmed39.refl s, rfl⟩ trivial
  refine ⟨n, _, h1, h2, h3, hpost _ _ _ _ _ _ ⟨Cond.after_iff.mpr rfl, Cond.after_iff.mpr (eq_i res_at (Term.int_eval (1)) rfl), trivial⟩ ⟨hq.1, hq.2.1, (hq.2.2.sift fun y hy => Or.inr (N y hy)).mono (by decide) (by decide)⟩⟩
theorem main_1_1 : Claimed_1_1 := comes_1 fun _ _ _ _ _ _ h hF => ⟨h.1, hF⟩
theorem main_1_2 : Claimed_1_2 := comes_1 fun _ _ _ _ _ _ h hF => ⟨h.2.1, hF⟩
end Jvm.Pilot.@@N@@
namespace Jvm.Pilot.@@N@@
open Jvm Jvm.ClassFile Sem Op Lib Jvm.Free Jvm.Stand Jvm.Pilot.@@N@@.Jvm.D
/-! MADE BY PROGRAM (witnessworld.py) out of the Statement's table words and the real class files: 10 classes; the members and pool entries that the words name. The judged class is class 1, her method 1. -/
namespace start1
open Jvm.ClassFile
def u (s : String) : CpInfo := .utf8 (stringToUtf16 s)
/-- a pool by its gaps: so many unusable entries, then the entry; so many at the end -/
def gap : Nat → List CpInfo → List CpInfo
  | 0, r => r
  | n + 1, r => .unusable :: gap n r
def poolList (es : List (Nat × CpInfo)) (last : Nat) : List CpInfo := es.foldr (fun e r => gap e.1 (e.2 :: r)) (gap last [])
def pool (es : List (Nat × CpInfo)) (last : Nat) : Array CpInfo := ⟨poolList es last⟩
def fileOf (pool : Array CpInfo) (this : Nat) (attrs : Array Attribute := #[]) (ms : Array MethodInfo := #[]) (fl : Nat := 33) (sup : Nat := 0) (ifs : Array Nat := #[]) (fds : Array FieldInfo := #[]) : ClassFile where
  minorVersion := 0
  majorVersion := 65
  constantPool := pool
  accessFlags := fl
  thisClass := this
  superClass := sup
  interfaces := ifs
  fields := fds
  methods := ms
  attributes := attrs
def plain (name : String) (sup : Option ClassId) : Class where
  name := name
  kind := .ordinary
  loader := none
  accessFlags := 33
  super := sup
  interfaces := #[]
  cf := none
  fields := #[]
  methods := #[]
  instanceTypes := #[]
  staticTypes := #[]
  resolved := #[]
  callSites := []
  init := .initialized
  statics := none
  mirror := none

def pool0 : Array CpInfo := pool [(5, u "<init>"), (0, u "()V"), (1, .class_ 10), (1, u "java/lang/Object")] 113

def k0c0 : Code := { maxStack := 0, maxLocals := 1, code := object_method_1_code, exceptionTable := #[], attributes := #[] }
def k0m0 : Method := { name := "<init>", desc := "()V", sig := { parameters := [], returnType := none }, accessFlags := 1, code := some k0c0 }
/-- java/lang/Object -/
def k0 : Class := { plain "java/lang/Object" none with
  accessFlags := 33
  interfaces := #[]
  cf := some (fileOf pool0 8 #[] #[{ accessFlags := 1, nameIndex := 5, descriptorIndex := 6, attributes := #[] }] 33 0 #[] #[])
  fields := #[]
  methods := #[k0m0]
  instanceTypes := #[]
  staticTypes := #[]
  resolved := Array.replicate 124 none
  statics := none }

def pool1 : Array CpInfo := pool [(2, .class_ 4), (1, u "java/lang/Object"), (0, u "<init>"), (0, u "()V"), (0, .class_ 8), (0, u "isoproof/model/Partition"), (0, .methodref 7 10), (0, .nameAndType 5 11), (0, u "(I)V"), (0, .methodref 13 14), (0, .class_ 15), (0, .nameAndType 16 17), (0, u "isoproof/model/PartitionFindPinLaw"), (0, u "step"), (0, u "(Lisoproof/model/Partition;[II)Z"), (0, .methodref 7 19), (0, .nameAndType 20 21), (0, u "find"), (0, u "(I)I"), (0, .methodref 7 23), (0, .nameAndType 24 25), (0, u "union"), (0, u "(II)Z"), (0, .methodref 27 28), (0, .class_ 29), (0, .nameAndType 30 31), (0, u "java/lang/Math"), (0, u "min"), (0, u "(II)I"), (0, .methodref 27 33), (0, .nameAndType 34 31), (0, u "max"), (0, .methodref 13 36), (0, .nameAndType 37 38), (0, u "relabel"), (0, u "([III)V"), (2, u "law"), (0, u "(IIII)Z")] 5

def k1m0 : Method := { name := "<init>", desc := "()V", sig := { parameters := [], returnType := none }, accessFlags := 1, code := none }
def k1c1 : Code := { maxStack := 4, maxLocals := 15, code := code, exceptionTable := #[], attributes := #[] }
def k1m1 : Method := { name := "law", desc := "(IIII)Z", sig := { parameters := [.int, .int, .int, .int], returnType := some .boolean }, accessFlags := 9, code := some k1c1 }
def k1c2 : Code := { maxStack := 3, maxLocals := 10, code := method_3_code, exceptionTable := #[], attributes := #[] }
def k1m2 : Method := { name := "step", desc := "(Lisoproof/model/Partition;[II)Z", sig := { parameters := [(.object "isoproof/model/Partition"), (.array .int), .int], returnType := some .boolean }, accessFlags := 10, code := some k1c2 }
def k1c3 : Code := { maxStack := 3, maxLocals := 3, code := method_4_code, exceptionTable := #[], attributes := #[] }
def k1m3 : Method := { name := "relabel", desc := "([III)V", sig := { parameters := [(.array .int), .int, .int], returnType := none }, accessFlags := 10, code := some k1c3 }
/-- isoproof/model/PartitionFindPinLaw -/
def k1 : Class := { plain "isoproof/model/PartitionFindPinLaw" (some 0) with
  accessFlags := 49
  interfaces := #[]
  cf := some (fileOf pool1 13 #[] #[{ accessFlags := 1, nameIndex := 5, descriptorIndex := 6, attributes := #[] }, { accessFlags := 9, nameIndex := 41, descriptorIndex := 42, attributes := #[] }, { accessFlags := 10, nameIndex := 16, descriptorIndex := 17, attributes := #[] }, { accessFlags := 10, nameIndex := 37, descriptorIndex := 38, attributes := #[] }] 49 2 #[] #[])
  fields := #[]
  methods := #[k1m0, k1m1, k1m2, k1m3]
  instanceTypes := #[]
  staticTypes := #[]
  resolved := Array.replicate 48 none
  statics := none }

def pool2 : Array CpInfo := pool [(1, .methodref 2 3), (0, .class_ 4), (0, .nameAndType 5 6), (0, u "java/lang/Object"), (0, u "<init>"), (0, u "()V"), (0, .fieldref 8 9), (0, .class_ 10), (0, .nameAndType 11 12), (0, u "isoproof/model/Partition"), (0, u "parent"), (0, u "[I"), (0, .methodref 8 14), (0, .nameAndType 15 16), (0, u "reset"), (0, u "(I)V"), (0, .methodref 18 19), (0, .class_ 20), (0, .nameAndType 21 22), (0, u "java/lang/Math"), (0, u "max"), (0, u "(II)I"), (0, .methodref 8 24), (0, .nameAndType 25 26), (0, u "find"), (0, u "(I)I"), (0, .methodref 18 28), (0, .nameAndType 29 22), (0, u "min"), (3, u "union"), (0, u "(II)Z")] 2

def k2c0 : Code := { maxStack := 2, maxLocals := 2, code := prog_152_method_1_code, exceptionTable := #[], attributes := #[] }
def k2m0 : Method := { name := "<init>", desc := "(I)V", sig := { parameters := [.int], returnType := none }, accessFlags := 1, code := some k2c0 }
def k2c1 : Code := { maxStack := 4, maxLocals := 3, code := prog_152_method_2_code, exceptionTable := #[], attributes := #[] }
def k2m1 : Method := { name := "reset", desc := "(I)V", sig := { parameters := [.int], returnType := none }, accessFlags := 1, code := some k2c1 }
def k2c2 : Code := { maxStack := 3, maxLocals := 4, code := prog_152_method_3_code, exceptionTable := #[], attributes := #[] }
def k2m2 : Method := { name := "find", desc := "(I)I", sig := { parameters := [.int], returnType := some .int }, accessFlags := 1, code := some k2c2 }
def k2c3 : Code := { maxStack := 4, maxLocals := 5, code := prog_152_method_4_code, exceptionTable := #[], attributes := #[] }
def k2m3 : Method := { name := "union", desc := "(II)Z", sig := { parameters := [.int, .int], returnType := some .boolean }, accessFlags := 1, code := some k2c3 }
/-- isoproof/model/Partition -/
def k2 : Class := { plain "isoproof/model/Partition" (some 0) with
  accessFlags := 49
  interfaces := #[]
  cf := some (fileOf pool2 8 #[] #[{ accessFlags := 1, nameIndex := 5, descriptorIndex := 16, attributes := #[] }, { accessFlags := 1, nameIndex := 15, descriptorIndex := 16, attributes := #[] }, { accessFlags := 1, nameIndex := 25, descriptorIndex := 26, attributes := #[] }, { accessFlags := 1, nameIndex := 33, descriptorIndex := 34, attributes := #[] }] 49 2 #[] #[{ accessFlags := 2, nameIndex := 11, descriptorIndex := 12, attributes := #[] }])
  fields := #[{ name := "parent", type := (.array .int), accessFlags := 2, slot := 0, constantValue := 0 }]
  methods := #[k2m0, k2m1, k2m2, k2m3]
  instanceTypes := #[(.array .int)]
  staticTypes := #[]
  resolved := Array.replicate 37 none
  statics := none }

def pool3 : Array CpInfo := pool [(1, .class_ 2), (0, u "java/lang/Math"), (1, .class_ 6), (1, u "java/lang/Object"), (0, u "<init>"), (0, u "()V"), (89, .class_ 100), (1, u "java/lang/Math$RandomNumberGeneratorHolder"), (71, u "negativeZeroFloatBits"), (0, u "J"), (2, u "negativeZeroDoubleBits"), (21, u "max"), (2, u "min"), (43, u "$assertionsDisabled"), (0, u "Z"), (88, u "(II)I"), (2, u "twoToTheDoubleScaleDown"), (0, u "D"), (4, u "twoToTheDoubleScaleUp"), (9, u "E"), (3, u "PI"), (2, u "TAU"), (2, u "DEGREES_TO_RADIANS"), (0, u "RADIANS_TO_DEGREES")] 94

def k3m0 : Method := { name := "<init>", desc := "()V", sig := { parameters := [], returnType := none }, accessFlags := 2, code := none }
def k3c1 : Code := { maxStack := 2, maxLocals := 2, code := jdk_29_method_65_code, exceptionTable := #[], attributes := #[] }
def k3m1 : Method := { name := "max", desc := "(II)I", sig := { parameters := [.int, .int], returnType := some .int }, accessFlags := 9, code := some k3c1 }
def k3c2 : Code := { maxStack := 2, maxLocals := 2, code := jdk_29_method_69_code, exceptionTable := #[], attributes := #[] }
def k3m2 : Method := { name := "min", desc := "(II)I", sig := { parameters := [.int, .int], returnType := some .int }, accessFlags := 9, code := some k3c2 }
/-- java/lang/Math -/
def k3 : Class := { plain "java/lang/Math" (some 0) with
  accessFlags := 49
  interfaces := #[]
  cf := some (fileOf pool3 1 #[.nestMembers #[98]] #[{ accessFlags := 2, nameIndex := 7, descriptorIndex := 8, attributes := #[] }, { accessFlags := 9, nameIndex := 198, descriptorIndex := 335, attributes := #[] }, { accessFlags := 9, nameIndex := 201, descriptorIndex := 335, attributes := #[] }] 49 4 #[] #[{ accessFlags := 25, nameIndex := 354, descriptorIndex := 339, attributes := #[] }, { accessFlags := 25, nameIndex := 358, descriptorIndex := 339, attributes := #[] }, { accessFlags := 25, nameIndex := 361, descriptorIndex := 339, attributes := #[] }, { accessFlags := 26, nameIndex := 364, descriptorIndex := 339, attributes := #[] }, { accessFlags := 26, nameIndex := 365, descriptorIndex := 339, attributes := #[] }, { accessFlags := 26, nameIndex := 172, descriptorIndex := 173, attributes := #[] }, { accessFlags := 26, nameIndex := 176, descriptorIndex := 173, attributes := #[] }, { accessFlags := 8, nameIndex := 344, descriptorIndex := 339, attributes := #[] }, { accessFlags := 8, nameIndex := 338, descriptorIndex := 339, attributes := #[] }, { accessFlags := 4120, nameIndex := 245, descriptorIndex := 246, attributes := #[] }])
  fields := #[{ name := "E", type := .double, accessFlags := 25, slot := 0, constantValue := 0 }, { name := "PI", type := .double, accessFlags := 25, slot := 1, constantValue := 0 }, { name := "TAU", type := .double, accessFlags := 25, slot := 2, constantValue := 0 }, { name := "DEGREES_TO_RADIANS", type := .double, accessFlags := 26, slot := 3, constantValue := 0 }, { name := "RADIANS_TO_DEGREES", type := .double, accessFlags := 26, slot := 4, constantValue := 0 }, { name := "negativeZeroFloatBits", type := .long, accessFlags := 26, slot := 5, constantValue := 0 }, { name := "negativeZeroDoubleBits", type := .long, accessFlags := 26, slot := 6, constantValue := 0 }, { name := "twoToTheDoubleScaleUp", type := .double, accessFlags := 8, slot := 7, constantValue := 0 }, { name := "twoToTheDoubleScaleDown", type := .double, accessFlags := 8, slot := 8, constantValue := 0 }, { name := "$assertionsDisabled", type := .boolean, accessFlags := 4120, slot := 9, constantValue := 0 }]
  methods := #[k3m0, k3m1, k3m2]
  instanceTypes := #[]
  staticTypes := #[.double, .double, .double, .double, .double, .long, .long, .double, .double, .boolean]
  resolved := Array.replicate 460 none
  statics := none }

def pool4 : Array CpInfo := pool [(1, u "java/lang/Cloneable"), (0, .class_ 1), (0, u "java/lang/Object"), (0, .class_ 3)] 3

/-- java/lang/Cloneable -/
def k4 : Class := { plain "java/lang/Cloneable" (some 0) with
  accessFlags := 1537
  interfaces := #[]
  cf := some (fileOf pool4 2 #[] #[] 1537 4 #[] #[])
  fields := #[]
  methods := #[]
  instanceTypes := #[]
  staticTypes := #[]
  resolved := Array.replicate 8 none
  statics := none }

def pool5 : Array CpInfo := pool [(1, u "java/io/Serializable"), (0, .class_ 1), (0, u "java/lang/Object"), (0, .class_ 3)] 3

/-- java/io/Serializable -/
def k5 : Class := { plain "java/io/Serializable" (some 0) with
  accessFlags := 1537
  interfaces := #[]
  cf := some (fileOf pool5 2 #[] #[] 1537 4 #[] #[])
  fields := #[]
  methods := #[]
  instanceTypes := #[]
  staticTypes := #[]
  resolved := Array.replicate 8 none
  statics := none }

/-- the primitive byte -/
def k6 : Class := { plain "byte" none with kind := .primitive 'B', accessFlags := 0x411 }
/-- [B -/
def k7 : Class := { plain "[B" (some 0) with kind := .array 6 .byte, interfaces := #[4, 5], accessFlags := 1041 }

/-- the primitive int -/
def k8 : Class := { plain "int" none with kind := .primitive 'I', accessFlags := 0x411 }
/-- [I -/
def k9 : Class := { plain "[I" (some 0) with kind := .array 8 .int, interfaces := #[4, 5], accessFlags := 1041 }

def heap : Heap := #[]
def classes : Array Class := #[k0, k1, k2, k3, k4, k5, k6, k7, k8, k9]
def interned : List (Array UInt16 × Addr) := []
def slotsUsed : Nat := 0
def theMethod : MethodId := ⟨1, 1⟩
def args0 : Array Value := #[.int 1, .int 2, .int 3, .int 4]
def aboutOver (below : List Frame) : State where
  vm := { classes := classes, interned := interned.toArray }
  heap := heap
  slotsUsed := slotsUsed
  threads := #[{ frames := .invoking theMethod args0 :: below }]
def below0 : List Frame := [.native { method := ⟨0, 0⟩, args := #[] }]
def about1 : State := aboutOver below0
def p0 : Program := .bare "" "" ""
def e0 : Env := launch0.env 0 0 0
theorem w_frames : about1.frames = Frame.invoking theMethod args0 :: below0 := rfl
set_option maxRecDepth 65536 in
theorem w_args : argsFit about1.vm theMethod args0 = true := by decide +kernel
set_option maxRecDepth 65536 in
theorem w_heap : heapFits about1 = true := by decide +kernel
set_option maxRecDepth 65536 in
theorem w_runnable : about1.curStatus? = some .runnable := by decide +kernel
set_option maxRecDepth 65536 in
theorem w_alone : about1.alone = true := by decide +kernel
set_option maxRecDepth 65536 in
theorem w_named : about1.methodNamed? x = some theMethod := by decide +kernel
set_option maxRecDepth 65536 in
theorem w_hears : about1.hears theMethod below0 = true := by decide +kernel
set_option maxRecDepth 65536 in
theorem w_ripe : about1.ripe theMethod args0 below0 = true := by decide +kernel
theorem w_running : about1.status = .running := rfl
set_option maxRecDepth 65536 in
theorem w_room : about1.hasRoom e0.platform room_1 = true :=
  launch0.hasRoom_least _ room_1 (by decide +kernel) (by decide +kernel) (by decide +kernel) (by decide +kernel) (by decide +kernel) (by decide +kernel)
theorem allAtoms_all (ts : List Jvm.Cond) (a : Array Jvm.Value) (st : Jvm.State) : (allAtoms ts).before a st = ts.all (fun c => c.before a st) := by
  induction ts with
  | nil => rfl
  | cons c t ih =>
    show (Jvm.Cond.and c (allAtoms t)).before a st = _
    rw [Jvm.Cond.before_and, ih, List.all_cons]
def words1 : List Jvm.Cond := Jvm.Cond.code x code maxLocals ret :: tables_1
/-- a 'code' word, met by the world's own term for the bytes: nothing is compared byte by byte -/
theorem code_word {y : MethodName} {bytes : ByteArray} {mx : Nat} {rt : Option FieldType} {a : Array Value} {s : State} {m : MethodId} {meth : Method} {c : Code} (h1 : s.methodNamed? y = some m) (h2 : s.vm.method? m = some meth) (h3 : meth.code = some c) (h4 : c.code = bytes)
    (h5 : (c.maxLocals == mx && c.exceptionTable.isEmpty && decide (c.maxStack ≤ mostOperands) && decide (meth.sig.returnType = rt) && !meth.locks && decide (parseMethodDescriptor y.desc = some meth.sig)) = true) : (Jvm.Cond.code y bytes mx rt).before a s = true := by
  simp only [Bool.and_eq_true, beq_iff_eq, Bool.not_eq_true', decide_eq_true_eq] at h5
  obtain ⟨⟨⟨⟨⟨g1, g2⟩, g3⟩, g4⟩, g5⟩, g6⟩ := h5
  simp [Cond.before, Cond.holds, Cond.value, h1, h2, h3, h4, g1, g2, g3, g4, g5, g6]
def isCode : Jvm.Cond → Bool
  | .code _ _ _ _ => true
  | _ => false
theorem all_split {L : List Jvm.Cond} {P : Jvm.Cond → Bool} (h1 : L.all (fun c => isCode c || P c) = true) (h2 : ∀ c ∈ L.filter isCode, P c = true) : L.all P = true := by
  refine List.all_eq_true.mpr fun c hc => ?_
  have h := List.all_eq_true.mp h1 c hc
  rcases Bool.eq_false_or_eq_true (isCode c) with hi | hi
  · exact h2 c (List.mem_filter.mpr ⟨hc, hi⟩)
  · simpa [hi] using h
set_option maxRecDepth 65536 in
theorem w_c0 : (Jvm.Cond.code x code maxLocals ret).before args0 about1 = true := code_word (m := ⟨1, 1⟩) (meth := k1m1) (c := k1c1) (by decide +kernel) rfl rfl rfl (by decide +kernel)
set_option maxRecDepth 65536 in
theorem w_c1 : (Jvm.Cond.code ({ cls := "isoproof/model/Partition", name := "<init>", desc := "(I)V" } : Jvm.MethodName) prog_152_method_1_code (2 : Nat) (Option.none : Option Jvm.ClassFile.FieldType)).before args0 about1 = true := code_word (m := ⟨2, 0⟩) (meth := k2m0) (c := k2c0) (by decide +kernel) rfl rfl rfl (by decide +kernel)
set_option maxRecDepth 65536 in
theorem w_c2 : (Jvm.Cond.code ({ cls := "java/lang/Object", name := "<init>", desc := "()V" } : Jvm.MethodName) object_method_1_code (1 : Nat) (Option.none : Option Jvm.ClassFile.FieldType)).before args0 about1 = true := code_word (m := ⟨0, 0⟩) (meth := k0m0) (c := k0c0) (by decide +kernel) rfl rfl rfl (by decide +kernel)
set_option maxRecDepth 65536 in
theorem w_c3 : (Jvm.Cond.code ({ cls := "isoproof/model/Partition", name := "reset", desc := "(I)V" } : Jvm.MethodName) prog_152_method_2_code (3 : Nat) (Option.none : Option Jvm.ClassFile.FieldType)).before args0 about1 = true := code_word (m := ⟨2, 1⟩) (meth := k2m1) (c := k2c1) (by decide +kernel) rfl rfl rfl (by decide +kernel)
set_option maxRecDepth 65536 in
theorem w_c4 : (Jvm.Cond.code ({ cls := "isoproof/model/PartitionFindPinLaw", name := "step", desc := "(Lisoproof/model/Partition;[II)Z" } : Jvm.MethodName) method_3_code (10 : Nat) (Option.some Jvm.ClassFile.FieldType.boolean)).before args0 about1 = true := code_word (m := ⟨1, 2⟩) (meth := k1m2) (c := k1c2) (by decide +kernel) rfl rfl rfl (by decide +kernel)
set_option maxRecDepth 65536 in
theorem w_c5 : (Jvm.Cond.code ({ cls := "isoproof/model/Partition", name := "union", desc := "(II)Z" } : Jvm.MethodName) prog_152_method_4_code (5 : Nat) (Option.some Jvm.ClassFile.FieldType.boolean)).before args0 about1 = true := code_word (m := ⟨2, 3⟩) (meth := k2m3) (c := k2c3) (by decide +kernel) rfl rfl rfl (by decide +kernel)
set_option maxRecDepth 65536 in
theorem w_c6 : (Jvm.Cond.code ({ cls := "isoproof/model/Partition", name := "find", desc := "(I)I" } : Jvm.MethodName) prog_152_method_3_code (4 : Nat) (Option.some Jvm.ClassFile.FieldType.int)).before args0 about1 = true := code_word (m := ⟨2, 2⟩) (meth := k2m2) (c := k2c2) (by decide +kernel) rfl rfl rfl (by decide +kernel)
set_option maxRecDepth 65536 in
theorem w_c7 : (Jvm.Cond.code ({ cls := "java/lang/Math", name := "max", desc := "(II)I" } : Jvm.MethodName) jdk_29_method_65_code (2 : Nat) (Option.some Jvm.ClassFile.FieldType.int)).before args0 about1 = true := code_word (m := ⟨3, 1⟩) (meth := k3m1) (c := k3c1) (by decide +kernel) rfl rfl rfl (by decide +kernel)
set_option maxRecDepth 65536 in
theorem w_c8 : (Jvm.Cond.code ({ cls := "java/lang/Math", name := "min", desc := "(II)I" } : Jvm.MethodName) jdk_29_method_69_code (2 : Nat) (Option.some Jvm.ClassFile.FieldType.int)).before args0 about1 = true := code_word (m := ⟨3, 2⟩) (meth := k3m2) (c := k3c2) (by decide +kernel) rfl rfl rfl (by decide +kernel)
set_option maxRecDepth 65536 in
theorem w_c9 : (Jvm.Cond.code ({ cls := "isoproof/model/PartitionFindPinLaw", name := "relabel", desc := "([III)V" } : Jvm.MethodName) method_4_code (3 : Nat) (Option.none : Option Jvm.ClassFile.FieldType)).before args0 about1 = true := code_word (m := ⟨1, 3⟩) (meth := k1m3) (c := k1c3) (by decide +kernel) rfl rfl rfl (by decide +kernel)
def codes1 : List Jvm.Cond := [Jvm.Cond.code x code maxLocals ret, Jvm.Cond.code ({ cls := "isoproof/model/Partition", name := "<init>", desc := "(I)V" } : Jvm.MethodName) prog_152_method_1_code (2 : Nat) (Option.none : Option Jvm.ClassFile.FieldType), Jvm.Cond.code ({ cls := "java/lang/Object", name := "<init>", desc := "()V" } : Jvm.MethodName) object_method_1_code (1 : Nat) (Option.none : Option Jvm.ClassFile.FieldType), Jvm.Cond.code ({ cls := "isoproof/model/Partition", name := "reset", desc := "(I)V" } : Jvm.MethodName) prog_152_method_2_code (3 : Nat) (Option.none : Option Jvm.ClassFile.FieldType), Jvm.Cond.code ({ cls := "isoproof/model/PartitionFindPinLaw", name := "step", desc := "(Lisoproof/model/Partition;[II)Z" } : Jvm.MethodName) method_3_code (10 : Nat) (Option.some Jvm.ClassFile.FieldType.boolean), Jvm.Cond.code ({ cls := "isoproof/model/Partition", name := "union", desc := "(II)Z" } : Jvm.MethodName) prog_152_method_4_code (5 : Nat) (Option.some Jvm.ClassFile.FieldType.boolean), Jvm.Cond.code ({ cls := "isoproof/model/Partition", name := "find", desc := "(I)I" } : Jvm.MethodName) prog_152_method_3_code (4 : Nat) (Option.some Jvm.ClassFile.FieldType.int), Jvm.Cond.code ({ cls := "java/lang/Math", name := "max", desc := "(II)I" } : Jvm.MethodName) jdk_29_method_65_code (2 : Nat) (Option.some Jvm.ClassFile.FieldType.int), Jvm.Cond.code ({ cls := "java/lang/Math", name := "min", desc := "(II)I" } : Jvm.MethodName) jdk_29_method_69_code (2 : Nat) (Option.some Jvm.ClassFile.FieldType.int), Jvm.Cond.code ({ cls := "isoproof/model/PartitionFindPinLaw", name := "relabel", desc := "([III)V" } : Jvm.MethodName) method_4_code (3 : Nat) (Option.none : Option Jvm.ClassFile.FieldType)]
set_option maxRecDepth 65536 in
theorem codes_eq : words1.filter isCode = codes1 := rfl
theorem w_codes : ∀ c ∈ words1.filter isCode, c.before args0 about1 = true := by
  rw [codes_eq]
  intro c hc
  simp only [codes1, List.mem_cons, List.not_mem_nil, or_false] at hc
  rcases hc with rfl | rfl | rfl | rfl | rfl | rfl | rfl | rfl | rfl | rfl
  · exact w_c0
  · exact w_c1
  · exact w_c2
  · exact w_c3
  · exact w_c4
  · exact w_c5
  · exact w_c6
  · exact w_c7
  · exact w_c8
  · exact w_c9
set_option maxRecDepth 65536 in
theorem w_t1 : (words1.take 24).all (fun c => isCode c || c.before args0 about1) = true := by decide +kernel
set_option maxRecDepth 65536 in
theorem w_t2 : (words1.drop 24).all (fun c => isCode c || c.before args0 about1) = true := by decide +kernel
theorem w_tables : (allAtoms (Jvm.Cond.code x code maxLocals ret :: tables_1)).before args0 about1 = true := by
  rw [allAtoms_all]
  show words1.all (fun c => c.before args0 about1) = true
  refine all_split ?_ w_codes
  rw [← List.take_append_drop 24 words1, List.all_append, w_t1, w_t2]
  rfl
set_option maxRecDepth 65536 in
theorem w_case : (Jvm.Cond.and given_1 narrow_1).before args0 about1 = true := by decide +kernel
theorem w_applies : (headSpec (Jvm.Cond.code x code maxLocals ret :: tables_1) room_1).applies x e0.platform about1 = true :=
  (Spec.applies_iff w_frames).mpr ⟨w_running, w_runnable, w_alone, w_named, w_hears, w_ripe, w_room, w_tables⟩
theorem atStart : AtStart classFile x code maxLocals ret World_1 tables_1 room_1 Calls_1 rest_1 Pre_1 launch0 p0 e0 about1 theMethod args0 below0 :=
  ⟨lists_1, trivial, launch0.admits_env _ _ _, launch0.least_env, fairChoices_fair.cas, fairChoices_fair.clock, w_frames, w_args, w_heap, w_applies, trivial, trivial, w_case⟩
end start1
theorem witness_1 : WitnessClaimed_1 := ⟨start1.p0, start1.e0, start1.about1, start1.theMethod, start1.args0, start1.below0, start1.atStart⟩
end Jvm.Pilot.@@N@@
