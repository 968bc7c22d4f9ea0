import JvmDerived
import JvmDerived.Pilot.@@N@@Statement
import JvmDerived.Pilot.@@N@@Code
set_option linter.unusedVariables false
set_option linter.unusedSimpArgs false
namespace Jvm.RoadKit
open Sem ClassFile Op Lib Jvm.Stand Jvm.Free Jvm.LawKit
section New
variable {p : Program} {l : Launch} {e : Env} {R : Room} {s : State} {m : MethodId} {args : Array Value} {below : List Frame} {meth : Method} {c : Code} {T : State} {locs : List Loc} {cells slots : Nat}
theorem retI (X : Stand p l e R s m args below meth c T locs cells slots) (hx : p.tables.exec = Jvm.exec) {pc : Nat} {Ls : Array Slot} {z : Int32} {rest : List Value} (hret : meth.sig.returnType = some .int) (hd : decode c.code pc = .ok (.ireturn, 1)) {fs : List Frame}
    (hl : ∀ (f : JFrame) (acts : List Action), f.method = m → f.locked = none → f.entered = [] → (doReturn e (T.setTop f) acts (some (.int z))).1 = T.setFrames fs) : Steps p.tables e below (T.setTop (mkF m pc Ls (.int z :: rest))) (T.setFrames fs) := by
  have hm' : T.vm.method? m = some meth := X.method'
  have hn : narrow .int (.int z) = .int z := rfl
  show Steps p.tables e below (T.setTop { method := m, pc := pc, locals := Ls, stack := _ :: rest, locked := none }) _
  jvm_step X.here [X.here.top, hx, hd, hm', hret, hn]
  first | (intro acts; rw [hl _ acts rfl rfl rfl]) | rw [hl _ _ rfl rfl rfl]
  exact Steps.refl _
end New
end Jvm.RoadKit
namespace Jvm.Pilot.@@N@@
open Jvm Jvm.ClassFile Sem Op Lib Jvm.Free Jvm.Stand Jvm.LawKit Jvm.RoadKit Bundle Jvm.Pilot.@@N@@.Jvm.D
def own_al (n : Nat) (f : Nat → Int64) : List Value := (List.range n).map fun i => .long (f i)
def own_updL (f : Nat → Int64) (i : Nat) (x : Int64) : Nat → Int64 := fun j => if j = i then x else f j
def own_upd (f : Nat → Nat) (i x : Nat) : Nat → Nat := fun j => if j = i then x else f j
def own_c (f : Nat → Nat) : Nat → Int64 := fun i => Int64.ofNat (f i)
theorem own_cupd (f : Nat → Nat) (i x : Nat) : own_updL (own_c f) i (Int64.ofNat x) = own_c (own_upd f i x) := by
  funext j; unfold own_updL own_c own_upd; split <;> rfl
theorem own_len (n : Nat) (f : Nat → Int64) : (own_al n f).length = n := by simp [own_al]
theorem own_toInt {i : Nat} (h : i ≤ 1000) : (Int32.ofNat i).toInt = i := Int32.toInt_ofNat_of_lt (by omega)
theorem own_n32 {i : Nat} (h : i ≤ 1000) : (Int32.ofNat i).toNatClampNeg = i := by rw [Int32.toNatClampNeg, own_toInt h]; rfl
theorem own_inj {i j : Nat} (hi : i ≤ 1000) (hj : j ≤ 1000) : Int32.ofNat i = Int32.ofNat j ↔ i = j :=
  ⟨fun q => by have q' := congrArg Int32.toInt q; rw [own_toInt hi, own_toInt hj] at q'; omega, fun q => by rw [q]⟩
theorem own_lt {i j : Nat} (hi : i ≤ 1000) (hj : j ≤ 1000) : Int32.ofNat i < Int32.ofNat j ↔ i < j := by
  rw [Int32.lt_iff_toInt_lt, own_toInt hi, own_toInt hj]; omega
theorem own_toIntL {i : Nat} (h : i ≤ 1000) : (Int64.ofNat i).toInt = i := Int64.toInt_ofNat_of_lt (by omega)
theorem own_ltL {i j : Nat} (hi : i ≤ 1000) (hj : j ≤ 1000) : Int64.ofNat i < Int64.ofNat j ↔ i < j := by
  rw [Int64.lt_iff_toInt_lt, own_toIntL hi, own_toIntL hj]; omega
theorem own_ext {i : Nat} (h : i ≤ 1000) : (Int32.ofNat i).toInt64 = Int64.ofNat i := by
  apply Int64.toInt_inj.mp; rw [Int32.toInt_toInt64, own_toInt h, own_toIntL h]
theorem own_addL (i j : Nat) : Int64.ofNat i + Int64.ofNat j = Int64.ofNat (i + j) := (Int64.ofNat_add i j).symm
theorem own_set (n : Nat) (f : Nat → Int64) (i : Nat) (x : Int64) : (own_al n f).set i (.long x) = own_al n (own_updL f i x) := by
  apply List.ext_getElem
  · simp [own_al]
  · intro j h1 h2
    rw [List.getElem_set]
    simp only [own_al, List.getElem_map, List.getElem_range, own_updL]
    by_cases q : i = j
    · rw [if_pos q, if_pos q.symm]
    · rw [if_neg q, if_neg (Ne.symm q)]
theorem own_eqf {n : Nat} {f g : Nat → Int64} (h : ∀ i, i < n → f i = g i) : own_al n f = own_al n g := by
  apply List.map_congr_left
  intro i hi
  rw [h i (List.mem_range.mp hi)]
theorem own_rd {Z : State} {h : Heap} {a : Addr} {k : ClassId} {n : Nat} {f : Nat → Int64} (hn : n ≤ 1000) (F : Arv Z h a k .long (Int32.ofNat n) (own_al n f) (.long (0 : Int64))) (i : Nat) (hi : i < n) :
    ∃ cl : Cell, Arr Z h a cl .long ∧ ¬ (Int32.ofNat i < 0 ∨ cl.slots.size ≤ (Int32.ofNat i).toNatClampNeg) ∧ cl.slots[(Int32.ofNat i).toNatClampNeg]? = some (.long (f i)) := by
  obtain ⟨cl, A, -, S, -, H, -⟩ := F
  rw [own_n32 hn] at S
  refine ⟨cl, A, fun q => ?_, ?_⟩
  · rcases q with q | q
    · rw [Int32.lt_iff_toInt_lt, own_toInt (by omega)] at q
      have : (0 : Int32).toInt = 0 := rfl
      omega
    · rw [own_n32 (by omega)] at q; omega
  · rw [own_n32 (by omega), H i (by omega)]
    simp [own_al, List.getD_eq_getElem?_getD, hi]
theorem own_st {Z : State} {h h' : Heap} {a : Addr} {k : ClassId} {n : Nat} {f : Nat → Int64} (hn : n ≤ 1000) (F : Arv Z h a k .long (Int32.ofNat n) (own_al n f) (.long (0 : Int64))) (i : Nat) (hi : i < n) (x : Int64)
    (W : Wr h h' a (Int32.ofNat i).toNatClampNeg (.long x)) : Arv Z h' a k .long (Int32.ofNat n) (own_al n (own_updL f i x)) (.long (0 : Int64)) := by
  obtain ⟨cl, A, q, S, M, H, G⟩ := F
  have := Arv.set A q S M H G rfl W i (own_n32 (by omega)) (by rw [own_len]; exact hi)
  rw [own_set] at this
  exact this
theorem own_lenOf {Z : State} {h : Heap} {a : Addr} {k : ClassId} {n : Int32} {vs : List Value} {dv : Value} (F : Arv Z h a k .long n vs dv) :
    ∃ cl : Cell, Arr Z h a cl .long ∧ cl.slots.size = n.toNatClampNeg ∧ ¬ n < 0 := by
  obtain ⟨cl, A, -, S, M, -⟩ := F
  exact ⟨cl, A, S, M⟩
def own_maxL (a b : Int64) : Int64 := if a < b then b else a
theorem own_mxL {i j : Nat} (hi : i ≤ 1000) (hj : j ≤ 1000) : own_maxL (Int64.ofNat i) (Int64.ofNat j) = Int64.ofNat (max i j) := by
  unfold own_maxL
  split
  · rename_i q; rw [own_ltL hi hj] at q; rw [Nat.max_eq_right (Nat.le_of_lt q)]
  · rename_i q; rw [own_ltL hi hj] at q; rw [Nat.max_eq_left (by omega)]
theorem own_mask (z : Int32) : ∃ n : Nat, n < 16 ∧ (z &&& (15 : Int32)) = Int32.ofNat n := by
  refine ⟨(z &&& 15).toBitVec.toNat, ?_, ?_⟩
  · simp only [Int32.toBitVec_and, BitVec.toNat_and]
    exact Nat.lt_of_le_of_lt Nat.and_le_right (by decide)
  · apply Int32.toBitVec_inj.mp
    show _ = BitVec.ofNat 32 _
    rw [BitVec.ofNat_toNat]; simp
theorem own_next : ∀ k : Fin 16, (Int32.ofNat k.val + (1 : Int32)) &&& (15 : Int32) = Int32.ofNat ((k.val + 1) % 16) := by decide +kernel
theorem own_sel {Z : State} {a0 : Array Value} {n : Nat} {y : MethodName} (hy : y.cls ≠ "java/lang/invoke/MethodHandle" ∧ y.cls ≠ "java/lang/invoke/VarHandle") (h2 : (Cond.instanceMethod y).before a0 Z = true) (h3 : (Cond.privateMethod y).before a0 Z = true) (h4 : (Cond.instantiable y.cls n).before a0 Z = true) : (Cond.selects y.cls y y).before a0 Z = true := by
  obtain ⟨mk, meth, hn, hm, hst, hab⟩ := Cond.instanceMethod_spec h2
  obtain ⟨c, k, i1, i2, i3, i4, -⟩ := Cond.instantiable_spec h4
  have hc := findClass_of_methodNamed hn
  cases i1.symm.trans hc
  have hf := State.methodFound?_of_named hn hy
  have hp := Cond.privateMethod_at h3 mk meth hn hm
  have hi : k.isInterface = false := by
    cases q : k.isInterface
    · rfl
    · rw [q] at i4; simp at i4
  simp [Cond.before, Cond.holds, Cond.value, hc, hf, hn, selectMethod_private hm hp, i2, hi]
def own_TL (Z : State) (h : Heap) (tb ka ua fa sa ma : Addr) (k_ka k_ua k_fa k_sa k_ma : ClassId) (ks us : Nat → Int64) (fs ss : Nat → Nat) (ms : Nat → Int64) (sp sz : Nat) : Prop := Exa Z h tb "com/example/paretoloom/paretoloom/TabuList" ∧ Fld Z h tb "com/example/paretoloom/paretoloom/TabuList" "keys" "[J" (.ref ka) ∧ Fld Z h tb "com/example/paretoloom/paretoloom/TabuList" "until" "[J" (.ref ua) ∧ Fld Z h tb "com/example/paretoloom/paretoloom/TabuList" "operations" "I" (.int (3 : Int32)) ∧ Fld Z h tb "com/example/paretoloom/paretoloom/TabuList" "machines" "I" (.int (2 : Int32)) ∧ Fld Z h tb "com/example/paretoloom/paretoloom/TabuList" "firstUntil" "[J" (.ref fa) ∧ Fld Z h tb "com/example/paretoloom/paretoloom/TabuList" "secondUntil" "[J" (.ref sa) ∧ Fld Z h tb "com/example/paretoloom/paretoloom/TabuList" "machineUntil" "[J" (.ref ma) ∧ Fld Z h tb "com/example/paretoloom/paretoloom/TabuList" "step" "J" (.long (Int64.ofNat sp)) ∧ Fld Z h tb "com/example/paretoloom/paretoloom/TabuList" "size" "I" (.int (Int32.ofNat sz)) ∧ Arv Z h ka k_ka .long (Int32.ofNat 16) (own_al 16 ks) (.long (0 : Int64)) ∧ Arv Z h ua k_ua .long (Int32.ofNat 16) (own_al 16 us) (.long (0 : Int64)) ∧ Arv Z h fa k_fa .long (Int32.ofNat 3) (own_al 3 (own_c fs)) (.long (0 : Int64)) ∧ Arv Z h sa k_sa .long (Int32.ofNat 3) (own_al 3 (own_c ss)) (.long (0 : Int64)) ∧ Arv Z h ma k_ma .long (Int32.ofNat 3) (own_al 3 ms) (.long (0 : Int64))
def own_D (n0 tb ka ua fa sa ma : Nat) : Prop := n0 ≤ tb ∧ n0 ≤ ka ∧ n0 ≤ ua ∧ n0 ≤ fa ∧ n0 ≤ sa ∧ n0 ≤ ma ∧ tb ≠ ka ∧ tb ≠ ua ∧ tb ≠ fa ∧ tb ≠ sa ∧ tb ≠ ma ∧ ka ≠ ua ∧ ka ≠ fa ∧ ka ≠ sa ∧ ka ≠ ma ∧ ua ≠ fa ∧ ua ≠ sa ∧ ua ≠ ma ∧ fa ≠ sa ∧ fa ≠ ma ∧ sa ≠ ma
theorem own_succ (i : Nat) : Int64.ofNat i + (1 : Int64) = Int64.ofNat (i + 1) := own_addL i 1
theorem own_big {k : Nat} (h : k ≤ 8) : ¬ (4096 : Int32) < Int32.ofNat k := fun q => by
  rw [Int32.lt_iff_toInt_lt, own_toInt (by omega), show (4096 : Int32).toInt = 4096 from rfl] at q; omega
theorem own_dbl {k : Nat} (h : k ≤ 8) : ¬ (16 : Int32) < (2 : Int32) * Int32.ofNat k := by
  have all : ∀ j : Fin 9, ¬ (16 : Int32) < (2 : Int32) * Int32.ofNat j.val := by decide +kernel
  exact all ⟨k, by omega⟩
theorem own_inc (k : Nat) : Int32.ofNat k + (1 : Int32) = Int32.ofNat (k + 1) := (Int32.ofNat_add k 1).symm
theorem d4_0 : decode jdk_65_method_101_code 0 = .ok (.iconst 0, 1) := by decide +kernel
theorem d4_1 : decode jdk_65_method_101_code 1 = .ok (.istore_n 3, 1) := by decide +kernel
theorem d4_2 : decode jdk_65_method_101_code 2 = .ok (.aload_n 0, 1) := by decide +kernel
theorem d4_3 : decode jdk_65_method_101_code 3 = .ok (.arraylength, 1) := by decide +kernel
theorem d4_4 : decode jdk_65_method_101_code 4 = .ok (.istore 4, 2) := by decide +kernel
theorem d4_6 : decode jdk_65_method_101_code 6 = .ok (.iload_n 3, 1) := by decide +kernel
theorem d4_7 : decode jdk_65_method_101_code 7 = .ok (.iload 4, 2) := by decide +kernel
theorem d4_9 : decode jdk_65_method_101_code 9 = .ok (.if_icmp .ge 13, 3) := by decide +kernel
theorem d4_12 : decode jdk_65_method_101_code 12 = .ok (.aload_n 0, 1) := by decide +kernel
theorem d4_13 : decode jdk_65_method_101_code 13 = .ok (.iload_n 3, 1) := by decide +kernel
theorem d4_14 : decode jdk_65_method_101_code 14 = .ok (.lload_n 1, 1) := by decide +kernel
theorem d4_15 : decode jdk_65_method_101_code 15 = .ok (.lastore, 1) := by decide +kernel
theorem d4_16 : decode jdk_65_method_101_code 16 = .ok (.iinc 3 1, 3) := by decide +kernel
theorem d4_19 : decode jdk_65_method_101_code 19 = .ok (.goto (-13), 3) := by decide +kernel
theorem d4_22 : decode jdk_65_method_101_code 22 = .ok (.return_, 1) := by decide +kernel
theorem own_pn4 : plainName "java/util/Arrays" = true := by first | (simp [plainName, overriddenIn]; done) | decide +kernel
def Q_rm4 (Z : State) (xa : Addr) (fv : Int64) (k_xa : ClassId) (f : Nat → Int64) (h0 : Heap) (n0 : Nat) (v : Option Value) (h : Heap) (L : List Loc) : Prop := v = none ∧ Fr n0 L ∧ Keep h0 h [xa] ∧ Arv Z h xa k_xa .long (Int32.ofNat 16) (own_al 16 (fun _ => fv)) (.long (0 : Int64))
theorem ef_rm4 (m : MethodId) (x0 : Addr) (x1 : Int64) : entryFrame m #[(.ref x0), (.long x1)] 5 = mkF m 0 #[.val (.ref x0), .val (.long x1), .second, .unset, .unset] [] := by first | (simp [entryFrame, mkF, argsToLocals, Value.category]; done) | rfl
set_option maxRecDepth 65536 in
set_option maxHeartbeats 40000000 in
theorem rm4 (l : Launch) (Z : State) (a0 : Array Value) (hw : ∀ d ∈ tables_1, d.before a0 Z = true) (ws : List Jvm.Cond) (xa : Addr) (fv : Int64) (k_xa : ClassId) (f : Nat → Int64) (h0 : Heap) (n0 : Nat) (Z0 : n0 ≤ h0.size) (V_xa : Arv Z h0 xa k_xa .long (Int32.ofNat 16) (own_al 16 f) (.long (0 : Int64))) (g_xa : n0 ≤ xa) :
    MetFree l (⟨"java/util/Arrays", "fill", "([JJ)V"⟩ : MethodName) (head1 (Jvm.Cond.code (⟨"java/util/Arrays", "fill", "([JJ)V"⟩ : MethodName) jdk_65_method_101_code 5 none :: ws) ({ frames := 0, cells := 0, slots := 0, locals := 0 } : Room)) (fun a' U => a' = #[(.ref xa), (.long fv)] ∧ Z.Warmed39 U.vm ∧ U.heap = h0) (fun _ _ _ _ _ => True) (fun _ U o U' => ∃ v L, o = .returned v ∧ Q_rm4 Z xa fv k_xa f h0 n0 v U'.heap L ∧ FrameEnd U o U' L ({ frames := 0, cells := 0, slots := 0, locals := 0 } : Room).cells ({ frames := 0, cells := 0, slots := 0, locals := 0 } : Room).slots) := by
  refine MetFree.of_bodySF (plainFor_of_name own_pn4) hisR ?_
  intro p e s m args below meth cd0 s₁ Bd hml0 hP hK
  obtain ⟨rfl, hZ, hh⟩ := hP
  have hx := Bd.exec
  have hby := Bd.bytes
  have hml : cd0.maxLocals = 5 := hml0
  have hown : s.vm.findClass "java/util/Arrays" = some m.cls := findClass_of_methodNamed Bd.named
  have hnm := (name_of_methodNamed Bd.named Bd.method).1
  have X : Stand p l e ({ frames := 0, cells := 0, slots := 0, locals := 0 } : Room) s m #[(.ref xa), (.long fv)] below meth cd0 s₁ [] 0 0 := Stand.of_body Bd
  have eh : s₁.heap = h0 := by rw [← hh, Bd.state]; rfl
  have N := Fr.nil n0
  have K : Keep h0 h0 [xa] := Keep.refl _ _
  have pre0 : ∀ t, Steps p.tables e below (s₁.setTop (mkF m 0 #[.val (.ref xa), .val (.long fv), .second, .unset, .unset] [])) t → Steps p.tables e below (s₁.setTop (entryFrame m #[(.ref xa), (.long fv)] 5)) t := fun t k => castTop (ef_rm4 m xa fv) k
  have st : ∀ t, Steps p.tables e below (s₁.setTop (mkF m 0 #[.val (.ref xa), .val (.long fv), .second, .unset, .unset] [])) t → Steps p.tables e below (s₁.setTop (mkF m 0 #[.val (.ref xa), .val (.long fv), .second, .unset, .unset] [])) t := fun t k => k
  have st : ∀ t, Steps p.tables e below (s₁.setTop (mkF m 3 #[.val (.ref xa), .val (.long fv), .second, .val (.int (0 : Int32)), .unset] [(.ref xa)])) t → Steps p.tables e below (s₁.setTop (mkF m 0 #[.val (.ref xa), .val (.long fv), .second, .unset, .unset] [])) t := fun t k => st t (by
      show Steps p.tables e below (s₁.setTop (mkF m 0 #[.val (.ref xa), .val (.long fv), .second, .unset, .unset] [])) _
      refine XS.iconst X.here hx rfl (hb hby d4_0) ?_
      show Steps p.tables e below (s₁.setTop (mkF m 1 #[.val (.ref xa), .val (.long fv), .second, .unset, .unset] [(.int (0 : Int32))])) _
      refine XS.istoreN X.here hx rfl (hb hby d4_1) rfl (l' := #[.val (.ref xa), .val (.long fv), .second, .val (.int (0 : Int32)), .unset]) rfl ?_
      show Steps p.tables e below (s₁.setTop (mkF m 2 #[.val (.ref xa), .val (.long fv), .second, .val (.int (0 : Int32)), .unset] [])) _
      refine XS.aloadN X.here hx rfl (hb hby d4_2) rfl rfl ?_
      exact k)
  obtain ⟨cl1, Ar1, Sz1, Mz1⟩ := own_lenOf V_xa
  have st : ∀ t, Steps p.tables e below (s₁.setTop (mkF m 15 #[.val (.ref xa), .val (.long fv), .second, .val (.int (0 : Int32)), .val (.int (16 : Int32))] [(.long fv), (.int (0 : Int32)), (.ref xa)])) t → Steps p.tables e below (s₁.setTop (mkF m 0 #[.val (.ref xa), .val (.long fv), .second, .unset, .unset] [])) t := fun t k => st t (by
      show Steps p.tables e below (s₁.setTop (mkF m 3 #[.val (.ref xa), .val (.long fv), .second, .val (.int (0 : Int32)), .unset] [(.ref xa)])) _
      refine X.arraylength hx (cell := cl1) (by rw [eh]; exact Ar1.1) (State.isArrayOf_alike hZ.alike Ar1.2.1) (g := (mkF m 3 #[.val (.ref xa), .val (.long fv), .second, .val (.int (0 : Int32)), .unset] [(.ref xa)])) rfl (rest := []) rfl (hb hby d4_3) _ ?_
      rw [len_of Sz1 Mz1]
      show Steps p.tables e below (s₁.setTop (mkF m 4 #[.val (.ref xa), .val (.long fv), .second, .val (.int (0 : Int32)), .unset] [(.int (16 : Int32))])) _
      refine XS.istore X.here hx rfl (hb hby d4_4) rfl (l' := #[.val (.ref xa), .val (.long fv), .second, .val (.int (0 : Int32)), .val (.int (16 : Int32))]) rfl ?_
      show Steps p.tables e below (s₁.setTop (mkF m 6 #[.val (.ref xa), .val (.long fv), .second, .val (.int (0 : Int32)), .val (.int (16 : Int32))] [])) _
      refine XS.iloadN X.here hx rfl (hb hby d4_6) rfl ?_
      show Steps p.tables e below (s₁.setTop (mkF m 7 #[.val (.ref xa), .val (.long fv), .second, .val (.int (0 : Int32)), .val (.int (16 : Int32))] [(.int (0 : Int32))])) _
      refine XS.iload X.here hx rfl (hb hby d4_7) rfl ?_
      show Steps p.tables e below (s₁.setTop (mkF m 9 #[.val (.ref xa), .val (.long fv), .second, .val (.int (0 : Int32)), .val (.int (16 : Int32))] [(.int (16 : Int32)), (.int (0 : Int32))])) _
      refine XS.icmpNo X.here hx rfl (hb hby d4_9) rfl (tlt (by decide)).2.1 ?_
      show Steps p.tables e below (s₁.setTop (mkF m 12 #[.val (.ref xa), .val (.long fv), .second, .val (.int (0 : Int32)), .val (.int (16 : Int32))] [])) _
      refine XS.aloadN X.here hx rfl (hb hby d4_12) rfl rfl ?_
      show Steps p.tables e below (s₁.setTop (mkF m 13 #[.val (.ref xa), .val (.long fv), .second, .val (.int (0 : Int32)), .val (.int (16 : Int32))] [(.ref xa)])) _
      refine XS.iloadN X.here hx rfl (hb hby d4_13) rfl ?_
      show Steps p.tables e below (s₁.setTop (mkF m 14 #[.val (.ref xa), .val (.long fv), .second, .val (.int (0 : Int32)), .val (.int (16 : Int32))] [(.int (0 : Int32)), (.ref xa)])) _
      refine XS.lloadN X.here hx rfl (hb hby d4_14) rfl ?_
      exact k)
  obtain ⟨cl2, Ar2, hin2, hat2⟩ := own_rd (by decide) V_xa 0 (by decide)
  obtain ⟨T3, h4, X, eh, W2, sx⟩ := stJ X hx hZ eh Ar2 (j := Int32.ofNat 0) hin2 (g := (mkF m 15 #[.val (.ref xa), .val (.long fv), .second, .val (.int (0 : Int32)), .val (.int (16 : Int32))] [(.long fv), (.int (0 : Int32)), (.ref xa)])) rfl rfl (hb hby d4_15)
  have st : ∀ t, Steps p.tables e below (T3.setTop (mkF m 16 #[.val (.ref xa), .val (.long fv), .second, .val (.int (0 : Int32)), .val (.int (16 : Int32))] [])) t → Steps p.tables e below (s₁.setTop (mkF m 0 #[.val (.ref xa), .val (.long fv), .second, .unset, .unset] [])) t := fun t k => st t (sx t k)
  have K := K.wr W2 (Or.inl (List.mem_of_getElem? (i := 0) rfl))
  have Z0 := Nat.le_trans Z0 (Keep.of_wr W2).1
  have V_xa := own_st (by decide) V_xa 0 (by decide) fv W2
  have N := Fr.snoc X N g_xa
  have st : ∀ t, Steps p.tables e below (T3.setTop (mkF m 15 #[.val (.ref xa), .val (.long fv), .second, .val (.int (1 : Int32)), .val (.int (16 : Int32))] [(.long fv), (.int (1 : Int32)), (.ref xa)])) t → Steps p.tables e below (s₁.setTop (mkF m 0 #[.val (.ref xa), .val (.long fv), .second, .unset, .unset] [])) t := fun t k => st t (by
      show Steps p.tables e below (T3.setTop (mkF m 16 #[.val (.ref xa), .val (.long fv), .second, .val (.int (0 : Int32)), .val (.int (16 : Int32))] [])) _
      refine XS.iinc X.here hx rfl (hb hby d4_16) rfl (l' := #[.val (.ref xa), .val (.long fv), .second, .val (.int (1 : Int32)), .val (.int (16 : Int32))]) rfl ?_
      show Steps p.tables e below (T3.setTop (mkF m 19 #[.val (.ref xa), .val (.long fv), .second, .val (.int (1 : Int32)), .val (.int (16 : Int32))] [])) _
      refine XS.goto X.here hx rfl (pc0 := 19) (pc' := 6) rfl (hb hby d4_19) (by decide) (by decide) ?_
      show Steps p.tables e below (T3.setTop (mkF m 6 #[.val (.ref xa), .val (.long fv), .second, .val (.int (1 : Int32)), .val (.int (16 : Int32))] [])) _
      refine XS.iloadN X.here hx rfl (hb hby d4_6) rfl ?_
      show Steps p.tables e below (T3.setTop (mkF m 7 #[.val (.ref xa), .val (.long fv), .second, .val (.int (1 : Int32)), .val (.int (16 : Int32))] [(.int (1 : Int32))])) _
      refine XS.iload X.here hx rfl (hb hby d4_7) rfl ?_
      show Steps p.tables e below (T3.setTop (mkF m 9 #[.val (.ref xa), .val (.long fv), .second, .val (.int (1 : Int32)), .val (.int (16 : Int32))] [(.int (16 : Int32)), (.int (1 : Int32))])) _
      refine XS.icmpNo X.here hx rfl (hb hby d4_9) rfl (tlt (by decide)).2.1 ?_
      show Steps p.tables e below (T3.setTop (mkF m 12 #[.val (.ref xa), .val (.long fv), .second, .val (.int (1 : Int32)), .val (.int (16 : Int32))] [])) _
      refine XS.aloadN X.here hx rfl (hb hby d4_12) rfl rfl ?_
      show Steps p.tables e below (T3.setTop (mkF m 13 #[.val (.ref xa), .val (.long fv), .second, .val (.int (1 : Int32)), .val (.int (16 : Int32))] [(.ref xa)])) _
      refine XS.iloadN X.here hx rfl (hb hby d4_13) rfl ?_
      show Steps p.tables e below (T3.setTop (mkF m 14 #[.val (.ref xa), .val (.long fv), .second, .val (.int (1 : Int32)), .val (.int (16 : Int32))] [(.int (1 : Int32)), (.ref xa)])) _
      refine XS.lloadN X.here hx rfl (hb hby d4_14) rfl ?_
      exact k)
  obtain ⟨cl5, Ar5, hin5, hat5⟩ := own_rd (by decide) V_xa 1 (by decide)
  obtain ⟨T6, h7, X, eh, W5, sx⟩ := stJ X hx hZ eh Ar5 (j := Int32.ofNat 1) hin5 (g := (mkF m 15 #[.val (.ref xa), .val (.long fv), .second, .val (.int (1 : Int32)), .val (.int (16 : Int32))] [(.long fv), (.int (1 : Int32)), (.ref xa)])) rfl rfl (hb hby d4_15)
  have st : ∀ t, Steps p.tables e below (T6.setTop (mkF m 16 #[.val (.ref xa), .val (.long fv), .second, .val (.int (1 : Int32)), .val (.int (16 : Int32))] [])) t → Steps p.tables e below (s₁.setTop (mkF m 0 #[.val (.ref xa), .val (.long fv), .second, .unset, .unset] [])) t := fun t k => st t (sx t k)
  have K := K.wr W5 (Or.inl (List.mem_of_getElem? (i := 0) rfl))
  have Z0 := Nat.le_trans Z0 (Keep.of_wr W5).1
  have V_xa := own_st (by decide) V_xa 1 (by decide) fv W5
  have N := Fr.snoc X N g_xa
  have st : ∀ t, Steps p.tables e below (T6.setTop (mkF m 15 #[.val (.ref xa), .val (.long fv), .second, .val (.int (2 : Int32)), .val (.int (16 : Int32))] [(.long fv), (.int (2 : Int32)), (.ref xa)])) t → Steps p.tables e below (s₁.setTop (mkF m 0 #[.val (.ref xa), .val (.long fv), .second, .unset, .unset] [])) t := fun t k => st t (by
      show Steps p.tables e below (T6.setTop (mkF m 16 #[.val (.ref xa), .val (.long fv), .second, .val (.int (1 : Int32)), .val (.int (16 : Int32))] [])) _
      refine XS.iinc X.here hx rfl (hb hby d4_16) rfl (l' := #[.val (.ref xa), .val (.long fv), .second, .val (.int (2 : Int32)), .val (.int (16 : Int32))]) rfl ?_
      show Steps p.tables e below (T6.setTop (mkF m 19 #[.val (.ref xa), .val (.long fv), .second, .val (.int (2 : Int32)), .val (.int (16 : Int32))] [])) _
      refine XS.goto X.here hx rfl (pc0 := 19) (pc' := 6) rfl (hb hby d4_19) (by decide) (by decide) ?_
      show Steps p.tables e below (T6.setTop (mkF m 6 #[.val (.ref xa), .val (.long fv), .second, .val (.int (2 : Int32)), .val (.int (16 : Int32))] [])) _
      refine XS.iloadN X.here hx rfl (hb hby d4_6) rfl ?_
      show Steps p.tables e below (T6.setTop (mkF m 7 #[.val (.ref xa), .val (.long fv), .second, .val (.int (2 : Int32)), .val (.int (16 : Int32))] [(.int (2 : Int32))])) _
      refine XS.iload X.here hx rfl (hb hby d4_7) rfl ?_
      show Steps p.tables e below (T6.setTop (mkF m 9 #[.val (.ref xa), .val (.long fv), .second, .val (.int (2 : Int32)), .val (.int (16 : Int32))] [(.int (16 : Int32)), (.int (2 : Int32))])) _
      refine XS.icmpNo X.here hx rfl (hb hby d4_9) rfl (tlt (by decide)).2.1 ?_
      show Steps p.tables e below (T6.setTop (mkF m 12 #[.val (.ref xa), .val (.long fv), .second, .val (.int (2 : Int32)), .val (.int (16 : Int32))] [])) _
      refine XS.aloadN X.here hx rfl (hb hby d4_12) rfl rfl ?_
      show Steps p.tables e below (T6.setTop (mkF m 13 #[.val (.ref xa), .val (.long fv), .second, .val (.int (2 : Int32)), .val (.int (16 : Int32))] [(.ref xa)])) _
      refine XS.iloadN X.here hx rfl (hb hby d4_13) rfl ?_
      show Steps p.tables e below (T6.setTop (mkF m 14 #[.val (.ref xa), .val (.long fv), .second, .val (.int (2 : Int32)), .val (.int (16 : Int32))] [(.int (2 : Int32)), (.ref xa)])) _
      refine XS.lloadN X.here hx rfl (hb hby d4_14) rfl ?_
      exact k)
  obtain ⟨cl8, Ar8, hin8, hat8⟩ := own_rd (by decide) V_xa 2 (by decide)
  obtain ⟨T9, h10, X, eh, W8, sx⟩ := stJ X hx hZ eh Ar8 (j := Int32.ofNat 2) hin8 (g := (mkF m 15 #[.val (.ref xa), .val (.long fv), .second, .val (.int (2 : Int32)), .val (.int (16 : Int32))] [(.long fv), (.int (2 : Int32)), (.ref xa)])) rfl rfl (hb hby d4_15)
  have st : ∀ t, Steps p.tables e below (T9.setTop (mkF m 16 #[.val (.ref xa), .val (.long fv), .second, .val (.int (2 : Int32)), .val (.int (16 : Int32))] [])) t → Steps p.tables e below (s₁.setTop (mkF m 0 #[.val (.ref xa), .val (.long fv), .second, .unset, .unset] [])) t := fun t k => st t (sx t k)
  have K := K.wr W8 (Or.inl (List.mem_of_getElem? (i := 0) rfl))
  have Z0 := Nat.le_trans Z0 (Keep.of_wr W8).1
  have V_xa := own_st (by decide) V_xa 2 (by decide) fv W8
  have N := Fr.snoc X N g_xa
  have st : ∀ t, Steps p.tables e below (T9.setTop (mkF m 15 #[.val (.ref xa), .val (.long fv), .second, .val (.int (3 : Int32)), .val (.int (16 : Int32))] [(.long fv), (.int (3 : Int32)), (.ref xa)])) t → Steps p.tables e below (s₁.setTop (mkF m 0 #[.val (.ref xa), .val (.long fv), .second, .unset, .unset] [])) t := fun t k => st t (by
      show Steps p.tables e below (T9.setTop (mkF m 16 #[.val (.ref xa), .val (.long fv), .second, .val (.int (2 : Int32)), .val (.int (16 : Int32))] [])) _
      refine XS.iinc X.here hx rfl (hb hby d4_16) rfl (l' := #[.val (.ref xa), .val (.long fv), .second, .val (.int (3 : Int32)), .val (.int (16 : Int32))]) rfl ?_
      show Steps p.tables e below (T9.setTop (mkF m 19 #[.val (.ref xa), .val (.long fv), .second, .val (.int (3 : Int32)), .val (.int (16 : Int32))] [])) _
      refine XS.goto X.here hx rfl (pc0 := 19) (pc' := 6) rfl (hb hby d4_19) (by decide) (by decide) ?_
      show Steps p.tables e below (T9.setTop (mkF m 6 #[.val (.ref xa), .val (.long fv), .second, .val (.int (3 : Int32)), .val (.int (16 : Int32))] [])) _
      refine XS.iloadN X.here hx rfl (hb hby d4_6) rfl ?_
      show Steps p.tables e below (T9.setTop (mkF m 7 #[.val (.ref xa), .val (.long fv), .second, .val (.int (3 : Int32)), .val (.int (16 : Int32))] [(.int (3 : Int32))])) _
      refine XS.iload X.here hx rfl (hb hby d4_7) rfl ?_
      show Steps p.tables e below (T9.setTop (mkF m 9 #[.val (.ref xa), .val (.long fv), .second, .val (.int (3 : Int32)), .val (.int (16 : Int32))] [(.int (16 : Int32)), (.int (3 : Int32))])) _
      refine XS.icmpNo X.here hx rfl (hb hby d4_9) rfl (tlt (by decide)).2.1 ?_
      show Steps p.tables e below (T9.setTop (mkF m 12 #[.val (.ref xa), .val (.long fv), .second, .val (.int (3 : Int32)), .val (.int (16 : Int32))] [])) _
      refine XS.aloadN X.here hx rfl (hb hby d4_12) rfl rfl ?_
      show Steps p.tables e below (T9.setTop (mkF m 13 #[.val (.ref xa), .val (.long fv), .second, .val (.int (3 : Int32)), .val (.int (16 : Int32))] [(.ref xa)])) _
      refine XS.iloadN X.here hx rfl (hb hby d4_13) rfl ?_
      show Steps p.tables e below (T9.setTop (mkF m 14 #[.val (.ref xa), .val (.long fv), .second, .val (.int (3 : Int32)), .val (.int (16 : Int32))] [(.int (3 : Int32)), (.ref xa)])) _
      refine XS.lloadN X.here hx rfl (hb hby d4_14) rfl ?_
      exact k)
  obtain ⟨cl11, Ar11, hin11, hat11⟩ := own_rd (by decide) V_xa 3 (by decide)
  obtain ⟨T12, h13, X, eh, W11, sx⟩ := stJ X hx hZ eh Ar11 (j := Int32.ofNat 3) hin11 (g := (mkF m 15 #[.val (.ref xa), .val (.long fv), .second, .val (.int (3 : Int32)), .val (.int (16 : Int32))] [(.long fv), (.int (3 : Int32)), (.ref xa)])) rfl rfl (hb hby d4_15)
  have st : ∀ t, Steps p.tables e below (T12.setTop (mkF m 16 #[.val (.ref xa), .val (.long fv), .second, .val (.int (3 : Int32)), .val (.int (16 : Int32))] [])) t → Steps p.tables e below (s₁.setTop (mkF m 0 #[.val (.ref xa), .val (.long fv), .second, .unset, .unset] [])) t := fun t k => st t (sx t k)
  have K := K.wr W11 (Or.inl (List.mem_of_getElem? (i := 0) rfl))
  have Z0 := Nat.le_trans Z0 (Keep.of_wr W11).1
  have V_xa := own_st (by decide) V_xa 3 (by decide) fv W11
  have N := Fr.snoc X N g_xa
  have st : ∀ t, Steps p.tables e below (T12.setTop (mkF m 15 #[.val (.ref xa), .val (.long fv), .second, .val (.int (4 : Int32)), .val (.int (16 : Int32))] [(.long fv), (.int (4 : Int32)), (.ref xa)])) t → Steps p.tables e below (s₁.setTop (mkF m 0 #[.val (.ref xa), .val (.long fv), .second, .unset, .unset] [])) t := fun t k => st t (by
      show Steps p.tables e below (T12.setTop (mkF m 16 #[.val (.ref xa), .val (.long fv), .second, .val (.int (3 : Int32)), .val (.int (16 : Int32))] [])) _
      refine XS.iinc X.here hx rfl (hb hby d4_16) rfl (l' := #[.val (.ref xa), .val (.long fv), .second, .val (.int (4 : Int32)), .val (.int (16 : Int32))]) rfl ?_
      show Steps p.tables e below (T12.setTop (mkF m 19 #[.val (.ref xa), .val (.long fv), .second, .val (.int (4 : Int32)), .val (.int (16 : Int32))] [])) _
      refine XS.goto X.here hx rfl (pc0 := 19) (pc' := 6) rfl (hb hby d4_19) (by decide) (by decide) ?_
      show Steps p.tables e below (T12.setTop (mkF m 6 #[.val (.ref xa), .val (.long fv), .second, .val (.int (4 : Int32)), .val (.int (16 : Int32))] [])) _
      refine XS.iloadN X.here hx rfl (hb hby d4_6) rfl ?_
      show Steps p.tables e below (T12.setTop (mkF m 7 #[.val (.ref xa), .val (.long fv), .second, .val (.int (4 : Int32)), .val (.int (16 : Int32))] [(.int (4 : Int32))])) _
      refine XS.iload X.here hx rfl (hb hby d4_7) rfl ?_
      show Steps p.tables e below (T12.setTop (mkF m 9 #[.val (.ref xa), .val (.long fv), .second, .val (.int (4 : Int32)), .val (.int (16 : Int32))] [(.int (16 : Int32)), (.int (4 : Int32))])) _
      refine XS.icmpNo X.here hx rfl (hb hby d4_9) rfl (tlt (by decide)).2.1 ?_
      show Steps p.tables e below (T12.setTop (mkF m 12 #[.val (.ref xa), .val (.long fv), .second, .val (.int (4 : Int32)), .val (.int (16 : Int32))] [])) _
      refine XS.aloadN X.here hx rfl (hb hby d4_12) rfl rfl ?_
      show Steps p.tables e below (T12.setTop (mkF m 13 #[.val (.ref xa), .val (.long fv), .second, .val (.int (4 : Int32)), .val (.int (16 : Int32))] [(.ref xa)])) _
      refine XS.iloadN X.here hx rfl (hb hby d4_13) rfl ?_
      show Steps p.tables e below (T12.setTop (mkF m 14 #[.val (.ref xa), .val (.long fv), .second, .val (.int (4 : Int32)), .val (.int (16 : Int32))] [(.int (4 : Int32)), (.ref xa)])) _
      refine XS.lloadN X.here hx rfl (hb hby d4_14) rfl ?_
      exact k)
  obtain ⟨cl14, Ar14, hin14, hat14⟩ := own_rd (by decide) V_xa 4 (by decide)
  obtain ⟨T15, h16, X, eh, W14, sx⟩ := stJ X hx hZ eh Ar14 (j := Int32.ofNat 4) hin14 (g := (mkF m 15 #[.val (.ref xa), .val (.long fv), .second, .val (.int (4 : Int32)), .val (.int (16 : Int32))] [(.long fv), (.int (4 : Int32)), (.ref xa)])) rfl rfl (hb hby d4_15)
  have st : ∀ t, Steps p.tables e below (T15.setTop (mkF m 16 #[.val (.ref xa), .val (.long fv), .second, .val (.int (4 : Int32)), .val (.int (16 : Int32))] [])) t → Steps p.tables e below (s₁.setTop (mkF m 0 #[.val (.ref xa), .val (.long fv), .second, .unset, .unset] [])) t := fun t k => st t (sx t k)
  have K := K.wr W14 (Or.inl (List.mem_of_getElem? (i := 0) rfl))
  have Z0 := Nat.le_trans Z0 (Keep.of_wr W14).1
  have V_xa := own_st (by decide) V_xa 4 (by decide) fv W14
  have N := Fr.snoc X N g_xa
  have st : ∀ t, Steps p.tables e below (T15.setTop (mkF m 15 #[.val (.ref xa), .val (.long fv), .second, .val (.int (5 : Int32)), .val (.int (16 : Int32))] [(.long fv), (.int (5 : Int32)), (.ref xa)])) t → Steps p.tables e below (s₁.setTop (mkF m 0 #[.val (.ref xa), .val (.long fv), .second, .unset, .unset] [])) t := fun t k => st t (by
      show Steps p.tables e below (T15.setTop (mkF m 16 #[.val (.ref xa), .val (.long fv), .second, .val (.int (4 : Int32)), .val (.int (16 : Int32))] [])) _
      refine XS.iinc X.here hx rfl (hb hby d4_16) rfl (l' := #[.val (.ref xa), .val (.long fv), .second, .val (.int (5 : Int32)), .val (.int (16 : Int32))]) rfl ?_
      show Steps p.tables e below (T15.setTop (mkF m 19 #[.val (.ref xa), .val (.long fv), .second, .val (.int (5 : Int32)), .val (.int (16 : Int32))] [])) _
      refine XS.goto X.here hx rfl (pc0 := 19) (pc' := 6) rfl (hb hby d4_19) (by decide) (by decide) ?_
      show Steps p.tables e below (T15.setTop (mkF m 6 #[.val (.ref xa), .val (.long fv), .second, .val (.int (5 : Int32)), .val (.int (16 : Int32))] [])) _
      refine XS.iloadN X.here hx rfl (hb hby d4_6) rfl ?_
      show Steps p.tables e below (T15.setTop (mkF m 7 #[.val (.ref xa), .val (.long fv), .second, .val (.int (5 : Int32)), .val (.int (16 : Int32))] [(.int (5 : Int32))])) _
      refine XS.iload X.here hx rfl (hb hby d4_7) rfl ?_
      show Steps p.tables e below (T15.setTop (mkF m 9 #[.val (.ref xa), .val (.long fv), .second, .val (.int (5 : Int32)), .val (.int (16 : Int32))] [(.int (16 : Int32)), (.int (5 : Int32))])) _
      refine XS.icmpNo X.here hx rfl (hb hby d4_9) rfl (tlt (by decide)).2.1 ?_
      show Steps p.tables e below (T15.setTop (mkF m 12 #[.val (.ref xa), .val (.long fv), .second, .val (.int (5 : Int32)), .val (.int (16 : Int32))] [])) _
      refine XS.aloadN X.here hx rfl (hb hby d4_12) rfl rfl ?_
      show Steps p.tables e below (T15.setTop (mkF m 13 #[.val (.ref xa), .val (.long fv), .second, .val (.int (5 : Int32)), .val (.int (16 : Int32))] [(.ref xa)])) _
      refine XS.iloadN X.here hx rfl (hb hby d4_13) rfl ?_
      show Steps p.tables e below (T15.setTop (mkF m 14 #[.val (.ref xa), .val (.long fv), .second, .val (.int (5 : Int32)), .val (.int (16 : Int32))] [(.int (5 : Int32)), (.ref xa)])) _
      refine XS.lloadN X.here hx rfl (hb hby d4_14) rfl ?_
      exact k)
  obtain ⟨cl17, Ar17, hin17, hat17⟩ := own_rd (by decide) V_xa 5 (by decide)
  obtain ⟨T18, h19, X, eh, W17, sx⟩ := stJ X hx hZ eh Ar17 (j := Int32.ofNat 5) hin17 (g := (mkF m 15 #[.val (.ref xa), .val (.long fv), .second, .val (.int (5 : Int32)), .val (.int (16 : Int32))] [(.long fv), (.int (5 : Int32)), (.ref xa)])) rfl rfl (hb hby d4_15)
  have st : ∀ t, Steps p.tables e below (T18.setTop (mkF m 16 #[.val (.ref xa), .val (.long fv), .second, .val (.int (5 : Int32)), .val (.int (16 : Int32))] [])) t → Steps p.tables e below (s₁.setTop (mkF m 0 #[.val (.ref xa), .val (.long fv), .second, .unset, .unset] [])) t := fun t k => st t (sx t k)
  have K := K.wr W17 (Or.inl (List.mem_of_getElem? (i := 0) rfl))
  have Z0 := Nat.le_trans Z0 (Keep.of_wr W17).1
  have V_xa := own_st (by decide) V_xa 5 (by decide) fv W17
  have N := Fr.snoc X N g_xa
  have st : ∀ t, Steps p.tables e below (T18.setTop (mkF m 15 #[.val (.ref xa), .val (.long fv), .second, .val (.int (6 : Int32)), .val (.int (16 : Int32))] [(.long fv), (.int (6 : Int32)), (.ref xa)])) t → Steps p.tables e below (s₁.setTop (mkF m 0 #[.val (.ref xa), .val (.long fv), .second, .unset, .unset] [])) t := fun t k => st t (by
      show Steps p.tables e below (T18.setTop (mkF m 16 #[.val (.ref xa), .val (.long fv), .second, .val (.int (5 : Int32)), .val (.int (16 : Int32))] [])) _
      refine XS.iinc X.here hx rfl (hb hby d4_16) rfl (l' := #[.val (.ref xa), .val (.long fv), .second, .val (.int (6 : Int32)), .val (.int (16 : Int32))]) rfl ?_
      show Steps p.tables e below (T18.setTop (mkF m 19 #[.val (.ref xa), .val (.long fv), .second, .val (.int (6 : Int32)), .val (.int (16 : Int32))] [])) _
      refine XS.goto X.here hx rfl (pc0 := 19) (pc' := 6) rfl (hb hby d4_19) (by decide) (by decide) ?_
      show Steps p.tables e below (T18.setTop (mkF m 6 #[.val (.ref xa), .val (.long fv), .second, .val (.int (6 : Int32)), .val (.int (16 : Int32))] [])) _
      refine XS.iloadN X.here hx rfl (hb hby d4_6) rfl ?_
      show Steps p.tables e below (T18.setTop (mkF m 7 #[.val (.ref xa), .val (.long fv), .second, .val (.int (6 : Int32)), .val (.int (16 : Int32))] [(.int (6 : Int32))])) _
      refine XS.iload X.here hx rfl (hb hby d4_7) rfl ?_
      show Steps p.tables e below (T18.setTop (mkF m 9 #[.val (.ref xa), .val (.long fv), .second, .val (.int (6 : Int32)), .val (.int (16 : Int32))] [(.int (16 : Int32)), (.int (6 : Int32))])) _
      refine XS.icmpNo X.here hx rfl (hb hby d4_9) rfl (tlt (by decide)).2.1 ?_
      show Steps p.tables e below (T18.setTop (mkF m 12 #[.val (.ref xa), .val (.long fv), .second, .val (.int (6 : Int32)), .val (.int (16 : Int32))] [])) _
      refine XS.aloadN X.here hx rfl (hb hby d4_12) rfl rfl ?_
      show Steps p.tables e below (T18.setTop (mkF m 13 #[.val (.ref xa), .val (.long fv), .second, .val (.int (6 : Int32)), .val (.int (16 : Int32))] [(.ref xa)])) _
      refine XS.iloadN X.here hx rfl (hb hby d4_13) rfl ?_
      show Steps p.tables e below (T18.setTop (mkF m 14 #[.val (.ref xa), .val (.long fv), .second, .val (.int (6 : Int32)), .val (.int (16 : Int32))] [(.int (6 : Int32)), (.ref xa)])) _
      refine XS.lloadN X.here hx rfl (hb hby d4_14) rfl ?_
      exact k)
  obtain ⟨cl20, Ar20, hin20, hat20⟩ := own_rd (by decide) V_xa 6 (by decide)
  obtain ⟨T21, h22, X, eh, W20, sx⟩ := stJ X hx hZ eh Ar20 (j := Int32.ofNat 6) hin20 (g := (mkF m 15 #[.val (.ref xa), .val (.long fv), .second, .val (.int (6 : Int32)), .val (.int (16 : Int32))] [(.long fv), (.int (6 : Int32)), (.ref xa)])) rfl rfl (hb hby d4_15)
  have st : ∀ t, Steps p.tables e below (T21.setTop (mkF m 16 #[.val (.ref xa), .val (.long fv), .second, .val (.int (6 : Int32)), .val (.int (16 : Int32))] [])) t → Steps p.tables e below (s₁.setTop (mkF m 0 #[.val (.ref xa), .val (.long fv), .second, .unset, .unset] [])) t := fun t k => st t (sx t k)
  have K := K.wr W20 (Or.inl (List.mem_of_getElem? (i := 0) rfl))
  have Z0 := Nat.le_trans Z0 (Keep.of_wr W20).1
  have V_xa := own_st (by decide) V_xa 6 (by decide) fv W20
  have N := Fr.snoc X N g_xa
  have st : ∀ t, Steps p.tables e below (T21.setTop (mkF m 15 #[.val (.ref xa), .val (.long fv), .second, .val (.int (7 : Int32)), .val (.int (16 : Int32))] [(.long fv), (.int (7 : Int32)), (.ref xa)])) t → Steps p.tables e below (s₁.setTop (mkF m 0 #[.val (.ref xa), .val (.long fv), .second, .unset, .unset] [])) t := fun t k => st t (by
      show Steps p.tables e below (T21.setTop (mkF m 16 #[.val (.ref xa), .val (.long fv), .second, .val (.int (6 : Int32)), .val (.int (16 : Int32))] [])) _
      refine XS.iinc X.here hx rfl (hb hby d4_16) rfl (l' := #[.val (.ref xa), .val (.long fv), .second, .val (.int (7 : Int32)), .val (.int (16 : Int32))]) rfl ?_
      show Steps p.tables e below (T21.setTop (mkF m 19 #[.val (.ref xa), .val (.long fv), .second, .val (.int (7 : Int32)), .val (.int (16 : Int32))] [])) _
      refine XS.goto X.here hx rfl (pc0 := 19) (pc' := 6) rfl (hb hby d4_19) (by decide) (by decide) ?_
      show Steps p.tables e below (T21.setTop (mkF m 6 #[.val (.ref xa), .val (.long fv), .second, .val (.int (7 : Int32)), .val (.int (16 : Int32))] [])) _
      refine XS.iloadN X.here hx rfl (hb hby d4_6) rfl ?_
      show Steps p.tables e below (T21.setTop (mkF m 7 #[.val (.ref xa), .val (.long fv), .second, .val (.int (7 : Int32)), .val (.int (16 : Int32))] [(.int (7 : Int32))])) _
      refine XS.iload X.here hx rfl (hb hby d4_7) rfl ?_
      show Steps p.tables e below (T21.setTop (mkF m 9 #[.val (.ref xa), .val (.long fv), .second, .val (.int (7 : Int32)), .val (.int (16 : Int32))] [(.int (16 : Int32)), (.int (7 : Int32))])) _
      refine XS.icmpNo X.here hx rfl (hb hby d4_9) rfl (tlt (by decide)).2.1 ?_
      show Steps p.tables e below (T21.setTop (mkF m 12 #[.val (.ref xa), .val (.long fv), .second, .val (.int (7 : Int32)), .val (.int (16 : Int32))] [])) _
      refine XS.aloadN X.here hx rfl (hb hby d4_12) rfl rfl ?_
      show Steps p.tables e below (T21.setTop (mkF m 13 #[.val (.ref xa), .val (.long fv), .second, .val (.int (7 : Int32)), .val (.int (16 : Int32))] [(.ref xa)])) _
      refine XS.iloadN X.here hx rfl (hb hby d4_13) rfl ?_
      show Steps p.tables e below (T21.setTop (mkF m 14 #[.val (.ref xa), .val (.long fv), .second, .val (.int (7 : Int32)), .val (.int (16 : Int32))] [(.int (7 : Int32)), (.ref xa)])) _
      refine XS.lloadN X.here hx rfl (hb hby d4_14) rfl ?_
      exact k)
  obtain ⟨cl23, Ar23, hin23, hat23⟩ := own_rd (by decide) V_xa 7 (by decide)
  obtain ⟨T24, h25, X, eh, W23, sx⟩ := stJ X hx hZ eh Ar23 (j := Int32.ofNat 7) hin23 (g := (mkF m 15 #[.val (.ref xa), .val (.long fv), .second, .val (.int (7 : Int32)), .val (.int (16 : Int32))] [(.long fv), (.int (7 : Int32)), (.ref xa)])) rfl rfl (hb hby d4_15)
  have st : ∀ t, Steps p.tables e below (T24.setTop (mkF m 16 #[.val (.ref xa), .val (.long fv), .second, .val (.int (7 : Int32)), .val (.int (16 : Int32))] [])) t → Steps p.tables e below (s₁.setTop (mkF m 0 #[.val (.ref xa), .val (.long fv), .second, .unset, .unset] [])) t := fun t k => st t (sx t k)
  have K := K.wr W23 (Or.inl (List.mem_of_getElem? (i := 0) rfl))
  have Z0 := Nat.le_trans Z0 (Keep.of_wr W23).1
  have V_xa := own_st (by decide) V_xa 7 (by decide) fv W23
  have N := Fr.snoc X N g_xa
  have st : ∀ t, Steps p.tables e below (T24.setTop (mkF m 15 #[.val (.ref xa), .val (.long fv), .second, .val (.int (8 : Int32)), .val (.int (16 : Int32))] [(.long fv), (.int (8 : Int32)), (.ref xa)])) t → Steps p.tables e below (s₁.setTop (mkF m 0 #[.val (.ref xa), .val (.long fv), .second, .unset, .unset] [])) t := fun t k => st t (by
      show Steps p.tables e below (T24.setTop (mkF m 16 #[.val (.ref xa), .val (.long fv), .second, .val (.int (7 : Int32)), .val (.int (16 : Int32))] [])) _
      refine XS.iinc X.here hx rfl (hb hby d4_16) rfl (l' := #[.val (.ref xa), .val (.long fv), .second, .val (.int (8 : Int32)), .val (.int (16 : Int32))]) rfl ?_
      show Steps p.tables e below (T24.setTop (mkF m 19 #[.val (.ref xa), .val (.long fv), .second, .val (.int (8 : Int32)), .val (.int (16 : Int32))] [])) _
      refine XS.goto X.here hx rfl (pc0 := 19) (pc' := 6) rfl (hb hby d4_19) (by decide) (by decide) ?_
      show Steps p.tables e below (T24.setTop (mkF m 6 #[.val (.ref xa), .val (.long fv), .second, .val (.int (8 : Int32)), .val (.int (16 : Int32))] [])) _
      refine XS.iloadN X.here hx rfl (hb hby d4_6) rfl ?_
      show Steps p.tables e below (T24.setTop (mkF m 7 #[.val (.ref xa), .val (.long fv), .second, .val (.int (8 : Int32)), .val (.int (16 : Int32))] [(.int (8 : Int32))])) _
      refine XS.iload X.here hx rfl (hb hby d4_7) rfl ?_
      show Steps p.tables e below (T24.setTop (mkF m 9 #[.val (.ref xa), .val (.long fv), .second, .val (.int (8 : Int32)), .val (.int (16 : Int32))] [(.int (16 : Int32)), (.int (8 : Int32))])) _
      refine XS.icmpNo X.here hx rfl (hb hby d4_9) rfl (tlt (by decide)).2.1 ?_
      show Steps p.tables e below (T24.setTop (mkF m 12 #[.val (.ref xa), .val (.long fv), .second, .val (.int (8 : Int32)), .val (.int (16 : Int32))] [])) _
      refine XS.aloadN X.here hx rfl (hb hby d4_12) rfl rfl ?_
      show Steps p.tables e below (T24.setTop (mkF m 13 #[.val (.ref xa), .val (.long fv), .second, .val (.int (8 : Int32)), .val (.int (16 : Int32))] [(.ref xa)])) _
      refine XS.iloadN X.here hx rfl (hb hby d4_13) rfl ?_
      show Steps p.tables e below (T24.setTop (mkF m 14 #[.val (.ref xa), .val (.long fv), .second, .val (.int (8 : Int32)), .val (.int (16 : Int32))] [(.int (8 : Int32)), (.ref xa)])) _
      refine XS.lloadN X.here hx rfl (hb hby d4_14) rfl ?_
      exact k)
  obtain ⟨cl26, Ar26, hin26, hat26⟩ := own_rd (by decide) V_xa 8 (by decide)
  obtain ⟨T27, h28, X, eh, W26, sx⟩ := stJ X hx hZ eh Ar26 (j := Int32.ofNat 8) hin26 (g := (mkF m 15 #[.val (.ref xa), .val (.long fv), .second, .val (.int (8 : Int32)), .val (.int (16 : Int32))] [(.long fv), (.int (8 : Int32)), (.ref xa)])) rfl rfl (hb hby d4_15)
  have st : ∀ t, Steps p.tables e below (T27.setTop (mkF m 16 #[.val (.ref xa), .val (.long fv), .second, .val (.int (8 : Int32)), .val (.int (16 : Int32))] [])) t → Steps p.tables e below (s₁.setTop (mkF m 0 #[.val (.ref xa), .val (.long fv), .second, .unset, .unset] [])) t := fun t k => st t (sx t k)
  have K := K.wr W26 (Or.inl (List.mem_of_getElem? (i := 0) rfl))
  have Z0 := Nat.le_trans Z0 (Keep.of_wr W26).1
  have V_xa := own_st (by decide) V_xa 8 (by decide) fv W26
  have N := Fr.snoc X N g_xa
  have st : ∀ t, Steps p.tables e below (T27.setTop (mkF m 15 #[.val (.ref xa), .val (.long fv), .second, .val (.int (9 : Int32)), .val (.int (16 : Int32))] [(.long fv), (.int (9 : Int32)), (.ref xa)])) t → Steps p.tables e below (s₁.setTop (mkF m 0 #[.val (.ref xa), .val (.long fv), .second, .unset, .unset] [])) t := fun t k => st t (by
      show Steps p.tables e below (T27.setTop (mkF m 16 #[.val (.ref xa), .val (.long fv), .second, .val (.int (8 : Int32)), .val (.int (16 : Int32))] [])) _
      refine XS.iinc X.here hx rfl (hb hby d4_16) rfl (l' := #[.val (.ref xa), .val (.long fv), .second, .val (.int (9 : Int32)), .val (.int (16 : Int32))]) rfl ?_
      show Steps p.tables e below (T27.setTop (mkF m 19 #[.val (.ref xa), .val (.long fv), .second, .val (.int (9 : Int32)), .val (.int (16 : Int32))] [])) _
      refine XS.goto X.here hx rfl (pc0 := 19) (pc' := 6) rfl (hb hby d4_19) (by decide) (by decide) ?_
      show Steps p.tables e below (T27.setTop (mkF m 6 #[.val (.ref xa), .val (.long fv), .second, .val (.int (9 : Int32)), .val (.int (16 : Int32))] [])) _
      refine XS.iloadN X.here hx rfl (hb hby d4_6) rfl ?_
      show Steps p.tables e below (T27.setTop (mkF m 7 #[.val (.ref xa), .val (.long fv), .second, .val (.int (9 : Int32)), .val (.int (16 : Int32))] [(.int (9 : Int32))])) _
      refine XS.iload X.here hx rfl (hb hby d4_7) rfl ?_
      show Steps p.tables e below (T27.setTop (mkF m 9 #[.val (.ref xa), .val (.long fv), .second, .val (.int (9 : Int32)), .val (.int (16 : Int32))] [(.int (16 : Int32)), (.int (9 : Int32))])) _
      refine XS.icmpNo X.here hx rfl (hb hby d4_9) rfl (tlt (by decide)).2.1 ?_
      show Steps p.tables e below (T27.setTop (mkF m 12 #[.val (.ref xa), .val (.long fv), .second, .val (.int (9 : Int32)), .val (.int (16 : Int32))] [])) _
      refine XS.aloadN X.here hx rfl (hb hby d4_12) rfl rfl ?_
      show Steps p.tables e below (T27.setTop (mkF m 13 #[.val (.ref xa), .val (.long fv), .second, .val (.int (9 : Int32)), .val (.int (16 : Int32))] [(.ref xa)])) _
      refine XS.iloadN X.here hx rfl (hb hby d4_13) rfl ?_
      show Steps p.tables e below (T27.setTop (mkF m 14 #[.val (.ref xa), .val (.long fv), .second, .val (.int (9 : Int32)), .val (.int (16 : Int32))] [(.int (9 : Int32)), (.ref xa)])) _
      refine XS.lloadN X.here hx rfl (hb hby d4_14) rfl ?_
      exact k)
  obtain ⟨cl29, Ar29, hin29, hat29⟩ := own_rd (by decide) V_xa 9 (by decide)
  obtain ⟨T30, h31, X, eh, W29, sx⟩ := stJ X hx hZ eh Ar29 (j := Int32.ofNat 9) hin29 (g := (mkF m 15 #[.val (.ref xa), .val (.long fv), .second, .val (.int (9 : Int32)), .val (.int (16 : Int32))] [(.long fv), (.int (9 : Int32)), (.ref xa)])) rfl rfl (hb hby d4_15)
  have st : ∀ t, Steps p.tables e below (T30.setTop (mkF m 16 #[.val (.ref xa), .val (.long fv), .second, .val (.int (9 : Int32)), .val (.int (16 : Int32))] [])) t → Steps p.tables e below (s₁.setTop (mkF m 0 #[.val (.ref xa), .val (.long fv), .second, .unset, .unset] [])) t := fun t k => st t (sx t k)
  have K := K.wr W29 (Or.inl (List.mem_of_getElem? (i := 0) rfl))
  have Z0 := Nat.le_trans Z0 (Keep.of_wr W29).1
  have V_xa := own_st (by decide) V_xa 9 (by decide) fv W29
  have N := Fr.snoc X N g_xa
  have st : ∀ t, Steps p.tables e below (T30.setTop (mkF m 15 #[.val (.ref xa), .val (.long fv), .second, .val (.int (10 : Int32)), .val (.int (16 : Int32))] [(.long fv), (.int (10 : Int32)), (.ref xa)])) t → Steps p.tables e below (s₁.setTop (mkF m 0 #[.val (.ref xa), .val (.long fv), .second, .unset, .unset] [])) t := fun t k => st t (by
      show Steps p.tables e below (T30.setTop (mkF m 16 #[.val (.ref xa), .val (.long fv), .second, .val (.int (9 : Int32)), .val (.int (16 : Int32))] [])) _
      refine XS.iinc X.here hx rfl (hb hby d4_16) rfl (l' := #[.val (.ref xa), .val (.long fv), .second, .val (.int (10 : Int32)), .val (.int (16 : Int32))]) rfl ?_
      show Steps p.tables e below (T30.setTop (mkF m 19 #[.val (.ref xa), .val (.long fv), .second, .val (.int (10 : Int32)), .val (.int (16 : Int32))] [])) _
      refine XS.goto X.here hx rfl (pc0 := 19) (pc' := 6) rfl (hb hby d4_19) (by decide) (by decide) ?_
      show Steps p.tables e below (T30.setTop (mkF m 6 #[.val (.ref xa), .val (.long fv), .second, .val (.int (10 : Int32)), .val (.int (16 : Int32))] [])) _
      refine XS.iloadN X.here hx rfl (hb hby d4_6) rfl ?_
      show Steps p.tables e below (T30.setTop (mkF m 7 #[.val (.ref xa), .val (.long fv), .second, .val (.int (10 : Int32)), .val (.int (16 : Int32))] [(.int (10 : Int32))])) _
      refine XS.iload X.here hx rfl (hb hby d4_7) rfl ?_
      show Steps p.tables e below (T30.setTop (mkF m 9 #[.val (.ref xa), .val (.long fv), .second, .val (.int (10 : Int32)), .val (.int (16 : Int32))] [(.int (16 : Int32)), (.int (10 : Int32))])) _
      refine XS.icmpNo X.here hx rfl (hb hby d4_9) rfl (tlt (by decide)).2.1 ?_
      show Steps p.tables e below (T30.setTop (mkF m 12 #[.val (.ref xa), .val (.long fv), .second, .val (.int (10 : Int32)), .val (.int (16 : Int32))] [])) _
      refine XS.aloadN X.here hx rfl (hb hby d4_12) rfl rfl ?_
      show Steps p.tables e below (T30.setTop (mkF m 13 #[.val (.ref xa), .val (.long fv), .second, .val (.int (10 : Int32)), .val (.int (16 : Int32))] [(.ref xa)])) _
      refine XS.iloadN X.here hx rfl (hb hby d4_13) rfl ?_
      show Steps p.tables e below (T30.setTop (mkF m 14 #[.val (.ref xa), .val (.long fv), .second, .val (.int (10 : Int32)), .val (.int (16 : Int32))] [(.int (10 : Int32)), (.ref xa)])) _
      refine XS.lloadN X.here hx rfl (hb hby d4_14) rfl ?_
      exact k)
  obtain ⟨cl32, Ar32, hin32, hat32⟩ := own_rd (by decide) V_xa 10 (by decide)
  obtain ⟨T33, h34, X, eh, W32, sx⟩ := stJ X hx hZ eh Ar32 (j := Int32.ofNat 10) hin32 (g := (mkF m 15 #[.val (.ref xa), .val (.long fv), .second, .val (.int (10 : Int32)), .val (.int (16 : Int32))] [(.long fv), (.int (10 : Int32)), (.ref xa)])) rfl rfl (hb hby d4_15)
  have st : ∀ t, Steps p.tables e below (T33.setTop (mkF m 16 #[.val (.ref xa), .val (.long fv), .second, .val (.int (10 : Int32)), .val (.int (16 : Int32))] [])) t → Steps p.tables e below (s₁.setTop (mkF m 0 #[.val (.ref xa), .val (.long fv), .second, .unset, .unset] [])) t := fun t k => st t (sx t k)
  have K := K.wr W32 (Or.inl (List.mem_of_getElem? (i := 0) rfl))
  have Z0 := Nat.le_trans Z0 (Keep.of_wr W32).1
  have V_xa := own_st (by decide) V_xa 10 (by decide) fv W32
  have N := Fr.snoc X N g_xa
  have st : ∀ t, Steps p.tables e below (T33.setTop (mkF m 15 #[.val (.ref xa), .val (.long fv), .second, .val (.int (11 : Int32)), .val (.int (16 : Int32))] [(.long fv), (.int (11 : Int32)), (.ref xa)])) t → Steps p.tables e below (s₁.setTop (mkF m 0 #[.val (.ref xa), .val (.long fv), .second, .unset, .unset] [])) t := fun t k => st t (by
      show Steps p.tables e below (T33.setTop (mkF m 16 #[.val (.ref xa), .val (.long fv), .second, .val (.int (10 : Int32)), .val (.int (16 : Int32))] [])) _
      refine XS.iinc X.here hx rfl (hb hby d4_16) rfl (l' := #[.val (.ref xa), .val (.long fv), .second, .val (.int (11 : Int32)), .val (.int (16 : Int32))]) rfl ?_
      show Steps p.tables e below (T33.setTop (mkF m 19 #[.val (.ref xa), .val (.long fv), .second, .val (.int (11 : Int32)), .val (.int (16 : Int32))] [])) _
      refine XS.goto X.here hx rfl (pc0 := 19) (pc' := 6) rfl (hb hby d4_19) (by decide) (by decide) ?_
      show Steps p.tables e below (T33.setTop (mkF m 6 #[.val (.ref xa), .val (.long fv), .second, .val (.int (11 : Int32)), .val (.int (16 : Int32))] [])) _
      refine XS.iloadN X.here hx rfl (hb hby d4_6) rfl ?_
      show Steps p.tables e below (T33.setTop (mkF m 7 #[.val (.ref xa), .val (.long fv), .second, .val (.int (11 : Int32)), .val (.int (16 : Int32))] [(.int (11 : Int32))])) _
      refine XS.iload X.here hx rfl (hb hby d4_7) rfl ?_
      show Steps p.tables e below (T33.setTop (mkF m 9 #[.val (.ref xa), .val (.long fv), .second, .val (.int (11 : Int32)), .val (.int (16 : Int32))] [(.int (16 : Int32)), (.int (11 : Int32))])) _
      refine XS.icmpNo X.here hx rfl (hb hby d4_9) rfl (tlt (by decide)).2.1 ?_
      show Steps p.tables e below (T33.setTop (mkF m 12 #[.val (.ref xa), .val (.long fv), .second, .val (.int (11 : Int32)), .val (.int (16 : Int32))] [])) _
      refine XS.aloadN X.here hx rfl (hb hby d4_12) rfl rfl ?_
      show Steps p.tables e below (T33.setTop (mkF m 13 #[.val (.ref xa), .val (.long fv), .second, .val (.int (11 : Int32)), .val (.int (16 : Int32))] [(.ref xa)])) _
      refine XS.iloadN X.here hx rfl (hb hby d4_13) rfl ?_
      show Steps p.tables e below (T33.setTop (mkF m 14 #[.val (.ref xa), .val (.long fv), .second, .val (.int (11 : Int32)), .val (.int (16 : Int32))] [(.int (11 : Int32)), (.ref xa)])) _
      refine XS.lloadN X.here hx rfl (hb hby d4_14) rfl ?_
      exact k)
  obtain ⟨cl35, Ar35, hin35, hat35⟩ := own_rd (by decide) V_xa 11 (by decide)
  obtain ⟨T36, h37, X, eh, W35, sx⟩ := stJ X hx hZ eh Ar35 (j := Int32.ofNat 11) hin35 (g := (mkF m 15 #[.val (.ref xa), .val (.long fv), .second, .val (.int (11 : Int32)), .val (.int (16 : Int32))] [(.long fv), (.int (11 : Int32)), (.ref xa)])) rfl rfl (hb hby d4_15)
  have st : ∀ t, Steps p.tables e below (T36.setTop (mkF m 16 #[.val (.ref xa), .val (.long fv), .second, .val (.int (11 : Int32)), .val (.int (16 : Int32))] [])) t → Steps p.tables e below (s₁.setTop (mkF m 0 #[.val (.ref xa), .val (.long fv), .second, .unset, .unset] [])) t := fun t k => st t (sx t k)
  have K := K.wr W35 (Or.inl (List.mem_of_getElem? (i := 0) rfl))
  have Z0 := Nat.le_trans Z0 (Keep.of_wr W35).1
  have V_xa := own_st (by decide) V_xa 11 (by decide) fv W35
  have N := Fr.snoc X N g_xa
  have st : ∀ t, Steps p.tables e below (T36.setTop (mkF m 15 #[.val (.ref xa), .val (.long fv), .second, .val (.int (12 : Int32)), .val (.int (16 : Int32))] [(.long fv), (.int (12 : Int32)), (.ref xa)])) t → Steps p.tables e below (s₁.setTop (mkF m 0 #[.val (.ref xa), .val (.long fv), .second, .unset, .unset] [])) t := fun t k => st t (by
      show Steps p.tables e below (T36.setTop (mkF m 16 #[.val (.ref xa), .val (.long fv), .second, .val (.int (11 : Int32)), .val (.int (16 : Int32))] [])) _
      refine XS.iinc X.here hx rfl (hb hby d4_16) rfl (l' := #[.val (.ref xa), .val (.long fv), .second, .val (.int (12 : Int32)), .val (.int (16 : Int32))]) rfl ?_
      show Steps p.tables e below (T36.setTop (mkF m 19 #[.val (.ref xa), .val (.long fv), .second, .val (.int (12 : Int32)), .val (.int (16 : Int32))] [])) _
      refine XS.goto X.here hx rfl (pc0 := 19) (pc' := 6) rfl (hb hby d4_19) (by decide) (by decide) ?_
      show Steps p.tables e below (T36.setTop (mkF m 6 #[.val (.ref xa), .val (.long fv), .second, .val (.int (12 : Int32)), .val (.int (16 : Int32))] [])) _
      refine XS.iloadN X.here hx rfl (hb hby d4_6) rfl ?_
      show Steps p.tables e below (T36.setTop (mkF m 7 #[.val (.ref xa), .val (.long fv), .second, .val (.int (12 : Int32)), .val (.int (16 : Int32))] [(.int (12 : Int32))])) _
      refine XS.iload X.here hx rfl (hb hby d4_7) rfl ?_
      show Steps p.tables e below (T36.setTop (mkF m 9 #[.val (.ref xa), .val (.long fv), .second, .val (.int (12 : Int32)), .val (.int (16 : Int32))] [(.int (16 : Int32)), (.int (12 : Int32))])) _
      refine XS.icmpNo X.here hx rfl (hb hby d4_9) rfl (tlt (by decide)).2.1 ?_
      show Steps p.tables e below (T36.setTop (mkF m 12 #[.val (.ref xa), .val (.long fv), .second, .val (.int (12 : Int32)), .val (.int (16 : Int32))] [])) _
      refine XS.aloadN X.here hx rfl (hb hby d4_12) rfl rfl ?_
      show Steps p.tables e below (T36.setTop (mkF m 13 #[.val (.ref xa), .val (.long fv), .second, .val (.int (12 : Int32)), .val (.int (16 : Int32))] [(.ref xa)])) _
      refine XS.iloadN X.here hx rfl (hb hby d4_13) rfl ?_
      show Steps p.tables e below (T36.setTop (mkF m 14 #[.val (.ref xa), .val (.long fv), .second, .val (.int (12 : Int32)), .val (.int (16 : Int32))] [(.int (12 : Int32)), (.ref xa)])) _
      refine XS.lloadN X.here hx rfl (hb hby d4_14) rfl ?_
      exact k)
  obtain ⟨cl38, Ar38, hin38, hat38⟩ := own_rd (by decide) V_xa 12 (by decide)
  obtain ⟨T39, h40, X, eh, W38, sx⟩ := stJ X hx hZ eh Ar38 (j := Int32.ofNat 12) hin38 (g := (mkF m 15 #[.val (.ref xa), .val (.long fv), .second, .val (.int (12 : Int32)), .val (.int (16 : Int32))] [(.long fv), (.int (12 : Int32)), (.ref xa)])) rfl rfl (hb hby d4_15)
  have st : ∀ t, Steps p.tables e below (T39.setTop (mkF m 16 #[.val (.ref xa), .val (.long fv), .second, .val (.int (12 : Int32)), .val (.int (16 : Int32))] [])) t → Steps p.tables e below (s₁.setTop (mkF m 0 #[.val (.ref xa), .val (.long fv), .second, .unset, .unset] [])) t := fun t k => st t (sx t k)
  have K := K.wr W38 (Or.inl (List.mem_of_getElem? (i := 0) rfl))
  have Z0 := Nat.le_trans Z0 (Keep.of_wr W38).1
  have V_xa := own_st (by decide) V_xa 12 (by decide) fv W38
  have N := Fr.snoc X N g_xa
  have st : ∀ t, Steps p.tables e below (T39.setTop (mkF m 15 #[.val (.ref xa), .val (.long fv), .second, .val (.int (13 : Int32)), .val (.int (16 : Int32))] [(.long fv), (.int (13 : Int32)), (.ref xa)])) t → Steps p.tables e below (s₁.setTop (mkF m 0 #[.val (.ref xa), .val (.long fv), .second, .unset, .unset] [])) t := fun t k => st t (by
      show Steps p.tables e below (T39.setTop (mkF m 16 #[.val (.ref xa), .val (.long fv), .second, .val (.int (12 : Int32)), .val (.int (16 : Int32))] [])) _
      refine XS.iinc X.here hx rfl (hb hby d4_16) rfl (l' := #[.val (.ref xa), .val (.long fv), .second, .val (.int (13 : Int32)), .val (.int (16 : Int32))]) rfl ?_
      show Steps p.tables e below (T39.setTop (mkF m 19 #[.val (.ref xa), .val (.long fv), .second, .val (.int (13 : Int32)), .val (.int (16 : Int32))] [])) _
      refine XS.goto X.here hx rfl (pc0 := 19) (pc' := 6) rfl (hb hby d4_19) (by decide) (by decide) ?_
      show Steps p.tables e below (T39.setTop (mkF m 6 #[.val (.ref xa), .val (.long fv), .second, .val (.int (13 : Int32)), .val (.int (16 : Int32))] [])) _
      refine XS.iloadN X.here hx rfl (hb hby d4_6) rfl ?_
      show Steps p.tables e below (T39.setTop (mkF m 7 #[.val (.ref xa), .val (.long fv), .second, .val (.int (13 : Int32)), .val (.int (16 : Int32))] [(.int (13 : Int32))])) _
      refine XS.iload X.here hx rfl (hb hby d4_7) rfl ?_
      show Steps p.tables e below (T39.setTop (mkF m 9 #[.val (.ref xa), .val (.long fv), .second, .val (.int (13 : Int32)), .val (.int (16 : Int32))] [(.int (16 : Int32)), (.int (13 : Int32))])) _
      refine XS.icmpNo X.here hx rfl (hb hby d4_9) rfl (tlt (by decide)).2.1 ?_
      show Steps p.tables e below (T39.setTop (mkF m 12 #[.val (.ref xa), .val (.long fv), .second, .val (.int (13 : Int32)), .val (.int (16 : Int32))] [])) _
      refine XS.aloadN X.here hx rfl (hb hby d4_12) rfl rfl ?_
      show Steps p.tables e below (T39.setTop (mkF m 13 #[.val (.ref xa), .val (.long fv), .second, .val (.int (13 : Int32)), .val (.int (16 : Int32))] [(.ref xa)])) _
      refine XS.iloadN X.here hx rfl (hb hby d4_13) rfl ?_
      show Steps p.tables e below (T39.setTop (mkF m 14 #[.val (.ref xa), .val (.long fv), .second, .val (.int (13 : Int32)), .val (.int (16 : Int32))] [(.int (13 : Int32)), (.ref xa)])) _
      refine XS.lloadN X.here hx rfl (hb hby d4_14) rfl ?_
      exact k)
  obtain ⟨cl41, Ar41, hin41, hat41⟩ := own_rd (by decide) V_xa 13 (by decide)
  obtain ⟨T42, h43, X, eh, W41, sx⟩ := stJ X hx hZ eh Ar41 (j := Int32.ofNat 13) hin41 (g := (mkF m 15 #[.val (.ref xa), .val (.long fv), .second, .val (.int (13 : Int32)), .val (.int (16 : Int32))] [(.long fv), (.int (13 : Int32)), (.ref xa)])) rfl rfl (hb hby d4_15)
  have st : ∀ t, Steps p.tables e below (T42.setTop (mkF m 16 #[.val (.ref xa), .val (.long fv), .second, .val (.int (13 : Int32)), .val (.int (16 : Int32))] [])) t → Steps p.tables e below (s₁.setTop (mkF m 0 #[.val (.ref xa), .val (.long fv), .second, .unset, .unset] [])) t := fun t k => st t (sx t k)
  have K := K.wr W41 (Or.inl (List.mem_of_getElem? (i := 0) rfl))
  have Z0 := Nat.le_trans Z0 (Keep.of_wr W41).1
  have V_xa := own_st (by decide) V_xa 13 (by decide) fv W41
  have N := Fr.snoc X N g_xa
  have st : ∀ t, Steps p.tables e below (T42.setTop (mkF m 15 #[.val (.ref xa), .val (.long fv), .second, .val (.int (14 : Int32)), .val (.int (16 : Int32))] [(.long fv), (.int (14 : Int32)), (.ref xa)])) t → Steps p.tables e below (s₁.setTop (mkF m 0 #[.val (.ref xa), .val (.long fv), .second, .unset, .unset] [])) t := fun t k => st t (by
      show Steps p.tables e below (T42.setTop (mkF m 16 #[.val (.ref xa), .val (.long fv), .second, .val (.int (13 : Int32)), .val (.int (16 : Int32))] [])) _
      refine XS.iinc X.here hx rfl (hb hby d4_16) rfl (l' := #[.val (.ref xa), .val (.long fv), .second, .val (.int (14 : Int32)), .val (.int (16 : Int32))]) rfl ?_
      show Steps p.tables e below (T42.setTop (mkF m 19 #[.val (.ref xa), .val (.long fv), .second, .val (.int (14 : Int32)), .val (.int (16 : Int32))] [])) _
      refine XS.goto X.here hx rfl (pc0 := 19) (pc' := 6) rfl (hb hby d4_19) (by decide) (by decide) ?_
      show Steps p.tables e below (T42.setTop (mkF m 6 #[.val (.ref xa), .val (.long fv), .second, .val (.int (14 : Int32)), .val (.int (16 : Int32))] [])) _
      refine XS.iloadN X.here hx rfl (hb hby d4_6) rfl ?_
      show Steps p.tables e below (T42.setTop (mkF m 7 #[.val (.ref xa), .val (.long fv), .second, .val (.int (14 : Int32)), .val (.int (16 : Int32))] [(.int (14 : Int32))])) _
      refine XS.iload X.here hx rfl (hb hby d4_7) rfl ?_
      show Steps p.tables e below (T42.setTop (mkF m 9 #[.val (.ref xa), .val (.long fv), .second, .val (.int (14 : Int32)), .val (.int (16 : Int32))] [(.int (16 : Int32)), (.int (14 : Int32))])) _
      refine XS.icmpNo X.here hx rfl (hb hby d4_9) rfl (tlt (by decide)).2.1 ?_
      show Steps p.tables e below (T42.setTop (mkF m 12 #[.val (.ref xa), .val (.long fv), .second, .val (.int (14 : Int32)), .val (.int (16 : Int32))] [])) _
      refine XS.aloadN X.here hx rfl (hb hby d4_12) rfl rfl ?_
      show Steps p.tables e below (T42.setTop (mkF m 13 #[.val (.ref xa), .val (.long fv), .second, .val (.int (14 : Int32)), .val (.int (16 : Int32))] [(.ref xa)])) _
      refine XS.iloadN X.here hx rfl (hb hby d4_13) rfl ?_
      show Steps p.tables e below (T42.setTop (mkF m 14 #[.val (.ref xa), .val (.long fv), .second, .val (.int (14 : Int32)), .val (.int (16 : Int32))] [(.int (14 : Int32)), (.ref xa)])) _
      refine XS.lloadN X.here hx rfl (hb hby d4_14) rfl ?_
      exact k)
  obtain ⟨cl44, Ar44, hin44, hat44⟩ := own_rd (by decide) V_xa 14 (by decide)
  obtain ⟨T45, h46, X, eh, W44, sx⟩ := stJ X hx hZ eh Ar44 (j := Int32.ofNat 14) hin44 (g := (mkF m 15 #[.val (.ref xa), .val (.long fv), .second, .val (.int (14 : Int32)), .val (.int (16 : Int32))] [(.long fv), (.int (14 : Int32)), (.ref xa)])) rfl rfl (hb hby d4_15)
  have st : ∀ t, Steps p.tables e below (T45.setTop (mkF m 16 #[.val (.ref xa), .val (.long fv), .second, .val (.int (14 : Int32)), .val (.int (16 : Int32))] [])) t → Steps p.tables e below (s₁.setTop (mkF m 0 #[.val (.ref xa), .val (.long fv), .second, .unset, .unset] [])) t := fun t k => st t (sx t k)
  have K := K.wr W44 (Or.inl (List.mem_of_getElem? (i := 0) rfl))
  have Z0 := Nat.le_trans Z0 (Keep.of_wr W44).1
  have V_xa := own_st (by decide) V_xa 14 (by decide) fv W44
  have N := Fr.snoc X N g_xa
  have st : ∀ t, Steps p.tables e below (T45.setTop (mkF m 15 #[.val (.ref xa), .val (.long fv), .second, .val (.int (15 : Int32)), .val (.int (16 : Int32))] [(.long fv), (.int (15 : Int32)), (.ref xa)])) t → Steps p.tables e below (s₁.setTop (mkF m 0 #[.val (.ref xa), .val (.long fv), .second, .unset, .unset] [])) t := fun t k => st t (by
      show Steps p.tables e below (T45.setTop (mkF m 16 #[.val (.ref xa), .val (.long fv), .second, .val (.int (14 : Int32)), .val (.int (16 : Int32))] [])) _
      refine XS.iinc X.here hx rfl (hb hby d4_16) rfl (l' := #[.val (.ref xa), .val (.long fv), .second, .val (.int (15 : Int32)), .val (.int (16 : Int32))]) rfl ?_
      show Steps p.tables e below (T45.setTop (mkF m 19 #[.val (.ref xa), .val (.long fv), .second, .val (.int (15 : Int32)), .val (.int (16 : Int32))] [])) _
      refine XS.goto X.here hx rfl (pc0 := 19) (pc' := 6) rfl (hb hby d4_19) (by decide) (by decide) ?_
      show Steps p.tables e below (T45.setTop (mkF m 6 #[.val (.ref xa), .val (.long fv), .second, .val (.int (15 : Int32)), .val (.int (16 : Int32))] [])) _
      refine XS.iloadN X.here hx rfl (hb hby d4_6) rfl ?_
      show Steps p.tables e below (T45.setTop (mkF m 7 #[.val (.ref xa), .val (.long fv), .second, .val (.int (15 : Int32)), .val (.int (16 : Int32))] [(.int (15 : Int32))])) _
      refine XS.iload X.here hx rfl (hb hby d4_7) rfl ?_
      show Steps p.tables e below (T45.setTop (mkF m 9 #[.val (.ref xa), .val (.long fv), .second, .val (.int (15 : Int32)), .val (.int (16 : Int32))] [(.int (16 : Int32)), (.int (15 : Int32))])) _
      refine XS.icmpNo X.here hx rfl (hb hby d4_9) rfl (tlt (by decide)).2.1 ?_
      show Steps p.tables e below (T45.setTop (mkF m 12 #[.val (.ref xa), .val (.long fv), .second, .val (.int (15 : Int32)), .val (.int (16 : Int32))] [])) _
      refine XS.aloadN X.here hx rfl (hb hby d4_12) rfl rfl ?_
      show Steps p.tables e below (T45.setTop (mkF m 13 #[.val (.ref xa), .val (.long fv), .second, .val (.int (15 : Int32)), .val (.int (16 : Int32))] [(.ref xa)])) _
      refine XS.iloadN X.here hx rfl (hb hby d4_13) rfl ?_
      show Steps p.tables e below (T45.setTop (mkF m 14 #[.val (.ref xa), .val (.long fv), .second, .val (.int (15 : Int32)), .val (.int (16 : Int32))] [(.int (15 : Int32)), (.ref xa)])) _
      refine XS.lloadN X.here hx rfl (hb hby d4_14) rfl ?_
      exact k)
  obtain ⟨cl47, Ar47, hin47, hat47⟩ := own_rd (by decide) V_xa 15 (by decide)
  obtain ⟨T48, h49, X, eh, W47, sx⟩ := stJ X hx hZ eh Ar47 (j := Int32.ofNat 15) hin47 (g := (mkF m 15 #[.val (.ref xa), .val (.long fv), .second, .val (.int (15 : Int32)), .val (.int (16 : Int32))] [(.long fv), (.int (15 : Int32)), (.ref xa)])) rfl rfl (hb hby d4_15)
  have st : ∀ t, Steps p.tables e below (T48.setTop (mkF m 16 #[.val (.ref xa), .val (.long fv), .second, .val (.int (15 : Int32)), .val (.int (16 : Int32))] [])) t → Steps p.tables e below (s₁.setTop (mkF m 0 #[.val (.ref xa), .val (.long fv), .second, .unset, .unset] [])) t := fun t k => st t (sx t k)
  have K := K.wr W47 (Or.inl (List.mem_of_getElem? (i := 0) rfl))
  have Z0 := Nat.le_trans Z0 (Keep.of_wr W47).1
  have V_xa := own_st (by decide) V_xa 15 (by decide) fv W47
  have N := Fr.snoc X N g_xa
  have V_xa : Arv Z h49 xa k_xa .long (Int32.ofNat 16) (own_al 16 (fun _ => fv)) (.long (0 : Int64)) := V_xa
  have st : ∀ t, Steps p.tables e below (T48.setTop (mkF m 22 #[.val (.ref xa), .val (.long fv), .second, .val (.int (16 : Int32)), .val (.int (16 : Int32))] [])) t → Steps p.tables e below (s₁.setTop (mkF m 0 #[.val (.ref xa), .val (.long fv), .second, .unset, .unset] [])) t := fun t k => st t (by
      show Steps p.tables e below (T48.setTop (mkF m 16 #[.val (.ref xa), .val (.long fv), .second, .val (.int (15 : Int32)), .val (.int (16 : Int32))] [])) _
      refine XS.iinc X.here hx rfl (hb hby d4_16) rfl (l' := #[.val (.ref xa), .val (.long fv), .second, .val (.int (16 : Int32)), .val (.int (16 : Int32))]) rfl ?_
      show Steps p.tables e below (T48.setTop (mkF m 19 #[.val (.ref xa), .val (.long fv), .second, .val (.int (16 : Int32)), .val (.int (16 : Int32))] [])) _
      refine XS.goto X.here hx rfl (pc0 := 19) (pc' := 6) rfl (hb hby d4_19) (by decide) (by decide) ?_
      show Steps p.tables e below (T48.setTop (mkF m 6 #[.val (.ref xa), .val (.long fv), .second, .val (.int (16 : Int32)), .val (.int (16 : Int32))] [])) _
      refine XS.iloadN X.here hx rfl (hb hby d4_6) rfl ?_
      show Steps p.tables e below (T48.setTop (mkF m 7 #[.val (.ref xa), .val (.long fv), .second, .val (.int (16 : Int32)), .val (.int (16 : Int32))] [(.int (16 : Int32))])) _
      refine XS.iload X.here hx rfl (hb hby d4_7) rfl ?_
      show Steps p.tables e below (T48.setTop (mkF m 9 #[.val (.ref xa), .val (.long fv), .second, .val (.int (16 : Int32)), .val (.int (16 : Int32))] [(.int (16 : Int32)), (.int (16 : Int32))])) _
      refine XS.icmpYes X.here hx rfl (pc0 := 9) (pc' := 22) rfl (hb hby d4_9) rfl (flt (by decide)).2.1 (by decide) (by decide) ?_
      exact k)
  obtain ⟨fs_, hr, hrun, hended, hW, hsame⟩ := X.leave (v := none) (fun _ => rfl)
  refine ⟨_, _, pre0 _ (st _ ?_), hrun, hended, _, _, rfl, ?_, ⟨_, rfl⟩, hW, hsame.mono (by decide) (by decide)⟩
  · exact X.returnOut hx Bd.returns (hb hby d4_22) hr
  · show Q_rm4 Z xa fv k_xa f h0 n0 _ T48.heap _
    rw [eh]
    exact ⟨rfl, N, K, V_xa⟩
theorem d3_0 : decode prog_46_method_12_code 0 = .ok (.iload_n 0, 1) := by decide +kernel
theorem d3_1 : decode prog_46_method_12_code 1 = .ok (.newarray .long, 2) := by decide +kernel
theorem d3_3 : decode prog_46_method_12_code 3 = .ok (.astore_n 1, 1) := by decide +kernel
theorem d3_4 : decode prog_46_method_12_code 4 = .ok (.aload_n 1, 1) := by decide +kernel
theorem d3_5 : decode prog_46_method_12_code 5 = .ok (.ldc2_w 72, 3) := by decide +kernel
theorem d3_8 : decode prog_46_method_12_code 8 = .ok (.invokestatic 76, 3) := by decide +kernel
theorem d3_11 : decode prog_46_method_12_code 11 = .ok (.aload_n 1, 1) := by decide +kernel
theorem d3_12 : decode prog_46_method_12_code 12 = .ok (.areturn, 1) := by decide +kernel
theorem own_pn3 : plainName "com/example/paretoloom/paretoloom/TabuList" = true := by first | (simp [plainName, overriddenIn]; done) | decide +kernel
def Q_rm3 (Z : State)   (h0 : Heap) (n0 : Nat) (v : Option Value) (h : Heap) (L : List Loc) : Prop := ∃ (xa : Addr) (k_xa : ClassId), v = some (.ref xa) ∧ Fr n0 L ∧ Keep h0 h [] ∧ h0.size ≤ xa ∧ n0 ≤ xa ∧ Arv Z h xa k_xa .long (Int32.ofNat 16) (own_al 16 (fun _ => (-1 : Int64))) (.long (0 : Int64))
theorem own_pd0 : parseMethodDescriptor "([JJ)V" = some ⟨[(.array .long), .long], none⟩ := by decide +kernel
theorem ef_rm3 (m : MethodId) (x0 : Int32) : entryFrame m #[(.int x0)] 2 = mkF m 0 #[.val (.int x0), .unset] [] := by first | (simp [entryFrame, mkF, argsToLocals, Value.category]; done) | rfl
set_option maxRecDepth 65536 in
set_option maxHeartbeats 40000000 in
theorem rm3 (l : Launch) (Z : State) (a0 : Array Value) (hw : ∀ d ∈ tables_1, d.before a0 Z = true) (ws : List Jvm.Cond)   (h0 : Heap) (n0 : Nat) (Z0 : n0 ≤ h0.size)  :
    MetFree l (⟨"com/example/paretoloom/paretoloom/TabuList", "emptySlots", "(I)[J"⟩ : MethodName) (head1 (Jvm.Cond.code (⟨"com/example/paretoloom/paretoloom/TabuList", "emptySlots", "(I)[J"⟩ : MethodName) prog_46_method_12_code 2 (some (.array .long)) :: ws) ({ frames := 1, cells := 1, slots := 16, locals := 16 } : Room)) (fun a' U => a' = #[(.int (16 : Int32))] ∧ Z.Warmed39 U.vm ∧ U.heap = h0) (fun _ _ _ _ _ => True) (fun _ U o U' => ∃ v L, o = .returned v ∧ Q_rm3 Z  h0 n0 v U'.heap L ∧ FrameEnd U o U' L ({ frames := 1, cells := 1, slots := 16, locals := 16 } : Room).cells ({ frames := 1, cells := 1, slots := 16, locals := 16 } : Room).slots) := by
  refine MetFree.of_bodySF (plainFor_of_name own_pn3) hisR ?_
  intro p e s m args below meth cd0 s₁ Bd hml0 hP hK
  obtain ⟨rfl, hZ, hh⟩ := hP
  have hx := Bd.exec
  have hby := Bd.bytes
  have hml : cd0.maxLocals = 2 := hml0
  have hown : s.vm.findClass "com/example/paretoloom/paretoloom/TabuList" = some m.cls := findClass_of_methodNamed Bd.named
  have hnm := (name_of_methodNamed Bd.named Bd.method).1
  have X : Stand p l e ({ frames := 1, cells := 1, slots := 16, locals := 16 } : Room) s m #[(.int (16 : Int32))] below meth cd0 s₁ [] 0 0 := Stand.of_body Bd
  have eh : s₁.heap = h0 := by rw [← hh, Bd.state]; rfl
  have N := Fr.nil n0
  have K : Keep h0 h0 [] := Keep.refl _ _
  have pre0 : ∀ t, Steps p.tables e below (s₁.setTop (mkF m 0 #[.val (.int (16 : Int32)), .unset] [])) t → Steps p.tables e below (s₁.setTop (entryFrame m #[(.int (16 : Int32))] 2)) t := fun t k => castTop (ef_rm3 m (16 : Int32)) k
  have st : ∀ t, Steps p.tables e below (s₁.setTop (mkF m 0 #[.val (.int (16 : Int32)), .unset] [])) t → Steps p.tables e below (s₁.setTop (mkF m 0 #[.val (.int (16 : Int32)), .unset] [])) t := fun t k => k
  have st : ∀ t, Steps p.tables e below (s₁.setTop (mkF m 1 #[.val (.int (16 : Int32)), .unset] [(.int (16 : Int32))])) t → Steps p.tables e below (s₁.setTop (mkF m 0 #[.val (.int (16 : Int32)), .unset] [])) t := fun t k => st t (by
      show Steps p.tables e below (s₁.setTop (mkF m 0 #[.val (.int (16 : Int32)), .unset] [])) _
      refine XS.iloadN X.here hx rfl (hb hby d3_0) rfl ?_
      exact k)
  obtain ⟨T1, h2, k_xa, X, eh, E3, A3, sx⟩ := newP X hx hZ (hw _ (List.mem_of_getElem? (i := 13) rfl)) eh (g := (mkF m 1 #[.val (.int (16 : Int32)), .unset] [(.int (16 : Int32))])) rfl (hb hby d3_1) rfl (by decide) (cap := 16) (by decide) (by decide) (by decide) (by decide)
  obtain ⟨xa, g3⟩ : ∃ z, z = h0.size := ⟨_, rfl⟩
  have g_xa : n0 ≤ xa := Nat.le_trans Z0 (Nat.le_of_eq g3.symm)
  have sz_xa : h0.size ≤ xa := Nat.le_trans K.1 (Nat.le_of_eq g3.symm)
  rw [← g3] at A3 sx
  have st : ∀ t, Steps p.tables e below (T1.setTop (mkF m 3 #[.val (.int (16 : Int32)), .unset] [(.ref xa)])) t → Steps p.tables e below (s₁.setTop (mkF m 0 #[.val (.int (16 : Int32)), .unset] [])) t := fun t k => st t (sx t k)
  have K := K.ext E3
  have Z0 := Nat.le_trans Z0 E3.1
  have V_xa : Arv Z h2 xa k_xa .long (16 : Int32) (List.replicate 16 (.long (0 : Int64))) (.long (0 : Int64)) := (Arv.new A3 (by decide)).pad (pad_rep [] (.long (0 : Int64)) 16)
  have V_xa : Arv Z h2 xa k_xa .long (Int32.ofNat 16) (own_al 16 (fun _ => (0 : Int64))) (.long (0 : Int64)) := V_xa
  have st : ∀ t, Steps p.tables e below (T1.setTop (mkF m 8 #[.val (.int (16 : Int32)), .val (.ref xa)] [(.long (-1 : Int64)), (.ref xa)])) t → Steps p.tables e below (s₁.setTop (mkF m 0 #[.val (.int (16 : Int32)), .unset] [])) t := fun t k => st t (by
      show Steps p.tables e below (T1.setTop (mkF m 3 #[.val (.int (16 : Int32)), .unset] [(.ref xa)])) _
      refine XS.astoreN X.here hx rfl (hb hby d3_3) rfl rfl (l' := #[.val (.int (16 : Int32)), .val (.ref xa)]) rfl ?_
      show Steps p.tables e below (T1.setTop (mkF m 4 #[.val (.int (16 : Int32)), .val (.ref xa)] [])) _
      refine XS.aloadN X.here hx rfl (hb hby d3_4) rfl rfl ?_
      show Steps p.tables e below (T1.setTop (mkF m 5 #[.val (.int (16 : Int32)), .val (.ref xa)] [(.ref xa)])) _
      refine X.ldc2Long hx hown (mvT hZ (hw _ (List.mem_of_getElem? (i := 14) rfl))) (g := (mkF m 5 #[.val (.int (16 : Int32)), .val (.ref xa)] [(.ref xa)])) rfl (hb hby d3_5) _ ?_
      exact k)
  obtain ⟨_, _, ⟨T5, L4, k4, n4⟩, -, X, ⟨Lc4, hQ, l4, y4, z4⟩, sx⟩ := Jvm.LawKit.callS X hx (y := (⟨"java/util/Arrays", "fill", "([JJ)V"⟩ : MethodName)) hown (mvT hZ (hw _ (List.mem_of_getElem? (i := 15) rfl))) (mvT hZ (hw _ (List.mem_of_getElem? (i := 16) rfl))) (mvT hZ (hw _ (List.mem_of_getElem? (i := 17) rfl))) (mvT hZ (hw _ (List.mem_of_getElem? (i := 18) rfl))) (by decide) (backOf (W := 0) (rm4 l Z a0 hw [] xa (-1 : Int64) k_xa (fun _ => (0 : Int64)) h2 n0 Z0 V_xa g_xa) hZ (hw _ (List.mem_of_getElem? (i := 18) rfl)) (hw _ (List.mem_of_getElem? (i := 17) rfl)) (by decide) (by decide)) (g := (mkF m 8 #[.val (.int (16 : Int32)), .val (.ref xa)] [(.long (-1 : Int64)), (.ref xa)])) rfl (by rw [hml]; rfl) (argsL := [(.ref xa), (.long (-1 : Int64))]) (rest := []) (lenOf own_pd0 rfl) rfl (by show 2 * 0 + _ ≤ _; exact Nat.le_of_eq rfl) (hb hby d3_8) (fun _ _ => ⟨rfl, eh, (by decide : 1 + 0 ≤ _), (by decide : 16 + 0 ≤ _)⟩)
  dsimp only [Pt.U, Pt.locs, Pt.cells, Pt.slots] at X l4 y4 z4 sx hQ
  subst l4 y4 z4
  obtain ⟨rfl, Nc, K1, V_xa⟩ := hQ
  have st : ∀ t, Steps p.tables e below (T5.setTop (mkF m 11 #[.val (.int (16 : Int32)), .val (.ref xa)] [])) t → Steps p.tables e below (s₁.setTop (mkF m 0 #[.val (.int (16 : Int32)), .unset] [])) t := fun t k => st t (sx t k)
  have N := Fr.app N Nc
  obtain ⟨h6, eH⟩ : ∃ z, z = T5.heap := ⟨_, rfl⟩
  rw [← eH] at K1 V_xa
  have eh : T5.heap = h6 := eH.symm
  have K := K.trans K1 (allS (Or.inr sz_xa) all0)
  have Z0 := Nat.le_trans Z0 K1.1
  have st : ∀ t, Steps p.tables e below (T5.setTop (mkF m 12 #[.val (.int (16 : Int32)), .val (.ref xa)] [(.ref xa)])) t → Steps p.tables e below (s₁.setTop (mkF m 0 #[.val (.int (16 : Int32)), .unset] [])) t := fun t k => st t (by
      show Steps p.tables e below (T5.setTop (mkF m 11 #[.val (.int (16 : Int32)), .val (.ref xa)] [])) _
      refine XS.aloadN X.here hx rfl (hb hby d3_11) rfl rfl ?_
      exact k)
  obtain ⟨fs_, hr, hrun, hended, hW, hsame⟩ := X.leave (v := some (.ref xa)) (fun h => by rw [Bd.returns] at h; cases h)
  refine ⟨_, _, pre0 _ (st _ ?_), hrun, hended, _, _, rfl, ?_, ⟨_, rfl⟩, hW, hsame.mono (by decide) (by decide)⟩
  · exact retOut X hx Bd.returns rfl (Or.inr (Or.inr (Or.inr (Or.inr ⟨rfl, rfl, rfl⟩)))) (hb hby d3_12) hr
  · show Q_rm3 Z  h0 n0 _ T5.heap _
    rw [eh]
    exact ⟨xa, k_xa, rfl, N, K, sz_xa, g_xa, V_xa⟩
theorem d1_0 : decode prog_46_method_1_code 0 = .ok (.aload_n 0, 1) := by decide +kernel
theorem d1_1 : decode prog_46_method_1_code 1 = .ok (.invokespecial 1, 3) := by decide +kernel
theorem d1_4 : decode prog_46_method_1_code 4 = .ok (.aload_n 0, 1) := by decide +kernel
theorem d1_5 : decode prog_46_method_1_code 5 = .ok (.bipush 16, 2) := by decide +kernel
theorem d1_7 : decode prog_46_method_1_code 7 = .ok (.invokestatic 9, 3) := by decide +kernel
theorem d1_10 : decode prog_46_method_1_code 10 = .ok (.putfield 13, 3) := by decide +kernel
theorem d1_13 : decode prog_46_method_1_code 13 = .ok (.aload_n 0, 1) := by decide +kernel
theorem d1_14 : decode prog_46_method_1_code 14 = .ok (.bipush 16, 2) := by decide +kernel
theorem d1_16 : decode prog_46_method_1_code 16 = .ok (.newarray .long, 2) := by decide +kernel
theorem d1_18 : decode prog_46_method_1_code 18 = .ok (.putfield 17, 3) := by decide +kernel
theorem d1_21 : decode prog_46_method_1_code 21 = .ok (.aload_n 0, 1) := by decide +kernel
theorem d1_22 : decode prog_46_method_1_code 22 = .ok (.iload_n 1, 1) := by decide +kernel
theorem d1_23 : decode prog_46_method_1_code 23 = .ok (.putfield 20, 3) := by decide +kernel
theorem d1_26 : decode prog_46_method_1_code 26 = .ok (.aload_n 0, 1) := by decide +kernel
theorem d1_27 : decode prog_46_method_1_code 27 = .ok (.iload_n 2, 1) := by decide +kernel
theorem d1_28 : decode prog_46_method_1_code 28 = .ok (.putfield 24, 3) := by decide +kernel
theorem d1_31 : decode prog_46_method_1_code 31 = .ok (.aload_n 0, 1) := by decide +kernel
theorem d1_32 : decode prog_46_method_1_code 32 = .ok (.iload_n 1, 1) := by decide +kernel
theorem d1_33 : decode prog_46_method_1_code 33 = .ok (.newarray .long, 2) := by decide +kernel
theorem d1_35 : decode prog_46_method_1_code 35 = .ok (.putfield 27, 3) := by decide +kernel
theorem d1_38 : decode prog_46_method_1_code 38 = .ok (.aload_n 0, 1) := by decide +kernel
theorem d1_39 : decode prog_46_method_1_code 39 = .ok (.iload_n 1, 1) := by decide +kernel
theorem d1_40 : decode prog_46_method_1_code 40 = .ok (.newarray .long, 2) := by decide +kernel
theorem d1_42 : decode prog_46_method_1_code 42 = .ok (.putfield 30, 3) := by decide +kernel
theorem d1_45 : decode prog_46_method_1_code 45 = .ok (.aload_n 0, 1) := by decide +kernel
theorem d1_46 : decode prog_46_method_1_code 46 = .ok (.iload_n 1, 1) := by decide +kernel
theorem d1_47 : decode prog_46_method_1_code 47 = .ok (.newarray .long, 2) := by decide +kernel
theorem d1_49 : decode prog_46_method_1_code 49 = .ok (.putfield 33, 3) := by decide +kernel
theorem d1_52 : decode prog_46_method_1_code 52 = .ok (.return_, 1) := by decide +kernel
def Q_rm1 (Z : State) (tb : Addr)  (h0 : Heap) (n0 : Nat) (v : Option Value) (h : Heap) (L : List Loc) : Prop := v = none ∧ Fr n0 L ∧ Keep h0 h [tb] ∧ ∃ (ka ua fa sa ma : Addr) (k_ka k_ua k_fa k_sa k_ma : ClassId), own_TL Z h tb ka ua fa sa ma k_ka k_ua k_fa k_sa k_ma (fun _ => (-1 : Int64)) (fun _ => (0 : Int64)) (fun _ => 0) (fun _ => 0) (fun _ => (0 : Int64)) 0 0 ∧ own_D n0 tb ka ua fa sa ma
theorem own_pd1 : parseMethodDescriptor "(I)[J" = some ⟨[.int], some (.array .long)⟩ := by decide +kernel
theorem ef_rm1 (m : MethodId) (x0 : Addr) (x1 : Int32) (x2 : Int32) : entryFrame m #[(.ref x0), (.int x1), (.int x2)] 3 = mkF m 0 #[.val (.ref x0), .val (.int x1), .val (.int x2)] [] := by first | (simp [entryFrame, mkF, argsToLocals, Value.category]; done) | rfl
set_option maxRecDepth 65536 in
set_option maxHeartbeats 40000000 in
theorem rm1 (l : Launch) (Z : State) (a0 : Array Value) (hw : ∀ d ∈ tables_1, d.before a0 Z = true) (ws : List Jvm.Cond) (tb : Addr)  (h0 : Heap) (n0 : Nat) (Z0 : n0 ≤ h0.size) (E_tb : Exa Z h0 tb "com/example/paretoloom/paretoloom/TabuList") (g_tb : n0 ≤ tb) (F_tb_keys : Fld Z h0 tb "com/example/paretoloom/paretoloom/TabuList" "keys" "[J" .null) (F_tb_until : Fld Z h0 tb "com/example/paretoloom/paretoloom/TabuList" "until" "[J" .null) (F_tb_operations : Fld Z h0 tb "com/example/paretoloom/paretoloom/TabuList" "operations" "I" (.int (0 : Int32))) (F_tb_machines : Fld Z h0 tb "com/example/paretoloom/paretoloom/TabuList" "machines" "I" (.int (0 : Int32))) (F_tb_firstUntil : Fld Z h0 tb "com/example/paretoloom/paretoloom/TabuList" "firstUntil" "[J" .null) (F_tb_secondUntil : Fld Z h0 tb "com/example/paretoloom/paretoloom/TabuList" "secondUntil" "[J" .null) (F_tb_machineUntil : Fld Z h0 tb "com/example/paretoloom/paretoloom/TabuList" "machineUntil" "[J" .null) (F_tb_step : Fld Z h0 tb "com/example/paretoloom/paretoloom/TabuList" "step" "J" (.long (0 : Int64))) (F_tb_size : Fld Z h0 tb "com/example/paretoloom/paretoloom/TabuList" "size" "I" (.int (0 : Int32))) :
    MetFree l (⟨"com/example/paretoloom/paretoloom/TabuList", "<init>", "(II)V"⟩ : MethodName) (head1 (Jvm.Cond.code (⟨"com/example/paretoloom/paretoloom/TabuList", "<init>", "(II)V"⟩ : MethodName) prog_46_method_1_code 3 none :: ws) ({ frames := 2, cells := 5, slots := 41, locals := 30 } : Room)) (fun a' U => a' = #[(.ref tb), (.int (3 : Int32)), (.int (2 : Int32))] ∧ Z.Warmed39 U.vm ∧ U.heap = h0) (fun _ _ _ _ _ => True) (fun _ U o U' => ∃ v L, o = .returned v ∧ Q_rm1 Z tb h0 n0 v U'.heap L ∧ FrameEnd U o U' L ({ frames := 2, cells := 5, slots := 41, locals := 30 } : Room).cells ({ frames := 2, cells := 5, slots := 41, locals := 30 } : Room).slots) := by
  refine MetFree.of_bodySF (plainFor_of_name own_pn3) hisR ?_
  intro p e s m args below meth cd0 s₁ Bd hml0 hP hK
  obtain ⟨rfl, hZ, hh⟩ := hP
  have hx := Bd.exec
  have hby := Bd.bytes
  have hml : cd0.maxLocals = 3 := hml0
  have hown : s.vm.findClass "com/example/paretoloom/paretoloom/TabuList" = some m.cls := findClass_of_methodNamed Bd.named
  have hnm := (name_of_methodNamed Bd.named Bd.method).1
  have X : Stand p l e ({ frames := 2, cells := 5, slots := 41, locals := 30 } : Room) s m #[(.ref tb), (.int (3 : Int32)), (.int (2 : Int32))] below meth cd0 s₁ [] 0 0 := Stand.of_body Bd
  have eh : s₁.heap = h0 := by rw [← hh, Bd.state]; rfl
  have N := Fr.nil n0
  have K : Keep h0 h0 [tb] := Keep.refl _ _
  have pre0 : ∀ t, Steps p.tables e below (s₁.setTop (mkF m 0 #[.val (.ref tb), .val (.int (3 : Int32)), .val (.int (2 : Int32))] [])) t → Steps p.tables e below (s₁.setTop (entryFrame m #[(.ref tb), (.int (3 : Int32)), (.int (2 : Int32))] 3)) t := fun t k => castTop (ef_rm1 m tb (3 : Int32) (2 : Int32)) k
  have st : ∀ t, Steps p.tables e below (s₁.setTop (mkF m 0 #[.val (.ref tb), .val (.int (3 : Int32)), .val (.int (2 : Int32))] [])) t → Steps p.tables e below (s₁.setTop (mkF m 0 #[.val (.ref tb), .val (.int (3 : Int32)), .val (.int (2 : Int32))] [])) t := fun t k => k
  have st : ∀ t, Steps p.tables e below (s₁.setTop (mkF m 1 #[.val (.ref tb), .val (.int (3 : Int32)), .val (.int (2 : Int32))] [(.ref tb)])) t → Steps p.tables e below (s₁.setTop (mkF m 0 #[.val (.ref tb), .val (.int (3 : Int32)), .val (.int (2 : Int32))] [])) t := fun t k => st t (by
      show Steps p.tables e below (s₁.setTop (mkF m 0 #[.val (.ref tb), .val (.int (3 : Int32)), .val (.int (2 : Int32))] [])) _
      refine XS.aloadN X.here hx rfl (hb hby d1_0) rfl rfl ?_
      exact k)
  obtain ⟨T1, X, eh, sx⟩ := initO X hx hZ hown (hw _ (List.mem_of_getElem? (i := 7) rfl)) (hw _ (List.mem_of_getElem? (i := 8) rfl)) (hw _ (List.mem_of_getElem? (i := 9) rfl)) eh (g := (mkF m 1 #[.val (.ref tb), .val (.int (3 : Int32)), .val (.int (2 : Int32))] [(.ref tb)])) rfl (by rw [hml]; rfl) rfl (hb hby d1_1) (by decide) (W := 0) (by show 2 * 0 + _ ≤ _; exact Nat.le_of_eq rfl) (by decide)
  have st : ∀ t, Steps p.tables e below (T1.setTop (mkF m 4 #[.val (.ref tb), .val (.int (3 : Int32)), .val (.int (2 : Int32))] [])) t → Steps p.tables e below (s₁.setTop (mkF m 0 #[.val (.ref tb), .val (.int (3 : Int32)), .val (.int (2 : Int32))] [])) t := fun t k => st t (sx t k)
  have st : ∀ t, Steps p.tables e below (T1.setTop (mkF m 7 #[.val (.ref tb), .val (.int (3 : Int32)), .val (.int (2 : Int32))] [(.int (16 : Int32)), (.ref tb)])) t → Steps p.tables e below (s₁.setTop (mkF m 0 #[.val (.ref tb), .val (.int (3 : Int32)), .val (.int (2 : Int32))] [])) t := fun t k => st t (by
      show Steps p.tables e below (T1.setTop (mkF m 4 #[.val (.ref tb), .val (.int (3 : Int32)), .val (.int (2 : Int32))] [])) _
      refine XS.aloadN X.here hx rfl (hb hby d1_4) rfl rfl ?_
      show Steps p.tables e below (T1.setTop (mkF m 5 #[.val (.ref tb), .val (.int (3 : Int32)), .val (.int (2 : Int32))] [(.ref tb)])) _
      refine XS.bipush X.here hx rfl (hb hby d1_5) ?_
      exact k)
  have K00 := K
  have lt_tb := E_tb.lt
  obtain ⟨_, _, ⟨T3, L2, k2, n2⟩, -, X, ⟨Lc2, hQ, l2, y2, z2⟩, sx⟩ := Jvm.LawKit.callS X hx (y := (⟨"com/example/paretoloom/paretoloom/TabuList", "emptySlots", "(I)[J"⟩ : MethodName)) hown (mvT hZ (hw _ (List.mem_of_getElem? (i := 10) rfl))) (mvT hZ (hw _ (List.mem_of_getElem? (i := 11) rfl))) (mvT hZ (hw _ (List.mem_of_getElem? (i := 3) rfl))) (mvT hZ (hw _ (List.mem_of_getElem? (i := 12) rfl))) (by decide) (backOf (W := 1) (rm3 l Z a0 hw []   h0 n0 Z0 ) hZ (hw _ (List.mem_of_getElem? (i := 12) rfl)) (hw _ (List.mem_of_getElem? (i := 3) rfl)) (by decide) (by decide)) (g := (mkF m 7 #[.val (.ref tb), .val (.int (3 : Int32)), .val (.int (2 : Int32))] [(.int (16 : Int32)), (.ref tb)])) rfl (by rw [hml]; rfl) (argsL := [(.int (16 : Int32))]) (rest := [(.ref tb)]) (lenOf own_pd1 rfl) rfl (by show 2 * 0 + _ ≤ _; exact Nat.le_of_eq rfl) (hb hby d1_7) (fun _ _ => ⟨rfl, eh, (by decide : 0 + 1 ≤ _), (by decide : 0 + 16 ≤ _)⟩)
  dsimp only [Pt.U, Pt.locs, Pt.cells, Pt.slots] at X l2 y2 z2 sx hQ
  subst l2 y2 z2
  obtain ⟨ka, k_ka, rfl, Nc, K1, szp, g_ka, V_ka⟩ := hQ
  have st : ∀ t, Steps p.tables e below (T3.setTop (mkF m 10 #[.val (.ref tb), .val (.int (3 : Int32)), .val (.int (2 : Int32))] [(.ref ka), (.ref tb)])) t → Steps p.tables e below (s₁.setTop (mkF m 0 #[.val (.ref tb), .val (.int (3 : Int32)), .val (.int (2 : Int32))] [])) t := fun t k => st t (sx t k)
  have N := Fr.app N Nc
  obtain ⟨h4, eH⟩ : ∃ z, z = T3.heap := ⟨_, rfl⟩
  rw [← eH] at K1 V_ka
  have eh : T3.heap = h4 := eH.symm
  have F_tb_keys := F_tb_keys.keep K1 nin0
  have F_tb_until := F_tb_until.keep K1 nin0
  have F_tb_operations := F_tb_operations.keep K1 nin0
  have F_tb_machines := F_tb_machines.keep K1 nin0
  have F_tb_firstUntil := F_tb_firstUntil.keep K1 nin0
  have F_tb_secondUntil := F_tb_secondUntil.keep K1 nin0
  have F_tb_machineUntil := F_tb_machineUntil.keep K1 nin0
  have F_tb_step := F_tb_step.keep K1 nin0
  have F_tb_size := F_tb_size.keep K1 nin0
  have E_tb := E_tb.keep K1
  have K := K.trans K1 all0
  have Z0 := Nat.le_trans Z0 K1.1
  have sz_ka : h0.size ≤ ka := Nat.le_trans K00.1 szp
  have ne_tb_ka : tb ≠ ka := Nat.ne_of_lt (Nat.lt_of_lt_of_le lt_tb szp)
  obtain ⟨T5, h6, X, eh, W7, sx⟩ := putF X hx hZ hown (host := "") (Or.inl (hw _ (List.mem_of_getElem? (i := 19) rfl))) Via.refl eh F_tb_keys E_tb (Or.inl (hw _ (List.mem_of_getElem? (i := 20) rfl))) (hw _ (List.mem_of_getElem? (i := 2) rfl)) (ty := (.array .long)) (by decide) rfl rfl (g := (mkF m 10 #[.val (.ref tb), .val (.int (3 : Int32)), .val (.int (2 : Int32))] [(.ref ka), (.ref tb)])) rfl rfl (hb hby d1_10)
  have st : ∀ t, Steps p.tables e below (T5.setTop (mkF m 13 #[.val (.ref tb), .val (.int (3 : Int32)), .val (.int (2 : Int32))] [])) t → Steps p.tables e below (s₁.setTop (mkF m 0 #[.val (.ref tb), .val (.int (3 : Int32)), .val (.int (2 : Int32))] [])) t := fun t k => st t (sx t k)
  have F_tb_keys := F_tb_keys.same W7
  have F_tb_until := F_tb_until.other W7 (Or.inr (slot_ne (Or.inl (hw _ (List.mem_of_getElem? (i := 22) rfl))) (Or.inl (hw _ (List.mem_of_getElem? (i := 20) rfl))) (by decide) (t := (.array .long)) (t' := (.array .long)) (by decide) (by decide)))
  have F_tb_operations := F_tb_operations.other W7 (Or.inr (slot_ne (Or.inr (hw _ (List.mem_of_getElem? (i := 24) rfl))) (Or.inl (hw _ (List.mem_of_getElem? (i := 20) rfl))) (by decide) (t := .int) (t' := (.array .long)) (by decide) (by decide)))
  have F_tb_machines := F_tb_machines.other W7 (Or.inr (slot_ne (Or.inr (hw _ (List.mem_of_getElem? (i := 26) rfl))) (Or.inl (hw _ (List.mem_of_getElem? (i := 20) rfl))) (by decide) (t := .int) (t' := (.array .long)) (by decide) (by decide)))
  have F_tb_firstUntil := F_tb_firstUntil.other W7 (Or.inr (slot_ne (Or.inr (hw _ (List.mem_of_getElem? (i := 28) rfl))) (Or.inl (hw _ (List.mem_of_getElem? (i := 20) rfl))) (by decide) (t := (.array .long)) (t' := (.array .long)) (by decide) (by decide)))
  have F_tb_secondUntil := F_tb_secondUntil.other W7 (Or.inr (slot_ne (Or.inr (hw _ (List.mem_of_getElem? (i := 30) rfl))) (Or.inl (hw _ (List.mem_of_getElem? (i := 20) rfl))) (by decide) (t := (.array .long)) (t' := (.array .long)) (by decide) (by decide)))
  have F_tb_machineUntil := F_tb_machineUntil.other W7 (Or.inr (slot_ne (Or.inr (hw _ (List.mem_of_getElem? (i := 32) rfl))) (Or.inl (hw _ (List.mem_of_getElem? (i := 20) rfl))) (by decide) (t := (.array .long)) (t' := (.array .long)) (by decide) (by decide)))
  have F_tb_step := F_tb_step.other W7 (Or.inr (slot_ne (Or.inl (hw _ (List.mem_of_getElem? (i := 39) rfl))) (Or.inl (hw _ (List.mem_of_getElem? (i := 20) rfl))) (by decide) (t := .long) (t' := (.array .long)) (by decide) (by decide)))
  have F_tb_size := F_tb_size.other W7 (Or.inr (slot_ne (Or.inl (hw _ (List.mem_of_getElem? (i := 53) rfl))) (Or.inl (hw _ (List.mem_of_getElem? (i := 20) rfl))) (by decide) (t := .int) (t' := (.array .long)) (by decide) (by decide)))
  have E_tb := E_tb.wr W7
  have V_ka := V_ka.other W7 (Ne.symm ne_tb_ka)
  have K := K.wr W7 (Or.inl (List.mem_of_getElem? (i := 0) rfl))
  have Z0 := Nat.le_trans Z0 (Keep.of_wr W7).1
  have N := Fr.snoc X N g_tb
  have st : ∀ t, Steps p.tables e below (T5.setTop (mkF m 16 #[.val (.ref tb), .val (.int (3 : Int32)), .val (.int (2 : Int32))] [(.int (16 : Int32)), (.ref tb)])) t → Steps p.tables e below (s₁.setTop (mkF m 0 #[.val (.ref tb), .val (.int (3 : Int32)), .val (.int (2 : Int32))] [])) t := fun t k => st t (by
      show Steps p.tables e below (T5.setTop (mkF m 13 #[.val (.ref tb), .val (.int (3 : Int32)), .val (.int (2 : Int32))] [])) _
      refine XS.aloadN X.here hx rfl (hb hby d1_13) rfl rfl ?_
      show Steps p.tables e below (T5.setTop (mkF m 14 #[.val (.ref tb), .val (.int (3 : Int32)), .val (.int (2 : Int32))] [(.ref tb)])) _
      refine XS.bipush X.here hx rfl (hb hby d1_14) ?_
      exact k)
  obtain ⟨T8, h9, k_ua, X, eh, E10, A10, sx⟩ := newP X hx hZ (hw _ (List.mem_of_getElem? (i := 13) rfl)) eh (g := (mkF m 16 #[.val (.ref tb), .val (.int (3 : Int32)), .val (.int (2 : Int32))] [(.int (16 : Int32)), (.ref tb)])) rfl (hb hby d1_16) rfl (by decide) (cap := 16) (by decide) (by decide) (by decide) (by decide)
  obtain ⟨ua, g10⟩ : ∃ z, z = h6.size := ⟨_, rfl⟩
  have ne_ka_ua : ka ≠ ua := fun q => absurd V_ka.lt (by rw [q, g10]; exact Nat.lt_irrefl _)
  have ne_tb_ua : tb ≠ ua := fun q => absurd E_tb.lt (by rw [q, g10]; exact Nat.lt_irrefl _)
  have g_ua : n0 ≤ ua := Nat.le_trans Z0 (Nat.le_of_eq g10.symm)
  have sz_ua : h0.size ≤ ua := Nat.le_trans K.1 (Nat.le_of_eq g10.symm)
  rw [← g10] at A10 sx
  have st : ∀ t, Steps p.tables e below (T8.setTop (mkF m 18 #[.val (.ref tb), .val (.int (3 : Int32)), .val (.int (2 : Int32))] [(.ref ua), (.ref tb)])) t → Steps p.tables e below (s₁.setTop (mkF m 0 #[.val (.ref tb), .val (.int (3 : Int32)), .val (.int (2 : Int32))] [])) t := fun t k => st t (sx t k)
  have F_tb_keys := F_tb_keys.ext E10
  have F_tb_until := F_tb_until.ext E10
  have F_tb_operations := F_tb_operations.ext E10
  have F_tb_machines := F_tb_machines.ext E10
  have F_tb_firstUntil := F_tb_firstUntil.ext E10
  have F_tb_secondUntil := F_tb_secondUntil.ext E10
  have F_tb_machineUntil := F_tb_machineUntil.ext E10
  have F_tb_step := F_tb_step.ext E10
  have F_tb_size := F_tb_size.ext E10
  have E_tb := E_tb.ext E10
  have V_ka := V_ka.ext E10
  have K := K.ext E10
  have Z0 := Nat.le_trans Z0 E10.1
  have V_ua : Arv Z h9 ua k_ua .long (16 : Int32) (List.replicate 16 (.long (0 : Int64))) (.long (0 : Int64)) := (Arv.new A10 (by decide)).pad (pad_rep [] (.long (0 : Int64)) 16)
  have V_ua : Arv Z h9 ua k_ua .long (Int32.ofNat 16) (own_al 16 (fun _ => (0 : Int64))) (.long (0 : Int64)) := V_ua
  obtain ⟨T11, h12, X, eh, W13, sx⟩ := putF X hx hZ hown (host := "") (Or.inl (hw _ (List.mem_of_getElem? (i := 21) rfl))) Via.refl eh F_tb_until E_tb (Or.inl (hw _ (List.mem_of_getElem? (i := 22) rfl))) (hw _ (List.mem_of_getElem? (i := 2) rfl)) (ty := (.array .long)) (by decide) rfl rfl (g := (mkF m 18 #[.val (.ref tb), .val (.int (3 : Int32)), .val (.int (2 : Int32))] [(.ref ua), (.ref tb)])) rfl rfl (hb hby d1_18)
  have st : ∀ t, Steps p.tables e below (T11.setTop (mkF m 21 #[.val (.ref tb), .val (.int (3 : Int32)), .val (.int (2 : Int32))] [])) t → Steps p.tables e below (s₁.setTop (mkF m 0 #[.val (.ref tb), .val (.int (3 : Int32)), .val (.int (2 : Int32))] [])) t := fun t k => st t (sx t k)
  have F_tb_keys := F_tb_keys.other W13 (Or.inr (slot_ne (Or.inl (hw _ (List.mem_of_getElem? (i := 20) rfl))) (Or.inl (hw _ (List.mem_of_getElem? (i := 22) rfl))) (by decide) (t := (.array .long)) (t' := (.array .long)) (by decide) (by decide)))
  have F_tb_until := F_tb_until.same W13
  have F_tb_operations := F_tb_operations.other W13 (Or.inr (slot_ne (Or.inr (hw _ (List.mem_of_getElem? (i := 24) rfl))) (Or.inl (hw _ (List.mem_of_getElem? (i := 22) rfl))) (by decide) (t := .int) (t' := (.array .long)) (by decide) (by decide)))
  have F_tb_machines := F_tb_machines.other W13 (Or.inr (slot_ne (Or.inr (hw _ (List.mem_of_getElem? (i := 26) rfl))) (Or.inl (hw _ (List.mem_of_getElem? (i := 22) rfl))) (by decide) (t := .int) (t' := (.array .long)) (by decide) (by decide)))
  have F_tb_firstUntil := F_tb_firstUntil.other W13 (Or.inr (slot_ne (Or.inr (hw _ (List.mem_of_getElem? (i := 28) rfl))) (Or.inl (hw _ (List.mem_of_getElem? (i := 22) rfl))) (by decide) (t := (.array .long)) (t' := (.array .long)) (by decide) (by decide)))
  have F_tb_secondUntil := F_tb_secondUntil.other W13 (Or.inr (slot_ne (Or.inr (hw _ (List.mem_of_getElem? (i := 30) rfl))) (Or.inl (hw _ (List.mem_of_getElem? (i := 22) rfl))) (by decide) (t := (.array .long)) (t' := (.array .long)) (by decide) (by decide)))
  have F_tb_machineUntil := F_tb_machineUntil.other W13 (Or.inr (slot_ne (Or.inr (hw _ (List.mem_of_getElem? (i := 32) rfl))) (Or.inl (hw _ (List.mem_of_getElem? (i := 22) rfl))) (by decide) (t := (.array .long)) (t' := (.array .long)) (by decide) (by decide)))
  have F_tb_step := F_tb_step.other W13 (Or.inr (slot_ne (Or.inl (hw _ (List.mem_of_getElem? (i := 39) rfl))) (Or.inl (hw _ (List.mem_of_getElem? (i := 22) rfl))) (by decide) (t := .long) (t' := (.array .long)) (by decide) (by decide)))
  have F_tb_size := F_tb_size.other W13 (Or.inr (slot_ne (Or.inl (hw _ (List.mem_of_getElem? (i := 53) rfl))) (Or.inl (hw _ (List.mem_of_getElem? (i := 22) rfl))) (by decide) (t := .int) (t' := (.array .long)) (by decide) (by decide)))
  have E_tb := E_tb.wr W13
  have V_ka := V_ka.other W13 (Ne.symm ne_tb_ka)
  have V_ua := V_ua.other W13 (Ne.symm ne_tb_ua)
  have K := K.wr W13 (Or.inl (List.mem_of_getElem? (i := 0) rfl))
  have Z0 := Nat.le_trans Z0 (Keep.of_wr W13).1
  have N := Fr.snoc X N g_tb
  have st : ∀ t, Steps p.tables e below (T11.setTop (mkF m 23 #[.val (.ref tb), .val (.int (3 : Int32)), .val (.int (2 : Int32))] [(.int (3 : Int32)), (.ref tb)])) t → Steps p.tables e below (s₁.setTop (mkF m 0 #[.val (.ref tb), .val (.int (3 : Int32)), .val (.int (2 : Int32))] [])) t := fun t k => st t (by
      show Steps p.tables e below (T11.setTop (mkF m 21 #[.val (.ref tb), .val (.int (3 : Int32)), .val (.int (2 : Int32))] [])) _
      refine XS.aloadN X.here hx rfl (hb hby d1_21) rfl rfl ?_
      show Steps p.tables e below (T11.setTop (mkF m 22 #[.val (.ref tb), .val (.int (3 : Int32)), .val (.int (2 : Int32))] [(.ref tb)])) _
      refine XS.iloadN X.here hx rfl (hb hby d1_22) rfl ?_
      exact k)
  obtain ⟨T14, h15, X, eh, W16, sx⟩ := putF X hx hZ hown (host := "") (Or.inl (hw _ (List.mem_of_getElem? (i := 23) rfl))) Via.refl eh F_tb_operations E_tb (Or.inr ⟨(hw _ (List.mem_of_getElem? (i := 24) rfl)), rfl, hnm⟩) (hw _ (List.mem_of_getElem? (i := 2) rfl)) (ty := .int) (by decide) rfl rfl (g := (mkF m 23 #[.val (.ref tb), .val (.int (3 : Int32)), .val (.int (2 : Int32))] [(.int (3 : Int32)), (.ref tb)])) rfl rfl (hb hby d1_23)
  have st : ∀ t, Steps p.tables e below (T14.setTop (mkF m 26 #[.val (.ref tb), .val (.int (3 : Int32)), .val (.int (2 : Int32))] [])) t → Steps p.tables e below (s₁.setTop (mkF m 0 #[.val (.ref tb), .val (.int (3 : Int32)), .val (.int (2 : Int32))] [])) t := fun t k => st t (sx t k)
  have F_tb_keys := F_tb_keys.other W16 (Or.inr (slot_ne (Or.inl (hw _ (List.mem_of_getElem? (i := 20) rfl))) (Or.inr (hw _ (List.mem_of_getElem? (i := 24) rfl))) (by decide) (t := (.array .long)) (t' := .int) (by decide) (by decide)))
  have F_tb_until := F_tb_until.other W16 (Or.inr (slot_ne (Or.inl (hw _ (List.mem_of_getElem? (i := 22) rfl))) (Or.inr (hw _ (List.mem_of_getElem? (i := 24) rfl))) (by decide) (t := (.array .long)) (t' := .int) (by decide) (by decide)))
  have F_tb_operations := F_tb_operations.same W16
  have F_tb_machines := F_tb_machines.other W16 (Or.inr (slot_ne (Or.inr (hw _ (List.mem_of_getElem? (i := 26) rfl))) (Or.inr (hw _ (List.mem_of_getElem? (i := 24) rfl))) (by decide) (t := .int) (t' := .int) (by decide) (by decide)))
  have F_tb_firstUntil := F_tb_firstUntil.other W16 (Or.inr (slot_ne (Or.inr (hw _ (List.mem_of_getElem? (i := 28) rfl))) (Or.inr (hw _ (List.mem_of_getElem? (i := 24) rfl))) (by decide) (t := (.array .long)) (t' := .int) (by decide) (by decide)))
  have F_tb_secondUntil := F_tb_secondUntil.other W16 (Or.inr (slot_ne (Or.inr (hw _ (List.mem_of_getElem? (i := 30) rfl))) (Or.inr (hw _ (List.mem_of_getElem? (i := 24) rfl))) (by decide) (t := (.array .long)) (t' := .int) (by decide) (by decide)))
  have F_tb_machineUntil := F_tb_machineUntil.other W16 (Or.inr (slot_ne (Or.inr (hw _ (List.mem_of_getElem? (i := 32) rfl))) (Or.inr (hw _ (List.mem_of_getElem? (i := 24) rfl))) (by decide) (t := (.array .long)) (t' := .int) (by decide) (by decide)))
  have F_tb_step := F_tb_step.other W16 (Or.inr (slot_ne (Or.inl (hw _ (List.mem_of_getElem? (i := 39) rfl))) (Or.inr (hw _ (List.mem_of_getElem? (i := 24) rfl))) (by decide) (t := .long) (t' := .int) (by decide) (by decide)))
  have F_tb_size := F_tb_size.other W16 (Or.inr (slot_ne (Or.inl (hw _ (List.mem_of_getElem? (i := 53) rfl))) (Or.inr (hw _ (List.mem_of_getElem? (i := 24) rfl))) (by decide) (t := .int) (t' := .int) (by decide) (by decide)))
  have E_tb := E_tb.wr W16
  have V_ka := V_ka.other W16 (Ne.symm ne_tb_ka)
  have V_ua := V_ua.other W16 (Ne.symm ne_tb_ua)
  have K := K.wr W16 (Or.inl (List.mem_of_getElem? (i := 0) rfl))
  have Z0 := Nat.le_trans Z0 (Keep.of_wr W16).1
  have N := Fr.snoc X N g_tb
  have st : ∀ t, Steps p.tables e below (T14.setTop (mkF m 28 #[.val (.ref tb), .val (.int (3 : Int32)), .val (.int (2 : Int32))] [(.int (2 : Int32)), (.ref tb)])) t → Steps p.tables e below (s₁.setTop (mkF m 0 #[.val (.ref tb), .val (.int (3 : Int32)), .val (.int (2 : Int32))] [])) t := fun t k => st t (by
      show Steps p.tables e below (T14.setTop (mkF m 26 #[.val (.ref tb), .val (.int (3 : Int32)), .val (.int (2 : Int32))] [])) _
      refine XS.aloadN X.here hx rfl (hb hby d1_26) rfl rfl ?_
      show Steps p.tables e below (T14.setTop (mkF m 27 #[.val (.ref tb), .val (.int (3 : Int32)), .val (.int (2 : Int32))] [(.ref tb)])) _
      refine XS.iloadN X.here hx rfl (hb hby d1_27) rfl ?_
      exact k)
  obtain ⟨T17, h18, X, eh, W19, sx⟩ := putF X hx hZ hown (host := "") (Or.inl (hw _ (List.mem_of_getElem? (i := 25) rfl))) Via.refl eh F_tb_machines E_tb (Or.inr ⟨(hw _ (List.mem_of_getElem? (i := 26) rfl)), rfl, hnm⟩) (hw _ (List.mem_of_getElem? (i := 2) rfl)) (ty := .int) (by decide) rfl rfl (g := (mkF m 28 #[.val (.ref tb), .val (.int (3 : Int32)), .val (.int (2 : Int32))] [(.int (2 : Int32)), (.ref tb)])) rfl rfl (hb hby d1_28)
  have st : ∀ t, Steps p.tables e below (T17.setTop (mkF m 31 #[.val (.ref tb), .val (.int (3 : Int32)), .val (.int (2 : Int32))] [])) t → Steps p.tables e below (s₁.setTop (mkF m 0 #[.val (.ref tb), .val (.int (3 : Int32)), .val (.int (2 : Int32))] [])) t := fun t k => st t (sx t k)
  have F_tb_keys := F_tb_keys.other W19 (Or.inr (slot_ne (Or.inl (hw _ (List.mem_of_getElem? (i := 20) rfl))) (Or.inr (hw _ (List.mem_of_getElem? (i := 26) rfl))) (by decide) (t := (.array .long)) (t' := .int) (by decide) (by decide)))
  have F_tb_until := F_tb_until.other W19 (Or.inr (slot_ne (Or.inl (hw _ (List.mem_of_getElem? (i := 22) rfl))) (Or.inr (hw _ (List.mem_of_getElem? (i := 26) rfl))) (by decide) (t := (.array .long)) (t' := .int) (by decide) (by decide)))
  have F_tb_operations := F_tb_operations.other W19 (Or.inr (slot_ne (Or.inr (hw _ (List.mem_of_getElem? (i := 24) rfl))) (Or.inr (hw _ (List.mem_of_getElem? (i := 26) rfl))) (by decide) (t := .int) (t' := .int) (by decide) (by decide)))
  have F_tb_machines := F_tb_machines.same W19
  have F_tb_firstUntil := F_tb_firstUntil.other W19 (Or.inr (slot_ne (Or.inr (hw _ (List.mem_of_getElem? (i := 28) rfl))) (Or.inr (hw _ (List.mem_of_getElem? (i := 26) rfl))) (by decide) (t := (.array .long)) (t' := .int) (by decide) (by decide)))
  have F_tb_secondUntil := F_tb_secondUntil.other W19 (Or.inr (slot_ne (Or.inr (hw _ (List.mem_of_getElem? (i := 30) rfl))) (Or.inr (hw _ (List.mem_of_getElem? (i := 26) rfl))) (by decide) (t := (.array .long)) (t' := .int) (by decide) (by decide)))
  have F_tb_machineUntil := F_tb_machineUntil.other W19 (Or.inr (slot_ne (Or.inr (hw _ (List.mem_of_getElem? (i := 32) rfl))) (Or.inr (hw _ (List.mem_of_getElem? (i := 26) rfl))) (by decide) (t := (.array .long)) (t' := .int) (by decide) (by decide)))
  have F_tb_step := F_tb_step.other W19 (Or.inr (slot_ne (Or.inl (hw _ (List.mem_of_getElem? (i := 39) rfl))) (Or.inr (hw _ (List.mem_of_getElem? (i := 26) rfl))) (by decide) (t := .long) (t' := .int) (by decide) (by decide)))
  have F_tb_size := F_tb_size.other W19 (Or.inr (slot_ne (Or.inl (hw _ (List.mem_of_getElem? (i := 53) rfl))) (Or.inr (hw _ (List.mem_of_getElem? (i := 26) rfl))) (by decide) (t := .int) (t' := .int) (by decide) (by decide)))
  have E_tb := E_tb.wr W19
  have V_ka := V_ka.other W19 (Ne.symm ne_tb_ka)
  have V_ua := V_ua.other W19 (Ne.symm ne_tb_ua)
  have K := K.wr W19 (Or.inl (List.mem_of_getElem? (i := 0) rfl))
  have Z0 := Nat.le_trans Z0 (Keep.of_wr W19).1
  have N := Fr.snoc X N g_tb
  have st : ∀ t, Steps p.tables e below (T17.setTop (mkF m 33 #[.val (.ref tb), .val (.int (3 : Int32)), .val (.int (2 : Int32))] [(.int (3 : Int32)), (.ref tb)])) t → Steps p.tables e below (s₁.setTop (mkF m 0 #[.val (.ref tb), .val (.int (3 : Int32)), .val (.int (2 : Int32))] [])) t := fun t k => st t (by
      show Steps p.tables e below (T17.setTop (mkF m 31 #[.val (.ref tb), .val (.int (3 : Int32)), .val (.int (2 : Int32))] [])) _
      refine XS.aloadN X.here hx rfl (hb hby d1_31) rfl rfl ?_
      show Steps p.tables e below (T17.setTop (mkF m 32 #[.val (.ref tb), .val (.int (3 : Int32)), .val (.int (2 : Int32))] [(.ref tb)])) _
      refine XS.iloadN X.here hx rfl (hb hby d1_32) rfl ?_
      exact k)
  obtain ⟨T20, h21, k_fa, X, eh, E22, A22, sx⟩ := newP X hx hZ (hw _ (List.mem_of_getElem? (i := 13) rfl)) eh (g := (mkF m 33 #[.val (.ref tb), .val (.int (3 : Int32)), .val (.int (2 : Int32))] [(.int (3 : Int32)), (.ref tb)])) rfl (hb hby d1_33) rfl (by decide) (cap := 3) (by decide) (by decide) (by decide) (by decide)
  obtain ⟨fa, g22⟩ : ∃ z, z = h18.size := ⟨_, rfl⟩
  have ne_ka_fa : ka ≠ fa := fun q => absurd V_ka.lt (by rw [q, g22]; exact Nat.lt_irrefl _)
  have ne_tb_fa : tb ≠ fa := fun q => absurd E_tb.lt (by rw [q, g22]; exact Nat.lt_irrefl _)
  have ne_ua_fa : ua ≠ fa := fun q => absurd V_ua.lt (by rw [q, g22]; exact Nat.lt_irrefl _)
  have g_fa : n0 ≤ fa := Nat.le_trans Z0 (Nat.le_of_eq g22.symm)
  have sz_fa : h0.size ≤ fa := Nat.le_trans K.1 (Nat.le_of_eq g22.symm)
  rw [← g22] at A22 sx
  have st : ∀ t, Steps p.tables e below (T20.setTop (mkF m 35 #[.val (.ref tb), .val (.int (3 : Int32)), .val (.int (2 : Int32))] [(.ref fa), (.ref tb)])) t → Steps p.tables e below (s₁.setTop (mkF m 0 #[.val (.ref tb), .val (.int (3 : Int32)), .val (.int (2 : Int32))] [])) t := fun t k => st t (sx t k)
  have F_tb_keys := F_tb_keys.ext E22
  have F_tb_until := F_tb_until.ext E22
  have F_tb_operations := F_tb_operations.ext E22
  have F_tb_machines := F_tb_machines.ext E22
  have F_tb_firstUntil := F_tb_firstUntil.ext E22
  have F_tb_secondUntil := F_tb_secondUntil.ext E22
  have F_tb_machineUntil := F_tb_machineUntil.ext E22
  have F_tb_step := F_tb_step.ext E22
  have F_tb_size := F_tb_size.ext E22
  have E_tb := E_tb.ext E22
  have V_ka := V_ka.ext E22
  have V_ua := V_ua.ext E22
  have K := K.ext E22
  have Z0 := Nat.le_trans Z0 E22.1
  have V_fa : Arv Z h21 fa k_fa .long (3 : Int32) (List.replicate 3 (.long (0 : Int64))) (.long (0 : Int64)) := (Arv.new A22 (by decide)).pad (pad_rep [] (.long (0 : Int64)) 3)
  have V_fa : Arv Z h21 fa k_fa .long (Int32.ofNat 3) (own_al 3 (own_c (fun _ => 0))) (.long (0 : Int64)) := V_fa
  obtain ⟨T23, h24, X, eh, W25, sx⟩ := putF X hx hZ hown (host := "") (Or.inl (hw _ (List.mem_of_getElem? (i := 27) rfl))) Via.refl eh F_tb_firstUntil E_tb (Or.inr ⟨(hw _ (List.mem_of_getElem? (i := 28) rfl)), rfl, hnm⟩) (hw _ (List.mem_of_getElem? (i := 2) rfl)) (ty := (.array .long)) (by decide) rfl rfl (g := (mkF m 35 #[.val (.ref tb), .val (.int (3 : Int32)), .val (.int (2 : Int32))] [(.ref fa), (.ref tb)])) rfl rfl (hb hby d1_35)
  have st : ∀ t, Steps p.tables e below (T23.setTop (mkF m 38 #[.val (.ref tb), .val (.int (3 : Int32)), .val (.int (2 : Int32))] [])) t → Steps p.tables e below (s₁.setTop (mkF m 0 #[.val (.ref tb), .val (.int (3 : Int32)), .val (.int (2 : Int32))] [])) t := fun t k => st t (sx t k)
  have F_tb_keys := F_tb_keys.other W25 (Or.inr (slot_ne (Or.inl (hw _ (List.mem_of_getElem? (i := 20) rfl))) (Or.inr (hw _ (List.mem_of_getElem? (i := 28) rfl))) (by decide) (t := (.array .long)) (t' := (.array .long)) (by decide) (by decide)))
  have F_tb_until := F_tb_until.other W25 (Or.inr (slot_ne (Or.inl (hw _ (List.mem_of_getElem? (i := 22) rfl))) (Or.inr (hw _ (List.mem_of_getElem? (i := 28) rfl))) (by decide) (t := (.array .long)) (t' := (.array .long)) (by decide) (by decide)))
  have F_tb_operations := F_tb_operations.other W25 (Or.inr (slot_ne (Or.inr (hw _ (List.mem_of_getElem? (i := 24) rfl))) (Or.inr (hw _ (List.mem_of_getElem? (i := 28) rfl))) (by decide) (t := .int) (t' := (.array .long)) (by decide) (by decide)))
  have F_tb_machines := F_tb_machines.other W25 (Or.inr (slot_ne (Or.inr (hw _ (List.mem_of_getElem? (i := 26) rfl))) (Or.inr (hw _ (List.mem_of_getElem? (i := 28) rfl))) (by decide) (t := .int) (t' := (.array .long)) (by decide) (by decide)))
  have F_tb_firstUntil := F_tb_firstUntil.same W25
  have F_tb_secondUntil := F_tb_secondUntil.other W25 (Or.inr (slot_ne (Or.inr (hw _ (List.mem_of_getElem? (i := 30) rfl))) (Or.inr (hw _ (List.mem_of_getElem? (i := 28) rfl))) (by decide) (t := (.array .long)) (t' := (.array .long)) (by decide) (by decide)))
  have F_tb_machineUntil := F_tb_machineUntil.other W25 (Or.inr (slot_ne (Or.inr (hw _ (List.mem_of_getElem? (i := 32) rfl))) (Or.inr (hw _ (List.mem_of_getElem? (i := 28) rfl))) (by decide) (t := (.array .long)) (t' := (.array .long)) (by decide) (by decide)))
  have F_tb_step := F_tb_step.other W25 (Or.inr (slot_ne (Or.inl (hw _ (List.mem_of_getElem? (i := 39) rfl))) (Or.inr (hw _ (List.mem_of_getElem? (i := 28) rfl))) (by decide) (t := .long) (t' := (.array .long)) (by decide) (by decide)))
  have F_tb_size := F_tb_size.other W25 (Or.inr (slot_ne (Or.inl (hw _ (List.mem_of_getElem? (i := 53) rfl))) (Or.inr (hw _ (List.mem_of_getElem? (i := 28) rfl))) (by decide) (t := .int) (t' := (.array .long)) (by decide) (by decide)))
  have E_tb := E_tb.wr W25
  have V_ka := V_ka.other W25 (Ne.symm ne_tb_ka)
  have V_ua := V_ua.other W25 (Ne.symm ne_tb_ua)
  have V_fa := V_fa.other W25 (Ne.symm ne_tb_fa)
  have K := K.wr W25 (Or.inl (List.mem_of_getElem? (i := 0) rfl))
  have Z0 := Nat.le_trans Z0 (Keep.of_wr W25).1
  have N := Fr.snoc X N g_tb
  have st : ∀ t, Steps p.tables e below (T23.setTop (mkF m 40 #[.val (.ref tb), .val (.int (3 : Int32)), .val (.int (2 : Int32))] [(.int (3 : Int32)), (.ref tb)])) t → Steps p.tables e below (s₁.setTop (mkF m 0 #[.val (.ref tb), .val (.int (3 : Int32)), .val (.int (2 : Int32))] [])) t := fun t k => st t (by
      show Steps p.tables e below (T23.setTop (mkF m 38 #[.val (.ref tb), .val (.int (3 : Int32)), .val (.int (2 : Int32))] [])) _
      refine XS.aloadN X.here hx rfl (hb hby d1_38) rfl rfl ?_
      show Steps p.tables e below (T23.setTop (mkF m 39 #[.val (.ref tb), .val (.int (3 : Int32)), .val (.int (2 : Int32))] [(.ref tb)])) _
      refine XS.iloadN X.here hx rfl (hb hby d1_39) rfl ?_
      exact k)
  obtain ⟨T26, h27, k_sa, X, eh, E28, A28, sx⟩ := newP X hx hZ (hw _ (List.mem_of_getElem? (i := 13) rfl)) eh (g := (mkF m 40 #[.val (.ref tb), .val (.int (3 : Int32)), .val (.int (2 : Int32))] [(.int (3 : Int32)), (.ref tb)])) rfl (hb hby d1_40) rfl (by decide) (cap := 3) (by decide) (by decide) (by decide) (by decide)
  obtain ⟨sa, g28⟩ : ∃ z, z = h24.size := ⟨_, rfl⟩
  have ne_fa_sa : fa ≠ sa := fun q => absurd V_fa.lt (by rw [q, g28]; exact Nat.lt_irrefl _)
  have ne_ka_sa : ka ≠ sa := fun q => absurd V_ka.lt (by rw [q, g28]; exact Nat.lt_irrefl _)
  have ne_tb_sa : tb ≠ sa := fun q => absurd E_tb.lt (by rw [q, g28]; exact Nat.lt_irrefl _)
  have ne_ua_sa : ua ≠ sa := fun q => absurd V_ua.lt (by rw [q, g28]; exact Nat.lt_irrefl _)
  have g_sa : n0 ≤ sa := Nat.le_trans Z0 (Nat.le_of_eq g28.symm)
  have sz_sa : h0.size ≤ sa := Nat.le_trans K.1 (Nat.le_of_eq g28.symm)
  rw [← g28] at A28 sx
  have st : ∀ t, Steps p.tables e below (T26.setTop (mkF m 42 #[.val (.ref tb), .val (.int (3 : Int32)), .val (.int (2 : Int32))] [(.ref sa), (.ref tb)])) t → Steps p.tables e below (s₁.setTop (mkF m 0 #[.val (.ref tb), .val (.int (3 : Int32)), .val (.int (2 : Int32))] [])) t := fun t k => st t (sx t k)
  have F_tb_keys := F_tb_keys.ext E28
  have F_tb_until := F_tb_until.ext E28
  have F_tb_operations := F_tb_operations.ext E28
  have F_tb_machines := F_tb_machines.ext E28
  have F_tb_firstUntil := F_tb_firstUntil.ext E28
  have F_tb_secondUntil := F_tb_secondUntil.ext E28
  have F_tb_machineUntil := F_tb_machineUntil.ext E28
  have F_tb_step := F_tb_step.ext E28
  have F_tb_size := F_tb_size.ext E28
  have E_tb := E_tb.ext E28
  have V_ka := V_ka.ext E28
  have V_ua := V_ua.ext E28
  have V_fa := V_fa.ext E28
  have K := K.ext E28
  have Z0 := Nat.le_trans Z0 E28.1
  have V_sa : Arv Z h27 sa k_sa .long (3 : Int32) (List.replicate 3 (.long (0 : Int64))) (.long (0 : Int64)) := (Arv.new A28 (by decide)).pad (pad_rep [] (.long (0 : Int64)) 3)
  have V_sa : Arv Z h27 sa k_sa .long (Int32.ofNat 3) (own_al 3 (own_c (fun _ => 0))) (.long (0 : Int64)) := V_sa
  obtain ⟨T29, h30, X, eh, W31, sx⟩ := putF X hx hZ hown (host := "") (Or.inl (hw _ (List.mem_of_getElem? (i := 29) rfl))) Via.refl eh F_tb_secondUntil E_tb (Or.inr ⟨(hw _ (List.mem_of_getElem? (i := 30) rfl)), rfl, hnm⟩) (hw _ (List.mem_of_getElem? (i := 2) rfl)) (ty := (.array .long)) (by decide) rfl rfl (g := (mkF m 42 #[.val (.ref tb), .val (.int (3 : Int32)), .val (.int (2 : Int32))] [(.ref sa), (.ref tb)])) rfl rfl (hb hby d1_42)
  have st : ∀ t, Steps p.tables e below (T29.setTop (mkF m 45 #[.val (.ref tb), .val (.int (3 : Int32)), .val (.int (2 : Int32))] [])) t → Steps p.tables e below (s₁.setTop (mkF m 0 #[.val (.ref tb), .val (.int (3 : Int32)), .val (.int (2 : Int32))] [])) t := fun t k => st t (sx t k)
  have F_tb_keys := F_tb_keys.other W31 (Or.inr (slot_ne (Or.inl (hw _ (List.mem_of_getElem? (i := 20) rfl))) (Or.inr (hw _ (List.mem_of_getElem? (i := 30) rfl))) (by decide) (t := (.array .long)) (t' := (.array .long)) (by decide) (by decide)))
  have F_tb_until := F_tb_until.other W31 (Or.inr (slot_ne (Or.inl (hw _ (List.mem_of_getElem? (i := 22) rfl))) (Or.inr (hw _ (List.mem_of_getElem? (i := 30) rfl))) (by decide) (t := (.array .long)) (t' := (.array .long)) (by decide) (by decide)))
  have F_tb_operations := F_tb_operations.other W31 (Or.inr (slot_ne (Or.inr (hw _ (List.mem_of_getElem? (i := 24) rfl))) (Or.inr (hw _ (List.mem_of_getElem? (i := 30) rfl))) (by decide) (t := .int) (t' := (.array .long)) (by decide) (by decide)))
  have F_tb_machines := F_tb_machines.other W31 (Or.inr (slot_ne (Or.inr (hw _ (List.mem_of_getElem? (i := 26) rfl))) (Or.inr (hw _ (List.mem_of_getElem? (i := 30) rfl))) (by decide) (t := .int) (t' := (.array .long)) (by decide) (by decide)))
  have F_tb_firstUntil := F_tb_firstUntil.other W31 (Or.inr (slot_ne (Or.inr (hw _ (List.mem_of_getElem? (i := 28) rfl))) (Or.inr (hw _ (List.mem_of_getElem? (i := 30) rfl))) (by decide) (t := (.array .long)) (t' := (.array .long)) (by decide) (by decide)))
  have F_tb_secondUntil := F_tb_secondUntil.same W31
  have F_tb_machineUntil := F_tb_machineUntil.other W31 (Or.inr (slot_ne (Or.inr (hw _ (List.mem_of_getElem? (i := 32) rfl))) (Or.inr (hw _ (List.mem_of_getElem? (i := 30) rfl))) (by decide) (t := (.array .long)) (t' := (.array .long)) (by decide) (by decide)))
  have F_tb_step := F_tb_step.other W31 (Or.inr (slot_ne (Or.inl (hw _ (List.mem_of_getElem? (i := 39) rfl))) (Or.inr (hw _ (List.mem_of_getElem? (i := 30) rfl))) (by decide) (t := .long) (t' := (.array .long)) (by decide) (by decide)))
  have F_tb_size := F_tb_size.other W31 (Or.inr (slot_ne (Or.inl (hw _ (List.mem_of_getElem? (i := 53) rfl))) (Or.inr (hw _ (List.mem_of_getElem? (i := 30) rfl))) (by decide) (t := .int) (t' := (.array .long)) (by decide) (by decide)))
  have E_tb := E_tb.wr W31
  have V_ka := V_ka.other W31 (Ne.symm ne_tb_ka)
  have V_ua := V_ua.other W31 (Ne.symm ne_tb_ua)
  have V_fa := V_fa.other W31 (Ne.symm ne_tb_fa)
  have V_sa := V_sa.other W31 (Ne.symm ne_tb_sa)
  have K := K.wr W31 (Or.inl (List.mem_of_getElem? (i := 0) rfl))
  have Z0 := Nat.le_trans Z0 (Keep.of_wr W31).1
  have N := Fr.snoc X N g_tb
  have st : ∀ t, Steps p.tables e below (T29.setTop (mkF m 47 #[.val (.ref tb), .val (.int (3 : Int32)), .val (.int (2 : Int32))] [(.int (3 : Int32)), (.ref tb)])) t → Steps p.tables e below (s₁.setTop (mkF m 0 #[.val (.ref tb), .val (.int (3 : Int32)), .val (.int (2 : Int32))] [])) t := fun t k => st t (by
      show Steps p.tables e below (T29.setTop (mkF m 45 #[.val (.ref tb), .val (.int (3 : Int32)), .val (.int (2 : Int32))] [])) _
      refine XS.aloadN X.here hx rfl (hb hby d1_45) rfl rfl ?_
      show Steps p.tables e below (T29.setTop (mkF m 46 #[.val (.ref tb), .val (.int (3 : Int32)), .val (.int (2 : Int32))] [(.ref tb)])) _
      refine XS.iloadN X.here hx rfl (hb hby d1_46) rfl ?_
      exact k)
  obtain ⟨T32, h33, k_ma, X, eh, E34, A34, sx⟩ := newP X hx hZ (hw _ (List.mem_of_getElem? (i := 13) rfl)) eh (g := (mkF m 47 #[.val (.ref tb), .val (.int (3 : Int32)), .val (.int (2 : Int32))] [(.int (3 : Int32)), (.ref tb)])) rfl (hb hby d1_47) rfl (by decide) (cap := 3) (by decide) (by decide) (by decide) (by decide)
  obtain ⟨ma, g34⟩ : ∃ z, z = h30.size := ⟨_, rfl⟩
  have ne_fa_ma : fa ≠ ma := fun q => absurd V_fa.lt (by rw [q, g34]; exact Nat.lt_irrefl _)
  have ne_ka_ma : ka ≠ ma := fun q => absurd V_ka.lt (by rw [q, g34]; exact Nat.lt_irrefl _)
  have ne_sa_ma : sa ≠ ma := fun q => absurd V_sa.lt (by rw [q, g34]; exact Nat.lt_irrefl _)
  have ne_tb_ma : tb ≠ ma := fun q => absurd E_tb.lt (by rw [q, g34]; exact Nat.lt_irrefl _)
  have ne_ua_ma : ua ≠ ma := fun q => absurd V_ua.lt (by rw [q, g34]; exact Nat.lt_irrefl _)
  have g_ma : n0 ≤ ma := Nat.le_trans Z0 (Nat.le_of_eq g34.symm)
  have sz_ma : h0.size ≤ ma := Nat.le_trans K.1 (Nat.le_of_eq g34.symm)
  rw [← g34] at A34 sx
  have st : ∀ t, Steps p.tables e below (T32.setTop (mkF m 49 #[.val (.ref tb), .val (.int (3 : Int32)), .val (.int (2 : Int32))] [(.ref ma), (.ref tb)])) t → Steps p.tables e below (s₁.setTop (mkF m 0 #[.val (.ref tb), .val (.int (3 : Int32)), .val (.int (2 : Int32))] [])) t := fun t k => st t (sx t k)
  have F_tb_keys := F_tb_keys.ext E34
  have F_tb_until := F_tb_until.ext E34
  have F_tb_operations := F_tb_operations.ext E34
  have F_tb_machines := F_tb_machines.ext E34
  have F_tb_firstUntil := F_tb_firstUntil.ext E34
  have F_tb_secondUntil := F_tb_secondUntil.ext E34
  have F_tb_machineUntil := F_tb_machineUntil.ext E34
  have F_tb_step := F_tb_step.ext E34
  have F_tb_size := F_tb_size.ext E34
  have E_tb := E_tb.ext E34
  have V_ka := V_ka.ext E34
  have V_ua := V_ua.ext E34
  have V_fa := V_fa.ext E34
  have V_sa := V_sa.ext E34
  have K := K.ext E34
  have Z0 := Nat.le_trans Z0 E34.1
  have V_ma : Arv Z h33 ma k_ma .long (3 : Int32) (List.replicate 3 (.long (0 : Int64))) (.long (0 : Int64)) := (Arv.new A34 (by decide)).pad (pad_rep [] (.long (0 : Int64)) 3)
  have V_ma : Arv Z h33 ma k_ma .long (Int32.ofNat 3) (own_al 3 (fun _ => (0 : Int64))) (.long (0 : Int64)) := V_ma
  obtain ⟨T35, h36, X, eh, W37, sx⟩ := putF X hx hZ hown (host := "") (Or.inl (hw _ (List.mem_of_getElem? (i := 31) rfl))) Via.refl eh F_tb_machineUntil E_tb (Or.inr ⟨(hw _ (List.mem_of_getElem? (i := 32) rfl)), rfl, hnm⟩) (hw _ (List.mem_of_getElem? (i := 2) rfl)) (ty := (.array .long)) (by decide) rfl rfl (g := (mkF m 49 #[.val (.ref tb), .val (.int (3 : Int32)), .val (.int (2 : Int32))] [(.ref ma), (.ref tb)])) rfl rfl (hb hby d1_49)
  have st : ∀ t, Steps p.tables e below (T35.setTop (mkF m 52 #[.val (.ref tb), .val (.int (3 : Int32)), .val (.int (2 : Int32))] [])) t → Steps p.tables e below (s₁.setTop (mkF m 0 #[.val (.ref tb), .val (.int (3 : Int32)), .val (.int (2 : Int32))] [])) t := fun t k => st t (sx t k)
  have F_tb_keys := F_tb_keys.other W37 (Or.inr (slot_ne (Or.inl (hw _ (List.mem_of_getElem? (i := 20) rfl))) (Or.inr (hw _ (List.mem_of_getElem? (i := 32) rfl))) (by decide) (t := (.array .long)) (t' := (.array .long)) (by decide) (by decide)))
  have F_tb_until := F_tb_until.other W37 (Or.inr (slot_ne (Or.inl (hw _ (List.mem_of_getElem? (i := 22) rfl))) (Or.inr (hw _ (List.mem_of_getElem? (i := 32) rfl))) (by decide) (t := (.array .long)) (t' := (.array .long)) (by decide) (by decide)))
  have F_tb_operations := F_tb_operations.other W37 (Or.inr (slot_ne (Or.inr (hw _ (List.mem_of_getElem? (i := 24) rfl))) (Or.inr (hw _ (List.mem_of_getElem? (i := 32) rfl))) (by decide) (t := .int) (t' := (.array .long)) (by decide) (by decide)))
  have F_tb_machines := F_tb_machines.other W37 (Or.inr (slot_ne (Or.inr (hw _ (List.mem_of_getElem? (i := 26) rfl))) (Or.inr (hw _ (List.mem_of_getElem? (i := 32) rfl))) (by decide) (t := .int) (t' := (.array .long)) (by decide) (by decide)))
  have F_tb_firstUntil := F_tb_firstUntil.other W37 (Or.inr (slot_ne (Or.inr (hw _ (List.mem_of_getElem? (i := 28) rfl))) (Or.inr (hw _ (List.mem_of_getElem? (i := 32) rfl))) (by decide) (t := (.array .long)) (t' := (.array .long)) (by decide) (by decide)))
  have F_tb_secondUntil := F_tb_secondUntil.other W37 (Or.inr (slot_ne (Or.inr (hw _ (List.mem_of_getElem? (i := 30) rfl))) (Or.inr (hw _ (List.mem_of_getElem? (i := 32) rfl))) (by decide) (t := (.array .long)) (t' := (.array .long)) (by decide) (by decide)))
  have F_tb_machineUntil := F_tb_machineUntil.same W37
  have F_tb_step := F_tb_step.other W37 (Or.inr (slot_ne (Or.inl (hw _ (List.mem_of_getElem? (i := 39) rfl))) (Or.inr (hw _ (List.mem_of_getElem? (i := 32) rfl))) (by decide) (t := .long) (t' := (.array .long)) (by decide) (by decide)))
  have F_tb_size := F_tb_size.other W37 (Or.inr (slot_ne (Or.inl (hw _ (List.mem_of_getElem? (i := 53) rfl))) (Or.inr (hw _ (List.mem_of_getElem? (i := 32) rfl))) (by decide) (t := .int) (t' := (.array .long)) (by decide) (by decide)))
  have E_tb := E_tb.wr W37
  have V_ka := V_ka.other W37 (Ne.symm ne_tb_ka)
  have V_ua := V_ua.other W37 (Ne.symm ne_tb_ua)
  have V_fa := V_fa.other W37 (Ne.symm ne_tb_fa)
  have V_sa := V_sa.other W37 (Ne.symm ne_tb_sa)
  have V_ma := V_ma.other W37 (Ne.symm ne_tb_ma)
  have K := K.wr W37 (Or.inl (List.mem_of_getElem? (i := 0) rfl))
  have Z0 := Nat.le_trans Z0 (Keep.of_wr W37).1
  have N := Fr.snoc X N g_tb
  obtain ⟨fs_, hr, hrun, hended, hW, hsame⟩ := X.leave (v := none) (fun _ => rfl)
  refine ⟨_, _, pre0 _ (st _ ?_), hrun, hended, _, _, rfl, ?_, ⟨_, rfl⟩, hW, hsame.mono (by decide) (by decide)⟩
  · exact X.returnOut hx Bd.returns (hb hby d1_52) hr
  · show Q_rm1 Z tb h0 n0 _ T35.heap _
    rw [eh]
    exact ⟨rfl, N, K, ka, ua, fa, sa, ma, k_ka, k_ua, k_fa, k_sa, k_ma, ⟨E_tb, F_tb_keys, F_tb_until, F_tb_operations, F_tb_machines, F_tb_firstUntil, F_tb_secondUntil, F_tb_machineUntil, F_tb_step, F_tb_size, V_ka, V_ua, V_fa, V_sa, V_ma⟩, ⟨g_tb, g_ka, g_ua, g_fa, g_sa, g_ma, ne_tb_ka, ne_tb_ua, ne_tb_fa, ne_tb_sa, ne_tb_ma, ne_ka_ua, ne_ka_fa, ne_ka_sa, ne_ka_ma, ne_ua_fa, ne_ua_sa, ne_ua_ma, ne_fa_sa, ne_fa_ma, ne_sa_ma⟩⟩
theorem d13_0 : decode prog_46_method_2_code 0 = .ok (.aload_n 0, 1) := by decide +kernel
theorem d13_1 : decode prog_46_method_2_code 1 = .ok (.dup, 1) := by decide +kernel
theorem d13_2 : decode prog_46_method_2_code 2 = .ok (.getfield 36, 3) := by decide +kernel
theorem d13_5 : decode prog_46_method_2_code 5 = .ok (.lconst 1, 1) := by decide +kernel
theorem d13_6 : decode prog_46_method_2_code 6 = .ok (.ladd, 1) := by decide +kernel
theorem d13_7 : decode prog_46_method_2_code 7 = .ok (.putfield 36, 3) := by decide +kernel
theorem d13_10 : decode prog_46_method_2_code 10 = .ok (.aload_n 0, 1) := by decide +kernel
theorem d13_11 : decode prog_46_method_2_code 11 = .ok (.getfield 40, 3) := by decide +kernel
theorem d13_14 : decode prog_46_method_2_code 14 = .ok (.sipush 4096, 3) := by decide +kernel
theorem d13_17 : decode prog_46_method_2_code 17 = .ok (.if_icmp .le 13, 3) := by decide +kernel
theorem d13_30 : decode prog_46_method_2_code 30 = .ok (.return_, 1) := by decide +kernel
def Q_rm13 (Z : State) (tb : Addr) (ka ua fa sa ma : Addr) (k_ka k_ua k_fa k_sa k_ma : ClassId) (ks us : Nat → Int64) (fs ss : Nat → Nat) (ms : Nat → Int64) (sp sz : Nat) (h0 : Heap) (n0 : Nat) (v : Option Value) (h : Heap) (L : List Loc) : Prop := v = none ∧ Fr n0 L ∧ Keep h0 h [tb, ka, ua, fa, sa, ma] ∧ own_TL Z h tb ka ua fa sa ma k_ka k_ua k_fa k_sa k_ma ks us fs ss ms (sp + 1) sz
theorem ef_rm13 (m : MethodId) (x0 : Addr) : entryFrame m #[(.ref x0)] 1 = mkF m 0 #[.val (.ref x0)] [] := by first | (simp [entryFrame, mkF, argsToLocals, Value.category]; done) | rfl
set_option maxRecDepth 65536 in
set_option maxHeartbeats 40000000 in
theorem rm13 (l : Launch) (Z : State) (a0 : Array Value) (hw : ∀ d ∈ tables_1, d.before a0 Z = true) (ws : List Jvm.Cond) (tb : Addr) (ka ua fa sa ma : Addr) (k_ka k_ua k_fa k_sa k_ma : ClassId) (ks us : Nat → Int64) (fs ss : Nat → Nat) (ms : Nat → Int64) (sp sz : Nat) (h0 : Heap) (n0 : Nat) (Z0 : n0 ≤ h0.size) (B : own_TL Z h0 tb ka ua fa sa ma k_ka k_ua k_fa k_sa k_ma ks us fs ss ms sp sz) (D : own_D n0 tb ka ua fa sa ma) (hsz : sz ≤ 8) :
    MetFree l (⟨"com/example/paretoloom/paretoloom/TabuList", "advance", "()V"⟩ : MethodName) (head1 (Jvm.Cond.code (⟨"com/example/paretoloom/paretoloom/TabuList", "advance", "()V"⟩ : MethodName) prog_46_method_2_code 1 none :: ws) ({ frames := 0, cells := 0, slots := 0, locals := 0 } : Room)) (fun a' U => a' = #[(.ref tb)] ∧ Z.Warmed39 U.vm ∧ U.heap = h0) (fun _ _ _ _ _ => True) (fun _ U o U' => ∃ v L, o = .returned v ∧ Q_rm13 Z tb ka ua fa sa ma k_ka k_ua k_fa k_sa k_ma ks us fs ss ms sp sz h0 n0 v U'.heap L ∧ FrameEnd U o U' L ({ frames := 0, cells := 0, slots := 0, locals := 0 } : Room).cells ({ frames := 0, cells := 0, slots := 0, locals := 0 } : Room).slots) := by
  refine MetFree.of_bodySF (plainFor_of_name own_pn3) hisR ?_
  intro p e s m args below meth cd0 s₁ Bd hml0 hP hK
  obtain ⟨rfl, hZ, hh⟩ := hP
  have hx := Bd.exec
  have hby := Bd.bytes
  have hml : cd0.maxLocals = 1 := hml0
  have hown : s.vm.findClass "com/example/paretoloom/paretoloom/TabuList" = some m.cls := findClass_of_methodNamed Bd.named
  have hnm := (name_of_methodNamed Bd.named Bd.method).1
  have X : Stand p l e ({ frames := 0, cells := 0, slots := 0, locals := 0 } : Room) s m #[(.ref tb)] below meth cd0 s₁ [] 0 0 := Stand.of_body Bd
  have eh : s₁.heap = h0 := by rw [← hh, Bd.state]; rfl
  have N := Fr.nil n0
  have K : Keep h0 h0 [tb, ka, ua, fa, sa, ma] := Keep.refl _ _
  have pre0 : ∀ t, Steps p.tables e below (s₁.setTop (mkF m 0 #[.val (.ref tb)] [])) t → Steps p.tables e below (s₁.setTop (entryFrame m #[(.ref tb)] 1)) t := fun t k => castTop (ef_rm13 m tb) k
  have st : ∀ t, Steps p.tables e below (s₁.setTop (mkF m 0 #[.val (.ref tb)] [])) t → Steps p.tables e below (s₁.setTop (mkF m 0 #[.val (.ref tb)] [])) t := fun t k => k
  obtain ⟨E_tb, F_tb_keys, F_tb_until, F_tb_operations, F_tb_machines, F_tb_firstUntil, F_tb_secondUntil, F_tb_machineUntil, F_tb_step, F_tb_size, V_ka, V_ua, V_fa, V_sa, V_ma⟩ := B
  obtain ⟨g_tb, g_ka, g_ua, g_fa, g_sa, g_ma, ne_tb_ka, ne_tb_ua, ne_tb_fa, ne_tb_sa, ne_tb_ma, ne_ka_ua, ne_ka_fa, ne_ka_sa, ne_ka_ma, ne_ua_fa, ne_ua_sa, ne_ua_ma, ne_fa_sa, ne_fa_ma, ne_sa_ma⟩ := D
  have st : ∀ t, Steps p.tables e below (s₁.setTop (mkF m 2 #[.val (.ref tb)] [(.ref tb), (.ref tb)])) t → Steps p.tables e below (s₁.setTop (mkF m 0 #[.val (.ref tb)] [])) t := fun t k => st t (by
      show Steps p.tables e below (s₁.setTop (mkF m 0 #[.val (.ref tb)] [])) _
      refine XS.aloadN X.here hx rfl (hb hby d13_0) rfl rfl ?_
      show Steps p.tables e below (s₁.setTop (mkF m 1 #[.val (.ref tb)] [(.ref tb)])) _
      refine XS.dup X.here hx rfl (hb hby d13_1) rfl rfl ?_
      exact k)
  obtain ⟨T1, X, eh, sx⟩ := getF X hx hZ hown (host := "") (Or.inl (hw _ (List.mem_of_getElem? (i := 38) rfl))) Via.refl eh F_tb_step (g := (mkF m 2 #[.val (.ref tb)] [(.ref tb), (.ref tb)])) rfl rfl (hb hby d13_2)
  have st : ∀ t, Steps p.tables e below (T1.setTop (mkF m 5 #[.val (.ref tb)] [(.long (Int64.ofNat sp)), (.ref tb)])) t → Steps p.tables e below (s₁.setTop (mkF m 0 #[.val (.ref tb)] [])) t := fun t k => st t (sx t k)
  have st : ∀ t, Steps p.tables e below (T1.setTop (mkF m 7 #[.val (.ref tb)] [(.long ((Int64.ofNat sp) + (1 : Int64))), (.ref tb)])) t → Steps p.tables e below (s₁.setTop (mkF m 0 #[.val (.ref tb)] [])) t := fun t k => st t (by
      show Steps p.tables e below (T1.setTop (mkF m 5 #[.val (.ref tb)] [(.long (Int64.ofNat sp)), (.ref tb)])) _
      refine XS.lconst X.here hx rfl (hb hby d13_5) ?_
      show Steps p.tables e below (T1.setTop (mkF m 6 #[.val (.ref tb)] [(.long (1 : Int64)), (.long (Int64.ofNat sp)), (.ref tb)])) _
      refine XS.ladd X.here hx rfl (hb hby d13_6) rfl ?_
      exact k)
  obtain ⟨T2, h3, X, eh, W4, sx⟩ := putF X hx hZ hown (host := "") (Or.inl (hw _ (List.mem_of_getElem? (i := 38) rfl))) Via.refl eh F_tb_step E_tb (Or.inl (hw _ (List.mem_of_getElem? (i := 39) rfl))) (hw _ (List.mem_of_getElem? (i := 2) rfl)) (ty := .long) (by decide) rfl rfl (g := (mkF m 7 #[.val (.ref tb)] [(.long ((Int64.ofNat sp) + (1 : Int64))), (.ref tb)])) rfl rfl (hb hby d13_7)
  have st : ∀ t, Steps p.tables e below (T2.setTop (mkF m 10 #[.val (.ref tb)] [])) t → Steps p.tables e below (s₁.setTop (mkF m 0 #[.val (.ref tb)] [])) t := fun t k => st t (sx t k)
  have F_tb_keys := F_tb_keys.other W4 (Or.inr (slot_ne (Or.inl (hw _ (List.mem_of_getElem? (i := 20) rfl))) (Or.inl (hw _ (List.mem_of_getElem? (i := 39) rfl))) (by decide) (t := (.array .long)) (t' := .long) (by decide) (by decide)))
  have F_tb_until := F_tb_until.other W4 (Or.inr (slot_ne (Or.inl (hw _ (List.mem_of_getElem? (i := 22) rfl))) (Or.inl (hw _ (List.mem_of_getElem? (i := 39) rfl))) (by decide) (t := (.array .long)) (t' := .long) (by decide) (by decide)))
  have F_tb_operations := F_tb_operations.other W4 (Or.inr (slot_ne (Or.inr (hw _ (List.mem_of_getElem? (i := 24) rfl))) (Or.inl (hw _ (List.mem_of_getElem? (i := 39) rfl))) (by decide) (t := .int) (t' := .long) (by decide) (by decide)))
  have F_tb_machines := F_tb_machines.other W4 (Or.inr (slot_ne (Or.inr (hw _ (List.mem_of_getElem? (i := 26) rfl))) (Or.inl (hw _ (List.mem_of_getElem? (i := 39) rfl))) (by decide) (t := .int) (t' := .long) (by decide) (by decide)))
  have F_tb_firstUntil := F_tb_firstUntil.other W4 (Or.inr (slot_ne (Or.inr (hw _ (List.mem_of_getElem? (i := 28) rfl))) (Or.inl (hw _ (List.mem_of_getElem? (i := 39) rfl))) (by decide) (t := (.array .long)) (t' := .long) (by decide) (by decide)))
  have F_tb_secondUntil := F_tb_secondUntil.other W4 (Or.inr (slot_ne (Or.inr (hw _ (List.mem_of_getElem? (i := 30) rfl))) (Or.inl (hw _ (List.mem_of_getElem? (i := 39) rfl))) (by decide) (t := (.array .long)) (t' := .long) (by decide) (by decide)))
  have F_tb_machineUntil := F_tb_machineUntil.other W4 (Or.inr (slot_ne (Or.inr (hw _ (List.mem_of_getElem? (i := 32) rfl))) (Or.inl (hw _ (List.mem_of_getElem? (i := 39) rfl))) (by decide) (t := (.array .long)) (t' := .long) (by decide) (by decide)))
  have F_tb_step := F_tb_step.same W4
  have F_tb_size := F_tb_size.other W4 (Or.inr (slot_ne (Or.inl (hw _ (List.mem_of_getElem? (i := 53) rfl))) (Or.inl (hw _ (List.mem_of_getElem? (i := 39) rfl))) (by decide) (t := .int) (t' := .long) (by decide) (by decide)))
  have E_tb := E_tb.wr W4
  have V_ka := V_ka.other W4 (Ne.symm ne_tb_ka)
  have V_ua := V_ua.other W4 (Ne.symm ne_tb_ua)
  have V_fa := V_fa.other W4 (Ne.symm ne_tb_fa)
  have V_sa := V_sa.other W4 (Ne.symm ne_tb_sa)
  have V_ma := V_ma.other W4 (Ne.symm ne_tb_ma)
  have K := K.wr W4 (Or.inl (List.mem_of_getElem? (i := 0) rfl))
  have Z0 := Nat.le_trans Z0 (Keep.of_wr W4).1
  have N := Fr.snoc X N g_tb
  rw [own_succ] at F_tb_step
  have st : ∀ t, Steps p.tables e below (T2.setTop (mkF m 11 #[.val (.ref tb)] [(.ref tb)])) t → Steps p.tables e below (s₁.setTop (mkF m 0 #[.val (.ref tb)] [])) t := fun t k => st t (by
      show Steps p.tables e below (T2.setTop (mkF m 10 #[.val (.ref tb)] [])) _
      refine XS.aloadN X.here hx rfl (hb hby d13_10) rfl rfl ?_
      exact k)
  obtain ⟨T5, X, eh, sx⟩ := getF X hx hZ hown (host := "") (Or.inl (hw _ (List.mem_of_getElem? (i := 52) rfl))) Via.refl eh F_tb_size (g := (mkF m 11 #[.val (.ref tb)] [(.ref tb)])) rfl rfl (hb hby d13_11)
  have st : ∀ t, Steps p.tables e below (T5.setTop (mkF m 14 #[.val (.ref tb)] [(.int (Int32.ofNat sz))])) t → Steps p.tables e below (s₁.setTop (mkF m 0 #[.val (.ref tb)] [])) t := fun t k => st t (sx t k)
  have st : ∀ t, Steps p.tables e below (T5.setTop (mkF m 30 #[.val (.ref tb)] [])) t → Steps p.tables e below (s₁.setTop (mkF m 0 #[.val (.ref tb)] [])) t := fun t k => st t (by
      show Steps p.tables e below (T5.setTop (mkF m 14 #[.val (.ref tb)] [(.int (Int32.ofNat sz))])) _
      refine XS.sipush X.here hx rfl (hb hby d13_14) ?_
      show Steps p.tables e below (T5.setTop (mkF m 17 #[.val (.ref tb)] [(.int (4096 : Int32)), (.int (Int32.ofNat sz))])) _
      refine XS.icmpYes X.here hx rfl (pc0 := 17) (pc' := 30) rfl (hb hby d13_17) rfl (flt (own_big hsz)).2.2.2 (by decide) (by decide) ?_
      exact k)
  obtain ⟨fs_, hr, hrun, hended, hW, hsame⟩ := X.leave (v := none) (fun _ => rfl)
  refine ⟨_, _, pre0 _ (st _ ?_), hrun, hended, _, _, rfl, ?_, ⟨_, rfl⟩, hW, hsame.mono (by decide) (by decide)⟩
  · exact X.returnOut hx Bd.returns (hb hby d13_30) hr
  · show Q_rm13 Z tb ka ua fa sa ma k_ka k_ua k_fa k_sa k_ma ks us fs ss ms sp sz h0 n0 _ T5.heap _
    rw [eh]
    exact ⟨rfl, N, K, ⟨E_tb, F_tb_keys, F_tb_until, F_tb_operations, F_tb_machines, F_tb_firstUntil, F_tb_secondUntil, F_tb_machineUntil, F_tb_step, F_tb_size, V_ka, V_ua, V_fa, V_sa, V_ma⟩⟩
theorem d6_0 : decode prog_46_method_13_code 0 = .ok (.iload_n 1, 1) := by decide +kernel
theorem d6_1 : decode prog_46_method_13_code 1 = .ok (.i2l, 1) := by decide +kernel
theorem d6_2 : decode prog_46_method_13_code 2 = .ok (.aload_n 0, 1) := by decide +kernel
theorem d6_3 : decode prog_46_method_13_code 3 = .ok (.getfield 20, 3) := by decide +kernel
theorem d6_6 : decode prog_46_method_13_code 6 = .ok (.i2l, 1) := by decide +kernel
theorem d6_7 : decode prog_46_method_13_code 7 = .ok (.lmul, 1) := by decide +kernel
theorem d6_8 : decode prog_46_method_13_code 8 = .ok (.iload_n 2, 1) := by decide +kernel
theorem d6_9 : decode prog_46_method_13_code 9 = .ok (.i2l, 1) := by decide +kernel
theorem d6_10 : decode prog_46_method_13_code 10 = .ok (.ladd, 1) := by decide +kernel
theorem d6_11 : decode prog_46_method_13_code 11 = .ok (.lreturn, 1) := by decide +kernel
def Q_rm6 (Z : State) (tb : Addr) (x1 : Int32) (x2 : Int32)  (h0 : Heap) (n0 : Nat) (v : Option Value) (h : Heap) (L : List Loc) : Prop := ∃ key : Int64, v = some (.long key) ∧ Fr n0 L ∧ h = h0
theorem ef_rm6 (m : MethodId) (x0 : Addr) (x1 : Int32) (x2 : Int32) : entryFrame m #[(.ref x0), (.int x1), (.int x2)] 3 = mkF m 0 #[.val (.ref x0), .val (.int x1), .val (.int x2)] [] := by first | (simp [entryFrame, mkF, argsToLocals, Value.category]; done) | rfl
set_option maxRecDepth 65536 in
set_option maxHeartbeats 40000000 in
theorem rm6 (l : Launch) (Z : State) (a0 : Array Value) (hw : ∀ d ∈ tables_1, d.before a0 Z = true) (ws : List Jvm.Cond) (tb : Addr) (x1 : Int32) (x2 : Int32)  (h0 : Heap) (n0 : Nat) (Z0 : n0 ≤ h0.size) (F_tb_operations : Fld Z h0 tb "com/example/paretoloom/paretoloom/TabuList" "operations" "I" (.int (3 : Int32))) (F_tb_machines : Fld Z h0 tb "com/example/paretoloom/paretoloom/TabuList" "machines" "I" (.int (2 : Int32))) :
    MetFree l (⟨"com/example/paretoloom/paretoloom/TabuList", "pairKey", "(II)J"⟩ : MethodName) (head1 (Jvm.Cond.code (⟨"com/example/paretoloom/paretoloom/TabuList", "pairKey", "(II)J"⟩ : MethodName) prog_46_method_13_code 3 (some .long) :: ws) ({ frames := 0, cells := 0, slots := 0, locals := 0 } : Room)) (fun a' U => a' = #[(.ref tb), (.int x1), (.int x2)] ∧ Z.Warmed39 U.vm ∧ U.heap = h0) (fun _ _ _ _ _ => True) (fun _ U o U' => ∃ v L, o = .returned v ∧ Q_rm6 Z tb x1 x2 h0 n0 v U'.heap L ∧ FrameEnd U o U' L ({ frames := 0, cells := 0, slots := 0, locals := 0 } : Room).cells ({ frames := 0, cells := 0, slots := 0, locals := 0 } : Room).slots) := by
  refine MetFree.of_bodySF (plainFor_of_name own_pn3) hisR ?_
  intro p e s m args below meth cd0 s₁ Bd hml0 hP hK
  obtain ⟨rfl, hZ, hh⟩ := hP
  have hx := Bd.exec
  have hby := Bd.bytes
  have hml : cd0.maxLocals = 3 := hml0
  have hown : s.vm.findClass "com/example/paretoloom/paretoloom/TabuList" = some m.cls := findClass_of_methodNamed Bd.named
  have hnm := (name_of_methodNamed Bd.named Bd.method).1
  have X : Stand p l e ({ frames := 0, cells := 0, slots := 0, locals := 0 } : Room) s m #[(.ref tb), (.int x1), (.int x2)] below meth cd0 s₁ [] 0 0 := Stand.of_body Bd
  have eh : s₁.heap = h0 := by rw [← hh, Bd.state]; rfl
  have N := Fr.nil n0
  have K : Keep h0 h0 [] := Keep.refl _ _
  have pre0 : ∀ t, Steps p.tables e below (s₁.setTop (mkF m 0 #[.val (.ref tb), .val (.int x1), .val (.int x2)] [])) t → Steps p.tables e below (s₁.setTop (entryFrame m #[(.ref tb), (.int x1), (.int x2)] 3)) t := fun t k => castTop (ef_rm6 m tb x1 x2) k
  have st : ∀ t, Steps p.tables e below (s₁.setTop (mkF m 0 #[.val (.ref tb), .val (.int x1), .val (.int x2)] [])) t → Steps p.tables e below (s₁.setTop (mkF m 0 #[.val (.ref tb), .val (.int x1), .val (.int x2)] [])) t := fun t k => k
  have st : ∀ t, Steps p.tables e below (s₁.setTop (mkF m 3 #[.val (.ref tb), .val (.int x1), .val (.int x2)] [(.ref tb), (.long (x1.toInt64))])) t → Steps p.tables e below (s₁.setTop (mkF m 0 #[.val (.ref tb), .val (.int x1), .val (.int x2)] [])) t := fun t k => st t (by
      show Steps p.tables e below (s₁.setTop (mkF m 0 #[.val (.ref tb), .val (.int x1), .val (.int x2)] [])) _
      refine XS.iloadN X.here hx rfl (hb hby d6_0) rfl ?_
      show Steps p.tables e below (s₁.setTop (mkF m 1 #[.val (.ref tb), .val (.int x1), .val (.int x2)] [(.int x1)])) _
      refine XS.i2l X.here hx rfl (hb hby d6_1) rfl ?_
      show Steps p.tables e below (s₁.setTop (mkF m 2 #[.val (.ref tb), .val (.int x1), .val (.int x2)] [(.long (x1.toInt64))])) _
      refine XS.aloadN X.here hx rfl (hb hby d6_2) rfl rfl ?_
      exact k)
  obtain ⟨T1, X, eh, sx⟩ := getF X hx hZ hown (host := "") (Or.inl (hw _ (List.mem_of_getElem? (i := 23) rfl))) Via.refl eh F_tb_operations (g := (mkF m 3 #[.val (.ref tb), .val (.int x1), .val (.int x2)] [(.ref tb), (.long (x1.toInt64))])) rfl rfl (hb hby d6_3)
  have st : ∀ t, Steps p.tables e below (T1.setTop (mkF m 6 #[.val (.ref tb), .val (.int x1), .val (.int x2)] [(.int (3 : Int32)), (.long (x1.toInt64))])) t → Steps p.tables e below (s₁.setTop (mkF m 0 #[.val (.ref tb), .val (.int x1), .val (.int x2)] [])) t := fun t k => st t (sx t k)
  have st : ∀ t, Steps p.tables e below (T1.setTop (mkF m 11 #[.val (.ref tb), .val (.int x1), .val (.int x2)] [(.long (((x1.toInt64) * ((3 : Int32).toInt64)) + (x2.toInt64)))])) t → Steps p.tables e below (s₁.setTop (mkF m 0 #[.val (.ref tb), .val (.int x1), .val (.int x2)] [])) t := fun t k => st t (by
      show Steps p.tables e below (T1.setTop (mkF m 6 #[.val (.ref tb), .val (.int x1), .val (.int x2)] [(.int (3 : Int32)), (.long (x1.toInt64))])) _
      refine XS.i2l X.here hx rfl (hb hby d6_6) rfl ?_
      show Steps p.tables e below (T1.setTop (mkF m 7 #[.val (.ref tb), .val (.int x1), .val (.int x2)] [(.long ((3 : Int32).toInt64)), (.long (x1.toInt64))])) _
      refine XS.lmul X.here hx rfl (hb hby d6_7) rfl ?_
      show Steps p.tables e below (T1.setTop (mkF m 8 #[.val (.ref tb), .val (.int x1), .val (.int x2)] [(.long ((x1.toInt64) * ((3 : Int32).toInt64)))])) _
      refine XS.iloadN X.here hx rfl (hb hby d6_8) rfl ?_
      show Steps p.tables e below (T1.setTop (mkF m 9 #[.val (.ref tb), .val (.int x1), .val (.int x2)] [(.int x2), (.long ((x1.toInt64) * ((3 : Int32).toInt64)))])) _
      refine XS.i2l X.here hx rfl (hb hby d6_9) rfl ?_
      show Steps p.tables e below (T1.setTop (mkF m 10 #[.val (.ref tb), .val (.int x1), .val (.int x2)] [(.long (x2.toInt64)), (.long ((x1.toInt64) * ((3 : Int32).toInt64)))])) _
      refine XS.ladd X.here hx rfl (hb hby d6_10) rfl ?_
      exact k)
  obtain ⟨fs_, hr, hrun, hended, hW, hsame⟩ := X.leave (v := some (.long (((x1.toInt64) * ((3 : Int32).toInt64)) + (x2.toInt64)))) (fun h => by rw [Bd.returns] at h; cases h)
  refine ⟨_, _, pre0 _ (st _ ?_), hrun, hended, _, _, rfl, ?_, ⟨_, rfl⟩, hW, hsame.mono (by decide) (by decide)⟩
  · exact X.lreturnOut hx Bd.returns (hb hby d6_11) hr
  · show Q_rm6 Z tb x1 x2 h0 n0 _ T1.heap _
    rw [eh]
    exact ⟨_, rfl, N, rfl⟩
theorem d12_0 : decode prog_46_method_14_code 0 = .ok (.aload_n 0, 1) := by decide +kernel
theorem d12_1 : decode prog_46_method_14_code 1 = .ok (.getfield 20, 3) := by decide +kernel
theorem d12_4 : decode prog_46_method_14_code 4 = .ok (.i2l, 1) := by decide +kernel
theorem d12_5 : decode prog_46_method_14_code 5 = .ok (.aload_n 0, 1) := by decide +kernel
theorem d12_6 : decode prog_46_method_14_code 6 = .ok (.getfield 20, 3) := by decide +kernel
theorem d12_9 : decode prog_46_method_14_code 9 = .ok (.i2l, 1) := by decide +kernel
theorem d12_10 : decode prog_46_method_14_code 10 = .ok (.lmul, 1) := by decide +kernel
theorem d12_11 : decode prog_46_method_14_code 11 = .ok (.iload_n 1, 1) := by decide +kernel
theorem d12_12 : decode prog_46_method_14_code 12 = .ok (.i2l, 1) := by decide +kernel
theorem d12_13 : decode prog_46_method_14_code 13 = .ok (.aload_n 0, 1) := by decide +kernel
theorem d12_14 : decode prog_46_method_14_code 14 = .ok (.getfield 24, 3) := by decide +kernel
theorem d12_17 : decode prog_46_method_14_code 17 = .ok (.i2l, 1) := by decide +kernel
theorem d12_18 : decode prog_46_method_14_code 18 = .ok (.lmul, 1) := by decide +kernel
theorem d12_19 : decode prog_46_method_14_code 19 = .ok (.ladd, 1) := by decide +kernel
theorem d12_20 : decode prog_46_method_14_code 20 = .ok (.iload_n 2, 1) := by decide +kernel
theorem d12_21 : decode prog_46_method_14_code 21 = .ok (.i2l, 1) := by decide +kernel
theorem d12_22 : decode prog_46_method_14_code 22 = .ok (.ladd, 1) := by decide +kernel
theorem d12_23 : decode prog_46_method_14_code 23 = .ok (.lreturn, 1) := by decide +kernel
def Q_rm12 (Z : State) (tb : Addr) (x1 : Int32) (x2 : Int32)  (h0 : Heap) (n0 : Nat) (v : Option Value) (h : Heap) (L : List Loc) : Prop := ∃ key : Int64, v = some (.long key) ∧ Fr n0 L ∧ h = h0
theorem ef_rm12 (m : MethodId) (x0 : Addr) (x1 : Int32) (x2 : Int32) : entryFrame m #[(.ref x0), (.int x1), (.int x2)] 3 = mkF m 0 #[.val (.ref x0), .val (.int x1), .val (.int x2)] [] := by first | (simp [entryFrame, mkF, argsToLocals, Value.category]; done) | rfl
set_option maxRecDepth 65536 in
set_option maxHeartbeats 40000000 in
theorem rm12 (l : Launch) (Z : State) (a0 : Array Value) (hw : ∀ d ∈ tables_1, d.before a0 Z = true) (ws : List Jvm.Cond) (tb : Addr) (x1 : Int32) (x2 : Int32)  (h0 : Heap) (n0 : Nat) (Z0 : n0 ≤ h0.size) (F_tb_operations : Fld Z h0 tb "com/example/paretoloom/paretoloom/TabuList" "operations" "I" (.int (3 : Int32))) (F_tb_machines : Fld Z h0 tb "com/example/paretoloom/paretoloom/TabuList" "machines" "I" (.int (2 : Int32))) :
    MetFree l (⟨"com/example/paretoloom/paretoloom/TabuList", "machineKey", "(II)J"⟩ : MethodName) (head1 (Jvm.Cond.code (⟨"com/example/paretoloom/paretoloom/TabuList", "machineKey", "(II)J"⟩ : MethodName) prog_46_method_14_code 3 (some .long) :: ws) ({ frames := 0, cells := 0, slots := 0, locals := 0 } : Room)) (fun a' U => a' = #[(.ref tb), (.int x1), (.int x2)] ∧ Z.Warmed39 U.vm ∧ U.heap = h0) (fun _ _ _ _ _ => True) (fun _ U o U' => ∃ v L, o = .returned v ∧ Q_rm12 Z tb x1 x2 h0 n0 v U'.heap L ∧ FrameEnd U o U' L ({ frames := 0, cells := 0, slots := 0, locals := 0 } : Room).cells ({ frames := 0, cells := 0, slots := 0, locals := 0 } : Room).slots) := by
  refine MetFree.of_bodySF (plainFor_of_name own_pn3) hisR ?_
  intro p e s m args below meth cd0 s₁ Bd hml0 hP hK
  obtain ⟨rfl, hZ, hh⟩ := hP
  have hx := Bd.exec
  have hby := Bd.bytes
  have hml : cd0.maxLocals = 3 := hml0
  have hown : s.vm.findClass "com/example/paretoloom/paretoloom/TabuList" = some m.cls := findClass_of_methodNamed Bd.named
  have hnm := (name_of_methodNamed Bd.named Bd.method).1
  have X : Stand p l e ({ frames := 0, cells := 0, slots := 0, locals := 0 } : Room) s m #[(.ref tb), (.int x1), (.int x2)] below meth cd0 s₁ [] 0 0 := Stand.of_body Bd
  have eh : s₁.heap = h0 := by rw [← hh, Bd.state]; rfl
  have N := Fr.nil n0
  have K : Keep h0 h0 [] := Keep.refl _ _
  have pre0 : ∀ t, Steps p.tables e below (s₁.setTop (mkF m 0 #[.val (.ref tb), .val (.int x1), .val (.int x2)] [])) t → Steps p.tables e below (s₁.setTop (entryFrame m #[(.ref tb), (.int x1), (.int x2)] 3)) t := fun t k => castTop (ef_rm12 m tb x1 x2) k
  have st : ∀ t, Steps p.tables e below (s₁.setTop (mkF m 0 #[.val (.ref tb), .val (.int x1), .val (.int x2)] [])) t → Steps p.tables e below (s₁.setTop (mkF m 0 #[.val (.ref tb), .val (.int x1), .val (.int x2)] [])) t := fun t k => k
  have st : ∀ t, Steps p.tables e below (s₁.setTop (mkF m 1 #[.val (.ref tb), .val (.int x1), .val (.int x2)] [(.ref tb)])) t → Steps p.tables e below (s₁.setTop (mkF m 0 #[.val (.ref tb), .val (.int x1), .val (.int x2)] [])) t := fun t k => st t (by
      show Steps p.tables e below (s₁.setTop (mkF m 0 #[.val (.ref tb), .val (.int x1), .val (.int x2)] [])) _
      refine XS.aloadN X.here hx rfl (hb hby d12_0) rfl rfl ?_
      exact k)
  obtain ⟨T1, X, eh, sx⟩ := getF X hx hZ hown (host := "") (Or.inl (hw _ (List.mem_of_getElem? (i := 23) rfl))) Via.refl eh F_tb_operations (g := (mkF m 1 #[.val (.ref tb), .val (.int x1), .val (.int x2)] [(.ref tb)])) rfl rfl (hb hby d12_1)
  have st : ∀ t, Steps p.tables e below (T1.setTop (mkF m 4 #[.val (.ref tb), .val (.int x1), .val (.int x2)] [(.int (3 : Int32))])) t → Steps p.tables e below (s₁.setTop (mkF m 0 #[.val (.ref tb), .val (.int x1), .val (.int x2)] [])) t := fun t k => st t (sx t k)
  have st : ∀ t, Steps p.tables e below (T1.setTop (mkF m 6 #[.val (.ref tb), .val (.int x1), .val (.int x2)] [(.ref tb), (.long ((3 : Int32).toInt64))])) t → Steps p.tables e below (s₁.setTop (mkF m 0 #[.val (.ref tb), .val (.int x1), .val (.int x2)] [])) t := fun t k => st t (by
      show Steps p.tables e below (T1.setTop (mkF m 4 #[.val (.ref tb), .val (.int x1), .val (.int x2)] [(.int (3 : Int32))])) _
      refine XS.i2l X.here hx rfl (hb hby d12_4) rfl ?_
      show Steps p.tables e below (T1.setTop (mkF m 5 #[.val (.ref tb), .val (.int x1), .val (.int x2)] [(.long ((3 : Int32).toInt64))])) _
      refine XS.aloadN X.here hx rfl (hb hby d12_5) rfl rfl ?_
      exact k)
  obtain ⟨T2, X, eh, sx⟩ := getF X hx hZ hown (host := "") (Or.inl (hw _ (List.mem_of_getElem? (i := 23) rfl))) Via.refl eh F_tb_operations (g := (mkF m 6 #[.val (.ref tb), .val (.int x1), .val (.int x2)] [(.ref tb), (.long ((3 : Int32).toInt64))])) rfl rfl (hb hby d12_6)
  have st : ∀ t, Steps p.tables e below (T2.setTop (mkF m 9 #[.val (.ref tb), .val (.int x1), .val (.int x2)] [(.int (3 : Int32)), (.long ((3 : Int32).toInt64))])) t → Steps p.tables e below (s₁.setTop (mkF m 0 #[.val (.ref tb), .val (.int x1), .val (.int x2)] [])) t := fun t k => st t (sx t k)
  have st : ∀ t, Steps p.tables e below (T2.setTop (mkF m 14 #[.val (.ref tb), .val (.int x1), .val (.int x2)] [(.ref tb), (.long (x1.toInt64)), (.long (((3 : Int32).toInt64) * ((3 : Int32).toInt64)))])) t → Steps p.tables e below (s₁.setTop (mkF m 0 #[.val (.ref tb), .val (.int x1), .val (.int x2)] [])) t := fun t k => st t (by
      show Steps p.tables e below (T2.setTop (mkF m 9 #[.val (.ref tb), .val (.int x1), .val (.int x2)] [(.int (3 : Int32)), (.long ((3 : Int32).toInt64))])) _
      refine XS.i2l X.here hx rfl (hb hby d12_9) rfl ?_
      show Steps p.tables e below (T2.setTop (mkF m 10 #[.val (.ref tb), .val (.int x1), .val (.int x2)] [(.long ((3 : Int32).toInt64)), (.long ((3 : Int32).toInt64))])) _
      refine XS.lmul X.here hx rfl (hb hby d12_10) rfl ?_
      show Steps p.tables e below (T2.setTop (mkF m 11 #[.val (.ref tb), .val (.int x1), .val (.int x2)] [(.long (((3 : Int32).toInt64) * ((3 : Int32).toInt64)))])) _
      refine XS.iloadN X.here hx rfl (hb hby d12_11) rfl ?_
      show Steps p.tables e below (T2.setTop (mkF m 12 #[.val (.ref tb), .val (.int x1), .val (.int x2)] [(.int x1), (.long (((3 : Int32).toInt64) * ((3 : Int32).toInt64)))])) _
      refine XS.i2l X.here hx rfl (hb hby d12_12) rfl ?_
      show Steps p.tables e below (T2.setTop (mkF m 13 #[.val (.ref tb), .val (.int x1), .val (.int x2)] [(.long (x1.toInt64)), (.long (((3 : Int32).toInt64) * ((3 : Int32).toInt64)))])) _
      refine XS.aloadN X.here hx rfl (hb hby d12_13) rfl rfl ?_
      exact k)
  obtain ⟨T3, X, eh, sx⟩ := getF X hx hZ hown (host := "") (Or.inl (hw _ (List.mem_of_getElem? (i := 25) rfl))) Via.refl eh F_tb_machines (g := (mkF m 14 #[.val (.ref tb), .val (.int x1), .val (.int x2)] [(.ref tb), (.long (x1.toInt64)), (.long (((3 : Int32).toInt64) * ((3 : Int32).toInt64)))])) rfl rfl (hb hby d12_14)
  have st : ∀ t, Steps p.tables e below (T3.setTop (mkF m 17 #[.val (.ref tb), .val (.int x1), .val (.int x2)] [(.int (2 : Int32)), (.long (x1.toInt64)), (.long (((3 : Int32).toInt64) * ((3 : Int32).toInt64)))])) t → Steps p.tables e below (s₁.setTop (mkF m 0 #[.val (.ref tb), .val (.int x1), .val (.int x2)] [])) t := fun t k => st t (sx t k)
  have st : ∀ t, Steps p.tables e below (T3.setTop (mkF m 23 #[.val (.ref tb), .val (.int x1), .val (.int x2)] [(.long (((((3 : Int32).toInt64) * ((3 : Int32).toInt64)) + ((x1.toInt64) * ((2 : Int32).toInt64))) + (x2.toInt64)))])) t → Steps p.tables e below (s₁.setTop (mkF m 0 #[.val (.ref tb), .val (.int x1), .val (.int x2)] [])) t := fun t k => st t (by
      show Steps p.tables e below (T3.setTop (mkF m 17 #[.val (.ref tb), .val (.int x1), .val (.int x2)] [(.int (2 : Int32)), (.long (x1.toInt64)), (.long (((3 : Int32).toInt64) * ((3 : Int32).toInt64)))])) _
      refine XS.i2l X.here hx rfl (hb hby d12_17) rfl ?_
      show Steps p.tables e below (T3.setTop (mkF m 18 #[.val (.ref tb), .val (.int x1), .val (.int x2)] [(.long ((2 : Int32).toInt64)), (.long (x1.toInt64)), (.long (((3 : Int32).toInt64) * ((3 : Int32).toInt64)))])) _
      refine XS.lmul X.here hx rfl (hb hby d12_18) rfl ?_
      show Steps p.tables e below (T3.setTop (mkF m 19 #[.val (.ref tb), .val (.int x1), .val (.int x2)] [(.long ((x1.toInt64) * ((2 : Int32).toInt64))), (.long (((3 : Int32).toInt64) * ((3 : Int32).toInt64)))])) _
      refine XS.ladd X.here hx rfl (hb hby d12_19) rfl ?_
      show Steps p.tables e below (T3.setTop (mkF m 20 #[.val (.ref tb), .val (.int x1), .val (.int x2)] [(.long ((((3 : Int32).toInt64) * ((3 : Int32).toInt64)) + ((x1.toInt64) * ((2 : Int32).toInt64))))])) _
      refine XS.iloadN X.here hx rfl (hb hby d12_20) rfl ?_
      show Steps p.tables e below (T3.setTop (mkF m 21 #[.val (.ref tb), .val (.int x1), .val (.int x2)] [(.int x2), (.long ((((3 : Int32).toInt64) * ((3 : Int32).toInt64)) + ((x1.toInt64) * ((2 : Int32).toInt64))))])) _
      refine XS.i2l X.here hx rfl (hb hby d12_21) rfl ?_
      show Steps p.tables e below (T3.setTop (mkF m 22 #[.val (.ref tb), .val (.int x1), .val (.int x2)] [(.long (x2.toInt64)), (.long ((((3 : Int32).toInt64) * ((3 : Int32).toInt64)) + ((x1.toInt64) * ((2 : Int32).toInt64))))])) _
      refine XS.ladd X.here hx rfl (hb hby d12_22) rfl ?_
      exact k)
  obtain ⟨fs_, hr, hrun, hended, hW, hsame⟩ := X.leave (v := some (.long (((((3 : Int32).toInt64) * ((3 : Int32).toInt64)) + ((x1.toInt64) * ((2 : Int32).toInt64))) + (x2.toInt64)))) (fun h => by rw [Bd.returns] at h; cases h)
  refine ⟨_, _, pre0 _ (st _ ?_), hrun, hended, _, _, rfl, ?_, ⟨_, rfl⟩, hW, hsame.mono (by decide) (by decide)⟩
  · exact X.lreturnOut hx Bd.returns (hb hby d12_23) hr
  · show Q_rm12 Z tb x1 x2 h0 n0 _ T3.heap _
    rw [eh]
    exact ⟨_, rfl, N, rfl⟩
theorem d9_0 : decode jdk_29_method_66_code 0 = .ok (.lload_n 0, 1) := by decide +kernel
theorem d9_1 : decode jdk_29_method_66_code 1 = .ok (.lload_n 2, 1) := by decide +kernel
theorem d9_2 : decode jdk_29_method_66_code 2 = .ok (.lcmp, 1) := by decide +kernel
theorem d9_3 : decode jdk_29_method_66_code 3 = .ok (.ifCond .lt 7, 3) := by decide +kernel
theorem d9_6 : decode jdk_29_method_66_code 6 = .ok (.lload_n 0, 1) := by decide +kernel
theorem d9_7 : decode jdk_29_method_66_code 7 = .ok (.goto 4, 3) := by decide +kernel
theorem d9_10 : decode jdk_29_method_66_code 10 = .ok (.lload_n 2, 1) := by decide +kernel
theorem d9_11 : decode jdk_29_method_66_code 11 = .ok (.lreturn, 1) := by decide +kernel
def Q_rm9 (Z : State) (q1 : Int64) (q2 : Int64)  (h0 : Heap) (n0 : Nat) (v : Option Value) (h : Heap) (L : List Loc) : Prop := v = some (.long (own_maxL q1 q2)) ∧ Fr n0 L ∧ h = h0
theorem ef_rm9 (m : MethodId) (x0 : Int64) (x1 : Int64) : entryFrame m #[(.long x0), (.long x1)] 4 = mkF m 0 #[.val (.long x0), .second, .val (.long x1), .second] [] := by first | (simp [entryFrame, mkF, argsToLocals, Value.category]; done) | rfl
set_option maxRecDepth 65536 in
set_option maxHeartbeats 40000000 in
theorem rm9 (l : Launch) (Z : State) (a0 : Array Value) (hw : ∀ d ∈ tables_1, d.before a0 Z = true) (ws : List Jvm.Cond) (q1 : Int64) (q2 : Int64)  (h0 : Heap) (n0 : Nat) (Z0 : n0 ≤ h0.size)  :
    MetFree l (⟨"java/lang/Math", "max", "(JJ)J"⟩ : MethodName) (head1 (Jvm.Cond.code (⟨"java/lang/Math", "max", "(JJ)J"⟩ : MethodName) jdk_29_method_66_code 4 (some .long) :: ws) ({ frames := 0, cells := 0, slots := 0, locals := 0 } : Room)) (fun a' U => a' = #[(.long q1), (.long q2)] ∧ Z.Warmed39 U.vm ∧ U.heap = h0) (fun _ _ _ _ _ => True) (fun _ U o U' => ∃ v L, o = .returned v ∧ Q_rm9 Z q1 q2 h0 n0 v U'.heap L ∧ FrameEnd U o U' L ({ frames := 0, cells := 0, slots := 0, locals := 0 } : Room).cells ({ frames := 0, cells := 0, slots := 0, locals := 0 } : Room).slots) := by
  refine MetFree.of_bodySF (Jvm.Free.JP.mathPlain rfl (by decide +kernel)) hisR ?_
  intro p e s m args below meth cd0 s₁ Bd hml0 hP hK
  obtain ⟨rfl, hZ, hh⟩ := hP
  have hx := Bd.exec
  have hby := Bd.bytes
  have hml : cd0.maxLocals = 4 := hml0
  have hown : s.vm.findClass "java/lang/Math" = some m.cls := findClass_of_methodNamed Bd.named
  have hnm := (name_of_methodNamed Bd.named Bd.method).1
  have X : Stand p l e ({ frames := 0, cells := 0, slots := 0, locals := 0 } : Room) s m #[(.long q1), (.long q2)] below meth cd0 s₁ [] 0 0 := Stand.of_body Bd
  have eh : s₁.heap = h0 := by rw [← hh, Bd.state]; rfl
  have N := Fr.nil n0
  have K : Keep h0 h0 [] := Keep.refl _ _
  have pre0 : ∀ t, Steps p.tables e below (s₁.setTop (mkF m 0 #[.val (.long q1), .second, .val (.long q2), .second] [])) t → Steps p.tables e below (s₁.setTop (entryFrame m #[(.long q1), (.long q2)] 4)) t := fun t k => castTop (ef_rm9 m q1 q2) k
  have st : ∀ t, Steps p.tables e below (s₁.setTop (mkF m 0 #[.val (.long q1), .second, .val (.long q2), .second] [])) t → Steps p.tables e below (s₁.setTop (mkF m 0 #[.val (.long q1), .second, .val (.long q2), .second] [])) t := fun t k => k
  obtain ⟨r, hv_r, sx⟩ : ∃ (r : Int64), r = (if q1 < q2 then q2 else q1) ∧ ∀ t, Steps p.tables e below (s₁.setTop (mkF m 11 #[.val (.long q1), .second, .val (.long q2), .second] [(.long r)])) t → Steps p.tables e below (s₁.setTop (mkF m 0 #[.val (.long q1), .second, .val (.long q2), .second] [])) t := by
    by_cases hj1 : q1 < q2
    · refine ⟨q2, by rw [if_pos hj1], fun t k => ?_⟩
      show Steps p.tables e below (s₁.setTop (mkF m 0 #[.val (.long q1), .second, .val (.long q2), .second] [])) _
      refine XS.lloadN X.here hx rfl (hb hby d9_0) rfl ?_
      show Steps p.tables e below (s₁.setTop (mkF m 1 #[.val (.long q1), .second, .val (.long q2), .second] [(.long q1)])) _
      refine XS.lloadN X.here hx rfl (hb hby d9_1) rfl ?_
      show Steps p.tables e below (s₁.setTop (mkF m 2 #[.val (.long q1), .second, .val (.long q2), .second] [(.long q2), (.long q1)])) _
      refine XS.lcmp X.here hx rfl (hb hby d9_2) rfl ?_
      show Steps p.tables e below (s₁.setTop (mkF m 3 #[.val (.long q1), .second, .val (.long q2), .second] [(.int (lcmpW q1 q2))])) _
      refine XS.ifYes X.here hx rfl (pc0 := 3) (pc' := 10) rfl (hb hby d9_3) rfl ((if0 _ _).trans (tlt ((lw_lt q1 q2).mpr hj1)).1) (by decide) (by decide) ?_
      show Steps p.tables e below (s₁.setTop (mkF m 10 #[.val (.long q1), .second, .val (.long q2), .second] [])) _
      refine XS.lloadN X.here hx rfl (hb hby d9_10) rfl ?_
      exact k
    · refine ⟨q1, by rw [if_neg hj1], fun t k => ?_⟩
      show Steps p.tables e below (s₁.setTop (mkF m 0 #[.val (.long q1), .second, .val (.long q2), .second] [])) _
      refine XS.lloadN X.here hx rfl (hb hby d9_0) rfl ?_
      show Steps p.tables e below (s₁.setTop (mkF m 1 #[.val (.long q1), .second, .val (.long q2), .second] [(.long q1)])) _
      refine XS.lloadN X.here hx rfl (hb hby d9_1) rfl ?_
      show Steps p.tables e below (s₁.setTop (mkF m 2 #[.val (.long q1), .second, .val (.long q2), .second] [(.long q2), (.long q1)])) _
      refine XS.lcmp X.here hx rfl (hb hby d9_2) rfl ?_
      show Steps p.tables e below (s₁.setTop (mkF m 3 #[.val (.long q1), .second, .val (.long q2), .second] [(.int (lcmpW q1 q2))])) _
      refine XS.ifNo X.here hx rfl (hb hby d9_3) rfl ((if0 _ _).trans (flt (fun q => hj1 ((lw_lt q1 q2).mp q))).1) ?_
      show Steps p.tables e below (s₁.setTop (mkF m 6 #[.val (.long q1), .second, .val (.long q2), .second] [])) _
      refine XS.lloadN X.here hx rfl (hb hby d9_6) rfl ?_
      show Steps p.tables e below (s₁.setTop (mkF m 7 #[.val (.long q1), .second, .val (.long q2), .second] [(.long q1)])) _
      refine XS.goto X.here hx rfl (pc0 := 7) (pc' := 11) rfl (hb hby d9_7) (by decide) (by decide) ?_
      exact k
  have st : ∀ t, Steps p.tables e below (s₁.setTop (mkF m 11 #[.val (.long q1), .second, .val (.long q2), .second] [(.long r)])) t → Steps p.tables e below (s₁.setTop (mkF m 0 #[.val (.long q1), .second, .val (.long q2), .second] [])) t := fun t k => st t (sx t k)
  obtain rfl : r = own_maxL q1 q2 := hv_r
  obtain ⟨fs_, hr, hrun, hended, hW, hsame⟩ := X.leave (v := some (.long (own_maxL q1 q2))) (fun h => by rw [Bd.returns] at h; cases h)
  refine ⟨_, _, pre0 _ (st _ ?_), hrun, hended, _, _, rfl, ?_, ⟨_, rfl⟩, hW, hsame.mono (by decide) (by decide)⟩
  · exact X.lreturnOut hx Bd.returns (hb hby d9_11) hr
  · show Q_rm9 Z q1 q2 h0 n0 _ s₁.heap _
    rw [eh]
    exact ⟨rfl, N, rfl⟩
theorem d8_0 : decode prog_46_method_11_code 0 = .ok (.aload_n 2, 1) := by decide +kernel
theorem d8_1 : decode prog_46_method_11_code 1 = .ok (.arraylength, 1) := by decide +kernel
theorem d8_2 : decode prog_46_method_11_code 2 = .ok (.iconst 1, 1) := by decide +kernel
theorem d8_3 : decode prog_46_method_11_code 3 = .ok (.isub, 1) := by decide +kernel
theorem d8_4 : decode prog_46_method_11_code 4 = .ok (.istore_n 3, 1) := by decide +kernel
theorem d8_5 : decode prog_46_method_11_code 5 = .ok (.lload_n 0, 1) := by decide +kernel
theorem d8_6 : decode prog_46_method_11_code 6 = .ok (.ldc2_w 74, 3) := by decide +kernel
theorem d8_9 : decode prog_46_method_11_code 9 = .ok (.lmul, 1) := by decide +kernel
theorem d8_10 : decode prog_46_method_11_code 10 = .ok (.bipush 32, 2) := by decide +kernel
theorem d8_12 : decode prog_46_method_11_code 12 = .ok (.lushr, 1) := by decide +kernel
theorem d8_13 : decode prog_46_method_11_code 13 = .ok (.l2i, 1) := by decide +kernel
theorem d8_14 : decode prog_46_method_11_code 14 = .ok (.iload_n 3, 1) := by decide +kernel
theorem d8_15 : decode prog_46_method_11_code 15 = .ok (.iand, 1) := by decide +kernel
theorem d8_16 : decode prog_46_method_11_code 16 = .ok (.istore 4, 2) := by decide +kernel
theorem d8_18 : decode prog_46_method_11_code 18 = .ok (.aload_n 2, 1) := by decide +kernel
theorem d8_19 : decode prog_46_method_11_code 19 = .ok (.iload 4, 2) := by decide +kernel
theorem d8_21 : decode prog_46_method_11_code 21 = .ok (.laload, 1) := by decide +kernel
theorem d8_22 : decode prog_46_method_11_code 22 = .ok (.lload_n 0, 1) := by decide +kernel
theorem d8_23 : decode prog_46_method_11_code 23 = .ok (.lcmp, 1) := by decide +kernel
theorem d8_24 : decode prog_46_method_11_code 24 = .ok (.ifCond .eq 25, 3) := by decide +kernel
theorem d8_27 : decode prog_46_method_11_code 27 = .ok (.aload_n 2, 1) := by decide +kernel
theorem d8_28 : decode prog_46_method_11_code 28 = .ok (.iload 4, 2) := by decide +kernel
theorem d8_30 : decode prog_46_method_11_code 30 = .ok (.laload, 1) := by decide +kernel
theorem d8_31 : decode prog_46_method_11_code 31 = .ok (.ldc2_w 72, 3) := by decide +kernel
theorem d8_34 : decode prog_46_method_11_code 34 = .ok (.lcmp, 1) := by decide +kernel
theorem d8_35 : decode prog_46_method_11_code 35 = .ok (.ifCond .eq 14, 3) := by decide +kernel
theorem d8_38 : decode prog_46_method_11_code 38 = .ok (.iload 4, 2) := by decide +kernel
theorem d8_40 : decode prog_46_method_11_code 40 = .ok (.iconst 1, 1) := by decide +kernel
theorem d8_41 : decode prog_46_method_11_code 41 = .ok (.iadd, 1) := by decide +kernel
theorem d8_42 : decode prog_46_method_11_code 42 = .ok (.iload_n 3, 1) := by decide +kernel
theorem d8_43 : decode prog_46_method_11_code 43 = .ok (.iand, 1) := by decide +kernel
theorem d8_44 : decode prog_46_method_11_code 44 = .ok (.istore 4, 2) := by decide +kernel
theorem d8_46 : decode prog_46_method_11_code 46 = .ok (.goto (-28), 3) := by decide +kernel
theorem d8_49 : decode prog_46_method_11_code 49 = .ok (.iload 4, 2) := by decide +kernel
theorem d8_51 : decode prog_46_method_11_code 51 = .ok (.ireturn, 1) := by decide +kernel
def Q_rm8 (Z : State) (key : Int64) (ka : Addr) (k_ka : ClassId) (ks : Nat → Int64) (h0 : Heap) (n0 : Nat) (v : Option Value) (h : Heap) (L : List Loc) : Prop := ∃ r : Nat, v = some (.int (Int32.ofNat r)) ∧ Fr n0 L ∧ r < 16 ∧ h = h0
theorem ef_rm8 (m : MethodId) (x0 : Int64) (x1 : Addr) : entryFrame m #[(.long x0), (.ref x1)] 5 = mkF m 0 #[.val (.long x0), .second, .val (.ref x1), .unset, .unset] [] := by first | (simp [entryFrame, mkF, argsToLocals, Value.category]; done) | rfl
set_option maxRecDepth 65536 in
set_option maxHeartbeats 40000000 in
theorem rm8 (l : Launch) (Z : State) (a0 : Array Value) (hw : ∀ d ∈ tables_1, d.before a0 Z = true) (ws : List Jvm.Cond) (key : Int64) (ka : Addr) (k_ka : ClassId) (ks : Nat → Int64) (h0 : Heap) (n0 : Nat) (Z0 : n0 ≤ h0.size) (V_ka : Arv Z h0 ka k_ka .long (Int32.ofNat 16) (own_al 16 ks) (.long (0 : Int64))) (hE : ∃ j, j < 16 ∧ ks j = (-1 : Int64)) :
    MetFree l (⟨"com/example/paretoloom/paretoloom/TabuList", "slotOf", "(J[J)I"⟩ : MethodName) (head1 (Jvm.Cond.code (⟨"com/example/paretoloom/paretoloom/TabuList", "slotOf", "(J[J)I"⟩ : MethodName) prog_46_method_11_code 5 (some .int) :: ws) ({ frames := 0, cells := 0, slots := 0, locals := 0 } : Room)) (fun a' U => a' = #[(.long key), (.ref ka)] ∧ Z.Warmed39 U.vm ∧ U.heap = h0) (fun _ _ _ _ _ => True) (fun _ U o U' => ∃ v L, o = .returned v ∧ Q_rm8 Z key ka k_ka ks h0 n0 v U'.heap L ∧ FrameEnd U o U' L ({ frames := 0, cells := 0, slots := 0, locals := 0 } : Room).cells ({ frames := 0, cells := 0, slots := 0, locals := 0 } : Room).slots) := by
  refine MetFree.of_bodySF (plainFor_of_name own_pn3) hisR ?_
  intro p e s m args below meth cd0 s₁ Bd hml0 hP hK
  obtain ⟨rfl, hZ, hh⟩ := hP
  have hx := Bd.exec
  have hby := Bd.bytes
  have hml : cd0.maxLocals = 5 := hml0
  have hown : s.vm.findClass "com/example/paretoloom/paretoloom/TabuList" = some m.cls := findClass_of_methodNamed Bd.named
  have hnm := (name_of_methodNamed Bd.named Bd.method).1
  have X : Stand p l e ({ frames := 0, cells := 0, slots := 0, locals := 0 } : Room) s m #[(.long key), (.ref ka)] below meth cd0 s₁ [] 0 0 := Stand.of_body Bd
  have eh : s₁.heap = h0 := by rw [← hh, Bd.state]; rfl
  have N := Fr.nil n0
  have K : Keep h0 h0 [] := Keep.refl _ _
  have pre0 : ∀ t, Steps p.tables e below (s₁.setTop (mkF m 0 #[.val (.long key), .second, .val (.ref ka), .unset, .unset] [])) t → Steps p.tables e below (s₁.setTop (entryFrame m #[(.long key), (.ref ka)] 5)) t := fun t k => castTop (ef_rm8 m key ka) k
  have st : ∀ t, Steps p.tables e below (s₁.setTop (mkF m 0 #[.val (.long key), .second, .val (.ref ka), .unset, .unset] [])) t → Steps p.tables e below (s₁.setTop (mkF m 0 #[.val (.long key), .second, .val (.ref ka), .unset, .unset] [])) t := fun t k => k
  have st : ∀ t, Steps p.tables e below (s₁.setTop (mkF m 1 #[.val (.long key), .second, .val (.ref ka), .unset, .unset] [(.ref ka)])) t → Steps p.tables e below (s₁.setTop (mkF m 0 #[.val (.long key), .second, .val (.ref ka), .unset, .unset] [])) t := fun t k => st t (by
      show Steps p.tables e below (s₁.setTop (mkF m 0 #[.val (.long key), .second, .val (.ref ka), .unset, .unset] [])) _
      refine XS.aloadN X.here hx rfl (hb hby d8_0) rfl rfl ?_
      exact k)
  obtain ⟨cl1, Ar1, Sz1, Mz1⟩ := own_lenOf V_ka
  have st : ∀ t, Steps p.tables e below (s₁.setTop (mkF m 4 #[.val (.long key), .second, .val (.ref ka), .unset, .unset] [(.int ((16 : Int32) - (1 : Int32)))])) t → Steps p.tables e below (s₁.setTop (mkF m 0 #[.val (.long key), .second, .val (.ref ka), .unset, .unset] [])) t := fun t k => st t (by
      show Steps p.tables e below (s₁.setTop (mkF m 1 #[.val (.long key), .second, .val (.ref ka), .unset, .unset] [(.ref ka)])) _
      refine X.arraylength hx (cell := cl1) (by rw [eh]; exact Ar1.1) (State.isArrayOf_alike hZ.alike Ar1.2.1) (g := (mkF m 1 #[.val (.long key), .second, .val (.ref ka), .unset, .unset] [(.ref ka)])) rfl (rest := []) rfl (hb hby d8_1) _ ?_
      rw [len_of Sz1 Mz1]
      show Steps p.tables e below (s₁.setTop (mkF m 2 #[.val (.long key), .second, .val (.ref ka), .unset, .unset] [(.int (16 : Int32))])) _
      refine XS.iconst X.here hx rfl (hb hby d8_2) ?_
      show Steps p.tables e below (s₁.setTop (mkF m 3 #[.val (.long key), .second, .val (.ref ka), .unset, .unset] [(.int (1 : Int32)), (.int (16 : Int32))])) _
      refine XS.isub X.here hx rfl (hb hby d8_3) rfl ?_
      exact k)
  have st : ∀ t, Steps p.tables e below (s₁.setTop (mkF m 4 #[.val (.long key), .second, .val (.ref ka), .unset, .unset] [(.int (15 : Int32))])) t → Steps p.tables e below (s₁.setTop (mkF m 0 #[.val (.long key), .second, .val (.ref ka), .unset, .unset] [])) t := by exact st
  have st : ∀ t, Steps p.tables e below (s₁.setTop (mkF m 16 #[.val (.long key), .second, .val (.ref ka), .val (.int (15 : Int32)), .unset] [(.int (((((key * (-7046029254386353131 : Int64)).toUInt64 >>> ((32 : Int32) &&& 0x3f).toInt64.toUInt64).toInt64).toInt32) &&& (15 : Int32)))])) t → Steps p.tables e below (s₁.setTop (mkF m 0 #[.val (.long key), .second, .val (.ref ka), .unset, .unset] [])) t := fun t k => st t (by
      show Steps p.tables e below (s₁.setTop (mkF m 4 #[.val (.long key), .second, .val (.ref ka), .unset, .unset] [(.int (15 : Int32))])) _
      refine XS.istoreN X.here hx rfl (hb hby d8_4) rfl (l' := #[.val (.long key), .second, .val (.ref ka), .val (.int (15 : Int32)), .unset]) rfl ?_
      show Steps p.tables e below (s₁.setTop (mkF m 5 #[.val (.long key), .second, .val (.ref ka), .val (.int (15 : Int32)), .unset] [])) _
      refine XS.lloadN X.here hx rfl (hb hby d8_5) rfl ?_
      show Steps p.tables e below (s₁.setTop (mkF m 6 #[.val (.long key), .second, .val (.ref ka), .val (.int (15 : Int32)), .unset] [(.long key)])) _
      refine X.ldc2Long hx hown (mvT hZ (hw _ (List.mem_of_getElem? (i := 51) rfl))) (g := (mkF m 6 #[.val (.long key), .second, .val (.ref ka), .val (.int (15 : Int32)), .unset] [(.long key)])) rfl (hb hby d8_6) _ ?_
      show Steps p.tables e below (s₁.setTop (mkF m 9 #[.val (.long key), .second, .val (.ref ka), .val (.int (15 : Int32)), .unset] [(.long (-7046029254386353131 : Int64)), (.long key)])) _
      refine XS.lmul X.here hx rfl (hb hby d8_9) rfl ?_
      show Steps p.tables e below (s₁.setTop (mkF m 10 #[.val (.long key), .second, .val (.ref ka), .val (.int (15 : Int32)), .unset] [(.long (key * (-7046029254386353131 : Int64)))])) _
      refine XS.bipush X.here hx rfl (hb hby d8_10) ?_
      show Steps p.tables e below (s₁.setTop (mkF m 12 #[.val (.long key), .second, .val (.ref ka), .val (.int (15 : Int32)), .unset] [(.int (32 : Int32)), (.long (key * (-7046029254386353131 : Int64)))])) _
      refine XS.lushr X.here hx rfl (hb hby d8_12) rfl ?_
      show Steps p.tables e below (s₁.setTop (mkF m 13 #[.val (.long key), .second, .val (.ref ka), .val (.int (15 : Int32)), .unset] [(.long (((key * (-7046029254386353131 : Int64)).toUInt64 >>> ((32 : Int32) &&& 0x3f).toInt64.toUInt64).toInt64))])) _
      refine XS.l2i X.here hx rfl (hb hby d8_13) rfl ?_
      show Steps p.tables e below (s₁.setTop (mkF m 14 #[.val (.long key), .second, .val (.ref ka), .val (.int (15 : Int32)), .unset] [(.int ((((key * (-7046029254386353131 : Int64)).toUInt64 >>> ((32 : Int32) &&& 0x3f).toInt64.toUInt64).toInt64).toInt32))])) _
      refine XS.iloadN X.here hx rfl (hb hby d8_14) rfl ?_
      show Steps p.tables e below (s₁.setTop (mkF m 15 #[.val (.long key), .second, .val (.ref ka), .val (.int (15 : Int32)), .unset] [(.int (15 : Int32)), (.int ((((key * (-7046029254386353131 : Int64)).toUInt64 >>> ((32 : Int32) &&& 0x3f).toInt64.toUInt64).toInt64).toInt32))])) _
      refine XS.iand X.here hx rfl (hb hby d8_15) rfl ?_
      exact k)
  obtain ⟨i0, hi0, ei0⟩ := own_mask ((((key * (-7046029254386353131 : Int64)).toUInt64 >>> ((32 : Int32) &&& 0x3f).toInt64.toUInt64).toInt64).toInt32)
  have st : ∀ t, Steps p.tables e below (s₁.setTop (mkF m 16 #[.val (.long key), .second, .val (.ref ka), .val (.int (15 : Int32)), .unset] [(.int (Int32.ofNat i0))])) t → Steps p.tables e below (s₁.setTop (mkF m 0 #[.val (.long key), .second, .val (.ref ka), .unset, .unset] [])) t := by rw [← ei0]; exact st
  have st : ∀ t, Steps p.tables e below (s₁.setTop (mkF m 18 #[.val (.long key), .second, .val (.ref ka), .val (.int (15 : Int32)), .val (.int (Int32.ofNat i0))] [])) t → Steps p.tables e below (s₁.setTop (mkF m 0 #[.val (.long key), .second, .val (.ref ka), .unset, .unset] [])) t := fun t k => st t (by
      show Steps p.tables e below (s₁.setTop (mkF m 16 #[.val (.long key), .second, .val (.ref ka), .val (.int (15 : Int32)), .unset] [(.int (Int32.ofNat i0))])) _
      refine XS.istore X.here hx rfl (hb hby d8_16) rfl (l' := #[.val (.long key), .second, .val (.ref ka), .val (.int (15 : Int32)), .val (.int (Int32.ofNat i0))]) rfl ?_
      exact k)
  obtain ⟨lo2, X, N⟩ : ∃ loX, Stand p l e ({ frames := 0, cells := 0, slots := 0, locals := 0 } : Room) s m #[(.long key), (.ref ka)] below meth cd0 s₁ loX 0 0 ∧ Fr n0 loX := ⟨_, X, N⟩
  have loop : ∀ (d i : Nat) (T : State), i < 16 → ks ((i + d) % 16) = (-1 : Int64) → Stand p l e ({ frames := 0, cells := 0, slots := 0, locals := 0 } : Room) s m #[(.long key), (.ref ka)] below meth cd0 T lo2 0 0 → T.heap = h0 → ∃ (T' : State) (r : Nat), Stand p l e ({ frames := 0, cells := 0, slots := 0, locals := 0 } : Room) s m #[(.long key), (.ref ka)] below meth cd0 T' lo2 0 0 ∧ T'.heap = h0 ∧ r < 16 ∧ ∀ t, Steps p.tables e below (T'.setTop (mkF m 49 #[.val (.long key), .second, .val (.ref ka), .val (.int (15 : Int32)), .val (.int (Int32.ofNat r))] [])) t → Steps p.tables e below (T.setTop (mkF m 18 #[.val (.long key), .second, .val (.ref ka), .val (.int (15 : Int32)), .val (.int (Int32.ofNat i))] [])) t := by
    intro d
    induction d with
    | zero =>
      intro i T hi hd X eh
      have hd' : ks i = (-1 : Int64) := by rw [Nat.add_zero, Nat.mod_eq_of_lt hi] at hd; exact hd
      have st : ∀ t, Steps p.tables e below (T.setTop (mkF m 18 #[.val (.long key), .second, .val (.ref ka), .val (.int (15 : Int32)), .val (.int (Int32.ofNat i))] [])) t → Steps p.tables e below (T.setTop (mkF m 18 #[.val (.long key), .second, .val (.ref ka), .val (.int (15 : Int32)), .val (.int (Int32.ofNat i))] [])) t := fun t k => k
      have st : ∀ t, Steps p.tables e below (T.setTop (mkF m 21 #[.val (.long key), .second, .val (.ref ka), .val (.int (15 : Int32)), .val (.int (Int32.ofNat i))] [(.int (Int32.ofNat i)), (.ref ka)])) t → Steps p.tables e below (T.setTop (mkF m 18 #[.val (.long key), .second, .val (.ref ka), .val (.int (15 : Int32)), .val (.int (Int32.ofNat i))] [])) t := fun t k => st t (by
          show Steps p.tables e below (T.setTop (mkF m 18 #[.val (.long key), .second, .val (.ref ka), .val (.int (15 : Int32)), .val (.int (Int32.ofNat i))] [])) _
          refine XS.aloadN X.here hx rfl (hb hby d8_18) rfl rfl ?_
          show Steps p.tables e below (T.setTop (mkF m 19 #[.val (.long key), .second, .val (.ref ka), .val (.int (15 : Int32)), .val (.int (Int32.ofNat i))] [(.ref ka)])) _
          refine XS.iload X.here hx rfl (hb hby d8_19) rfl ?_
          exact k)
      obtain ⟨cl3, Ar3, hin3, hat3⟩ := own_rd (by decide) V_ka i hi
      have st : ∀ t, Steps p.tables e below (T.setTop (mkF m 24 #[.val (.long key), .second, .val (.ref ka), .val (.int (15 : Int32)), .val (.int (Int32.ofNat i))] [(.int (lcmpW (ks i) key))])) t → Steps p.tables e below (T.setTop (mkF m 18 #[.val (.long key), .second, .val (.ref ka), .val (.int (15 : Int32)), .val (.int (Int32.ofNat i))] [])) t := fun t k => st t (by
          show Steps p.tables e below (T.setTop (mkF m 21 #[.val (.long key), .second, .val (.ref ka), .val (.int (15 : Int32)), .val (.int (Int32.ofNat i))] [(.int (Int32.ofNat i)), (.ref ka)])) _
          refine X.laload hx (j := (Int32.ofNat i)) (v := (.long (ks i))) (by rw [eh]; exact Ar3.1) (State.isArrayOf_alike hZ.alike Ar3.2.1) Ar3.2.2 hin3 hat3 (g := (mkF m 21 #[.val (.long key), .second, .val (.ref ka), .val (.int (15 : Int32)), .val (.int (Int32.ofNat i))] [(.int (Int32.ofNat i)), (.ref ka)])) rfl rfl (hb hby d8_21) _ ?_
          show Steps p.tables e below (T.setTop (mkF m 22 #[.val (.long key), .second, .val (.ref ka), .val (.int (15 : Int32)), .val (.int (Int32.ofNat i))] [(.long (ks i))])) _
          refine XS.lloadN X.here hx rfl (hb hby d8_22) rfl ?_
          show Steps p.tables e below (T.setTop (mkF m 23 #[.val (.long key), .second, .val (.ref ka), .val (.int (15 : Int32)), .val (.int (Int32.ofNat i))] [(.long key), (.long (ks i))])) _
          refine XS.lcmp X.here hx rfl (hb hby d8_23) rfl ?_
          exact k)
      by_cases hq : (ks i) = key
      · have st : ∀ t, Steps p.tables e below (T.setTop (mkF m 49 #[.val (.long key), .second, .val (.ref ka), .val (.int (15 : Int32)), .val (.int (Int32.ofNat i))] [])) t → Steps p.tables e below (T.setTop (mkF m 18 #[.val (.long key), .second, .val (.ref ka), .val (.int (15 : Int32)), .val (.int (Int32.ofNat i))] [])) t := fun t k => st t (by
            show Steps p.tables e below (T.setTop (mkF m 24 #[.val (.long key), .second, .val (.ref ka), .val (.int (15 : Int32)), .val (.int (Int32.ofNat i))] [(.int (lcmpW (ks i) key))])) _
            refine XS.ifYes X.here hx rfl (pc0 := 24) (pc' := 49) rfl (hb hby d8_24) rfl ((if0 _ _).trans (teq ((lw_eq (ks i) key).mpr hq)).1) (by decide) (by decide) ?_
            exact k)
        exact ⟨T, i, X, eh, hi, st⟩
      · have st : ∀ t, Steps p.tables e below (T.setTop (mkF m 30 #[.val (.long key), .second, .val (.ref ka), .val (.int (15 : Int32)), .val (.int (Int32.ofNat i))] [(.int (Int32.ofNat i)), (.ref ka)])) t → Steps p.tables e below (T.setTop (mkF m 18 #[.val (.long key), .second, .val (.ref ka), .val (.int (15 : Int32)), .val (.int (Int32.ofNat i))] [])) t := fun t k => st t (by
            show Steps p.tables e below (T.setTop (mkF m 24 #[.val (.long key), .second, .val (.ref ka), .val (.int (15 : Int32)), .val (.int (Int32.ofNat i))] [(.int (lcmpW (ks i) key))])) _
            refine XS.ifNo X.here hx rfl (hb hby d8_24) rfl ((if0 _ _).trans (feq (fun q => hq ((lw_eq (ks i) key).mp q))).1) ?_
            show Steps p.tables e below (T.setTop (mkF m 27 #[.val (.long key), .second, .val (.ref ka), .val (.int (15 : Int32)), .val (.int (Int32.ofNat i))] [])) _
            refine XS.aloadN X.here hx rfl (hb hby d8_27) rfl rfl ?_
            show Steps p.tables e below (T.setTop (mkF m 28 #[.val (.long key), .second, .val (.ref ka), .val (.int (15 : Int32)), .val (.int (Int32.ofNat i))] [(.ref ka)])) _
            refine XS.iload X.here hx rfl (hb hby d8_28) rfl ?_
            exact k)
        obtain ⟨cl4, Ar4, hin4, hat4⟩ := own_rd (by decide) V_ka i hi
        have st : ∀ t, Steps p.tables e below (T.setTop (mkF m 49 #[.val (.long key), .second, .val (.ref ka), .val (.int (15 : Int32)), .val (.int (Int32.ofNat i))] [])) t → Steps p.tables e below (T.setTop (mkF m 18 #[.val (.long key), .second, .val (.ref ka), .val (.int (15 : Int32)), .val (.int (Int32.ofNat i))] [])) t := fun t k => st t (by
            show Steps p.tables e below (T.setTop (mkF m 30 #[.val (.long key), .second, .val (.ref ka), .val (.int (15 : Int32)), .val (.int (Int32.ofNat i))] [(.int (Int32.ofNat i)), (.ref ka)])) _
            refine X.laload hx (j := (Int32.ofNat i)) (v := (.long (ks i))) (by rw [eh]; exact Ar4.1) (State.isArrayOf_alike hZ.alike Ar4.2.1) Ar4.2.2 hin4 hat4 (g := (mkF m 30 #[.val (.long key), .second, .val (.ref ka), .val (.int (15 : Int32)), .val (.int (Int32.ofNat i))] [(.int (Int32.ofNat i)), (.ref ka)])) rfl rfl (hb hby d8_30) _ ?_
            show Steps p.tables e below (T.setTop (mkF m 31 #[.val (.long key), .second, .val (.ref ka), .val (.int (15 : Int32)), .val (.int (Int32.ofNat i))] [(.long (ks i))])) _
            refine X.ldc2Long hx hown (mvT hZ (hw _ (List.mem_of_getElem? (i := 14) rfl))) (g := (mkF m 31 #[.val (.long key), .second, .val (.ref ka), .val (.int (15 : Int32)), .val (.int (Int32.ofNat i))] [(.long (ks i))])) rfl (hb hby d8_31) _ ?_
            show Steps p.tables e below (T.setTop (mkF m 34 #[.val (.long key), .second, .val (.ref ka), .val (.int (15 : Int32)), .val (.int (Int32.ofNat i))] [(.long (-1 : Int64)), (.long (ks i))])) _
            refine XS.lcmp X.here hx rfl (hb hby d8_34) rfl ?_
            show Steps p.tables e below (T.setTop (mkF m 35 #[.val (.long key), .second, .val (.ref ka), .val (.int (15 : Int32)), .val (.int (Int32.ofNat i))] [(.int (lcmpW (ks i) (-1 : Int64)))])) _
            refine XS.ifYes X.here hx rfl (pc0 := 35) (pc' := 49) rfl (hb hby d8_35) rfl ((if0 _ _).trans (teq ((lw_eq (ks i) (-1 : Int64)).mpr hd')).1) (by decide) (by decide) ?_
            exact k)
        exact ⟨T, i, X, eh, hi, st⟩
    | succ d ih =>
      intro i T hi hd X eh
      have st : ∀ t, Steps p.tables e below (T.setTop (mkF m 18 #[.val (.long key), .second, .val (.ref ka), .val (.int (15 : Int32)), .val (.int (Int32.ofNat i))] [])) t → Steps p.tables e below (T.setTop (mkF m 18 #[.val (.long key), .second, .val (.ref ka), .val (.int (15 : Int32)), .val (.int (Int32.ofNat i))] [])) t := fun t k => k
      have st : ∀ t, Steps p.tables e below (T.setTop (mkF m 21 #[.val (.long key), .second, .val (.ref ka), .val (.int (15 : Int32)), .val (.int (Int32.ofNat i))] [(.int (Int32.ofNat i)), (.ref ka)])) t → Steps p.tables e below (T.setTop (mkF m 18 #[.val (.long key), .second, .val (.ref ka), .val (.int (15 : Int32)), .val (.int (Int32.ofNat i))] [])) t := fun t k => st t (by
          show Steps p.tables e below (T.setTop (mkF m 18 #[.val (.long key), .second, .val (.ref ka), .val (.int (15 : Int32)), .val (.int (Int32.ofNat i))] [])) _
          refine XS.aloadN X.here hx rfl (hb hby d8_18) rfl rfl ?_
          show Steps p.tables e below (T.setTop (mkF m 19 #[.val (.long key), .second, .val (.ref ka), .val (.int (15 : Int32)), .val (.int (Int32.ofNat i))] [(.ref ka)])) _
          refine XS.iload X.here hx rfl (hb hby d8_19) rfl ?_
          exact k)
      obtain ⟨cl5, Ar5, hin5, hat5⟩ := own_rd (by decide) V_ka i hi
      have st : ∀ t, Steps p.tables e below (T.setTop (mkF m 24 #[.val (.long key), .second, .val (.ref ka), .val (.int (15 : Int32)), .val (.int (Int32.ofNat i))] [(.int (lcmpW (ks i) key))])) t → Steps p.tables e below (T.setTop (mkF m 18 #[.val (.long key), .second, .val (.ref ka), .val (.int (15 : Int32)), .val (.int (Int32.ofNat i))] [])) t := fun t k => st t (by
          show Steps p.tables e below (T.setTop (mkF m 21 #[.val (.long key), .second, .val (.ref ka), .val (.int (15 : Int32)), .val (.int (Int32.ofNat i))] [(.int (Int32.ofNat i)), (.ref ka)])) _
          refine X.laload hx (j := (Int32.ofNat i)) (v := (.long (ks i))) (by rw [eh]; exact Ar5.1) (State.isArrayOf_alike hZ.alike Ar5.2.1) Ar5.2.2 hin5 hat5 (g := (mkF m 21 #[.val (.long key), .second, .val (.ref ka), .val (.int (15 : Int32)), .val (.int (Int32.ofNat i))] [(.int (Int32.ofNat i)), (.ref ka)])) rfl rfl (hb hby d8_21) _ ?_
          show Steps p.tables e below (T.setTop (mkF m 22 #[.val (.long key), .second, .val (.ref ka), .val (.int (15 : Int32)), .val (.int (Int32.ofNat i))] [(.long (ks i))])) _
          refine XS.lloadN X.here hx rfl (hb hby d8_22) rfl ?_
          show Steps p.tables e below (T.setTop (mkF m 23 #[.val (.long key), .second, .val (.ref ka), .val (.int (15 : Int32)), .val (.int (Int32.ofNat i))] [(.long key), (.long (ks i))])) _
          refine XS.lcmp X.here hx rfl (hb hby d8_23) rfl ?_
          exact k)
      by_cases hq : (ks i) = key
      · have st : ∀ t, Steps p.tables e below (T.setTop (mkF m 49 #[.val (.long key), .second, .val (.ref ka), .val (.int (15 : Int32)), .val (.int (Int32.ofNat i))] [])) t → Steps p.tables e below (T.setTop (mkF m 18 #[.val (.long key), .second, .val (.ref ka), .val (.int (15 : Int32)), .val (.int (Int32.ofNat i))] [])) t := fun t k => st t (by
            show Steps p.tables e below (T.setTop (mkF m 24 #[.val (.long key), .second, .val (.ref ka), .val (.int (15 : Int32)), .val (.int (Int32.ofNat i))] [(.int (lcmpW (ks i) key))])) _
            refine XS.ifYes X.here hx rfl (pc0 := 24) (pc' := 49) rfl (hb hby d8_24) rfl ((if0 _ _).trans (teq ((lw_eq (ks i) key).mpr hq)).1) (by decide) (by decide) ?_
            exact k)
        exact ⟨T, i, X, eh, hi, st⟩
      · have st : ∀ t, Steps p.tables e below (T.setTop (mkF m 30 #[.val (.long key), .second, .val (.ref ka), .val (.int (15 : Int32)), .val (.int (Int32.ofNat i))] [(.int (Int32.ofNat i)), (.ref ka)])) t → Steps p.tables e below (T.setTop (mkF m 18 #[.val (.long key), .second, .val (.ref ka), .val (.int (15 : Int32)), .val (.int (Int32.ofNat i))] [])) t := fun t k => st t (by
            show Steps p.tables e below (T.setTop (mkF m 24 #[.val (.long key), .second, .val (.ref ka), .val (.int (15 : Int32)), .val (.int (Int32.ofNat i))] [(.int (lcmpW (ks i) key))])) _
            refine XS.ifNo X.here hx rfl (hb hby d8_24) rfl ((if0 _ _).trans (feq (fun q => hq ((lw_eq (ks i) key).mp q))).1) ?_
            show Steps p.tables e below (T.setTop (mkF m 27 #[.val (.long key), .second, .val (.ref ka), .val (.int (15 : Int32)), .val (.int (Int32.ofNat i))] [])) _
            refine XS.aloadN X.here hx rfl (hb hby d8_27) rfl rfl ?_
            show Steps p.tables e below (T.setTop (mkF m 28 #[.val (.long key), .second, .val (.ref ka), .val (.int (15 : Int32)), .val (.int (Int32.ofNat i))] [(.ref ka)])) _
            refine XS.iload X.here hx rfl (hb hby d8_28) rfl ?_
            exact k)
        obtain ⟨cl6, Ar6, hin6, hat6⟩ := own_rd (by decide) V_ka i hi
        have st : ∀ t, Steps p.tables e below (T.setTop (mkF m 35 #[.val (.long key), .second, .val (.ref ka), .val (.int (15 : Int32)), .val (.int (Int32.ofNat i))] [(.int (lcmpW (ks i) (-1 : Int64)))])) t → Steps p.tables e below (T.setTop (mkF m 18 #[.val (.long key), .second, .val (.ref ka), .val (.int (15 : Int32)), .val (.int (Int32.ofNat i))] [])) t := fun t k => st t (by
            show Steps p.tables e below (T.setTop (mkF m 30 #[.val (.long key), .second, .val (.ref ka), .val (.int (15 : Int32)), .val (.int (Int32.ofNat i))] [(.int (Int32.ofNat i)), (.ref ka)])) _
            refine X.laload hx (j := (Int32.ofNat i)) (v := (.long (ks i))) (by rw [eh]; exact Ar6.1) (State.isArrayOf_alike hZ.alike Ar6.2.1) Ar6.2.2 hin6 hat6 (g := (mkF m 30 #[.val (.long key), .second, .val (.ref ka), .val (.int (15 : Int32)), .val (.int (Int32.ofNat i))] [(.int (Int32.ofNat i)), (.ref ka)])) rfl rfl (hb hby d8_30) _ ?_
            show Steps p.tables e below (T.setTop (mkF m 31 #[.val (.long key), .second, .val (.ref ka), .val (.int (15 : Int32)), .val (.int (Int32.ofNat i))] [(.long (ks i))])) _
            refine X.ldc2Long hx hown (mvT hZ (hw _ (List.mem_of_getElem? (i := 14) rfl))) (g := (mkF m 31 #[.val (.long key), .second, .val (.ref ka), .val (.int (15 : Int32)), .val (.int (Int32.ofNat i))] [(.long (ks i))])) rfl (hb hby d8_31) _ ?_
            show Steps p.tables e below (T.setTop (mkF m 34 #[.val (.long key), .second, .val (.ref ka), .val (.int (15 : Int32)), .val (.int (Int32.ofNat i))] [(.long (-1 : Int64)), (.long (ks i))])) _
            refine XS.lcmp X.here hx rfl (hb hby d8_34) rfl ?_
            exact k)
        by_cases hq2 : (ks i) = (-1 : Int64)
        · have st : ∀ t, Steps p.tables e below (T.setTop (mkF m 49 #[.val (.long key), .second, .val (.ref ka), .val (.int (15 : Int32)), .val (.int (Int32.ofNat i))] [])) t → Steps p.tables e below (T.setTop (mkF m 18 #[.val (.long key), .second, .val (.ref ka), .val (.int (15 : Int32)), .val (.int (Int32.ofNat i))] [])) t := fun t k => st t (by
              show Steps p.tables e below (T.setTop (mkF m 35 #[.val (.long key), .second, .val (.ref ka), .val (.int (15 : Int32)), .val (.int (Int32.ofNat i))] [(.int (lcmpW (ks i) (-1 : Int64)))])) _
              refine XS.ifYes X.here hx rfl (pc0 := 35) (pc' := 49) rfl (hb hby d8_35) rfl ((if0 _ _).trans (teq ((lw_eq (ks i) (-1 : Int64)).mpr hq2)).1) (by decide) (by decide) ?_
              exact k)
          exact ⟨T, i, X, eh, hi, st⟩
        · have st : ∀ t, Steps p.tables e below (T.setTop (mkF m 44 #[.val (.long key), .second, .val (.ref ka), .val (.int (15 : Int32)), .val (.int (Int32.ofNat i))] [(.int (((Int32.ofNat i) + (1 : Int32)) &&& (15 : Int32)))])) t → Steps p.tables e below (T.setTop (mkF m 18 #[.val (.long key), .second, .val (.ref ka), .val (.int (15 : Int32)), .val (.int (Int32.ofNat i))] [])) t := fun t k => st t (by
              show Steps p.tables e below (T.setTop (mkF m 35 #[.val (.long key), .second, .val (.ref ka), .val (.int (15 : Int32)), .val (.int (Int32.ofNat i))] [(.int (lcmpW (ks i) (-1 : Int64)))])) _
              refine XS.ifNo X.here hx rfl (hb hby d8_35) rfl ((if0 _ _).trans (feq (fun q => hq2 ((lw_eq (ks i) (-1 : Int64)).mp q))).1) ?_
              show Steps p.tables e below (T.setTop (mkF m 38 #[.val (.long key), .second, .val (.ref ka), .val (.int (15 : Int32)), .val (.int (Int32.ofNat i))] [])) _
              refine XS.iload X.here hx rfl (hb hby d8_38) rfl ?_
              show Steps p.tables e below (T.setTop (mkF m 40 #[.val (.long key), .second, .val (.ref ka), .val (.int (15 : Int32)), .val (.int (Int32.ofNat i))] [(.int (Int32.ofNat i))])) _
              refine XS.iconst X.here hx rfl (hb hby d8_40) ?_
              show Steps p.tables e below (T.setTop (mkF m 41 #[.val (.long key), .second, .val (.ref ka), .val (.int (15 : Int32)), .val (.int (Int32.ofNat i))] [(.int (1 : Int32)), (.int (Int32.ofNat i))])) _
              refine XS.iadd X.here hx rfl (hb hby d8_41) rfl ?_
              show Steps p.tables e below (T.setTop (mkF m 42 #[.val (.long key), .second, .val (.ref ka), .val (.int (15 : Int32)), .val (.int (Int32.ofNat i))] [(.int ((Int32.ofNat i) + (1 : Int32)))])) _
              refine XS.iloadN X.here hx rfl (hb hby d8_42) rfl ?_
              show Steps p.tables e below (T.setTop (mkF m 43 #[.val (.long key), .second, .val (.ref ka), .val (.int (15 : Int32)), .val (.int (Int32.ofNat i))] [(.int (15 : Int32)), (.int ((Int32.ofNat i) + (1 : Int32)))])) _
              refine XS.iand X.here hx rfl (hb hby d8_43) rfl ?_
              exact k)
          have st : ∀ t, Steps p.tables e below (T.setTop (mkF m 44 #[.val (.long key), .second, .val (.ref ka), .val (.int (15 : Int32)), .val (.int (Int32.ofNat i))] [(.int (Int32.ofNat ((i + 1) % 16)))])) t → Steps p.tables e below (T.setTop (mkF m 18 #[.val (.long key), .second, .val (.ref ka), .val (.int (15 : Int32)), .val (.int (Int32.ofNat i))] [])) t := by rw [← own_next ⟨i, hi⟩]; exact st
          have st : ∀ t, Steps p.tables e below (T.setTop (mkF m 18 #[.val (.long key), .second, .val (.ref ka), .val (.int (15 : Int32)), .val (.int (Int32.ofNat ((i + 1) % 16)))] [])) t → Steps p.tables e below (T.setTop (mkF m 18 #[.val (.long key), .second, .val (.ref ka), .val (.int (15 : Int32)), .val (.int (Int32.ofNat i))] [])) t := fun t k => st t (by
              show Steps p.tables e below (T.setTop (mkF m 44 #[.val (.long key), .second, .val (.ref ka), .val (.int (15 : Int32)), .val (.int (Int32.ofNat i))] [(.int (Int32.ofNat ((i + 1) % 16)))])) _
              refine XS.istore X.here hx rfl (hb hby d8_44) rfl (l' := #[.val (.long key), .second, .val (.ref ka), .val (.int (15 : Int32)), .val (.int (Int32.ofNat ((i + 1) % 16)))]) rfl ?_
              show Steps p.tables e below (T.setTop (mkF m 46 #[.val (.long key), .second, .val (.ref ka), .val (.int (15 : Int32)), .val (.int (Int32.ofNat ((i + 1) % 16)))] [])) _
              refine XS.goto X.here hx rfl (pc0 := 46) (pc' := 18) rfl (hb hby d8_46) (by decide) (by decide) ?_
              exact k)
          obtain ⟨T', r, X, eh, hr, sy⟩ := ih ((i + 1) % 16) T (Nat.mod_lt _ (by decide)) (by rw [← hd]; congr 1; omega) X eh
          exact ⟨T', r, X, eh, hr, fun t k => st t (sy t k)⟩
  obtain ⟨j, hj, ej⟩ := hE
  obtain ⟨T7, r, X, eh, hr16, sx⟩ := loop ((j + 16 - i0) % 16) i0 s₁ hi0 (by rw [← ej]; congr 1; omega) X eh
  have st : ∀ t, Steps p.tables e below (T7.setTop (mkF m 49 #[.val (.long key), .second, .val (.ref ka), .val (.int (15 : Int32)), .val (.int (Int32.ofNat r))] [])) t → Steps p.tables e below (s₁.setTop (mkF m 0 #[.val (.long key), .second, .val (.ref ka), .unset, .unset] [])) t := fun t k => st t (sx t k)
  have st : ∀ t, Steps p.tables e below (T7.setTop (mkF m 51 #[.val (.long key), .second, .val (.ref ka), .val (.int (15 : Int32)), .val (.int (Int32.ofNat r))] [(.int (Int32.ofNat r))])) t → Steps p.tables e below (s₁.setTop (mkF m 0 #[.val (.long key), .second, .val (.ref ka), .unset, .unset] [])) t := fun t k => st t (by
      show Steps p.tables e below (T7.setTop (mkF m 49 #[.val (.long key), .second, .val (.ref ka), .val (.int (15 : Int32)), .val (.int (Int32.ofNat r))] [])) _
      refine XS.iload X.here hx rfl (hb hby d8_49) rfl ?_
      exact k)
  obtain ⟨fs_, hr, hrun, hended, hW, hsame⟩ := X.leave (v := some (.int (Int32.ofNat r))) (fun h => by rw [Bd.returns] at h; cases h)
  refine ⟨_, _, pre0 _ (st _ ?_), hrun, hended, _, _, rfl, ?_, ⟨_, rfl⟩, hW, hsame.mono (by decide) (by decide)⟩
  · exact retI X hx Bd.returns (hb hby d8_51) hr
  · show Q_rm8 Z key ka k_ka ks h0 n0 _ T7.heap _
    rw [eh]
    exact ⟨r, rfl, N, hr16, rfl⟩
theorem d7_0 : decode prog_46_method_9_code 0 = .ok (.lload_n 1, 1) := by decide +kernel
theorem d7_1 : decode prog_46_method_9_code 1 = .ok (.aload_n 0, 1) := by decide +kernel
theorem d7_2 : decode prog_46_method_9_code 2 = .ok (.getfield 13, 3) := by decide +kernel
theorem d7_5 : decode prog_46_method_9_code 5 = .ok (.invokestatic 68, 3) := by decide +kernel
theorem d7_8 : decode prog_46_method_9_code 8 = .ok (.istore 5, 2) := by decide +kernel
theorem d7_10 : decode prog_46_method_9_code 10 = .ok (.aload_n 0, 1) := by decide +kernel
theorem d7_11 : decode prog_46_method_9_code 11 = .ok (.getfield 13, 3) := by decide +kernel
theorem d7_14 : decode prog_46_method_9_code 14 = .ok (.iload 5, 2) := by decide +kernel
theorem d7_16 : decode prog_46_method_9_code 16 = .ok (.laload, 1) := by decide +kernel
theorem d7_17 : decode prog_46_method_9_code 17 = .ok (.lload_n 1, 1) := by decide +kernel
theorem d7_18 : decode prog_46_method_9_code 18 = .ok (.lcmp, 1) := by decide +kernel
theorem d7_19 : decode prog_46_method_9_code 19 = .ok (.ifCond .eq 21, 3) := by decide +kernel
theorem d7_22 : decode prog_46_method_9_code 22 = .ok (.aload_n 0, 1) := by decide +kernel
theorem d7_23 : decode prog_46_method_9_code 23 = .ok (.getfield 13, 3) := by decide +kernel
theorem d7_26 : decode prog_46_method_9_code 26 = .ok (.iload 5, 2) := by decide +kernel
theorem d7_28 : decode prog_46_method_9_code 28 = .ok (.lload_n 1, 1) := by decide +kernel
theorem d7_29 : decode prog_46_method_9_code 29 = .ok (.lastore, 1) := by decide +kernel
theorem d7_30 : decode prog_46_method_9_code 30 = .ok (.aload_n 0, 1) := by decide +kernel
theorem d7_31 : decode prog_46_method_9_code 31 = .ok (.dup, 1) := by decide +kernel
theorem d7_32 : decode prog_46_method_9_code 32 = .ok (.getfield 40, 3) := by decide +kernel
theorem d7_35 : decode prog_46_method_9_code 35 = .ok (.iconst 1, 1) := by decide +kernel
theorem d7_36 : decode prog_46_method_9_code 36 = .ok (.iadd, 1) := by decide +kernel
theorem d7_37 : decode prog_46_method_9_code 37 = .ok (.putfield 40, 3) := by decide +kernel
theorem d7_40 : decode prog_46_method_9_code 40 = .ok (.aload_n 0, 1) := by decide +kernel
theorem d7_41 : decode prog_46_method_9_code 41 = .ok (.getfield 17, 3) := by decide +kernel
theorem d7_44 : decode prog_46_method_9_code 44 = .ok (.iload 5, 2) := by decide +kernel
theorem d7_46 : decode prog_46_method_9_code 46 = .ok (.lload_n 3, 1) := by decide +kernel
theorem d7_47 : decode prog_46_method_9_code 47 = .ok (.lastore, 1) := by decide +kernel
theorem d7_48 : decode prog_46_method_9_code 48 = .ok (.iconst 2, 1) := by decide +kernel
theorem d7_49 : decode prog_46_method_9_code 49 = .ok (.aload_n 0, 1) := by decide +kernel
theorem d7_50 : decode prog_46_method_9_code 50 = .ok (.getfield 40, 3) := by decide +kernel
theorem d7_53 : decode prog_46_method_9_code 53 = .ok (.imul, 1) := by decide +kernel
theorem d7_54 : decode prog_46_method_9_code 54 = .ok (.aload_n 0, 1) := by decide +kernel
theorem d7_55 : decode prog_46_method_9_code 55 = .ok (.getfield 13, 3) := by decide +kernel
theorem d7_58 : decode prog_46_method_9_code 58 = .ok (.arraylength, 1) := by decide +kernel
theorem d7_59 : decode prog_46_method_9_code 59 = .ok (.if_icmp .le 15, 3) := by decide +kernel
theorem d7_74 : decode prog_46_method_9_code 74 = .ok (.return_, 1) := by decide +kernel
def Q_rm7 (Z : State) (tb : Addr) (key : Int64) (uv : Int64) (ka ua fa sa ma : Addr) (k_ka k_ua k_fa k_sa k_ma : ClassId) (ks us : Nat → Int64) (fs ss : Nat → Nat) (ms : Nat → Int64) (sp sz : Nat) (h0 : Heap) (n0 : Nat) (v : Option Value) (h : Heap) (L : List Loc) : Prop := v = none ∧ Fr n0 L ∧ Keep h0 h [tb, ka, ua, fa, sa, ma] ∧ ∃ (r : Nat) (ks' us' : Nat → Int64) (sz' : Nat), (∀ j, j ≠ r → ks' j = ks j) ∧ sz' ≤ sz + 1 ∧ own_TL Z h tb ka ua fa sa ma k_ka k_ua k_fa k_sa k_ma ks' us' fs ss ms sp sz'
theorem own_pd2 : parseMethodDescriptor "(J[J)I" = some ⟨[.long, (.array .long)], some .int⟩ := by decide +kernel
theorem ef_rm7 (m : MethodId) (x0 : Addr) (x1 : Int64) (x2 : Int64) : entryFrame m #[(.ref x0), (.long x1), (.long x2)] 6 = mkF m 0 #[.val (.ref x0), .val (.long x1), .second, .val (.long x2), .second, .unset] [] := by first | (simp [entryFrame, mkF, argsToLocals, Value.category]; done) | rfl
set_option maxRecDepth 65536 in
set_option maxHeartbeats 40000000 in
theorem rm7 (l : Launch) (Z : State) (a0 : Array Value) (hw : ∀ d ∈ tables_1, d.before a0 Z = true) (ws : List Jvm.Cond) (tb : Addr) (key : Int64) (uv : Int64) (ka ua fa sa ma : Addr) (k_ka k_ua k_fa k_sa k_ma : ClassId) (ks us : Nat → Int64) (fs ss : Nat → Nat) (ms : Nat → Int64) (sp sz : Nat) (h0 : Heap) (n0 : Nat) (Z0 : n0 ≤ h0.size) (B : own_TL Z h0 tb ka ua fa sa ma k_ka k_ua k_fa k_sa k_ma ks us fs ss ms sp sz) (D : own_D n0 tb ka ua fa sa ma) (hsz : sz ≤ 7) (hE : ∃ j, j < 16 ∧ ks j = (-1 : Int64)) :
    MetFree l (⟨"com/example/paretoloom/paretoloom/TabuList", "put", "(JJ)V"⟩ : MethodName) (head1 (Jvm.Cond.code (⟨"com/example/paretoloom/paretoloom/TabuList", "put", "(JJ)V"⟩ : MethodName) prog_46_method_9_code 6 none :: ws) ({ frames := 1, cells := 0, slots := 0, locals := 16 } : Room)) (fun a' U => a' = #[(.ref tb), (.long key), (.long uv)] ∧ Z.Warmed39 U.vm ∧ U.heap = h0) (fun _ _ _ _ _ => True) (fun _ U o U' => ∃ v L, o = .returned v ∧ Q_rm7 Z tb key uv ka ua fa sa ma k_ka k_ua k_fa k_sa k_ma ks us fs ss ms sp sz h0 n0 v U'.heap L ∧ FrameEnd U o U' L ({ frames := 1, cells := 0, slots := 0, locals := 16 } : Room).cells ({ frames := 1, cells := 0, slots := 0, locals := 16 } : Room).slots) := by
  refine MetFree.of_bodySF (plainFor_of_name own_pn3) hisR ?_
  intro p e s m args below meth cd0 s₁ Bd hml0 hP hK
  obtain ⟨rfl, hZ, hh⟩ := hP
  have hx := Bd.exec
  have hby := Bd.bytes
  have hml : cd0.maxLocals = 6 := hml0
  have hown : s.vm.findClass "com/example/paretoloom/paretoloom/TabuList" = some m.cls := findClass_of_methodNamed Bd.named
  have hnm := (name_of_methodNamed Bd.named Bd.method).1
  have X : Stand p l e ({ frames := 1, cells := 0, slots := 0, locals := 16 } : Room) s m #[(.ref tb), (.long key), (.long uv)] below meth cd0 s₁ [] 0 0 := Stand.of_body Bd
  have eh : s₁.heap = h0 := by rw [← hh, Bd.state]; rfl
  have N := Fr.nil n0
  have K : Keep h0 h0 [tb, ka, ua, fa, sa, ma] := Keep.refl _ _
  have pre0 : ∀ t, Steps p.tables e below (s₁.setTop (mkF m 0 #[.val (.ref tb), .val (.long key), .second, .val (.long uv), .second, .unset] [])) t → Steps p.tables e below (s₁.setTop (entryFrame m #[(.ref tb), (.long key), (.long uv)] 6)) t := fun t k => castTop (ef_rm7 m tb key uv) k
  have st : ∀ t, Steps p.tables e below (s₁.setTop (mkF m 0 #[.val (.ref tb), .val (.long key), .second, .val (.long uv), .second, .unset] [])) t → Steps p.tables e below (s₁.setTop (mkF m 0 #[.val (.ref tb), .val (.long key), .second, .val (.long uv), .second, .unset] [])) t := fun t k => k
  obtain ⟨E_tb, F_tb_keys, F_tb_until, F_tb_operations, F_tb_machines, F_tb_firstUntil, F_tb_secondUntil, F_tb_machineUntil, F_tb_step, F_tb_size, V_ka, V_ua, V_fa, V_sa, V_ma⟩ := B
  obtain ⟨g_tb, g_ka, g_ua, g_fa, g_sa, g_ma, ne_tb_ka, ne_tb_ua, ne_tb_fa, ne_tb_sa, ne_tb_ma, ne_ka_ua, ne_ka_fa, ne_ka_sa, ne_ka_ma, ne_ua_fa, ne_ua_sa, ne_ua_ma, ne_fa_sa, ne_fa_ma, ne_sa_ma⟩ := D
  have st : ∀ t, Steps p.tables e below (s₁.setTop (mkF m 2 #[.val (.ref tb), .val (.long key), .second, .val (.long uv), .second, .unset] [(.ref tb), (.long key)])) t → Steps p.tables e below (s₁.setTop (mkF m 0 #[.val (.ref tb), .val (.long key), .second, .val (.long uv), .second, .unset] [])) t := fun t k => st t (by
      show Steps p.tables e below (s₁.setTop (mkF m 0 #[.val (.ref tb), .val (.long key), .second, .val (.long uv), .second, .unset] [])) _
      refine XS.lloadN X.here hx rfl (hb hby d7_0) rfl ?_
      show Steps p.tables e below (s₁.setTop (mkF m 1 #[.val (.ref tb), .val (.long key), .second, .val (.long uv), .second, .unset] [(.long key)])) _
      refine XS.aloadN X.here hx rfl (hb hby d7_1) rfl rfl ?_
      exact k)
  obtain ⟨T1, X, eh, sx⟩ := getF X hx hZ hown (host := "") (Or.inl (hw _ (List.mem_of_getElem? (i := 19) rfl))) Via.refl eh F_tb_keys (g := (mkF m 2 #[.val (.ref tb), .val (.long key), .second, .val (.long uv), .second, .unset] [(.ref tb), (.long key)])) rfl rfl (hb hby d7_2)
  have st : ∀ t, Steps p.tables e below (T1.setTop (mkF m 5 #[.val (.ref tb), .val (.long key), .second, .val (.long uv), .second, .unset] [(.ref ka), (.long key)])) t → Steps p.tables e below (s₁.setTop (mkF m 0 #[.val (.ref tb), .val (.long key), .second, .val (.long uv), .second, .unset] [])) t := fun t k => st t (sx t k)
  obtain ⟨_, _, ⟨T3, L2, k2, n2⟩, -, X, ⟨Lc2, hQ, l2, y2, z2⟩, sx⟩ := Jvm.LawKit.callS X hx (y := (⟨"com/example/paretoloom/paretoloom/TabuList", "slotOf", "(J[J)I"⟩ : MethodName)) hown (mvT hZ (hw _ (List.mem_of_getElem? (i := 48) rfl))) (mvT hZ (hw _ (List.mem_of_getElem? (i := 49) rfl))) (mvT hZ (hw _ (List.mem_of_getElem? (i := 3) rfl))) (mvT hZ (hw _ (List.mem_of_getElem? (i := 50) rfl))) (by decide) (backOf (W := 0) (rm8 l Z a0 hw [] key ka k_ka ks h0 n0 Z0 V_ka hE) hZ (hw _ (List.mem_of_getElem? (i := 50) rfl)) (hw _ (List.mem_of_getElem? (i := 3) rfl)) (by decide) (by decide)) (g := (mkF m 5 #[.val (.ref tb), .val (.long key), .second, .val (.long uv), .second, .unset] [(.ref ka), (.long key)])) rfl (by rw [hml]; rfl) (argsL := [(.long key), (.ref ka)]) (rest := []) (lenOf own_pd2 rfl) rfl (by show 2 * 0 + _ ≤ _; exact Nat.le_of_eq rfl) (hb hby d7_5) (fun _ _ => ⟨rfl, eh, (by decide : 0 + 0 ≤ _), (by decide : 0 + 0 ≤ _)⟩)
  dsimp only [Pt.U, Pt.locs, Pt.cells, Pt.slots] at X l2 y2 z2 sx hQ
  subst l2 y2 z2
  obtain ⟨r, rfl, Nc, hr16, hsame_⟩ := hQ
  have st : ∀ t, Steps p.tables e below (T3.setTop (mkF m 8 #[.val (.ref tb), .val (.long key), .second, .val (.long uv), .second, .unset] [(.int (Int32.ofNat r))])) t → Steps p.tables e below (s₁.setTop (mkF m 0 #[.val (.ref tb), .val (.long key), .second, .val (.long uv), .second, .unset] [])) t := fun t k => st t (sx t k)
  have N := Fr.app N Nc
  have eh : T3.heap = h0 := hsame_
  have st : ∀ t, Steps p.tables e below (T3.setTop (mkF m 11 #[.val (.ref tb), .val (.long key), .second, .val (.long uv), .second, .val (.int (Int32.ofNat r))] [(.ref tb)])) t → Steps p.tables e below (s₁.setTop (mkF m 0 #[.val (.ref tb), .val (.long key), .second, .val (.long uv), .second, .unset] [])) t := fun t k => st t (by
      show Steps p.tables e below (T3.setTop (mkF m 8 #[.val (.ref tb), .val (.long key), .second, .val (.long uv), .second, .unset] [(.int (Int32.ofNat r))])) _
      refine XS.istore X.here hx rfl (hb hby d7_8) rfl (l' := #[.val (.ref tb), .val (.long key), .second, .val (.long uv), .second, .val (.int (Int32.ofNat r))]) rfl ?_
      show Steps p.tables e below (T3.setTop (mkF m 10 #[.val (.ref tb), .val (.long key), .second, .val (.long uv), .second, .val (.int (Int32.ofNat r))] [])) _
      refine XS.aloadN X.here hx rfl (hb hby d7_10) rfl rfl ?_
      exact k)
  obtain ⟨T4, X, eh, sx⟩ := getF X hx hZ hown (host := "") (Or.inl (hw _ (List.mem_of_getElem? (i := 19) rfl))) Via.refl eh F_tb_keys (g := (mkF m 11 #[.val (.ref tb), .val (.long key), .second, .val (.long uv), .second, .val (.int (Int32.ofNat r))] [(.ref tb)])) rfl rfl (hb hby d7_11)
  have st : ∀ t, Steps p.tables e below (T4.setTop (mkF m 14 #[.val (.ref tb), .val (.long key), .second, .val (.long uv), .second, .val (.int (Int32.ofNat r))] [(.ref ka)])) t → Steps p.tables e below (s₁.setTop (mkF m 0 #[.val (.ref tb), .val (.long key), .second, .val (.long uv), .second, .unset] [])) t := fun t k => st t (sx t k)
  have st : ∀ t, Steps p.tables e below (T4.setTop (mkF m 16 #[.val (.ref tb), .val (.long key), .second, .val (.long uv), .second, .val (.int (Int32.ofNat r))] [(.int (Int32.ofNat r)), (.ref ka)])) t → Steps p.tables e below (s₁.setTop (mkF m 0 #[.val (.ref tb), .val (.long key), .second, .val (.long uv), .second, .unset] [])) t := fun t k => st t (by
      show Steps p.tables e below (T4.setTop (mkF m 14 #[.val (.ref tb), .val (.long key), .second, .val (.long uv), .second, .val (.int (Int32.ofNat r))] [(.ref ka)])) _
      refine XS.iload X.here hx rfl (hb hby d7_14) rfl ?_
      exact k)
  obtain ⟨cl5, Ar5, hin5, hat5⟩ := own_rd (by decide) V_ka r hr16
  have st : ∀ t, Steps p.tables e below (T4.setTop (mkF m 19 #[.val (.ref tb), .val (.long key), .second, .val (.long uv), .second, .val (.int (Int32.ofNat r))] [(.int (lcmpW (ks r) key))])) t → Steps p.tables e below (s₁.setTop (mkF m 0 #[.val (.ref tb), .val (.long key), .second, .val (.long uv), .second, .unset] [])) t := fun t k => st t (by
      show Steps p.tables e below (T4.setTop (mkF m 16 #[.val (.ref tb), .val (.long key), .second, .val (.long uv), .second, .val (.int (Int32.ofNat r))] [(.int (Int32.ofNat r)), (.ref ka)])) _
      refine X.laload hx (j := (Int32.ofNat r)) (v := (.long (ks r))) (by rw [eh]; exact Ar5.1) (State.isArrayOf_alike hZ.alike Ar5.2.1) Ar5.2.2 hin5 hat5 (g := (mkF m 16 #[.val (.ref tb), .val (.long key), .second, .val (.long uv), .second, .val (.int (Int32.ofNat r))] [(.int (Int32.ofNat r)), (.ref ka)])) rfl rfl (hb hby d7_16) _ ?_
      show Steps p.tables e below (T4.setTop (mkF m 17 #[.val (.ref tb), .val (.long key), .second, .val (.long uv), .second, .val (.int (Int32.ofNat r))] [(.long (ks r))])) _
      refine XS.lloadN X.here hx rfl (hb hby d7_17) rfl ?_
      show Steps p.tables e below (T4.setTop (mkF m 18 #[.val (.ref tb), .val (.long key), .second, .val (.long uv), .second, .val (.int (Int32.ofNat r))] [(.long key), (.long (ks r))])) _
      refine XS.lcmp X.here hx rfl (hb hby d7_18) rfl ?_
      exact k)
  obtain ⟨lo6, X, N⟩ : ∃ loX, Stand p l e ({ frames := 1, cells := 0, slots := 0, locals := 16 } : Room) s m #[(.ref tb), (.long key), (.long uv)] below meth cd0 T4 loX 0 0 ∧ Fr n0 loX := ⟨_, X, N⟩
  obtain ⟨T7, h8, lo9, sz', X, N, eh, K, Z0, F_tb_keys, F_tb_until, F_tb_operations, F_tb_machines, F_tb_firstUntil, F_tb_secondUntil, F_tb_machineUntil, F_tb_step, F_tb_size, E_tb, V_ka, V_ua, V_fa, V_sa, V_ma, hsz', sx⟩ : ∃ (T7 : State) (h8 : Heap) (lo9 : List Loc) (sz' : Nat), Stand p l e ({ frames := 1, cells := 0, slots := 0, locals := 16 } : Room) s m #[(.ref tb), (.long key), (.long uv)] below meth cd0 T7 lo9 0 0 ∧ Fr n0 lo9 ∧ T7.heap = h8 ∧ Keep h0 h8 [tb, ka, ua, fa, sa, ma] ∧ n0 ≤ h8.size ∧ Fld Z h8 tb "com/example/paretoloom/paretoloom/TabuList" "keys" "[J" (.ref ka) ∧ Fld Z h8 tb "com/example/paretoloom/paretoloom/TabuList" "until" "[J" (.ref ua) ∧ Fld Z h8 tb "com/example/paretoloom/paretoloom/TabuList" "operations" "I" (.int (3 : Int32)) ∧ Fld Z h8 tb "com/example/paretoloom/paretoloom/TabuList" "machines" "I" (.int (2 : Int32)) ∧ Fld Z h8 tb "com/example/paretoloom/paretoloom/TabuList" "firstUntil" "[J" (.ref fa) ∧ Fld Z h8 tb "com/example/paretoloom/paretoloom/TabuList" "secondUntil" "[J" (.ref sa) ∧ Fld Z h8 tb "com/example/paretoloom/paretoloom/TabuList" "machineUntil" "[J" (.ref ma) ∧ Fld Z h8 tb "com/example/paretoloom/paretoloom/TabuList" "step" "J" (.long (Int64.ofNat sp)) ∧ Fld Z h8 tb "com/example/paretoloom/paretoloom/TabuList" "size" "I" (.int (Int32.ofNat sz')) ∧ Exa Z h8 tb "com/example/paretoloom/paretoloom/TabuList" ∧ Arv Z h8 ka k_ka .long (Int32.ofNat 16) (own_al 16 (own_updL ks r key)) (.long (0 : Int64)) ∧ Arv Z h8 ua k_ua .long (Int32.ofNat 16) (own_al 16 us) (.long (0 : Int64)) ∧ Arv Z h8 fa k_fa .long (Int32.ofNat 3) (own_al 3 (own_c fs)) (.long (0 : Int64)) ∧ Arv Z h8 sa k_sa .long (Int32.ofNat 3) (own_al 3 (own_c ss)) (.long (0 : Int64)) ∧ Arv Z h8 ma k_ma .long (Int32.ofNat 3) (own_al 3 ms) (.long (0 : Int64)) ∧ sz' ≤ sz + 1 ∧ (∀ t, Steps p.tables e below (T7.setTop (mkF m 40 #[.val (.ref tb), .val (.long key), .second, .val (.long uv), .second, .val (.int (Int32.ofNat r))] [])) t → Steps p.tables e below (T4.setTop (mkF m 19 #[.val (.ref tb), .val (.long key), .second, .val (.long uv), .second, .val (.int (Int32.ofNat r))] [(.int (lcmpW (ks r) key))])) t) := by
    have st : ∀ t, Steps p.tables e below (T4.setTop (mkF m 19 #[.val (.ref tb), .val (.long key), .second, .val (.long uv), .second, .val (.int (Int32.ofNat r))] [(.int (lcmpW (ks r) key))])) t → Steps p.tables e below (T4.setTop (mkF m 19 #[.val (.ref tb), .val (.long key), .second, .val (.long uv), .second, .val (.int (Int32.ofNat r))] [(.int (lcmpW (ks r) key))])) t := fun t k => k
    by_cases hq : (ks r) = key
    · have st : ∀ t, Steps p.tables e below (T4.setTop (mkF m 40 #[.val (.ref tb), .val (.long key), .second, .val (.long uv), .second, .val (.int (Int32.ofNat r))] [])) t → Steps p.tables e below (T4.setTop (mkF m 19 #[.val (.ref tb), .val (.long key), .second, .val (.long uv), .second, .val (.int (Int32.ofNat r))] [(.int (lcmpW (ks r) key))])) t := fun t k => st t (by
          show Steps p.tables e below (T4.setTop (mkF m 19 #[.val (.ref tb), .val (.long key), .second, .val (.long uv), .second, .val (.int (Int32.ofNat r))] [(.int (lcmpW (ks r) key))])) _
          refine XS.ifYes X.here hx rfl (pc0 := 19) (pc' := 40) rfl (hb hby d7_19) rfl ((if0 _ _).trans (teq ((lw_eq (ks r) key).mpr hq)).1) (by decide) (by decide) ?_
          exact k)
      have V_ka : Arv Z h0 ka k_ka .long (Int32.ofNat 16) (own_al 16 (own_updL ks r key)) (.long (0 : Int64)) := by
        rw [own_eqf (g := ks) (fun i _ => by unfold own_updL; split; exact (by rename_i z; rw [z]; exact hq.symm); rfl)]; exact V_ka
      exact ⟨T4, h0, _, sz, X, N, eh, K, Z0, F_tb_keys, F_tb_until, F_tb_operations, F_tb_machines, F_tb_firstUntil, F_tb_secondUntil, F_tb_machineUntil, F_tb_step, F_tb_size, E_tb, V_ka, V_ua, V_fa, V_sa, V_ma, (Nat.le_succ sz), st⟩
    · have st : ∀ t, Steps p.tables e below (T4.setTop (mkF m 23 #[.val (.ref tb), .val (.long key), .second, .val (.long uv), .second, .val (.int (Int32.ofNat r))] [(.ref tb)])) t → Steps p.tables e below (T4.setTop (mkF m 19 #[.val (.ref tb), .val (.long key), .second, .val (.long uv), .second, .val (.int (Int32.ofNat r))] [(.int (lcmpW (ks r) key))])) t := fun t k => st t (by
          show Steps p.tables e below (T4.setTop (mkF m 19 #[.val (.ref tb), .val (.long key), .second, .val (.long uv), .second, .val (.int (Int32.ofNat r))] [(.int (lcmpW (ks r) key))])) _
          refine XS.ifNo X.here hx rfl (hb hby d7_19) rfl ((if0 _ _).trans (feq (fun q => hq ((lw_eq (ks r) key).mp q))).1) ?_
          show Steps p.tables e below (T4.setTop (mkF m 22 #[.val (.ref tb), .val (.long key), .second, .val (.long uv), .second, .val (.int (Int32.ofNat r))] [])) _
          refine XS.aloadN X.here hx rfl (hb hby d7_22) rfl rfl ?_
          exact k)
      obtain ⟨T10, X, eh, sx⟩ := getF X hx hZ hown (host := "") (Or.inl (hw _ (List.mem_of_getElem? (i := 19) rfl))) Via.refl eh F_tb_keys (g := (mkF m 23 #[.val (.ref tb), .val (.long key), .second, .val (.long uv), .second, .val (.int (Int32.ofNat r))] [(.ref tb)])) rfl rfl (hb hby d7_23)
      have st : ∀ t, Steps p.tables e below (T10.setTop (mkF m 26 #[.val (.ref tb), .val (.long key), .second, .val (.long uv), .second, .val (.int (Int32.ofNat r))] [(.ref ka)])) t → Steps p.tables e below (T4.setTop (mkF m 19 #[.val (.ref tb), .val (.long key), .second, .val (.long uv), .second, .val (.int (Int32.ofNat r))] [(.int (lcmpW (ks r) key))])) t := fun t k => st t (sx t k)
      have st : ∀ t, Steps p.tables e below (T10.setTop (mkF m 29 #[.val (.ref tb), .val (.long key), .second, .val (.long uv), .second, .val (.int (Int32.ofNat r))] [(.long key), (.int (Int32.ofNat r)), (.ref ka)])) t → Steps p.tables e below (T4.setTop (mkF m 19 #[.val (.ref tb), .val (.long key), .second, .val (.long uv), .second, .val (.int (Int32.ofNat r))] [(.int (lcmpW (ks r) key))])) t := fun t k => st t (by
          show Steps p.tables e below (T10.setTop (mkF m 26 #[.val (.ref tb), .val (.long key), .second, .val (.long uv), .second, .val (.int (Int32.ofNat r))] [(.ref ka)])) _
          refine XS.iload X.here hx rfl (hb hby d7_26) rfl ?_
          show Steps p.tables e below (T10.setTop (mkF m 28 #[.val (.ref tb), .val (.long key), .second, .val (.long uv), .second, .val (.int (Int32.ofNat r))] [(.int (Int32.ofNat r)), (.ref ka)])) _
          refine XS.lloadN X.here hx rfl (hb hby d7_28) rfl ?_
          exact k)
      obtain ⟨cl11, Ar11, hin11, hat11⟩ := own_rd (by decide) V_ka r hr16
      obtain ⟨T12, h13, X, eh, W11, sx⟩ := stJ X hx hZ eh Ar11 (j := (Int32.ofNat r)) hin11 (g := (mkF m 29 #[.val (.ref tb), .val (.long key), .second, .val (.long uv), .second, .val (.int (Int32.ofNat r))] [(.long key), (.int (Int32.ofNat r)), (.ref ka)])) rfl rfl (hb hby d7_29)
      have st : ∀ t, Steps p.tables e below (T12.setTop (mkF m 30 #[.val (.ref tb), .val (.long key), .second, .val (.long uv), .second, .val (.int (Int32.ofNat r))] [])) t → Steps p.tables e below (T4.setTop (mkF m 19 #[.val (.ref tb), .val (.long key), .second, .val (.long uv), .second, .val (.int (Int32.ofNat r))] [(.int (lcmpW (ks r) key))])) t := fun t k => st t (sx t k)
      have F_tb_keys := F_tb_keys.other W11 (Or.inl ne_tb_ka)
      have F_tb_until := F_tb_until.other W11 (Or.inl ne_tb_ka)
      have F_tb_operations := F_tb_operations.other W11 (Or.inl ne_tb_ka)
      have F_tb_machines := F_tb_machines.other W11 (Or.inl ne_tb_ka)
      have F_tb_firstUntil := F_tb_firstUntil.other W11 (Or.inl ne_tb_ka)
      have F_tb_secondUntil := F_tb_secondUntil.other W11 (Or.inl ne_tb_ka)
      have F_tb_machineUntil := F_tb_machineUntil.other W11 (Or.inl ne_tb_ka)
      have F_tb_step := F_tb_step.other W11 (Or.inl ne_tb_ka)
      have F_tb_size := F_tb_size.other W11 (Or.inl ne_tb_ka)
      have E_tb := E_tb.wr W11
      have V_ua := V_ua.other W11 (Ne.symm ne_ka_ua)
      have V_fa := V_fa.other W11 (Ne.symm ne_ka_fa)
      have V_sa := V_sa.other W11 (Ne.symm ne_ka_sa)
      have V_ma := V_ma.other W11 (Ne.symm ne_ka_ma)
      have K := K.wr W11 (Or.inl (List.mem_of_getElem? (i := 1) rfl))
      have Z0 := Nat.le_trans Z0 (Keep.of_wr W11).1
      have V_ka := own_st (by decide) V_ka r hr16 key W11
      have N := Fr.snoc X N g_ka
      have st : ∀ t, Steps p.tables e below (T12.setTop (mkF m 32 #[.val (.ref tb), .val (.long key), .second, .val (.long uv), .second, .val (.int (Int32.ofNat r))] [(.ref tb), (.ref tb)])) t → Steps p.tables e below (T4.setTop (mkF m 19 #[.val (.ref tb), .val (.long key), .second, .val (.long uv), .second, .val (.int (Int32.ofNat r))] [(.int (lcmpW (ks r) key))])) t := fun t k => st t (by
          show Steps p.tables e below (T12.setTop (mkF m 30 #[.val (.ref tb), .val (.long key), .second, .val (.long uv), .second, .val (.int (Int32.ofNat r))] [])) _
          refine XS.aloadN X.here hx rfl (hb hby d7_30) rfl rfl ?_
          show Steps p.tables e below (T12.setTop (mkF m 31 #[.val (.ref tb), .val (.long key), .second, .val (.long uv), .second, .val (.int (Int32.ofNat r))] [(.ref tb)])) _
          refine XS.dup X.here hx rfl (hb hby d7_31) rfl rfl ?_
          exact k)
      obtain ⟨T14, X, eh, sx⟩ := getF X hx hZ hown (host := "") (Or.inl (hw _ (List.mem_of_getElem? (i := 52) rfl))) Via.refl eh F_tb_size (g := (mkF m 32 #[.val (.ref tb), .val (.long key), .second, .val (.long uv), .second, .val (.int (Int32.ofNat r))] [(.ref tb), (.ref tb)])) rfl rfl (hb hby d7_32)
      have st : ∀ t, Steps p.tables e below (T14.setTop (mkF m 35 #[.val (.ref tb), .val (.long key), .second, .val (.long uv), .second, .val (.int (Int32.ofNat r))] [(.int (Int32.ofNat sz)), (.ref tb)])) t → Steps p.tables e below (T4.setTop (mkF m 19 #[.val (.ref tb), .val (.long key), .second, .val (.long uv), .second, .val (.int (Int32.ofNat r))] [(.int (lcmpW (ks r) key))])) t := fun t k => st t (sx t k)
      have st : ∀ t, Steps p.tables e below (T14.setTop (mkF m 37 #[.val (.ref tb), .val (.long key), .second, .val (.long uv), .second, .val (.int (Int32.ofNat r))] [(.int ((Int32.ofNat sz) + (1 : Int32))), (.ref tb)])) t → Steps p.tables e below (T4.setTop (mkF m 19 #[.val (.ref tb), .val (.long key), .second, .val (.long uv), .second, .val (.int (Int32.ofNat r))] [(.int (lcmpW (ks r) key))])) t := fun t k => st t (by
          show Steps p.tables e below (T14.setTop (mkF m 35 #[.val (.ref tb), .val (.long key), .second, .val (.long uv), .second, .val (.int (Int32.ofNat r))] [(.int (Int32.ofNat sz)), (.ref tb)])) _
          refine XS.iconst X.here hx rfl (hb hby d7_35) ?_
          show Steps p.tables e below (T14.setTop (mkF m 36 #[.val (.ref tb), .val (.long key), .second, .val (.long uv), .second, .val (.int (Int32.ofNat r))] [(.int (1 : Int32)), (.int (Int32.ofNat sz)), (.ref tb)])) _
          refine XS.iadd X.here hx rfl (hb hby d7_36) rfl ?_
          exact k)
      obtain ⟨T15, h16, X, eh, W17, sx⟩ := putF X hx hZ hown (host := "") (Or.inl (hw _ (List.mem_of_getElem? (i := 52) rfl))) Via.refl eh F_tb_size E_tb (Or.inl (hw _ (List.mem_of_getElem? (i := 53) rfl))) (hw _ (List.mem_of_getElem? (i := 2) rfl)) (ty := .int) (by decide) rfl rfl (g := (mkF m 37 #[.val (.ref tb), .val (.long key), .second, .val (.long uv), .second, .val (.int (Int32.ofNat r))] [(.int ((Int32.ofNat sz) + (1 : Int32))), (.ref tb)])) rfl rfl (hb hby d7_37)
      have st : ∀ t, Steps p.tables e below (T15.setTop (mkF m 40 #[.val (.ref tb), .val (.long key), .second, .val (.long uv), .second, .val (.int (Int32.ofNat r))] [])) t → Steps p.tables e below (T4.setTop (mkF m 19 #[.val (.ref tb), .val (.long key), .second, .val (.long uv), .second, .val (.int (Int32.ofNat r))] [(.int (lcmpW (ks r) key))])) t := fun t k => st t (sx t k)
      have F_tb_keys := F_tb_keys.other W17 (Or.inr (slot_ne (Or.inl (hw _ (List.mem_of_getElem? (i := 20) rfl))) (Or.inl (hw _ (List.mem_of_getElem? (i := 53) rfl))) (by decide) (t := (.array .long)) (t' := .int) (by decide) (by decide)))
      have F_tb_until := F_tb_until.other W17 (Or.inr (slot_ne (Or.inl (hw _ (List.mem_of_getElem? (i := 22) rfl))) (Or.inl (hw _ (List.mem_of_getElem? (i := 53) rfl))) (by decide) (t := (.array .long)) (t' := .int) (by decide) (by decide)))
      have F_tb_operations := F_tb_operations.other W17 (Or.inr (slot_ne (Or.inr (hw _ (List.mem_of_getElem? (i := 24) rfl))) (Or.inl (hw _ (List.mem_of_getElem? (i := 53) rfl))) (by decide) (t := .int) (t' := .int) (by decide) (by decide)))
      have F_tb_machines := F_tb_machines.other W17 (Or.inr (slot_ne (Or.inr (hw _ (List.mem_of_getElem? (i := 26) rfl))) (Or.inl (hw _ (List.mem_of_getElem? (i := 53) rfl))) (by decide) (t := .int) (t' := .int) (by decide) (by decide)))
      have F_tb_firstUntil := F_tb_firstUntil.other W17 (Or.inr (slot_ne (Or.inr (hw _ (List.mem_of_getElem? (i := 28) rfl))) (Or.inl (hw _ (List.mem_of_getElem? (i := 53) rfl))) (by decide) (t := (.array .long)) (t' := .int) (by decide) (by decide)))
      have F_tb_secondUntil := F_tb_secondUntil.other W17 (Or.inr (slot_ne (Or.inr (hw _ (List.mem_of_getElem? (i := 30) rfl))) (Or.inl (hw _ (List.mem_of_getElem? (i := 53) rfl))) (by decide) (t := (.array .long)) (t' := .int) (by decide) (by decide)))
      have F_tb_machineUntil := F_tb_machineUntil.other W17 (Or.inr (slot_ne (Or.inr (hw _ (List.mem_of_getElem? (i := 32) rfl))) (Or.inl (hw _ (List.mem_of_getElem? (i := 53) rfl))) (by decide) (t := (.array .long)) (t' := .int) (by decide) (by decide)))
      have F_tb_step := F_tb_step.other W17 (Or.inr (slot_ne (Or.inl (hw _ (List.mem_of_getElem? (i := 39) rfl))) (Or.inl (hw _ (List.mem_of_getElem? (i := 53) rfl))) (by decide) (t := .long) (t' := .int) (by decide) (by decide)))
      have F_tb_size := F_tb_size.same W17
      have E_tb := E_tb.wr W17
      have V_ka := V_ka.other W17 (Ne.symm ne_tb_ka)
      have V_ua := V_ua.other W17 (Ne.symm ne_tb_ua)
      have V_fa := V_fa.other W17 (Ne.symm ne_tb_fa)
      have V_sa := V_sa.other W17 (Ne.symm ne_tb_sa)
      have V_ma := V_ma.other W17 (Ne.symm ne_tb_ma)
      have K := K.wr W17 (Or.inl (List.mem_of_getElem? (i := 0) rfl))
      have Z0 := Nat.le_trans Z0 (Keep.of_wr W17).1
      have N := Fr.snoc X N g_tb
      rw [own_inc] at F_tb_size
      exact ⟨T15, h16, _, (sz + 1), X, N, eh, K, Z0, F_tb_keys, F_tb_until, F_tb_operations, F_tb_machines, F_tb_firstUntil, F_tb_secondUntil, F_tb_machineUntil, F_tb_step, F_tb_size, E_tb, V_ka, V_ua, V_fa, V_sa, V_ma, (Nat.le_refl _), st⟩
  have st : ∀ t, Steps p.tables e below (T7.setTop (mkF m 40 #[.val (.ref tb), .val (.long key), .second, .val (.long uv), .second, .val (.int (Int32.ofNat r))] [])) t → Steps p.tables e below (s₁.setTop (mkF m 0 #[.val (.ref tb), .val (.long key), .second, .val (.long uv), .second, .unset] [])) t := fun t k => st t (sx t k)
  have st : ∀ t, Steps p.tables e below (T7.setTop (mkF m 41 #[.val (.ref tb), .val (.long key), .second, .val (.long uv), .second, .val (.int (Int32.ofNat r))] [(.ref tb)])) t → Steps p.tables e below (s₁.setTop (mkF m 0 #[.val (.ref tb), .val (.long key), .second, .val (.long uv), .second, .unset] [])) t := fun t k => st t (by
      show Steps p.tables e below (T7.setTop (mkF m 40 #[.val (.ref tb), .val (.long key), .second, .val (.long uv), .second, .val (.int (Int32.ofNat r))] [])) _
      refine XS.aloadN X.here hx rfl (hb hby d7_40) rfl rfl ?_
      exact k)
  obtain ⟨T18, X, eh, sx⟩ := getF X hx hZ hown (host := "") (Or.inl (hw _ (List.mem_of_getElem? (i := 21) rfl))) Via.refl eh F_tb_until (g := (mkF m 41 #[.val (.ref tb), .val (.long key), .second, .val (.long uv), .second, .val (.int (Int32.ofNat r))] [(.ref tb)])) rfl rfl (hb hby d7_41)
  have st : ∀ t, Steps p.tables e below (T18.setTop (mkF m 44 #[.val (.ref tb), .val (.long key), .second, .val (.long uv), .second, .val (.int (Int32.ofNat r))] [(.ref ua)])) t → Steps p.tables e below (s₁.setTop (mkF m 0 #[.val (.ref tb), .val (.long key), .second, .val (.long uv), .second, .unset] [])) t := fun t k => st t (sx t k)
  have st : ∀ t, Steps p.tables e below (T18.setTop (mkF m 47 #[.val (.ref tb), .val (.long key), .second, .val (.long uv), .second, .val (.int (Int32.ofNat r))] [(.long uv), (.int (Int32.ofNat r)), (.ref ua)])) t → Steps p.tables e below (s₁.setTop (mkF m 0 #[.val (.ref tb), .val (.long key), .second, .val (.long uv), .second, .unset] [])) t := fun t k => st t (by
      show Steps p.tables e below (T18.setTop (mkF m 44 #[.val (.ref tb), .val (.long key), .second, .val (.long uv), .second, .val (.int (Int32.ofNat r))] [(.ref ua)])) _
      refine XS.iload X.here hx rfl (hb hby d7_44) rfl ?_
      show Steps p.tables e below (T18.setTop (mkF m 46 #[.val (.ref tb), .val (.long key), .second, .val (.long uv), .second, .val (.int (Int32.ofNat r))] [(.int (Int32.ofNat r)), (.ref ua)])) _
      refine XS.lloadN X.here hx rfl (hb hby d7_46) rfl ?_
      exact k)
  obtain ⟨cl19, Ar19, hin19, hat19⟩ := own_rd (by decide) V_ua r hr16
  obtain ⟨T20, h21, X, eh, W19, sx⟩ := stJ X hx hZ eh Ar19 (j := (Int32.ofNat r)) hin19 (g := (mkF m 47 #[.val (.ref tb), .val (.long key), .second, .val (.long uv), .second, .val (.int (Int32.ofNat r))] [(.long uv), (.int (Int32.ofNat r)), (.ref ua)])) rfl rfl (hb hby d7_47)
  have st : ∀ t, Steps p.tables e below (T20.setTop (mkF m 48 #[.val (.ref tb), .val (.long key), .second, .val (.long uv), .second, .val (.int (Int32.ofNat r))] [])) t → Steps p.tables e below (s₁.setTop (mkF m 0 #[.val (.ref tb), .val (.long key), .second, .val (.long uv), .second, .unset] [])) t := fun t k => st t (sx t k)
  have F_tb_keys := F_tb_keys.other W19 (Or.inl ne_tb_ua)
  have F_tb_until := F_tb_until.other W19 (Or.inl ne_tb_ua)
  have F_tb_operations := F_tb_operations.other W19 (Or.inl ne_tb_ua)
  have F_tb_machines := F_tb_machines.other W19 (Or.inl ne_tb_ua)
  have F_tb_firstUntil := F_tb_firstUntil.other W19 (Or.inl ne_tb_ua)
  have F_tb_secondUntil := F_tb_secondUntil.other W19 (Or.inl ne_tb_ua)
  have F_tb_machineUntil := F_tb_machineUntil.other W19 (Or.inl ne_tb_ua)
  have F_tb_step := F_tb_step.other W19 (Or.inl ne_tb_ua)
  have F_tb_size := F_tb_size.other W19 (Or.inl ne_tb_ua)
  have E_tb := E_tb.wr W19
  have V_ka := V_ka.other W19 ne_ka_ua
  have V_fa := V_fa.other W19 (Ne.symm ne_ua_fa)
  have V_sa := V_sa.other W19 (Ne.symm ne_ua_sa)
  have V_ma := V_ma.other W19 (Ne.symm ne_ua_ma)
  have K := K.wr W19 (Or.inl (List.mem_of_getElem? (i := 2) rfl))
  have Z0 := Nat.le_trans Z0 (Keep.of_wr W19).1
  have V_ua := own_st (by decide) V_ua r hr16 uv W19
  have N := Fr.snoc X N g_ua
  have st : ∀ t, Steps p.tables e below (T20.setTop (mkF m 50 #[.val (.ref tb), .val (.long key), .second, .val (.long uv), .second, .val (.int (Int32.ofNat r))] [(.ref tb), (.int (2 : Int32))])) t → Steps p.tables e below (s₁.setTop (mkF m 0 #[.val (.ref tb), .val (.long key), .second, .val (.long uv), .second, .unset] [])) t := fun t k => st t (by
      show Steps p.tables e below (T20.setTop (mkF m 48 #[.val (.ref tb), .val (.long key), .second, .val (.long uv), .second, .val (.int (Int32.ofNat r))] [])) _
      refine XS.iconst X.here hx rfl (hb hby d7_48) ?_
      show Steps p.tables e below (T20.setTop (mkF m 49 #[.val (.ref tb), .val (.long key), .second, .val (.long uv), .second, .val (.int (Int32.ofNat r))] [(.int (2 : Int32))])) _
      refine XS.aloadN X.here hx rfl (hb hby d7_49) rfl rfl ?_
      exact k)
  obtain ⟨T22, X, eh, sx⟩ := getF X hx hZ hown (host := "") (Or.inl (hw _ (List.mem_of_getElem? (i := 52) rfl))) Via.refl eh F_tb_size (g := (mkF m 50 #[.val (.ref tb), .val (.long key), .second, .val (.long uv), .second, .val (.int (Int32.ofNat r))] [(.ref tb), (.int (2 : Int32))])) rfl rfl (hb hby d7_50)
  have st : ∀ t, Steps p.tables e below (T22.setTop (mkF m 53 #[.val (.ref tb), .val (.long key), .second, .val (.long uv), .second, .val (.int (Int32.ofNat r))] [(.int (Int32.ofNat sz')), (.int (2 : Int32))])) t → Steps p.tables e below (s₁.setTop (mkF m 0 #[.val (.ref tb), .val (.long key), .second, .val (.long uv), .second, .unset] [])) t := fun t k => st t (sx t k)
  have st : ∀ t, Steps p.tables e below (T22.setTop (mkF m 55 #[.val (.ref tb), .val (.long key), .second, .val (.long uv), .second, .val (.int (Int32.ofNat r))] [(.ref tb), (.int ((2 : Int32) * (Int32.ofNat sz')))])) t → Steps p.tables e below (s₁.setTop (mkF m 0 #[.val (.ref tb), .val (.long key), .second, .val (.long uv), .second, .unset] [])) t := fun t k => st t (by
      show Steps p.tables e below (T22.setTop (mkF m 53 #[.val (.ref tb), .val (.long key), .second, .val (.long uv), .second, .val (.int (Int32.ofNat r))] [(.int (Int32.ofNat sz')), (.int (2 : Int32))])) _
      refine XS.imul X.here hx rfl (hb hby d7_53) rfl ?_
      show Steps p.tables e below (T22.setTop (mkF m 54 #[.val (.ref tb), .val (.long key), .second, .val (.long uv), .second, .val (.int (Int32.ofNat r))] [(.int ((2 : Int32) * (Int32.ofNat sz')))])) _
      refine XS.aloadN X.here hx rfl (hb hby d7_54) rfl rfl ?_
      exact k)
  obtain ⟨T23, X, eh, sx⟩ := getF X hx hZ hown (host := "") (Or.inl (hw _ (List.mem_of_getElem? (i := 19) rfl))) Via.refl eh F_tb_keys (g := (mkF m 55 #[.val (.ref tb), .val (.long key), .second, .val (.long uv), .second, .val (.int (Int32.ofNat r))] [(.ref tb), (.int ((2 : Int32) * (Int32.ofNat sz')))])) rfl rfl (hb hby d7_55)
  have st : ∀ t, Steps p.tables e below (T23.setTop (mkF m 58 #[.val (.ref tb), .val (.long key), .second, .val (.long uv), .second, .val (.int (Int32.ofNat r))] [(.ref ka), (.int ((2 : Int32) * (Int32.ofNat sz')))])) t → Steps p.tables e below (s₁.setTop (mkF m 0 #[.val (.ref tb), .val (.long key), .second, .val (.long uv), .second, .unset] [])) t := fun t k => st t (sx t k)
  obtain ⟨cl24, Ar24, Sz24, Mz24⟩ := own_lenOf V_ka
  have st : ∀ t, Steps p.tables e below (T23.setTop (mkF m 74 #[.val (.ref tb), .val (.long key), .second, .val (.long uv), .second, .val (.int (Int32.ofNat r))] [])) t → Steps p.tables e below (s₁.setTop (mkF m 0 #[.val (.ref tb), .val (.long key), .second, .val (.long uv), .second, .unset] [])) t := fun t k => st t (by
      show Steps p.tables e below (T23.setTop (mkF m 58 #[.val (.ref tb), .val (.long key), .second, .val (.long uv), .second, .val (.int (Int32.ofNat r))] [(.ref ka), (.int ((2 : Int32) * (Int32.ofNat sz')))])) _
      refine X.arraylength hx (cell := cl24) (by rw [eh]; exact Ar24.1) (State.isArrayOf_alike hZ.alike Ar24.2.1) (g := (mkF m 58 #[.val (.ref tb), .val (.long key), .second, .val (.long uv), .second, .val (.int (Int32.ofNat r))] [(.ref ka), (.int ((2 : Int32) * (Int32.ofNat sz')))])) rfl (rest := [(.int ((2 : Int32) * (Int32.ofNat sz')))]) rfl (hb hby d7_58) _ ?_
      rw [len_of Sz24 Mz24]
      show Steps p.tables e below (T23.setTop (mkF m 59 #[.val (.ref tb), .val (.long key), .second, .val (.long uv), .second, .val (.int (Int32.ofNat r))] [(.int (16 : Int32)), (.int ((2 : Int32) * (Int32.ofNat sz')))])) _
      refine XS.icmpYes X.here hx rfl (pc0 := 59) (pc' := 74) rfl (hb hby d7_59) rfl (flt (own_dbl (by omega))).2.2.2 (by decide) (by decide) ?_
      exact k)
  obtain ⟨fs_, hr, hrun, hended, hW, hsame⟩ := X.leave (v := none) (fun _ => rfl)
  refine ⟨_, _, pre0 _ (st _ ?_), hrun, hended, _, _, rfl, ?_, ⟨_, rfl⟩, hW, hsame.mono (by decide) (by decide)⟩
  · exact X.returnOut hx Bd.returns (hb hby d7_74) hr
  · show Q_rm7 Z tb key uv ka ua fa sa ma k_ka k_ua k_fa k_sa k_ma ks us fs ss ms sp sz h0 n0 _ T23.heap _
    rw [eh]
    exact ⟨rfl, N, K, r, own_updL ks r key, own_updL us r uv, sz', fun j hj => if_neg hj, hsz', ⟨E_tb, F_tb_keys, F_tb_until, F_tb_operations, F_tb_machines, F_tb_firstUntil, F_tb_secondUntil, F_tb_machineUntil, F_tb_step, F_tb_size, V_ka, V_ua, V_fa, V_sa, V_ma⟩⟩
theorem d5_0 : decode prog_46_method_3_code 0 = .ok (.aload_n 0, 1) := by decide +kernel
theorem d5_1 : decode prog_46_method_3_code 1 = .ok (.getfield 36, 3) := by decide +kernel
theorem d5_4 : decode prog_46_method_3_code 4 = .ok (.lconst 1, 1) := by decide +kernel
theorem d5_5 : decode prog_46_method_3_code 5 = .ok (.ladd, 1) := by decide +kernel
theorem d5_6 : decode prog_46_method_3_code 6 = .ok (.iload_n 3, 1) := by decide +kernel
theorem d5_7 : decode prog_46_method_3_code 7 = .ok (.i2l, 1) := by decide +kernel
theorem d5_8 : decode prog_46_method_3_code 8 = .ok (.ladd, 1) := by decide +kernel
theorem d5_9 : decode prog_46_method_3_code 9 = .ok (.lstore 4, 2) := by decide +kernel
theorem d5_11 : decode prog_46_method_3_code 11 = .ok (.aload_n 0, 1) := by decide +kernel
theorem d5_12 : decode prog_46_method_3_code 12 = .ok (.aload_n 0, 1) := by decide +kernel
theorem d5_13 : decode prog_46_method_3_code 13 = .ok (.iload_n 1, 1) := by decide +kernel
theorem d5_14 : decode prog_46_method_3_code 14 = .ok (.iload_n 2, 1) := by decide +kernel
theorem d5_15 : decode prog_46_method_3_code 15 = .ok (.invokevirtual 47, 3) := by decide +kernel
theorem d5_18 : decode prog_46_method_3_code 18 = .ok (.lload 4, 2) := by decide +kernel
theorem d5_20 : decode prog_46_method_3_code 20 = .ok (.invokevirtual 51, 3) := by decide +kernel
theorem d5_23 : decode prog_46_method_3_code 23 = .ok (.aload_n 0, 1) := by decide +kernel
theorem d5_24 : decode prog_46_method_3_code 24 = .ok (.getfield 27, 3) := by decide +kernel
theorem d5_27 : decode prog_46_method_3_code 27 = .ok (.iload_n 1, 1) := by decide +kernel
theorem d5_28 : decode prog_46_method_3_code 28 = .ok (.aload_n 0, 1) := by decide +kernel
theorem d5_29 : decode prog_46_method_3_code 29 = .ok (.getfield 27, 3) := by decide +kernel
theorem d5_32 : decode prog_46_method_3_code 32 = .ok (.iload_n 1, 1) := by decide +kernel
theorem d5_33 : decode prog_46_method_3_code 33 = .ok (.laload, 1) := by decide +kernel
theorem d5_34 : decode prog_46_method_3_code 34 = .ok (.lload 4, 2) := by decide +kernel
theorem d5_36 : decode prog_46_method_3_code 36 = .ok (.invokestatic 55, 3) := by decide +kernel
theorem d5_39 : decode prog_46_method_3_code 39 = .ok (.lastore, 1) := by decide +kernel
theorem d5_40 : decode prog_46_method_3_code 40 = .ok (.aload_n 0, 1) := by decide +kernel
theorem d5_41 : decode prog_46_method_3_code 41 = .ok (.getfield 30, 3) := by decide +kernel
theorem d5_44 : decode prog_46_method_3_code 44 = .ok (.iload_n 2, 1) := by decide +kernel
theorem d5_45 : decode prog_46_method_3_code 45 = .ok (.aload_n 0, 1) := by decide +kernel
theorem d5_46 : decode prog_46_method_3_code 46 = .ok (.getfield 30, 3) := by decide +kernel
theorem d5_49 : decode prog_46_method_3_code 49 = .ok (.iload_n 2, 1) := by decide +kernel
theorem d5_50 : decode prog_46_method_3_code 50 = .ok (.laload, 1) := by decide +kernel
theorem d5_51 : decode prog_46_method_3_code 51 = .ok (.lload 4, 2) := by decide +kernel
theorem d5_53 : decode prog_46_method_3_code 53 = .ok (.invokestatic 55, 3) := by decide +kernel
theorem d5_56 : decode prog_46_method_3_code 56 = .ok (.lastore, 1) := by decide +kernel
theorem d5_57 : decode prog_46_method_3_code 57 = .ok (.return_, 1) := by decide +kernel
def Q_rm5 (Z : State) (tb : Addr) (ka ua fa sa ma : Addr) (k_ka k_ua k_fa k_sa k_ma : ClassId) (ks us : Nat → Int64) (fs ss : Nat → Nat) (ms : Nat → Int64) (sp sz : Nat) (fi si nn : Nat) (h0 : Heap) (n0 : Nat) (v : Option Value) (h : Heap) (L : List Loc) : Prop := v = none ∧ Fr n0 L ∧ Keep h0 h [tb, ka, ua, fa, sa, ma] ∧ ∃ (r : Nat) (ks' us' : Nat → Int64) (sz' : Nat), (∀ j, j ≠ r → ks' j = ks j) ∧ sz' ≤ sz + 1 ∧ own_TL Z h tb ka ua fa sa ma k_ka k_ua k_fa k_sa k_ma ks' us' (own_upd fs fi (max (fs fi) (sp + 1 + nn))) (own_upd ss si (max (ss si) (sp + 1 + nn))) ms sp sz'
theorem own_pd3 : parseMethodDescriptor "(II)J" = some ⟨[.int, .int], some .long⟩ := by decide +kernel
theorem own_pd4 : parseMethodDescriptor "(JJ)V" = some ⟨[.long, .long], none⟩ := by decide +kernel
theorem own_pd5 : parseMethodDescriptor "(JJ)J" = some ⟨[.long, .long], some .long⟩ := by decide +kernel
theorem ef_rm5 (m : MethodId) (x0 : Addr) (x1 : Int32) (x2 : Int32) (x3 : Int32) : entryFrame m #[(.ref x0), (.int x1), (.int x2), (.int x3)] 6 = mkF m 0 #[.val (.ref x0), .val (.int x1), .val (.int x2), .val (.int x3), .unset, .unset] [] := by first | (simp [entryFrame, mkF, argsToLocals, Value.category]; done) | rfl
set_option maxRecDepth 65536 in
set_option maxHeartbeats 40000000 in
theorem rm5 (l : Launch) (Z : State) (a0 : Array Value) (hw : ∀ d ∈ tables_1, d.before a0 Z = true) (ws : List Jvm.Cond) (tb : Addr) (ka ua fa sa ma : Addr) (k_ka k_ua k_fa k_sa k_ma : ClassId) (ks us : Nat → Int64) (fs ss : Nat → Nat) (ms : Nat → Int64) (sp sz : Nat) (fi si nn : Nat) (h0 : Heap) (n0 : Nat) (Z0 : n0 ≤ h0.size) (B : own_TL Z h0 tb ka ua fa sa ma k_ka k_ua k_fa k_sa k_ma ks us fs ss ms sp sz) (D : own_D n0 tb ka ua fa sa ma) (hsz : sz ≤ 7) (hE : ∃ j, j < 16 ∧ ks j = (-1 : Int64)) (hfi : fi < 3) (hsi : si < 3) (hnn : nn ≤ 3) (hsp : sp ≤ 100) (hfs : fs fi ≤ 900) (hss : ss si ≤ 900) :
    MetFree l (⟨"com/example/paretoloom/paretoloom/TabuList", "forbidBefore", "(III)V"⟩ : MethodName) (head1 (Jvm.Cond.code (⟨"com/example/paretoloom/paretoloom/TabuList", "forbidBefore", "(III)V"⟩ : MethodName) prog_46_method_3_code 6 none :: ws) ({ frames := 2, cells := 0, slots := 0, locals := 33 } : Room)) (fun a' U => a' = #[(.ref tb), (.int (Int32.ofNat fi)), (.int (Int32.ofNat si)), (.int (Int32.ofNat nn))] ∧ Z.Warmed39 U.vm ∧ U.heap = h0) (fun _ _ _ _ _ => True) (fun _ U o U' => ∃ v L, o = .returned v ∧ Q_rm5 Z tb ka ua fa sa ma k_ka k_ua k_fa k_sa k_ma ks us fs ss ms sp sz fi si nn h0 n0 v U'.heap L ∧ FrameEnd U o U' L ({ frames := 2, cells := 0, slots := 0, locals := 33 } : Room).cells ({ frames := 2, cells := 0, slots := 0, locals := 33 } : Room).slots) := by
  refine MetFree.of_bodySF (plainFor_of_name own_pn3) hisR ?_
  intro p e s m args below meth cd0 s₁ Bd hml0 hP hK
  obtain ⟨rfl, hZ, hh⟩ := hP
  have hx := Bd.exec
  have hby := Bd.bytes
  have hml : cd0.maxLocals = 6 := hml0
  have hown : s.vm.findClass "com/example/paretoloom/paretoloom/TabuList" = some m.cls := findClass_of_methodNamed Bd.named
  have hnm := (name_of_methodNamed Bd.named Bd.method).1
  have X : Stand p l e ({ frames := 2, cells := 0, slots := 0, locals := 33 } : Room) s m #[(.ref tb), (.int (Int32.ofNat fi)), (.int (Int32.ofNat si)), (.int (Int32.ofNat nn))] below meth cd0 s₁ [] 0 0 := Stand.of_body Bd
  have eh : s₁.heap = h0 := by rw [← hh, Bd.state]; rfl
  have N := Fr.nil n0
  have K : Keep h0 h0 [tb, ka, ua, fa, sa, ma] := Keep.refl _ _
  have pre0 : ∀ t, Steps p.tables e below (s₁.setTop (mkF m 0 #[.val (.ref tb), .val (.int (Int32.ofNat fi)), .val (.int (Int32.ofNat si)), .val (.int (Int32.ofNat nn)), .unset, .unset] [])) t → Steps p.tables e below (s₁.setTop (entryFrame m #[(.ref tb), (.int (Int32.ofNat fi)), (.int (Int32.ofNat si)), (.int (Int32.ofNat nn))] 6)) t := fun t k => castTop (ef_rm5 m tb (Int32.ofNat fi) (Int32.ofNat si) (Int32.ofNat nn)) k
  have st : ∀ t, Steps p.tables e below (s₁.setTop (mkF m 0 #[.val (.ref tb), .val (.int (Int32.ofNat fi)), .val (.int (Int32.ofNat si)), .val (.int (Int32.ofNat nn)), .unset, .unset] [])) t → Steps p.tables e below (s₁.setTop (mkF m 0 #[.val (.ref tb), .val (.int (Int32.ofNat fi)), .val (.int (Int32.ofNat si)), .val (.int (Int32.ofNat nn)), .unset, .unset] [])) t := fun t k => k
  have D0 := D
  have eE : Int64.ofNat sp + (1 : Int64) + (Int32.ofNat nn).toInt64 = Int64.ofNat (sp + 1 + nn) := by rw [own_ext (by omega), own_succ, own_addL]
  obtain ⟨E_tb, F_tb_keys, F_tb_until, F_tb_operations, F_tb_machines, F_tb_firstUntil, F_tb_secondUntil, F_tb_machineUntil, F_tb_step, F_tb_size, V_ka, V_ua, V_fa, V_sa, V_ma⟩ := B
  obtain ⟨g_tb, g_ka, g_ua, g_fa, g_sa, g_ma, ne_tb_ka, ne_tb_ua, ne_tb_fa, ne_tb_sa, ne_tb_ma, ne_ka_ua, ne_ka_fa, ne_ka_sa, ne_ka_ma, ne_ua_fa, ne_ua_sa, ne_ua_ma, ne_fa_sa, ne_fa_ma, ne_sa_ma⟩ := D
  have st : ∀ t, Steps p.tables e below (s₁.setTop (mkF m 1 #[.val (.ref tb), .val (.int (Int32.ofNat fi)), .val (.int (Int32.ofNat si)), .val (.int (Int32.ofNat nn)), .unset, .unset] [(.ref tb)])) t → Steps p.tables e below (s₁.setTop (mkF m 0 #[.val (.ref tb), .val (.int (Int32.ofNat fi)), .val (.int (Int32.ofNat si)), .val (.int (Int32.ofNat nn)), .unset, .unset] [])) t := fun t k => st t (by
      show Steps p.tables e below (s₁.setTop (mkF m 0 #[.val (.ref tb), .val (.int (Int32.ofNat fi)), .val (.int (Int32.ofNat si)), .val (.int (Int32.ofNat nn)), .unset, .unset] [])) _
      refine XS.aloadN X.here hx rfl (hb hby d5_0) rfl rfl ?_
      exact k)
  obtain ⟨T1, X, eh, sx⟩ := getF X hx hZ hown (host := "") (Or.inl (hw _ (List.mem_of_getElem? (i := 38) rfl))) Via.refl eh F_tb_step (g := (mkF m 1 #[.val (.ref tb), .val (.int (Int32.ofNat fi)), .val (.int (Int32.ofNat si)), .val (.int (Int32.ofNat nn)), .unset, .unset] [(.ref tb)])) rfl rfl (hb hby d5_1)
  have st : ∀ t, Steps p.tables e below (T1.setTop (mkF m 4 #[.val (.ref tb), .val (.int (Int32.ofNat fi)), .val (.int (Int32.ofNat si)), .val (.int (Int32.ofNat nn)), .unset, .unset] [(.long (Int64.ofNat sp))])) t → Steps p.tables e below (s₁.setTop (mkF m 0 #[.val (.ref tb), .val (.int (Int32.ofNat fi)), .val (.int (Int32.ofNat si)), .val (.int (Int32.ofNat nn)), .unset, .unset] [])) t := fun t k => st t (sx t k)
  have st : ∀ t, Steps p.tables e below (T1.setTop (mkF m 9 #[.val (.ref tb), .val (.int (Int32.ofNat fi)), .val (.int (Int32.ofNat si)), .val (.int (Int32.ofNat nn)), .unset, .unset] [(.long (((Int64.ofNat sp) + (1 : Int64)) + ((Int32.ofNat nn).toInt64)))])) t → Steps p.tables e below (s₁.setTop (mkF m 0 #[.val (.ref tb), .val (.int (Int32.ofNat fi)), .val (.int (Int32.ofNat si)), .val (.int (Int32.ofNat nn)), .unset, .unset] [])) t := fun t k => st t (by
      show Steps p.tables e below (T1.setTop (mkF m 4 #[.val (.ref tb), .val (.int (Int32.ofNat fi)), .val (.int (Int32.ofNat si)), .val (.int (Int32.ofNat nn)), .unset, .unset] [(.long (Int64.ofNat sp))])) _
      refine XS.lconst X.here hx rfl (hb hby d5_4) ?_
      show Steps p.tables e below (T1.setTop (mkF m 5 #[.val (.ref tb), .val (.int (Int32.ofNat fi)), .val (.int (Int32.ofNat si)), .val (.int (Int32.ofNat nn)), .unset, .unset] [(.long (1 : Int64)), (.long (Int64.ofNat sp))])) _
      refine XS.ladd X.here hx rfl (hb hby d5_5) rfl ?_
      show Steps p.tables e below (T1.setTop (mkF m 6 #[.val (.ref tb), .val (.int (Int32.ofNat fi)), .val (.int (Int32.ofNat si)), .val (.int (Int32.ofNat nn)), .unset, .unset] [(.long ((Int64.ofNat sp) + (1 : Int64)))])) _
      refine XS.iloadN X.here hx rfl (hb hby d5_6) rfl ?_
      show Steps p.tables e below (T1.setTop (mkF m 7 #[.val (.ref tb), .val (.int (Int32.ofNat fi)), .val (.int (Int32.ofNat si)), .val (.int (Int32.ofNat nn)), .unset, .unset] [(.int (Int32.ofNat nn)), (.long ((Int64.ofNat sp) + (1 : Int64)))])) _
      refine XS.i2l X.here hx rfl (hb hby d5_7) rfl ?_
      show Steps p.tables e below (T1.setTop (mkF m 8 #[.val (.ref tb), .val (.int (Int32.ofNat fi)), .val (.int (Int32.ofNat si)), .val (.int (Int32.ofNat nn)), .unset, .unset] [(.long ((Int32.ofNat nn).toInt64)), (.long ((Int64.ofNat sp) + (1 : Int64)))])) _
      refine XS.ladd X.here hx rfl (hb hby d5_8) rfl ?_
      exact k)
  have st : ∀ t, Steps p.tables e below (T1.setTop (mkF m 9 #[.val (.ref tb), .val (.int (Int32.ofNat fi)), .val (.int (Int32.ofNat si)), .val (.int (Int32.ofNat nn)), .unset, .unset] [(.long (Int64.ofNat (sp + 1 + nn)))])) t → Steps p.tables e below (s₁.setTop (mkF m 0 #[.val (.ref tb), .val (.int (Int32.ofNat fi)), .val (.int (Int32.ofNat si)), .val (.int (Int32.ofNat nn)), .unset, .unset] [])) t := by rw [← eE]; exact st
  have st : ∀ t, Steps p.tables e below (T1.setTop (mkF m 15 #[.val (.ref tb), .val (.int (Int32.ofNat fi)), .val (.int (Int32.ofNat si)), .val (.int (Int32.ofNat nn)), .val (.long (Int64.ofNat (sp + 1 + nn))), .second] [(.int (Int32.ofNat si)), (.int (Int32.ofNat fi)), (.ref tb), (.ref tb)])) t → Steps p.tables e below (s₁.setTop (mkF m 0 #[.val (.ref tb), .val (.int (Int32.ofNat fi)), .val (.int (Int32.ofNat si)), .val (.int (Int32.ofNat nn)), .unset, .unset] [])) t := fun t k => st t (by
      show Steps p.tables e below (T1.setTop (mkF m 9 #[.val (.ref tb), .val (.int (Int32.ofNat fi)), .val (.int (Int32.ofNat si)), .val (.int (Int32.ofNat nn)), .unset, .unset] [(.long (Int64.ofNat (sp + 1 + nn)))])) _
      refine XS.lstore X.here hx rfl (hb hby d5_9) rfl (l' := #[.val (.ref tb), .val (.int (Int32.ofNat fi)), .val (.int (Int32.ofNat si)), .val (.int (Int32.ofNat nn)), .val (.long (Int64.ofNat (sp + 1 + nn))), .second]) rfl ?_
      show Steps p.tables e below (T1.setTop (mkF m 11 #[.val (.ref tb), .val (.int (Int32.ofNat fi)), .val (.int (Int32.ofNat si)), .val (.int (Int32.ofNat nn)), .val (.long (Int64.ofNat (sp + 1 + nn))), .second] [])) _
      refine XS.aloadN X.here hx rfl (hb hby d5_11) rfl rfl ?_
      show Steps p.tables e below (T1.setTop (mkF m 12 #[.val (.ref tb), .val (.int (Int32.ofNat fi)), .val (.int (Int32.ofNat si)), .val (.int (Int32.ofNat nn)), .val (.long (Int64.ofNat (sp + 1 + nn))), .second] [(.ref tb)])) _
      refine XS.aloadN X.here hx rfl (hb hby d5_12) rfl rfl ?_
      show Steps p.tables e below (T1.setTop (mkF m 13 #[.val (.ref tb), .val (.int (Int32.ofNat fi)), .val (.int (Int32.ofNat si)), .val (.int (Int32.ofNat nn)), .val (.long (Int64.ofNat (sp + 1 + nn))), .second] [(.ref tb), (.ref tb)])) _
      refine XS.iloadN X.here hx rfl (hb hby d5_13) rfl ?_
      show Steps p.tables e below (T1.setTop (mkF m 14 #[.val (.ref tb), .val (.int (Int32.ofNat fi)), .val (.int (Int32.ofNat si)), .val (.int (Int32.ofNat nn)), .val (.long (Int64.ofNat (sp + 1 + nn))), .second] [(.int (Int32.ofNat fi)), (.ref tb), (.ref tb)])) _
      refine XS.iloadN X.here hx rfl (hb hby d5_14) rfl ?_
      exact k)
  obtain ⟨cq2, q2, q2'⟩ := E_tb.cell
  obtain ⟨_, _, ⟨T3, L2, k2, n2⟩, -, X, ⟨Lc2, hQ, l2, y2, z2⟩, sx⟩ := X.privateBack hx (y := (⟨"com/example/paretoloom/paretoloom/TabuList", "pairKey", "(II)J"⟩ : MethodName)) hown (mvT hZ (hw _ (List.mem_of_getElem? (i := 40) rfl))) (mvT hZ (hw _ (List.mem_of_getElem? (i := 41) rfl))) (mvT hZ (own_sel (y := (⟨"com/example/paretoloom/paretoloom/TabuList", "pairKey", "(II)J"⟩ : MethodName)) (by decide) (hw _ (List.mem_of_getElem? (i := 41) rfl)) (hw _ (List.mem_of_getElem? (i := 42) rfl)) (hw _ (List.mem_of_getElem? (i := 2) rfl)))) (Cond.privateMethod_at (mvP hZ (hw _ (List.mem_of_getElem? (i := 42) rfl)) (args := #[]))) (mvT hZ (hw _ (List.mem_of_getElem? (i := 43) rfl))) (by decide) (backOf (W := 1) (rm6 l Z a0 hw [] tb (Int32.ofNat fi) (Int32.ofNat si)  h0 n0 Z0 F_tb_operations F_tb_machines) hZ (hw _ (List.mem_of_getElem? (i := 43) rfl)) (hw _ (List.mem_of_getElem? (i := 3) rfl)) (by decide) (by decide)) (g := (mkF m 15 #[.val (.ref tb), .val (.int (Int32.ofNat fi)), .val (.int (Int32.ofNat si)), .val (.int (Int32.ofNat nn)), .val (.long (Int64.ofNat (sp + 1 + nn))), .second] [(.int (Int32.ofNat si)), (.int (Int32.ofNat fi)), (.ref tb), (.ref tb)])) rfl (by rw [hml]; rfl) (Steps.refl _) (a := tb) (by rw [eh]; exact q2) q2' (argsL := [(.int (Int32.ofNat fi)), (.int (Int32.ofNat si))]) (rest := [(.ref tb)]) (lenOf own_pd3 rfl) rfl (by show 2 * 0 + _ ≤ _; exact Nat.le_of_eq rfl) (hb hby d5_15) (fun _ _ => ⟨rfl, eh, (by decide : 0 + 0 ≤ _), (by decide : 0 + 0 ≤ _)⟩)
  dsimp only [Pt.U, Pt.locs, Pt.cells, Pt.slots] at X l2 y2 z2 sx hQ
  subst l2 y2 z2
  obtain ⟨key, rfl, Nc, hsame_⟩ := hQ
  have st : ∀ t, Steps p.tables e below (T3.setTop (mkF m 18 #[.val (.ref tb), .val (.int (Int32.ofNat fi)), .val (.int (Int32.ofNat si)), .val (.int (Int32.ofNat nn)), .val (.long (Int64.ofNat (sp + 1 + nn))), .second] [(.long key), (.ref tb)])) t → Steps p.tables e below (s₁.setTop (mkF m 0 #[.val (.ref tb), .val (.int (Int32.ofNat fi)), .val (.int (Int32.ofNat si)), .val (.int (Int32.ofNat nn)), .unset, .unset] [])) t := fun t k => st t (sx.trans k)
  have N := Fr.app N Nc
  have eh : T3.heap = h0 := hsame_
  have st : ∀ t, Steps p.tables e below (T3.setTop (mkF m 20 #[.val (.ref tb), .val (.int (Int32.ofNat fi)), .val (.int (Int32.ofNat si)), .val (.int (Int32.ofNat nn)), .val (.long (Int64.ofNat (sp + 1 + nn))), .second] [(.long (Int64.ofNat (sp + 1 + nn))), (.long key), (.ref tb)])) t → Steps p.tables e below (s₁.setTop (mkF m 0 #[.val (.ref tb), .val (.int (Int32.ofNat fi)), .val (.int (Int32.ofNat si)), .val (.int (Int32.ofNat nn)), .unset, .unset] [])) t := fun t k => st t (by
      show Steps p.tables e below (T3.setTop (mkF m 18 #[.val (.ref tb), .val (.int (Int32.ofNat fi)), .val (.int (Int32.ofNat si)), .val (.int (Int32.ofNat nn)), .val (.long (Int64.ofNat (sp + 1 + nn))), .second] [(.long key), (.ref tb)])) _
      refine XS.lload X.here hx rfl (hb hby d5_18) rfl ?_
      exact k)
  have B : own_TL Z h0 tb ka ua fa sa ma k_ka k_ua k_fa k_sa k_ma ks us fs ss ms sp sz := ⟨E_tb, F_tb_keys, F_tb_until, F_tb_operations, F_tb_machines, F_tb_firstUntil, F_tb_secondUntil, F_tb_machineUntil, F_tb_step, F_tb_size, V_ka, V_ua, V_fa, V_sa, V_ma⟩
  obtain ⟨cq4, q4, q4'⟩ := E_tb.cell
  obtain ⟨_, _, ⟨T5, L4, k4, n4⟩, -, X, ⟨Lc4, hQ, l4, y4, z4⟩, sx⟩ := X.privateBack hx (y := (⟨"com/example/paretoloom/paretoloom/TabuList", "put", "(JJ)V"⟩ : MethodName)) hown (mvT hZ (hw _ (List.mem_of_getElem? (i := 44) rfl))) (mvT hZ (hw _ (List.mem_of_getElem? (i := 45) rfl))) (mvT hZ (own_sel (y := (⟨"com/example/paretoloom/paretoloom/TabuList", "put", "(JJ)V"⟩ : MethodName)) (by decide) (hw _ (List.mem_of_getElem? (i := 45) rfl)) (hw _ (List.mem_of_getElem? (i := 46) rfl)) (hw _ (List.mem_of_getElem? (i := 2) rfl)))) (Cond.privateMethod_at (mvP hZ (hw _ (List.mem_of_getElem? (i := 46) rfl)) (args := #[]))) (mvT hZ (hw _ (List.mem_of_getElem? (i := 47) rfl))) (by decide) (backOf (W := 0) (rm7 l Z a0 hw [] tb key (Int64.ofNat (sp + 1 + nn)) ka ua fa sa ma k_ka k_ua k_fa k_sa k_ma ks us fs ss ms sp sz h0 n0 Z0 B D0 hsz hE) hZ (hw _ (List.mem_of_getElem? (i := 47) rfl)) (hw _ (List.mem_of_getElem? (i := 3) rfl)) (by decide) (by decide)) (g := (mkF m 20 #[.val (.ref tb), .val (.int (Int32.ofNat fi)), .val (.int (Int32.ofNat si)), .val (.int (Int32.ofNat nn)), .val (.long (Int64.ofNat (sp + 1 + nn))), .second] [(.long (Int64.ofNat (sp + 1 + nn))), (.long key), (.ref tb)])) rfl (by rw [hml]; rfl) (Steps.refl _) (a := tb) (by rw [eh]; exact q4) q4' (argsL := [(.long key), (.long (Int64.ofNat (sp + 1 + nn)))]) (rest := []) (lenOf own_pd4 rfl) rfl (by show 2 * 0 + _ ≤ _; exact Nat.le_of_eq rfl) (hb hby d5_20) (fun _ _ => ⟨rfl, eh, (by decide : 0 + 0 ≤ _), (by decide : 0 + 0 ≤ _)⟩)
  dsimp only [Pt.U, Pt.locs, Pt.cells, Pt.slots] at X l4 y4 z4 sx hQ
  subst l4 y4 z4
  obtain ⟨rfl, Nc, K1, r, ks', us', sz', hks, hsz', B⟩ := hQ
  have st : ∀ t, Steps p.tables e below (T5.setTop (mkF m 23 #[.val (.ref tb), .val (.int (Int32.ofNat fi)), .val (.int (Int32.ofNat si)), .val (.int (Int32.ofNat nn)), .val (.long (Int64.ofNat (sp + 1 + nn))), .second] [])) t → Steps p.tables e below (s₁.setTop (mkF m 0 #[.val (.ref tb), .val (.int (Int32.ofNat fi)), .val (.int (Int32.ofNat si)), .val (.int (Int32.ofNat nn)), .unset, .unset] [])) t := fun t k => st t (sx.trans k)
  have N := Fr.app N Nc
  obtain ⟨h6, eH⟩ : ∃ z, z = T5.heap := ⟨_, rfl⟩
  rw [← eH] at K1 B
  have eh : T5.heap = h6 := eH.symm
  have E_tb := E_tb.keep K1
  have K := K.trans K1 (allS (Or.inl (List.mem_of_getElem? (i := 0) rfl)) (allS (Or.inl (List.mem_of_getElem? (i := 1) rfl)) (allS (Or.inl (List.mem_of_getElem? (i := 2) rfl)) (allS (Or.inl (List.mem_of_getElem? (i := 3) rfl)) (allS (Or.inl (List.mem_of_getElem? (i := 4) rfl)) (allS (Or.inl (List.mem_of_getElem? (i := 5) rfl)) all0))))))
  have Z0 := Nat.le_trans Z0 K1.1
  obtain ⟨E_tb, F_tb_keys, F_tb_until, F_tb_operations, F_tb_machines, F_tb_firstUntil, F_tb_secondUntil, F_tb_machineUntil, F_tb_step, F_tb_size, V_ka, V_ua, V_fa, V_sa, V_ma⟩ := B
  have st : ∀ t, Steps p.tables e below (T5.setTop (mkF m 24 #[.val (.ref tb), .val (.int (Int32.ofNat fi)), .val (.int (Int32.ofNat si)), .val (.int (Int32.ofNat nn)), .val (.long (Int64.ofNat (sp + 1 + nn))), .second] [(.ref tb)])) t → Steps p.tables e below (s₁.setTop (mkF m 0 #[.val (.ref tb), .val (.int (Int32.ofNat fi)), .val (.int (Int32.ofNat si)), .val (.int (Int32.ofNat nn)), .unset, .unset] [])) t := fun t k => st t (by
      show Steps p.tables e below (T5.setTop (mkF m 23 #[.val (.ref tb), .val (.int (Int32.ofNat fi)), .val (.int (Int32.ofNat si)), .val (.int (Int32.ofNat nn)), .val (.long (Int64.ofNat (sp + 1 + nn))), .second] [])) _
      refine XS.aloadN X.here hx rfl (hb hby d5_23) rfl rfl ?_
      exact k)
  obtain ⟨T7, X, eh, sx⟩ := getF X hx hZ hown (host := "") (Or.inl (hw _ (List.mem_of_getElem? (i := 27) rfl))) Via.refl eh F_tb_firstUntil (g := (mkF m 24 #[.val (.ref tb), .val (.int (Int32.ofNat fi)), .val (.int (Int32.ofNat si)), .val (.int (Int32.ofNat nn)), .val (.long (Int64.ofNat (sp + 1 + nn))), .second] [(.ref tb)])) rfl rfl (hb hby d5_24)
  have st : ∀ t, Steps p.tables e below (T7.setTop (mkF m 27 #[.val (.ref tb), .val (.int (Int32.ofNat fi)), .val (.int (Int32.ofNat si)), .val (.int (Int32.ofNat nn)), .val (.long (Int64.ofNat (sp + 1 + nn))), .second] [(.ref fa)])) t → Steps p.tables e below (s₁.setTop (mkF m 0 #[.val (.ref tb), .val (.int (Int32.ofNat fi)), .val (.int (Int32.ofNat si)), .val (.int (Int32.ofNat nn)), .unset, .unset] [])) t := fun t k => st t (sx t k)
  have st : ∀ t, Steps p.tables e below (T7.setTop (mkF m 29 #[.val (.ref tb), .val (.int (Int32.ofNat fi)), .val (.int (Int32.ofNat si)), .val (.int (Int32.ofNat nn)), .val (.long (Int64.ofNat (sp + 1 + nn))), .second] [(.ref tb), (.int (Int32.ofNat fi)), (.ref fa)])) t → Steps p.tables e below (s₁.setTop (mkF m 0 #[.val (.ref tb), .val (.int (Int32.ofNat fi)), .val (.int (Int32.ofNat si)), .val (.int (Int32.ofNat nn)), .unset, .unset] [])) t := fun t k => st t (by
      show Steps p.tables e below (T7.setTop (mkF m 27 #[.val (.ref tb), .val (.int (Int32.ofNat fi)), .val (.int (Int32.ofNat si)), .val (.int (Int32.ofNat nn)), .val (.long (Int64.ofNat (sp + 1 + nn))), .second] [(.ref fa)])) _
      refine XS.iloadN X.here hx rfl (hb hby d5_27) rfl ?_
      show Steps p.tables e below (T7.setTop (mkF m 28 #[.val (.ref tb), .val (.int (Int32.ofNat fi)), .val (.int (Int32.ofNat si)), .val (.int (Int32.ofNat nn)), .val (.long (Int64.ofNat (sp + 1 + nn))), .second] [(.int (Int32.ofNat fi)), (.ref fa)])) _
      refine XS.aloadN X.here hx rfl (hb hby d5_28) rfl rfl ?_
      exact k)
  obtain ⟨T8, X, eh, sx⟩ := getF X hx hZ hown (host := "") (Or.inl (hw _ (List.mem_of_getElem? (i := 27) rfl))) Via.refl eh F_tb_firstUntil (g := (mkF m 29 #[.val (.ref tb), .val (.int (Int32.ofNat fi)), .val (.int (Int32.ofNat si)), .val (.int (Int32.ofNat nn)), .val (.long (Int64.ofNat (sp + 1 + nn))), .second] [(.ref tb), (.int (Int32.ofNat fi)), (.ref fa)])) rfl rfl (hb hby d5_29)
  have st : ∀ t, Steps p.tables e below (T8.setTop (mkF m 32 #[.val (.ref tb), .val (.int (Int32.ofNat fi)), .val (.int (Int32.ofNat si)), .val (.int (Int32.ofNat nn)), .val (.long (Int64.ofNat (sp + 1 + nn))), .second] [(.ref fa), (.int (Int32.ofNat fi)), (.ref fa)])) t → Steps p.tables e below (s₁.setTop (mkF m 0 #[.val (.ref tb), .val (.int (Int32.ofNat fi)), .val (.int (Int32.ofNat si)), .val (.int (Int32.ofNat nn)), .unset, .unset] [])) t := fun t k => st t (sx t k)
  have st : ∀ t, Steps p.tables e below (T8.setTop (mkF m 33 #[.val (.ref tb), .val (.int (Int32.ofNat fi)), .val (.int (Int32.ofNat si)), .val (.int (Int32.ofNat nn)), .val (.long (Int64.ofNat (sp + 1 + nn))), .second] [(.int (Int32.ofNat fi)), (.ref fa), (.int (Int32.ofNat fi)), (.ref fa)])) t → Steps p.tables e below (s₁.setTop (mkF m 0 #[.val (.ref tb), .val (.int (Int32.ofNat fi)), .val (.int (Int32.ofNat si)), .val (.int (Int32.ofNat nn)), .unset, .unset] [])) t := fun t k => st t (by
      show Steps p.tables e below (T8.setTop (mkF m 32 #[.val (.ref tb), .val (.int (Int32.ofNat fi)), .val (.int (Int32.ofNat si)), .val (.int (Int32.ofNat nn)), .val (.long (Int64.ofNat (sp + 1 + nn))), .second] [(.ref fa), (.int (Int32.ofNat fi)), (.ref fa)])) _
      refine XS.iloadN X.here hx rfl (hb hby d5_32) rfl ?_
      exact k)
  obtain ⟨cl9, Ar9, hin9, hat9⟩ := own_rd (by decide) V_fa fi hfi
  have st : ∀ t, Steps p.tables e below (T8.setTop (mkF m 36 #[.val (.ref tb), .val (.int (Int32.ofNat fi)), .val (.int (Int32.ofNat si)), .val (.int (Int32.ofNat nn)), .val (.long (Int64.ofNat (sp + 1 + nn))), .second] [(.long (Int64.ofNat (sp + 1 + nn))), (.long (Int64.ofNat (fs fi))), (.int (Int32.ofNat fi)), (.ref fa)])) t → Steps p.tables e below (s₁.setTop (mkF m 0 #[.val (.ref tb), .val (.int (Int32.ofNat fi)), .val (.int (Int32.ofNat si)), .val (.int (Int32.ofNat nn)), .unset, .unset] [])) t := fun t k => st t (by
      show Steps p.tables e below (T8.setTop (mkF m 33 #[.val (.ref tb), .val (.int (Int32.ofNat fi)), .val (.int (Int32.ofNat si)), .val (.int (Int32.ofNat nn)), .val (.long (Int64.ofNat (sp + 1 + nn))), .second] [(.int (Int32.ofNat fi)), (.ref fa), (.int (Int32.ofNat fi)), (.ref fa)])) _
      refine X.laload hx (j := (Int32.ofNat fi)) (v := (.long (Int64.ofNat (fs fi)))) (by rw [eh]; exact Ar9.1) (State.isArrayOf_alike hZ.alike Ar9.2.1) Ar9.2.2 hin9 hat9 (g := (mkF m 33 #[.val (.ref tb), .val (.int (Int32.ofNat fi)), .val (.int (Int32.ofNat si)), .val (.int (Int32.ofNat nn)), .val (.long (Int64.ofNat (sp + 1 + nn))), .second] [(.int (Int32.ofNat fi)), (.ref fa), (.int (Int32.ofNat fi)), (.ref fa)])) rfl rfl (hb hby d5_33) _ ?_
      show Steps p.tables e below (T8.setTop (mkF m 34 #[.val (.ref tb), .val (.int (Int32.ofNat fi)), .val (.int (Int32.ofNat si)), .val (.int (Int32.ofNat nn)), .val (.long (Int64.ofNat (sp + 1 + nn))), .second] [(.long (Int64.ofNat (fs fi))), (.int (Int32.ofNat fi)), (.ref fa)])) _
      refine XS.lload X.here hx rfl (hb hby d5_34) rfl ?_
      exact k)
  obtain ⟨_, _, ⟨T11, L10, k10, n10⟩, -, X, ⟨Lc10, hQ, l10, y10, z10⟩, sx⟩ := Jvm.LawKit.callS X hx (y := (⟨"java/lang/Math", "max", "(JJ)J"⟩ : MethodName)) hown (mvT hZ (hw _ (List.mem_of_getElem? (i := 54) rfl))) (mvT hZ (hw _ (List.mem_of_getElem? (i := 55) rfl))) (mvT hZ (hw _ (List.mem_of_getElem? (i := 56) rfl))) (mvT hZ (hw _ (List.mem_of_getElem? (i := 57) rfl))) (by decide) (backOf (W := 2) (rm9 l Z a0 hw [] (Int64.ofNat (fs fi)) (Int64.ofNat (sp + 1 + nn))  h6 n0 Z0 ) hZ (hw _ (List.mem_of_getElem? (i := 57) rfl)) (hw _ (List.mem_of_getElem? (i := 56) rfl)) (by decide) (by decide)) (g := (mkF m 36 #[.val (.ref tb), .val (.int (Int32.ofNat fi)), .val (.int (Int32.ofNat si)), .val (.int (Int32.ofNat nn)), .val (.long (Int64.ofNat (sp + 1 + nn))), .second] [(.long (Int64.ofNat (sp + 1 + nn))), (.long (Int64.ofNat (fs fi))), (.int (Int32.ofNat fi)), (.ref fa)])) rfl (by rw [hml]; rfl) (argsL := [(.long (Int64.ofNat (fs fi))), (.long (Int64.ofNat (sp + 1 + nn)))]) (rest := [(.int (Int32.ofNat fi)), (.ref fa)]) (lenOf own_pd5 rfl) rfl (by show 2 * 0 + _ ≤ _; exact Nat.le_of_eq rfl) (hb hby d5_36) (fun _ _ => ⟨rfl, eh, (by decide : 0 + 0 ≤ _), (by decide : 0 + 0 ≤ _)⟩)
  dsimp only [Pt.U, Pt.locs, Pt.cells, Pt.slots] at X l10 y10 z10 sx hQ
  subst l10 y10 z10
  obtain ⟨rfl, Nc, hsame_⟩ := hQ
  have st : ∀ t, Steps p.tables e below (T11.setTop (mkF m 39 #[.val (.ref tb), .val (.int (Int32.ofNat fi)), .val (.int (Int32.ofNat si)), .val (.int (Int32.ofNat nn)), .val (.long (Int64.ofNat (sp + 1 + nn))), .second] [(.long (own_maxL (Int64.ofNat (fs fi)) (Int64.ofNat (sp + 1 + nn)))), (.int (Int32.ofNat fi)), (.ref fa)])) t → Steps p.tables e below (s₁.setTop (mkF m 0 #[.val (.ref tb), .val (.int (Int32.ofNat fi)), .val (.int (Int32.ofNat si)), .val (.int (Int32.ofNat nn)), .unset, .unset] [])) t := fun t k => st t (sx t k)
  have N := Fr.app N Nc
  have eh : T11.heap = h6 := hsame_
  rw [own_mxL (by omega) (by omega)] at st
  obtain ⟨cl12, Ar12, hin12, hat12⟩ := own_rd (by decide) V_fa fi hfi
  obtain ⟨T13, h14, X, eh, W12, sx⟩ := stJ X hx hZ eh Ar12 (j := (Int32.ofNat fi)) hin12 (g := (mkF m 39 #[.val (.ref tb), .val (.int (Int32.ofNat fi)), .val (.int (Int32.ofNat si)), .val (.int (Int32.ofNat nn)), .val (.long (Int64.ofNat (sp + 1 + nn))), .second] [(.long (Int64.ofNat (max (fs fi) (sp + 1 + nn)))), (.int (Int32.ofNat fi)), (.ref fa)])) rfl rfl (hb hby d5_39)
  have st : ∀ t, Steps p.tables e below (T13.setTop (mkF m 40 #[.val (.ref tb), .val (.int (Int32.ofNat fi)), .val (.int (Int32.ofNat si)), .val (.int (Int32.ofNat nn)), .val (.long (Int64.ofNat (sp + 1 + nn))), .second] [])) t → Steps p.tables e below (s₁.setTop (mkF m 0 #[.val (.ref tb), .val (.int (Int32.ofNat fi)), .val (.int (Int32.ofNat si)), .val (.int (Int32.ofNat nn)), .unset, .unset] [])) t := fun t k => st t (sx t k)
  have F_tb_keys := F_tb_keys.other W12 (Or.inl ne_tb_fa)
  have F_tb_until := F_tb_until.other W12 (Or.inl ne_tb_fa)
  have F_tb_operations := F_tb_operations.other W12 (Or.inl ne_tb_fa)
  have F_tb_machines := F_tb_machines.other W12 (Or.inl ne_tb_fa)
  have F_tb_firstUntil := F_tb_firstUntil.other W12 (Or.inl ne_tb_fa)
  have F_tb_secondUntil := F_tb_secondUntil.other W12 (Or.inl ne_tb_fa)
  have F_tb_machineUntil := F_tb_machineUntil.other W12 (Or.inl ne_tb_fa)
  have F_tb_step := F_tb_step.other W12 (Or.inl ne_tb_fa)
  have F_tb_size := F_tb_size.other W12 (Or.inl ne_tb_fa)
  have E_tb := E_tb.wr W12
  have V_ka := V_ka.other W12 ne_ka_fa
  have V_ua := V_ua.other W12 ne_ua_fa
  have V_sa := V_sa.other W12 (Ne.symm ne_fa_sa)
  have V_ma := V_ma.other W12 (Ne.symm ne_fa_ma)
  have K := K.wr W12 (Or.inl (List.mem_of_getElem? (i := 3) rfl))
  have Z0 := Nat.le_trans Z0 (Keep.of_wr W12).1
  have V_fa := own_st (by decide) V_fa fi hfi _ W12
  have N := Fr.snoc X N g_fa
  rw [own_cupd] at V_fa
  have st : ∀ t, Steps p.tables e below (T13.setTop (mkF m 41 #[.val (.ref tb), .val (.int (Int32.ofNat fi)), .val (.int (Int32.ofNat si)), .val (.int (Int32.ofNat nn)), .val (.long (Int64.ofNat (sp + 1 + nn))), .second] [(.ref tb)])) t → Steps p.tables e below (s₁.setTop (mkF m 0 #[.val (.ref tb), .val (.int (Int32.ofNat fi)), .val (.int (Int32.ofNat si)), .val (.int (Int32.ofNat nn)), .unset, .unset] [])) t := fun t k => st t (by
      show Steps p.tables e below (T13.setTop (mkF m 40 #[.val (.ref tb), .val (.int (Int32.ofNat fi)), .val (.int (Int32.ofNat si)), .val (.int (Int32.ofNat nn)), .val (.long (Int64.ofNat (sp + 1 + nn))), .second] [])) _
      refine XS.aloadN X.here hx rfl (hb hby d5_40) rfl rfl ?_
      exact k)
  obtain ⟨T15, X, eh, sx⟩ := getF X hx hZ hown (host := "") (Or.inl (hw _ (List.mem_of_getElem? (i := 29) rfl))) Via.refl eh F_tb_secondUntil (g := (mkF m 41 #[.val (.ref tb), .val (.int (Int32.ofNat fi)), .val (.int (Int32.ofNat si)), .val (.int (Int32.ofNat nn)), .val (.long (Int64.ofNat (sp + 1 + nn))), .second] [(.ref tb)])) rfl rfl (hb hby d5_41)
  have st : ∀ t, Steps p.tables e below (T15.setTop (mkF m 44 #[.val (.ref tb), .val (.int (Int32.ofNat fi)), .val (.int (Int32.ofNat si)), .val (.int (Int32.ofNat nn)), .val (.long (Int64.ofNat (sp + 1 + nn))), .second] [(.ref sa)])) t → Steps p.tables e below (s₁.setTop (mkF m 0 #[.val (.ref tb), .val (.int (Int32.ofNat fi)), .val (.int (Int32.ofNat si)), .val (.int (Int32.ofNat nn)), .unset, .unset] [])) t := fun t k => st t (sx t k)
  have st : ∀ t, Steps p.tables e below (T15.setTop (mkF m 46 #[.val (.ref tb), .val (.int (Int32.ofNat fi)), .val (.int (Int32.ofNat si)), .val (.int (Int32.ofNat nn)), .val (.long (Int64.ofNat (sp + 1 + nn))), .second] [(.ref tb), (.int (Int32.ofNat si)), (.ref sa)])) t → Steps p.tables e below (s₁.setTop (mkF m 0 #[.val (.ref tb), .val (.int (Int32.ofNat fi)), .val (.int (Int32.ofNat si)), .val (.int (Int32.ofNat nn)), .unset, .unset] [])) t := fun t k => st t (by
      show Steps p.tables e below (T15.setTop (mkF m 44 #[.val (.ref tb), .val (.int (Int32.ofNat fi)), .val (.int (Int32.ofNat si)), .val (.int (Int32.ofNat nn)), .val (.long (Int64.ofNat (sp + 1 + nn))), .second] [(.ref sa)])) _
      refine XS.iloadN X.here hx rfl (hb hby d5_44) rfl ?_
      show Steps p.tables e below (T15.setTop (mkF m 45 #[.val (.ref tb), .val (.int (Int32.ofNat fi)), .val (.int (Int32.ofNat si)), .val (.int (Int32.ofNat nn)), .val (.long (Int64.ofNat (sp + 1 + nn))), .second] [(.int (Int32.ofNat si)), (.ref sa)])) _
      refine XS.aloadN X.here hx rfl (hb hby d5_45) rfl rfl ?_
      exact k)
  obtain ⟨T16, X, eh, sx⟩ := getF X hx hZ hown (host := "") (Or.inl (hw _ (List.mem_of_getElem? (i := 29) rfl))) Via.refl eh F_tb_secondUntil (g := (mkF m 46 #[.val (.ref tb), .val (.int (Int32.ofNat fi)), .val (.int (Int32.ofNat si)), .val (.int (Int32.ofNat nn)), .val (.long (Int64.ofNat (sp + 1 + nn))), .second] [(.ref tb), (.int (Int32.ofNat si)), (.ref sa)])) rfl rfl (hb hby d5_46)
  have st : ∀ t, Steps p.tables e below (T16.setTop (mkF m 49 #[.val (.ref tb), .val (.int (Int32.ofNat fi)), .val (.int (Int32.ofNat si)), .val (.int (Int32.ofNat nn)), .val (.long (Int64.ofNat (sp + 1 + nn))), .second] [(.ref sa), (.int (Int32.ofNat si)), (.ref sa)])) t → Steps p.tables e below (s₁.setTop (mkF m 0 #[.val (.ref tb), .val (.int (Int32.ofNat fi)), .val (.int (Int32.ofNat si)), .val (.int (Int32.ofNat nn)), .unset, .unset] [])) t := fun t k => st t (sx t k)
  have st : ∀ t, Steps p.tables e below (T16.setTop (mkF m 50 #[.val (.ref tb), .val (.int (Int32.ofNat fi)), .val (.int (Int32.ofNat si)), .val (.int (Int32.ofNat nn)), .val (.long (Int64.ofNat (sp + 1 + nn))), .second] [(.int (Int32.ofNat si)), (.ref sa), (.int (Int32.ofNat si)), (.ref sa)])) t → Steps p.tables e below (s₁.setTop (mkF m 0 #[.val (.ref tb), .val (.int (Int32.ofNat fi)), .val (.int (Int32.ofNat si)), .val (.int (Int32.ofNat nn)), .unset, .unset] [])) t := fun t k => st t (by
      show Steps p.tables e below (T16.setTop (mkF m 49 #[.val (.ref tb), .val (.int (Int32.ofNat fi)), .val (.int (Int32.ofNat si)), .val (.int (Int32.ofNat nn)), .val (.long (Int64.ofNat (sp + 1 + nn))), .second] [(.ref sa), (.int (Int32.ofNat si)), (.ref sa)])) _
      refine XS.iloadN X.here hx rfl (hb hby d5_49) rfl ?_
      exact k)
  obtain ⟨cl17, Ar17, hin17, hat17⟩ := own_rd (by decide) V_sa si hsi
  have st : ∀ t, Steps p.tables e below (T16.setTop (mkF m 53 #[.val (.ref tb), .val (.int (Int32.ofNat fi)), .val (.int (Int32.ofNat si)), .val (.int (Int32.ofNat nn)), .val (.long (Int64.ofNat (sp + 1 + nn))), .second] [(.long (Int64.ofNat (sp + 1 + nn))), (.long (Int64.ofNat (ss si))), (.int (Int32.ofNat si)), (.ref sa)])) t → Steps p.tables e below (s₁.setTop (mkF m 0 #[.val (.ref tb), .val (.int (Int32.ofNat fi)), .val (.int (Int32.ofNat si)), .val (.int (Int32.ofNat nn)), .unset, .unset] [])) t := fun t k => st t (by
      show Steps p.tables e below (T16.setTop (mkF m 50 #[.val (.ref tb), .val (.int (Int32.ofNat fi)), .val (.int (Int32.ofNat si)), .val (.int (Int32.ofNat nn)), .val (.long (Int64.ofNat (sp + 1 + nn))), .second] [(.int (Int32.ofNat si)), (.ref sa), (.int (Int32.ofNat si)), (.ref sa)])) _
      refine X.laload hx (j := (Int32.ofNat si)) (v := (.long (Int64.ofNat (ss si)))) (by rw [eh]; exact Ar17.1) (State.isArrayOf_alike hZ.alike Ar17.2.1) Ar17.2.2 hin17 hat17 (g := (mkF m 50 #[.val (.ref tb), .val (.int (Int32.ofNat fi)), .val (.int (Int32.ofNat si)), .val (.int (Int32.ofNat nn)), .val (.long (Int64.ofNat (sp + 1 + nn))), .second] [(.int (Int32.ofNat si)), (.ref sa), (.int (Int32.ofNat si)), (.ref sa)])) rfl rfl (hb hby d5_50) _ ?_
      show Steps p.tables e below (T16.setTop (mkF m 51 #[.val (.ref tb), .val (.int (Int32.ofNat fi)), .val (.int (Int32.ofNat si)), .val (.int (Int32.ofNat nn)), .val (.long (Int64.ofNat (sp + 1 + nn))), .second] [(.long (Int64.ofNat (ss si))), (.int (Int32.ofNat si)), (.ref sa)])) _
      refine XS.lload X.here hx rfl (hb hby d5_51) rfl ?_
      exact k)
  obtain ⟨_, _, ⟨T19, L18, k18, n18⟩, -, X, ⟨Lc18, hQ, l18, y18, z18⟩, sx⟩ := Jvm.LawKit.callS X hx (y := (⟨"java/lang/Math", "max", "(JJ)J"⟩ : MethodName)) hown (mvT hZ (hw _ (List.mem_of_getElem? (i := 54) rfl))) (mvT hZ (hw _ (List.mem_of_getElem? (i := 55) rfl))) (mvT hZ (hw _ (List.mem_of_getElem? (i := 56) rfl))) (mvT hZ (hw _ (List.mem_of_getElem? (i := 57) rfl))) (by decide) (backOf (W := 2) (rm9 l Z a0 hw [] (Int64.ofNat (ss si)) (Int64.ofNat (sp + 1 + nn))  h14 n0 Z0 ) hZ (hw _ (List.mem_of_getElem? (i := 57) rfl)) (hw _ (List.mem_of_getElem? (i := 56) rfl)) (by decide) (by decide)) (g := (mkF m 53 #[.val (.ref tb), .val (.int (Int32.ofNat fi)), .val (.int (Int32.ofNat si)), .val (.int (Int32.ofNat nn)), .val (.long (Int64.ofNat (sp + 1 + nn))), .second] [(.long (Int64.ofNat (sp + 1 + nn))), (.long (Int64.ofNat (ss si))), (.int (Int32.ofNat si)), (.ref sa)])) rfl (by rw [hml]; rfl) (argsL := [(.long (Int64.ofNat (ss si))), (.long (Int64.ofNat (sp + 1 + nn)))]) (rest := [(.int (Int32.ofNat si)), (.ref sa)]) (lenOf own_pd5 rfl) rfl (by show 2 * 0 + _ ≤ _; exact Nat.le_of_eq rfl) (hb hby d5_53) (fun _ _ => ⟨rfl, eh, (by decide : 0 + 0 ≤ _), (by decide : 0 + 0 ≤ _)⟩)
  dsimp only [Pt.U, Pt.locs, Pt.cells, Pt.slots] at X l18 y18 z18 sx hQ
  subst l18 y18 z18
  obtain ⟨rfl, Nc, hsame_⟩ := hQ
  have st : ∀ t, Steps p.tables e below (T19.setTop (mkF m 56 #[.val (.ref tb), .val (.int (Int32.ofNat fi)), .val (.int (Int32.ofNat si)), .val (.int (Int32.ofNat nn)), .val (.long (Int64.ofNat (sp + 1 + nn))), .second] [(.long (own_maxL (Int64.ofNat (ss si)) (Int64.ofNat (sp + 1 + nn)))), (.int (Int32.ofNat si)), (.ref sa)])) t → Steps p.tables e below (s₁.setTop (mkF m 0 #[.val (.ref tb), .val (.int (Int32.ofNat fi)), .val (.int (Int32.ofNat si)), .val (.int (Int32.ofNat nn)), .unset, .unset] [])) t := fun t k => st t (sx t k)
  have N := Fr.app N Nc
  have eh : T19.heap = h14 := hsame_
  rw [own_mxL (by omega) (by omega)] at st
  obtain ⟨cl20, Ar20, hin20, hat20⟩ := own_rd (by decide) V_sa si hsi
  obtain ⟨T21, h22, X, eh, W20, sx⟩ := stJ X hx hZ eh Ar20 (j := (Int32.ofNat si)) hin20 (g := (mkF m 56 #[.val (.ref tb), .val (.int (Int32.ofNat fi)), .val (.int (Int32.ofNat si)), .val (.int (Int32.ofNat nn)), .val (.long (Int64.ofNat (sp + 1 + nn))), .second] [(.long (Int64.ofNat (max (ss si) (sp + 1 + nn)))), (.int (Int32.ofNat si)), (.ref sa)])) rfl rfl (hb hby d5_56)
  have st : ∀ t, Steps p.tables e below (T21.setTop (mkF m 57 #[.val (.ref tb), .val (.int (Int32.ofNat fi)), .val (.int (Int32.ofNat si)), .val (.int (Int32.ofNat nn)), .val (.long (Int64.ofNat (sp + 1 + nn))), .second] [])) t → Steps p.tables e below (s₁.setTop (mkF m 0 #[.val (.ref tb), .val (.int (Int32.ofNat fi)), .val (.int (Int32.ofNat si)), .val (.int (Int32.ofNat nn)), .unset, .unset] [])) t := fun t k => st t (sx t k)
  have F_tb_keys := F_tb_keys.other W20 (Or.inl ne_tb_sa)
  have F_tb_until := F_tb_until.other W20 (Or.inl ne_tb_sa)
  have F_tb_operations := F_tb_operations.other W20 (Or.inl ne_tb_sa)
  have F_tb_machines := F_tb_machines.other W20 (Or.inl ne_tb_sa)
  have F_tb_firstUntil := F_tb_firstUntil.other W20 (Or.inl ne_tb_sa)
  have F_tb_secondUntil := F_tb_secondUntil.other W20 (Or.inl ne_tb_sa)
  have F_tb_machineUntil := F_tb_machineUntil.other W20 (Or.inl ne_tb_sa)
  have F_tb_step := F_tb_step.other W20 (Or.inl ne_tb_sa)
  have F_tb_size := F_tb_size.other W20 (Or.inl ne_tb_sa)
  have E_tb := E_tb.wr W20
  have V_ka := V_ka.other W20 ne_ka_sa
  have V_ua := V_ua.other W20 ne_ua_sa
  have V_fa := V_fa.other W20 ne_fa_sa
  have V_ma := V_ma.other W20 (Ne.symm ne_sa_ma)
  have K := K.wr W20 (Or.inl (List.mem_of_getElem? (i := 4) rfl))
  have Z0 := Nat.le_trans Z0 (Keep.of_wr W20).1
  have V_sa := own_st (by decide) V_sa si hsi _ W20
  have N := Fr.snoc X N g_sa
  rw [own_cupd] at V_sa
  obtain ⟨fs_, hr, hrun, hended, hW, hsame⟩ := X.leave (v := none) (fun _ => rfl)
  refine ⟨_, _, pre0 _ (st _ ?_), hrun, hended, _, _, rfl, ?_, ⟨_, rfl⟩, hW, hsame.mono (by decide) (by decide)⟩
  · exact X.returnOut hx Bd.returns (hb hby d5_57) hr
  · show Q_rm5 Z tb ka ua fa sa ma k_ka k_ua k_fa k_sa k_ma ks us fs ss ms sp sz fi si nn h0 n0 _ T21.heap _
    rw [eh]
    exact ⟨rfl, N, K, r, ks', us', sz', hks, hsz', ⟨E_tb, F_tb_keys, F_tb_until, F_tb_operations, F_tb_machines, F_tb_firstUntil, F_tb_secondUntil, F_tb_machineUntil, F_tb_step, F_tb_size, V_ka, V_ua, V_fa, V_sa, V_ma⟩⟩
theorem d11_0 : decode prog_46_method_4_code 0 = .ok (.aload_n 0, 1) := by decide +kernel
theorem d11_1 : decode prog_46_method_4_code 1 = .ok (.getfield 36, 3) := by decide +kernel
theorem d11_4 : decode prog_46_method_4_code 4 = .ok (.lconst 1, 1) := by decide +kernel
theorem d11_5 : decode prog_46_method_4_code 5 = .ok (.ladd, 1) := by decide +kernel
theorem d11_6 : decode prog_46_method_4_code 6 = .ok (.iload_n 3, 1) := by decide +kernel
theorem d11_7 : decode prog_46_method_4_code 7 = .ok (.i2l, 1) := by decide +kernel
theorem d11_8 : decode prog_46_method_4_code 8 = .ok (.ladd, 1) := by decide +kernel
theorem d11_9 : decode prog_46_method_4_code 9 = .ok (.lstore 4, 2) := by decide +kernel
theorem d11_11 : decode prog_46_method_4_code 11 = .ok (.aload_n 0, 1) := by decide +kernel
theorem d11_12 : decode prog_46_method_4_code 12 = .ok (.aload_n 0, 1) := by decide +kernel
theorem d11_13 : decode prog_46_method_4_code 13 = .ok (.iload_n 1, 1) := by decide +kernel
theorem d11_14 : decode prog_46_method_4_code 14 = .ok (.iload_n 2, 1) := by decide +kernel
theorem d11_15 : decode prog_46_method_4_code 15 = .ok (.invokevirtual 61, 3) := by decide +kernel
theorem d11_18 : decode prog_46_method_4_code 18 = .ok (.lload 4, 2) := by decide +kernel
theorem d11_20 : decode prog_46_method_4_code 20 = .ok (.invokevirtual 51, 3) := by decide +kernel
theorem d11_23 : decode prog_46_method_4_code 23 = .ok (.aload_n 0, 1) := by decide +kernel
theorem d11_24 : decode prog_46_method_4_code 24 = .ok (.getfield 33, 3) := by decide +kernel
theorem d11_27 : decode prog_46_method_4_code 27 = .ok (.iload_n 1, 1) := by decide +kernel
theorem d11_28 : decode prog_46_method_4_code 28 = .ok (.aload_n 0, 1) := by decide +kernel
theorem d11_29 : decode prog_46_method_4_code 29 = .ok (.getfield 33, 3) := by decide +kernel
theorem d11_32 : decode prog_46_method_4_code 32 = .ok (.iload_n 1, 1) := by decide +kernel
theorem d11_33 : decode prog_46_method_4_code 33 = .ok (.laload, 1) := by decide +kernel
theorem d11_34 : decode prog_46_method_4_code 34 = .ok (.lload 4, 2) := by decide +kernel
theorem d11_36 : decode prog_46_method_4_code 36 = .ok (.invokestatic 55, 3) := by decide +kernel
theorem d11_39 : decode prog_46_method_4_code 39 = .ok (.lastore, 1) := by decide +kernel
theorem d11_40 : decode prog_46_method_4_code 40 = .ok (.return_, 1) := by decide +kernel
def Q_rm11 (Z : State) (tb : Addr) (x2 : Int32) (x3 : Int32) (ka ua fa sa ma : Addr) (k_ka k_ua k_fa k_sa k_ma : ClassId) (ks us : Nat → Int64) (fs ss : Nat → Nat) (ms : Nat → Int64) (sp sz : Nat) (fi : Nat) (h0 : Heap) (n0 : Nat) (v : Option Value) (h : Heap) (L : List Loc) : Prop := v = none ∧ Fr n0 L ∧ Keep h0 h [tb, ka, ua, fa, sa, ma] ∧ ∃ (ms' : Nat → Int64), ∃ (r : Nat) (ks' us' : Nat → Int64) (sz' : Nat), (∀ j, j ≠ r → ks' j = ks j) ∧ sz' ≤ sz + 1 ∧ own_TL Z h tb ka ua fa sa ma k_ka k_ua k_fa k_sa k_ma ks' us' fs ss ms' sp sz'
theorem ef_rm11 (m : MethodId) (x0 : Addr) (x1 : Int32) (x2 : Int32) (x3 : Int32) : entryFrame m #[(.ref x0), (.int x1), (.int x2), (.int x3)] 6 = mkF m 0 #[.val (.ref x0), .val (.int x1), .val (.int x2), .val (.int x3), .unset, .unset] [] := by first | (simp [entryFrame, mkF, argsToLocals, Value.category]; done) | rfl
set_option maxRecDepth 65536 in
set_option maxHeartbeats 40000000 in
theorem rm11 (l : Launch) (Z : State) (a0 : Array Value) (hw : ∀ d ∈ tables_1, d.before a0 Z = true) (ws : List Jvm.Cond) (tb : Addr) (x2 : Int32) (x3 : Int32) (ka ua fa sa ma : Addr) (k_ka k_ua k_fa k_sa k_ma : ClassId) (ks us : Nat → Int64) (fs ss : Nat → Nat) (ms : Nat → Int64) (sp sz : Nat) (fi : Nat) (h0 : Heap) (n0 : Nat) (Z0 : n0 ≤ h0.size) (B : own_TL Z h0 tb ka ua fa sa ma k_ka k_ua k_fa k_sa k_ma ks us fs ss ms sp sz) (D : own_D n0 tb ka ua fa sa ma) (hsz : sz ≤ 7) (hE : ∃ j, j < 16 ∧ ks j = (-1 : Int64)) (hfi : fi < 3) :
    MetFree l (⟨"com/example/paretoloom/paretoloom/TabuList", "forbidOn", "(III)V"⟩ : MethodName) (head1 (Jvm.Cond.code (⟨"com/example/paretoloom/paretoloom/TabuList", "forbidOn", "(III)V"⟩ : MethodName) prog_46_method_4_code 6 none :: ws) ({ frames := 2, cells := 0, slots := 0, locals := 33 } : Room)) (fun a' U => a' = #[(.ref tb), (.int (Int32.ofNat fi)), (.int x2), (.int x3)] ∧ Z.Warmed39 U.vm ∧ U.heap = h0) (fun _ _ _ _ _ => True) (fun _ U o U' => ∃ v L, o = .returned v ∧ Q_rm11 Z tb x2 x3 ka ua fa sa ma k_ka k_ua k_fa k_sa k_ma ks us fs ss ms sp sz fi h0 n0 v U'.heap L ∧ FrameEnd U o U' L ({ frames := 2, cells := 0, slots := 0, locals := 33 } : Room).cells ({ frames := 2, cells := 0, slots := 0, locals := 33 } : Room).slots) := by
  refine MetFree.of_bodySF (plainFor_of_name own_pn3) hisR ?_
  intro p e s m args below meth cd0 s₁ Bd hml0 hP hK
  obtain ⟨rfl, hZ, hh⟩ := hP
  have hx := Bd.exec
  have hby := Bd.bytes
  have hml : cd0.maxLocals = 6 := hml0
  have hown : s.vm.findClass "com/example/paretoloom/paretoloom/TabuList" = some m.cls := findClass_of_methodNamed Bd.named
  have hnm := (name_of_methodNamed Bd.named Bd.method).1
  have X : Stand p l e ({ frames := 2, cells := 0, slots := 0, locals := 33 } : Room) s m #[(.ref tb), (.int (Int32.ofNat fi)), (.int x2), (.int x3)] below meth cd0 s₁ [] 0 0 := Stand.of_body Bd
  have eh : s₁.heap = h0 := by rw [← hh, Bd.state]; rfl
  have N := Fr.nil n0
  have K : Keep h0 h0 [tb, ka, ua, fa, sa, ma] := Keep.refl _ _
  have pre0 : ∀ t, Steps p.tables e below (s₁.setTop (mkF m 0 #[.val (.ref tb), .val (.int (Int32.ofNat fi)), .val (.int x2), .val (.int x3), .unset, .unset] [])) t → Steps p.tables e below (s₁.setTop (entryFrame m #[(.ref tb), (.int (Int32.ofNat fi)), (.int x2), (.int x3)] 6)) t := fun t k => castTop (ef_rm11 m tb (Int32.ofNat fi) x2 x3) k
  have st : ∀ t, Steps p.tables e below (s₁.setTop (mkF m 0 #[.val (.ref tb), .val (.int (Int32.ofNat fi)), .val (.int x2), .val (.int x3), .unset, .unset] [])) t → Steps p.tables e below (s₁.setTop (mkF m 0 #[.val (.ref tb), .val (.int (Int32.ofNat fi)), .val (.int x2), .val (.int x3), .unset, .unset] [])) t := fun t k => k
  have D0 := D
  obtain ⟨E_tb, F_tb_keys, F_tb_until, F_tb_operations, F_tb_machines, F_tb_firstUntil, F_tb_secondUntil, F_tb_machineUntil, F_tb_step, F_tb_size, V_ka, V_ua, V_fa, V_sa, V_ma⟩ := B
  obtain ⟨g_tb, g_ka, g_ua, g_fa, g_sa, g_ma, ne_tb_ka, ne_tb_ua, ne_tb_fa, ne_tb_sa, ne_tb_ma, ne_ka_ua, ne_ka_fa, ne_ka_sa, ne_ka_ma, ne_ua_fa, ne_ua_sa, ne_ua_ma, ne_fa_sa, ne_fa_ma, ne_sa_ma⟩ := D
  have st : ∀ t, Steps p.tables e below (s₁.setTop (mkF m 1 #[.val (.ref tb), .val (.int (Int32.ofNat fi)), .val (.int x2), .val (.int x3), .unset, .unset] [(.ref tb)])) t → Steps p.tables e below (s₁.setTop (mkF m 0 #[.val (.ref tb), .val (.int (Int32.ofNat fi)), .val (.int x2), .val (.int x3), .unset, .unset] [])) t := fun t k => st t (by
      show Steps p.tables e below (s₁.setTop (mkF m 0 #[.val (.ref tb), .val (.int (Int32.ofNat fi)), .val (.int x2), .val (.int x3), .unset, .unset] [])) _
      refine XS.aloadN X.here hx rfl (hb hby d11_0) rfl rfl ?_
      exact k)
  obtain ⟨T1, X, eh, sx⟩ := getF X hx hZ hown (host := "") (Or.inl (hw _ (List.mem_of_getElem? (i := 38) rfl))) Via.refl eh F_tb_step (g := (mkF m 1 #[.val (.ref tb), .val (.int (Int32.ofNat fi)), .val (.int x2), .val (.int x3), .unset, .unset] [(.ref tb)])) rfl rfl (hb hby d11_1)
  have st : ∀ t, Steps p.tables e below (T1.setTop (mkF m 4 #[.val (.ref tb), .val (.int (Int32.ofNat fi)), .val (.int x2), .val (.int x3), .unset, .unset] [(.long (Int64.ofNat sp))])) t → Steps p.tables e below (s₁.setTop (mkF m 0 #[.val (.ref tb), .val (.int (Int32.ofNat fi)), .val (.int x2), .val (.int x3), .unset, .unset] [])) t := fun t k => st t (sx t k)
  have st : ∀ t, Steps p.tables e below (T1.setTop (mkF m 9 #[.val (.ref tb), .val (.int (Int32.ofNat fi)), .val (.int x2), .val (.int x3), .unset, .unset] [(.long (((Int64.ofNat sp) + (1 : Int64)) + (x3.toInt64)))])) t → Steps p.tables e below (s₁.setTop (mkF m 0 #[.val (.ref tb), .val (.int (Int32.ofNat fi)), .val (.int x2), .val (.int x3), .unset, .unset] [])) t := fun t k => st t (by
      show Steps p.tables e below (T1.setTop (mkF m 4 #[.val (.ref tb), .val (.int (Int32.ofNat fi)), .val (.int x2), .val (.int x3), .unset, .unset] [(.long (Int64.ofNat sp))])) _
      refine XS.lconst X.here hx rfl (hb hby d11_4) ?_
      show Steps p.tables e below (T1.setTop (mkF m 5 #[.val (.ref tb), .val (.int (Int32.ofNat fi)), .val (.int x2), .val (.int x3), .unset, .unset] [(.long (1 : Int64)), (.long (Int64.ofNat sp))])) _
      refine XS.ladd X.here hx rfl (hb hby d11_5) rfl ?_
      show Steps p.tables e below (T1.setTop (mkF m 6 #[.val (.ref tb), .val (.int (Int32.ofNat fi)), .val (.int x2), .val (.int x3), .unset, .unset] [(.long ((Int64.ofNat sp) + (1 : Int64)))])) _
      refine XS.iloadN X.here hx rfl (hb hby d11_6) rfl ?_
      show Steps p.tables e below (T1.setTop (mkF m 7 #[.val (.ref tb), .val (.int (Int32.ofNat fi)), .val (.int x2), .val (.int x3), .unset, .unset] [(.int x3), (.long ((Int64.ofNat sp) + (1 : Int64)))])) _
      refine XS.i2l X.here hx rfl (hb hby d11_7) rfl ?_
      show Steps p.tables e below (T1.setTop (mkF m 8 #[.val (.ref tb), .val (.int (Int32.ofNat fi)), .val (.int x2), .val (.int x3), .unset, .unset] [(.long (x3.toInt64)), (.long ((Int64.ofNat sp) + (1 : Int64)))])) _
      refine XS.ladd X.here hx rfl (hb hby d11_8) rfl ?_
      exact k)
  obtain ⟨e1, he1⟩ : ∃ z : Int64, z = (((Int64.ofNat sp) + (1 : Int64)) + (x3.toInt64)) := ⟨_, rfl⟩
  have st : ∀ t, Steps p.tables e below (T1.setTop (mkF m 9 #[.val (.ref tb), .val (.int (Int32.ofNat fi)), .val (.int x2), .val (.int x3), .unset, .unset] [(.long e1)])) t → Steps p.tables e below (s₁.setTop (mkF m 0 #[.val (.ref tb), .val (.int (Int32.ofNat fi)), .val (.int x2), .val (.int x3), .unset, .unset] [])) t := by rw [he1]; exact st
  have st : ∀ t, Steps p.tables e below (T1.setTop (mkF m 15 #[.val (.ref tb), .val (.int (Int32.ofNat fi)), .val (.int x2), .val (.int x3), .val (.long e1), .second] [(.int x2), (.int (Int32.ofNat fi)), (.ref tb), (.ref tb)])) t → Steps p.tables e below (s₁.setTop (mkF m 0 #[.val (.ref tb), .val (.int (Int32.ofNat fi)), .val (.int x2), .val (.int x3), .unset, .unset] [])) t := fun t k => st t (by
      show Steps p.tables e below (T1.setTop (mkF m 9 #[.val (.ref tb), .val (.int (Int32.ofNat fi)), .val (.int x2), .val (.int x3), .unset, .unset] [(.long e1)])) _
      refine XS.lstore X.here hx rfl (hb hby d11_9) rfl (l' := #[.val (.ref tb), .val (.int (Int32.ofNat fi)), .val (.int x2), .val (.int x3), .val (.long e1), .second]) rfl ?_
      show Steps p.tables e below (T1.setTop (mkF m 11 #[.val (.ref tb), .val (.int (Int32.ofNat fi)), .val (.int x2), .val (.int x3), .val (.long e1), .second] [])) _
      refine XS.aloadN X.here hx rfl (hb hby d11_11) rfl rfl ?_
      show Steps p.tables e below (T1.setTop (mkF m 12 #[.val (.ref tb), .val (.int (Int32.ofNat fi)), .val (.int x2), .val (.int x3), .val (.long e1), .second] [(.ref tb)])) _
      refine XS.aloadN X.here hx rfl (hb hby d11_12) rfl rfl ?_
      show Steps p.tables e below (T1.setTop (mkF m 13 #[.val (.ref tb), .val (.int (Int32.ofNat fi)), .val (.int x2), .val (.int x3), .val (.long e1), .second] [(.ref tb), (.ref tb)])) _
      refine XS.iloadN X.here hx rfl (hb hby d11_13) rfl ?_
      show Steps p.tables e below (T1.setTop (mkF m 14 #[.val (.ref tb), .val (.int (Int32.ofNat fi)), .val (.int x2), .val (.int x3), .val (.long e1), .second] [(.int (Int32.ofNat fi)), (.ref tb), (.ref tb)])) _
      refine XS.iloadN X.here hx rfl (hb hby d11_14) rfl ?_
      exact k)
  obtain ⟨cq2, q2, q2'⟩ := E_tb.cell
  obtain ⟨_, _, ⟨T3, L2, k2, n2⟩, -, X, ⟨Lc2, hQ, l2, y2, z2⟩, sx⟩ := X.privateBack hx (y := (⟨"com/example/paretoloom/paretoloom/TabuList", "machineKey", "(II)J"⟩ : MethodName)) hown (mvT hZ (hw _ (List.mem_of_getElem? (i := 68) rfl))) (mvT hZ (hw _ (List.mem_of_getElem? (i := 69) rfl))) (mvT hZ (own_sel (y := (⟨"com/example/paretoloom/paretoloom/TabuList", "machineKey", "(II)J"⟩ : MethodName)) (by decide) (hw _ (List.mem_of_getElem? (i := 69) rfl)) (hw _ (List.mem_of_getElem? (i := 70) rfl)) (hw _ (List.mem_of_getElem? (i := 2) rfl)))) (Cond.privateMethod_at (mvP hZ (hw _ (List.mem_of_getElem? (i := 70) rfl)) (args := #[]))) (mvT hZ (hw _ (List.mem_of_getElem? (i := 71) rfl))) (by decide) (backOf (W := 1) (rm12 l Z a0 hw [] tb (Int32.ofNat fi) x2  h0 n0 Z0 F_tb_operations F_tb_machines) hZ (hw _ (List.mem_of_getElem? (i := 71) rfl)) (hw _ (List.mem_of_getElem? (i := 3) rfl)) (by decide) (by decide)) (g := (mkF m 15 #[.val (.ref tb), .val (.int (Int32.ofNat fi)), .val (.int x2), .val (.int x3), .val (.long e1), .second] [(.int x2), (.int (Int32.ofNat fi)), (.ref tb), (.ref tb)])) rfl (by rw [hml]; rfl) (Steps.refl _) (a := tb) (by rw [eh]; exact q2) q2' (argsL := [(.int (Int32.ofNat fi)), (.int x2)]) (rest := [(.ref tb)]) (lenOf own_pd3 rfl) rfl (by show 2 * 0 + _ ≤ _; exact Nat.le_of_eq rfl) (hb hby d11_15) (fun _ _ => ⟨rfl, eh, (by decide : 0 + 0 ≤ _), (by decide : 0 + 0 ≤ _)⟩)
  dsimp only [Pt.U, Pt.locs, Pt.cells, Pt.slots] at X l2 y2 z2 sx hQ
  subst l2 y2 z2
  obtain ⟨key, rfl, Nc, hsame_⟩ := hQ
  have st : ∀ t, Steps p.tables e below (T3.setTop (mkF m 18 #[.val (.ref tb), .val (.int (Int32.ofNat fi)), .val (.int x2), .val (.int x3), .val (.long e1), .second] [(.long key), (.ref tb)])) t → Steps p.tables e below (s₁.setTop (mkF m 0 #[.val (.ref tb), .val (.int (Int32.ofNat fi)), .val (.int x2), .val (.int x3), .unset, .unset] [])) t := fun t k => st t (sx.trans k)
  have N := Fr.app N Nc
  have eh : T3.heap = h0 := hsame_
  have st : ∀ t, Steps p.tables e below (T3.setTop (mkF m 20 #[.val (.ref tb), .val (.int (Int32.ofNat fi)), .val (.int x2), .val (.int x3), .val (.long e1), .second] [(.long e1), (.long key), (.ref tb)])) t → Steps p.tables e below (s₁.setTop (mkF m 0 #[.val (.ref tb), .val (.int (Int32.ofNat fi)), .val (.int x2), .val (.int x3), .unset, .unset] [])) t := fun t k => st t (by
      show Steps p.tables e below (T3.setTop (mkF m 18 #[.val (.ref tb), .val (.int (Int32.ofNat fi)), .val (.int x2), .val (.int x3), .val (.long e1), .second] [(.long key), (.ref tb)])) _
      refine XS.lload X.here hx rfl (hb hby d11_18) rfl ?_
      exact k)
  have B : own_TL Z h0 tb ka ua fa sa ma k_ka k_ua k_fa k_sa k_ma ks us fs ss ms sp sz := ⟨E_tb, F_tb_keys, F_tb_until, F_tb_operations, F_tb_machines, F_tb_firstUntil, F_tb_secondUntil, F_tb_machineUntil, F_tb_step, F_tb_size, V_ka, V_ua, V_fa, V_sa, V_ma⟩
  obtain ⟨cq4, q4, q4'⟩ := E_tb.cell
  obtain ⟨_, _, ⟨T5, L4, k4, n4⟩, -, X, ⟨Lc4, hQ, l4, y4, z4⟩, sx⟩ := X.privateBack hx (y := (⟨"com/example/paretoloom/paretoloom/TabuList", "put", "(JJ)V"⟩ : MethodName)) hown (mvT hZ (hw _ (List.mem_of_getElem? (i := 44) rfl))) (mvT hZ (hw _ (List.mem_of_getElem? (i := 45) rfl))) (mvT hZ (own_sel (y := (⟨"com/example/paretoloom/paretoloom/TabuList", "put", "(JJ)V"⟩ : MethodName)) (by decide) (hw _ (List.mem_of_getElem? (i := 45) rfl)) (hw _ (List.mem_of_getElem? (i := 46) rfl)) (hw _ (List.mem_of_getElem? (i := 2) rfl)))) (Cond.privateMethod_at (mvP hZ (hw _ (List.mem_of_getElem? (i := 46) rfl)) (args := #[]))) (mvT hZ (hw _ (List.mem_of_getElem? (i := 47) rfl))) (by decide) (backOf (W := 0) (rm7 l Z a0 hw [] tb key e1 ka ua fa sa ma k_ka k_ua k_fa k_sa k_ma ks us fs ss ms sp sz h0 n0 Z0 B D0 hsz hE) hZ (hw _ (List.mem_of_getElem? (i := 47) rfl)) (hw _ (List.mem_of_getElem? (i := 3) rfl)) (by decide) (by decide)) (g := (mkF m 20 #[.val (.ref tb), .val (.int (Int32.ofNat fi)), .val (.int x2), .val (.int x3), .val (.long e1), .second] [(.long e1), (.long key), (.ref tb)])) rfl (by rw [hml]; rfl) (Steps.refl _) (a := tb) (by rw [eh]; exact q4) q4' (argsL := [(.long key), (.long e1)]) (rest := []) (lenOf own_pd4 rfl) rfl (by show 2 * 0 + _ ≤ _; exact Nat.le_of_eq rfl) (hb hby d11_20) (fun _ _ => ⟨rfl, eh, (by decide : 0 + 0 ≤ _), (by decide : 0 + 0 ≤ _)⟩)
  dsimp only [Pt.U, Pt.locs, Pt.cells, Pt.slots] at X l4 y4 z4 sx hQ
  subst l4 y4 z4
  obtain ⟨rfl, Nc, K1, r, ks', us', sz', hks, hsz', B⟩ := hQ
  have st : ∀ t, Steps p.tables e below (T5.setTop (mkF m 23 #[.val (.ref tb), .val (.int (Int32.ofNat fi)), .val (.int x2), .val (.int x3), .val (.long e1), .second] [])) t → Steps p.tables e below (s₁.setTop (mkF m 0 #[.val (.ref tb), .val (.int (Int32.ofNat fi)), .val (.int x2), .val (.int x3), .unset, .unset] [])) t := fun t k => st t (sx.trans k)
  have N := Fr.app N Nc
  obtain ⟨h6, eH⟩ : ∃ z, z = T5.heap := ⟨_, rfl⟩
  rw [← eH] at K1 B
  have eh : T5.heap = h6 := eH.symm
  have E_tb := E_tb.keep K1
  have K := K.trans K1 (allS (Or.inl (List.mem_of_getElem? (i := 0) rfl)) (allS (Or.inl (List.mem_of_getElem? (i := 1) rfl)) (allS (Or.inl (List.mem_of_getElem? (i := 2) rfl)) (allS (Or.inl (List.mem_of_getElem? (i := 3) rfl)) (allS (Or.inl (List.mem_of_getElem? (i := 4) rfl)) (allS (Or.inl (List.mem_of_getElem? (i := 5) rfl)) all0))))))
  have Z0 := Nat.le_trans Z0 K1.1
  obtain ⟨E_tb, F_tb_keys, F_tb_until, F_tb_operations, F_tb_machines, F_tb_firstUntil, F_tb_secondUntil, F_tb_machineUntil, F_tb_step, F_tb_size, V_ka, V_ua, V_fa, V_sa, V_ma⟩ := B
  have st : ∀ t, Steps p.tables e below (T5.setTop (mkF m 24 #[.val (.ref tb), .val (.int (Int32.ofNat fi)), .val (.int x2), .val (.int x3), .val (.long e1), .second] [(.ref tb)])) t → Steps p.tables e below (s₁.setTop (mkF m 0 #[.val (.ref tb), .val (.int (Int32.ofNat fi)), .val (.int x2), .val (.int x3), .unset, .unset] [])) t := fun t k => st t (by
      show Steps p.tables e below (T5.setTop (mkF m 23 #[.val (.ref tb), .val (.int (Int32.ofNat fi)), .val (.int x2), .val (.int x3), .val (.long e1), .second] [])) _
      refine XS.aloadN X.here hx rfl (hb hby d11_23) rfl rfl ?_
      exact k)
  obtain ⟨T7, X, eh, sx⟩ := getF X hx hZ hown (host := "") (Or.inl (hw _ (List.mem_of_getElem? (i := 31) rfl))) Via.refl eh F_tb_machineUntil (g := (mkF m 24 #[.val (.ref tb), .val (.int (Int32.ofNat fi)), .val (.int x2), .val (.int x3), .val (.long e1), .second] [(.ref tb)])) rfl rfl (hb hby d11_24)
  have st : ∀ t, Steps p.tables e below (T7.setTop (mkF m 27 #[.val (.ref tb), .val (.int (Int32.ofNat fi)), .val (.int x2), .val (.int x3), .val (.long e1), .second] [(.ref ma)])) t → Steps p.tables e below (s₁.setTop (mkF m 0 #[.val (.ref tb), .val (.int (Int32.ofNat fi)), .val (.int x2), .val (.int x3), .unset, .unset] [])) t := fun t k => st t (sx t k)
  have st : ∀ t, Steps p.tables e below (T7.setTop (mkF m 29 #[.val (.ref tb), .val (.int (Int32.ofNat fi)), .val (.int x2), .val (.int x3), .val (.long e1), .second] [(.ref tb), (.int (Int32.ofNat fi)), (.ref ma)])) t → Steps p.tables e below (s₁.setTop (mkF m 0 #[.val (.ref tb), .val (.int (Int32.ofNat fi)), .val (.int x2), .val (.int x3), .unset, .unset] [])) t := fun t k => st t (by
      show Steps p.tables e below (T7.setTop (mkF m 27 #[.val (.ref tb), .val (.int (Int32.ofNat fi)), .val (.int x2), .val (.int x3), .val (.long e1), .second] [(.ref ma)])) _
      refine XS.iloadN X.here hx rfl (hb hby d11_27) rfl ?_
      show Steps p.tables e below (T7.setTop (mkF m 28 #[.val (.ref tb), .val (.int (Int32.ofNat fi)), .val (.int x2), .val (.int x3), .val (.long e1), .second] [(.int (Int32.ofNat fi)), (.ref ma)])) _
      refine XS.aloadN X.here hx rfl (hb hby d11_28) rfl rfl ?_
      exact k)
  obtain ⟨T8, X, eh, sx⟩ := getF X hx hZ hown (host := "") (Or.inl (hw _ (List.mem_of_getElem? (i := 31) rfl))) Via.refl eh F_tb_machineUntil (g := (mkF m 29 #[.val (.ref tb), .val (.int (Int32.ofNat fi)), .val (.int x2), .val (.int x3), .val (.long e1), .second] [(.ref tb), (.int (Int32.ofNat fi)), (.ref ma)])) rfl rfl (hb hby d11_29)
  have st : ∀ t, Steps p.tables e below (T8.setTop (mkF m 32 #[.val (.ref tb), .val (.int (Int32.ofNat fi)), .val (.int x2), .val (.int x3), .val (.long e1), .second] [(.ref ma), (.int (Int32.ofNat fi)), (.ref ma)])) t → Steps p.tables e below (s₁.setTop (mkF m 0 #[.val (.ref tb), .val (.int (Int32.ofNat fi)), .val (.int x2), .val (.int x3), .unset, .unset] [])) t := fun t k => st t (sx t k)
  have st : ∀ t, Steps p.tables e below (T8.setTop (mkF m 33 #[.val (.ref tb), .val (.int (Int32.ofNat fi)), .val (.int x2), .val (.int x3), .val (.long e1), .second] [(.int (Int32.ofNat fi)), (.ref ma), (.int (Int32.ofNat fi)), (.ref ma)])) t → Steps p.tables e below (s₁.setTop (mkF m 0 #[.val (.ref tb), .val (.int (Int32.ofNat fi)), .val (.int x2), .val (.int x3), .unset, .unset] [])) t := fun t k => st t (by
      show Steps p.tables e below (T8.setTop (mkF m 32 #[.val (.ref tb), .val (.int (Int32.ofNat fi)), .val (.int x2), .val (.int x3), .val (.long e1), .second] [(.ref ma), (.int (Int32.ofNat fi)), (.ref ma)])) _
      refine XS.iloadN X.here hx rfl (hb hby d11_32) rfl ?_
      exact k)
  obtain ⟨cl9, Ar9, hin9, hat9⟩ := own_rd (by decide) V_ma fi hfi
  have st : ∀ t, Steps p.tables e below (T8.setTop (mkF m 36 #[.val (.ref tb), .val (.int (Int32.ofNat fi)), .val (.int x2), .val (.int x3), .val (.long e1), .second] [(.long e1), (.long (ms fi)), (.int (Int32.ofNat fi)), (.ref ma)])) t → Steps p.tables e below (s₁.setTop (mkF m 0 #[.val (.ref tb), .val (.int (Int32.ofNat fi)), .val (.int x2), .val (.int x3), .unset, .unset] [])) t := fun t k => st t (by
      show Steps p.tables e below (T8.setTop (mkF m 33 #[.val (.ref tb), .val (.int (Int32.ofNat fi)), .val (.int x2), .val (.int x3), .val (.long e1), .second] [(.int (Int32.ofNat fi)), (.ref ma), (.int (Int32.ofNat fi)), (.ref ma)])) _
      refine X.laload hx (j := (Int32.ofNat fi)) (v := (.long (ms fi))) (by rw [eh]; exact Ar9.1) (State.isArrayOf_alike hZ.alike Ar9.2.1) Ar9.2.2 hin9 hat9 (g := (mkF m 33 #[.val (.ref tb), .val (.int (Int32.ofNat fi)), .val (.int x2), .val (.int x3), .val (.long e1), .second] [(.int (Int32.ofNat fi)), (.ref ma), (.int (Int32.ofNat fi)), (.ref ma)])) rfl rfl (hb hby d11_33) _ ?_
      show Steps p.tables e below (T8.setTop (mkF m 34 #[.val (.ref tb), .val (.int (Int32.ofNat fi)), .val (.int x2), .val (.int x3), .val (.long e1), .second] [(.long (ms fi)), (.int (Int32.ofNat fi)), (.ref ma)])) _
      refine XS.lload X.here hx rfl (hb hby d11_34) rfl ?_
      exact k)
  obtain ⟨_, _, ⟨T11, L10, k10, n10⟩, -, X, ⟨Lc10, hQ, l10, y10, z10⟩, sx⟩ := Jvm.LawKit.callS X hx (y := (⟨"java/lang/Math", "max", "(JJ)J"⟩ : MethodName)) hown (mvT hZ (hw _ (List.mem_of_getElem? (i := 54) rfl))) (mvT hZ (hw _ (List.mem_of_getElem? (i := 55) rfl))) (mvT hZ (hw _ (List.mem_of_getElem? (i := 56) rfl))) (mvT hZ (hw _ (List.mem_of_getElem? (i := 57) rfl))) (by decide) (backOf (W := 2) (rm9 l Z a0 hw [] (ms fi) e1  h6 n0 Z0 ) hZ (hw _ (List.mem_of_getElem? (i := 57) rfl)) (hw _ (List.mem_of_getElem? (i := 56) rfl)) (by decide) (by decide)) (g := (mkF m 36 #[.val (.ref tb), .val (.int (Int32.ofNat fi)), .val (.int x2), .val (.int x3), .val (.long e1), .second] [(.long e1), (.long (ms fi)), (.int (Int32.ofNat fi)), (.ref ma)])) rfl (by rw [hml]; rfl) (argsL := [(.long (ms fi)), (.long e1)]) (rest := [(.int (Int32.ofNat fi)), (.ref ma)]) (lenOf own_pd5 rfl) rfl (by show 2 * 0 + _ ≤ _; exact Nat.le_of_eq rfl) (hb hby d11_36) (fun _ _ => ⟨rfl, eh, (by decide : 0 + 0 ≤ _), (by decide : 0 + 0 ≤ _)⟩)
  dsimp only [Pt.U, Pt.locs, Pt.cells, Pt.slots] at X l10 y10 z10 sx hQ
  subst l10 y10 z10
  obtain ⟨rfl, Nc, hsame_⟩ := hQ
  have st : ∀ t, Steps p.tables e below (T11.setTop (mkF m 39 #[.val (.ref tb), .val (.int (Int32.ofNat fi)), .val (.int x2), .val (.int x3), .val (.long e1), .second] [(.long (own_maxL (ms fi) e1)), (.int (Int32.ofNat fi)), (.ref ma)])) t → Steps p.tables e below (s₁.setTop (mkF m 0 #[.val (.ref tb), .val (.int (Int32.ofNat fi)), .val (.int x2), .val (.int x3), .unset, .unset] [])) t := fun t k => st t (sx t k)
  have N := Fr.app N Nc
  have eh : T11.heap = h6 := hsame_
  obtain ⟨cl12, Ar12, hin12, hat12⟩ := own_rd (by decide) V_ma fi hfi
  obtain ⟨T13, h14, X, eh, W12, sx⟩ := stJ X hx hZ eh Ar12 (j := (Int32.ofNat fi)) hin12 (g := (mkF m 39 #[.val (.ref tb), .val (.int (Int32.ofNat fi)), .val (.int x2), .val (.int x3), .val (.long e1), .second] [(.long (own_maxL (ms fi) e1)), (.int (Int32.ofNat fi)), (.ref ma)])) rfl rfl (hb hby d11_39)
  have st : ∀ t, Steps p.tables e below (T13.setTop (mkF m 40 #[.val (.ref tb), .val (.int (Int32.ofNat fi)), .val (.int x2), .val (.int x3), .val (.long e1), .second] [])) t → Steps p.tables e below (s₁.setTop (mkF m 0 #[.val (.ref tb), .val (.int (Int32.ofNat fi)), .val (.int x2), .val (.int x3), .unset, .unset] [])) t := fun t k => st t (sx t k)
  have F_tb_keys := F_tb_keys.other W12 (Or.inl ne_tb_ma)
  have F_tb_until := F_tb_until.other W12 (Or.inl ne_tb_ma)
  have F_tb_operations := F_tb_operations.other W12 (Or.inl ne_tb_ma)
  have F_tb_machines := F_tb_machines.other W12 (Or.inl ne_tb_ma)
  have F_tb_firstUntil := F_tb_firstUntil.other W12 (Or.inl ne_tb_ma)
  have F_tb_secondUntil := F_tb_secondUntil.other W12 (Or.inl ne_tb_ma)
  have F_tb_machineUntil := F_tb_machineUntil.other W12 (Or.inl ne_tb_ma)
  have F_tb_step := F_tb_step.other W12 (Or.inl ne_tb_ma)
  have F_tb_size := F_tb_size.other W12 (Or.inl ne_tb_ma)
  have E_tb := E_tb.wr W12
  have V_ka := V_ka.other W12 ne_ka_ma
  have V_ua := V_ua.other W12 ne_ua_ma
  have V_fa := V_fa.other W12 ne_fa_ma
  have V_sa := V_sa.other W12 ne_sa_ma
  have K := K.wr W12 (Or.inl (List.mem_of_getElem? (i := 5) rfl))
  have Z0 := Nat.le_trans Z0 (Keep.of_wr W12).1
  have V_ma := own_st (by decide) V_ma fi hfi _ W12
  have N := Fr.snoc X N g_ma
  obtain ⟨fs_, hr, hrun, hended, hW, hsame⟩ := X.leave (v := none) (fun _ => rfl)
  refine ⟨_, _, pre0 _ (st _ ?_), hrun, hended, _, _, rfl, ?_, ⟨_, rfl⟩, hW, hsame.mono (by decide) (by decide)⟩
  · exact X.returnOut hx Bd.returns (hb hby d11_40) hr
  · show Q_rm11 Z tb x2 x3 ka ua fa sa ma k_ka k_ua k_fa k_sa k_ma ks us fs ss ms sp sz fi h0 n0 _ T13.heap _
    rw [eh]
    exact ⟨rfl, N, K, _, r, ks', us', sz', hks, hsz', ⟨E_tb, F_tb_keys, F_tb_until, F_tb_operations, F_tb_machines, F_tb_firstUntil, F_tb_secondUntil, F_tb_machineUntil, F_tb_step, F_tb_size, V_ka, V_ua, V_fa, V_sa, V_ma⟩⟩
theorem d10_0 : decode prog_46_method_5_code 0 = .ok (.aload_n 0, 1) := by decide +kernel
theorem d10_1 : decode prog_46_method_5_code 1 = .ok (.getfield 27, 3) := by decide +kernel
theorem d10_4 : decode prog_46_method_5_code 4 = .ok (.iload_n 1, 1) := by decide +kernel
theorem d10_5 : decode prog_46_method_5_code 5 = .ok (.laload, 1) := by decide +kernel
theorem d10_6 : decode prog_46_method_5_code 6 = .ok (.aload_n 0, 1) := by decide +kernel
theorem d10_7 : decode prog_46_method_5_code 7 = .ok (.getfield 36, 3) := by decide +kernel
theorem d10_10 : decode prog_46_method_5_code 10 = .ok (.lcmp, 1) := by decide +kernel
theorem d10_11 : decode prog_46_method_5_code 11 = .ok (.ifCond .gt 17, 3) := by decide +kernel
theorem d10_14 : decode prog_46_method_5_code 14 = .ok (.aload_n 0, 1) := by decide +kernel
theorem d10_15 : decode prog_46_method_5_code 15 = .ok (.getfield 30, 3) := by decide +kernel
theorem d10_18 : decode prog_46_method_5_code 18 = .ok (.iload_n 1, 1) := by decide +kernel
theorem d10_19 : decode prog_46_method_5_code 19 = .ok (.laload, 1) := by decide +kernel
theorem d10_20 : decode prog_46_method_5_code 20 = .ok (.aload_n 0, 1) := by decide +kernel
theorem d10_21 : decode prog_46_method_5_code 21 = .ok (.getfield 36, 3) := by decide +kernel
theorem d10_24 : decode prog_46_method_5_code 24 = .ok (.lcmp, 1) := by decide +kernel
theorem d10_25 : decode prog_46_method_5_code 25 = .ok (.ifCond .le 7, 3) := by decide +kernel
theorem d10_28 : decode prog_46_method_5_code 28 = .ok (.iconst 1, 1) := by decide +kernel
theorem d10_29 : decode prog_46_method_5_code 29 = .ok (.goto 4, 3) := by decide +kernel
theorem d10_32 : decode prog_46_method_5_code 32 = .ok (.iconst 0, 1) := by decide +kernel
theorem d10_33 : decode prog_46_method_5_code 33 = .ok (.ireturn, 1) := by decide +kernel
def Q_rm10 (Z : State) (tb : Addr) (ka ua fa sa ma : Addr) (k_ka k_ua k_fa k_sa k_ma : ClassId) (ks us : Nat → Int64) (fs ss : Nat → Nat) (ms : Nat → Int64) (sp sz : Nat) (fi : Nat) (h0 : Heap) (n0 : Nat) (v : Option Value) (h : Heap) (L : List Loc) : Prop := v = some (.int (if Int64.ofNat sp < Int64.ofNat (fs fi) then (1 : Int32) else (if Int64.ofNat sp < Int64.ofNat (ss fi) then (1 : Int32) else (0 : Int32)))) ∧ Fr n0 L ∧ h = h0
theorem ef_rm10 (m : MethodId) (x0 : Addr) (x1 : Int32) : entryFrame m #[(.ref x0), (.int x1)] 2 = mkF m 0 #[.val (.ref x0), .val (.int x1)] [] := by first | (simp [entryFrame, mkF, argsToLocals, Value.category]; done) | rfl
set_option maxRecDepth 65536 in
set_option maxHeartbeats 40000000 in
theorem rm10 (l : Launch) (Z : State) (a0 : Array Value) (hw : ∀ d ∈ tables_1, d.before a0 Z = true) (ws : List Jvm.Cond) (tb : Addr) (ka ua fa sa ma : Addr) (k_ka k_ua k_fa k_sa k_ma : ClassId) (ks us : Nat → Int64) (fs ss : Nat → Nat) (ms : Nat → Int64) (sp sz : Nat) (fi : Nat) (h0 : Heap) (n0 : Nat) (Z0 : n0 ≤ h0.size) (B : own_TL Z h0 tb ka ua fa sa ma k_ka k_ua k_fa k_sa k_ma ks us fs ss ms sp sz) (hfi : fi < 3) :
    MetFree l (⟨"com/example/paretoloom/paretoloom/TabuList", "inPairs", "(I)Z"⟩ : MethodName) (head1 (Jvm.Cond.code (⟨"com/example/paretoloom/paretoloom/TabuList", "inPairs", "(I)Z"⟩ : MethodName) prog_46_method_5_code 2 (some .boolean) :: ws) ({ frames := 0, cells := 0, slots := 0, locals := 0 } : Room)) (fun a' U => a' = #[(.ref tb), (.int (Int32.ofNat fi))] ∧ Z.Warmed39 U.vm ∧ U.heap = h0) (fun _ _ _ _ _ => True) (fun _ U o U' => ∃ v L, o = .returned v ∧ Q_rm10 Z tb ka ua fa sa ma k_ka k_ua k_fa k_sa k_ma ks us fs ss ms sp sz fi h0 n0 v U'.heap L ∧ FrameEnd U o U' L ({ frames := 0, cells := 0, slots := 0, locals := 0 } : Room).cells ({ frames := 0, cells := 0, slots := 0, locals := 0 } : Room).slots) := by
  refine MetFree.of_bodySF (plainFor_of_name own_pn3) hisR ?_
  intro p e s m args below meth cd0 s₁ Bd hml0 hP hK
  obtain ⟨rfl, hZ, hh⟩ := hP
  have hx := Bd.exec
  have hby := Bd.bytes
  have hml : cd0.maxLocals = 2 := hml0
  have hown : s.vm.findClass "com/example/paretoloom/paretoloom/TabuList" = some m.cls := findClass_of_methodNamed Bd.named
  have hnm := (name_of_methodNamed Bd.named Bd.method).1
  have X : Stand p l e ({ frames := 0, cells := 0, slots := 0, locals := 0 } : Room) s m #[(.ref tb), (.int (Int32.ofNat fi))] below meth cd0 s₁ [] 0 0 := Stand.of_body Bd
  have eh : s₁.heap = h0 := by rw [← hh, Bd.state]; rfl
  have N := Fr.nil n0
  have K : Keep h0 h0 [tb, ka, ua, fa, sa, ma] := Keep.refl _ _
  have pre0 : ∀ t, Steps p.tables e below (s₁.setTop (mkF m 0 #[.val (.ref tb), .val (.int (Int32.ofNat fi))] [])) t → Steps p.tables e below (s₁.setTop (entryFrame m #[(.ref tb), (.int (Int32.ofNat fi))] 2)) t := fun t k => castTop (ef_rm10 m tb (Int32.ofNat fi)) k
  have st : ∀ t, Steps p.tables e below (s₁.setTop (mkF m 0 #[.val (.ref tb), .val (.int (Int32.ofNat fi))] [])) t → Steps p.tables e below (s₁.setTop (mkF m 0 #[.val (.ref tb), .val (.int (Int32.ofNat fi))] [])) t := fun t k => k
  obtain ⟨E_tb, F_tb_keys, F_tb_until, F_tb_operations, F_tb_machines, F_tb_firstUntil, F_tb_secondUntil, F_tb_machineUntil, F_tb_step, F_tb_size, V_ka, V_ua, V_fa, V_sa, V_ma⟩ := B
  have st : ∀ t, Steps p.tables e below (s₁.setTop (mkF m 1 #[.val (.ref tb), .val (.int (Int32.ofNat fi))] [(.ref tb)])) t → Steps p.tables e below (s₁.setTop (mkF m 0 #[.val (.ref tb), .val (.int (Int32.ofNat fi))] [])) t := fun t k => st t (by
      show Steps p.tables e below (s₁.setTop (mkF m 0 #[.val (.ref tb), .val (.int (Int32.ofNat fi))] [])) _
      refine XS.aloadN X.here hx rfl (hb hby d10_0) rfl rfl ?_
      exact k)
  obtain ⟨T1, X, eh, sx⟩ := getF X hx hZ hown (host := "") (Or.inl (hw _ (List.mem_of_getElem? (i := 27) rfl))) Via.refl eh F_tb_firstUntil (g := (mkF m 1 #[.val (.ref tb), .val (.int (Int32.ofNat fi))] [(.ref tb)])) rfl rfl (hb hby d10_1)
  have st : ∀ t, Steps p.tables e below (T1.setTop (mkF m 4 #[.val (.ref tb), .val (.int (Int32.ofNat fi))] [(.ref fa)])) t → Steps p.tables e below (s₁.setTop (mkF m 0 #[.val (.ref tb), .val (.int (Int32.ofNat fi))] [])) t := fun t k => st t (sx t k)
  have st : ∀ t, Steps p.tables e below (T1.setTop (mkF m 5 #[.val (.ref tb), .val (.int (Int32.ofNat fi))] [(.int (Int32.ofNat fi)), (.ref fa)])) t → Steps p.tables e below (s₁.setTop (mkF m 0 #[.val (.ref tb), .val (.int (Int32.ofNat fi))] [])) t := fun t k => st t (by
      show Steps p.tables e below (T1.setTop (mkF m 4 #[.val (.ref tb), .val (.int (Int32.ofNat fi))] [(.ref fa)])) _
      refine XS.iloadN X.here hx rfl (hb hby d10_4) rfl ?_
      exact k)
  obtain ⟨cl2, Ar2, hin2, hat2⟩ := own_rd (by decide) V_fa fi hfi
  have st : ∀ t, Steps p.tables e below (T1.setTop (mkF m 7 #[.val (.ref tb), .val (.int (Int32.ofNat fi))] [(.ref tb), (.long (Int64.ofNat (fs fi)))])) t → Steps p.tables e below (s₁.setTop (mkF m 0 #[.val (.ref tb), .val (.int (Int32.ofNat fi))] [])) t := fun t k => st t (by
      show Steps p.tables e below (T1.setTop (mkF m 5 #[.val (.ref tb), .val (.int (Int32.ofNat fi))] [(.int (Int32.ofNat fi)), (.ref fa)])) _
      refine X.laload hx (j := (Int32.ofNat fi)) (v := (.long (Int64.ofNat (fs fi)))) (by rw [eh]; exact Ar2.1) (State.isArrayOf_alike hZ.alike Ar2.2.1) Ar2.2.2 hin2 hat2 (g := (mkF m 5 #[.val (.ref tb), .val (.int (Int32.ofNat fi))] [(.int (Int32.ofNat fi)), (.ref fa)])) rfl rfl (hb hby d10_5) _ ?_
      show Steps p.tables e below (T1.setTop (mkF m 6 #[.val (.ref tb), .val (.int (Int32.ofNat fi))] [(.long (Int64.ofNat (fs fi)))])) _
      refine XS.aloadN X.here hx rfl (hb hby d10_6) rfl rfl ?_
      exact k)
  obtain ⟨T3, X, eh, sx⟩ := getF X hx hZ hown (host := "") (Or.inl (hw _ (List.mem_of_getElem? (i := 38) rfl))) Via.refl eh F_tb_step (g := (mkF m 7 #[.val (.ref tb), .val (.int (Int32.ofNat fi))] [(.ref tb), (.long (Int64.ofNat (fs fi)))])) rfl rfl (hb hby d10_7)
  have st : ∀ t, Steps p.tables e below (T3.setTop (mkF m 10 #[.val (.ref tb), .val (.int (Int32.ofNat fi))] [(.long (Int64.ofNat sp)), (.long (Int64.ofNat (fs fi)))])) t → Steps p.tables e below (s₁.setTop (mkF m 0 #[.val (.ref tb), .val (.int (Int32.ofNat fi))] [])) t := fun t k => st t (sx t k)
  have st : ∀ t, Steps p.tables e below (T3.setTop (mkF m 11 #[.val (.ref tb), .val (.int (Int32.ofNat fi))] [(.int (lcmpW (Int64.ofNat (fs fi)) (Int64.ofNat sp)))])) t → Steps p.tables e below (s₁.setTop (mkF m 0 #[.val (.ref tb), .val (.int (Int32.ofNat fi))] [])) t := fun t k => st t (by
      show Steps p.tables e below (T3.setTop (mkF m 10 #[.val (.ref tb), .val (.int (Int32.ofNat fi))] [(.long (Int64.ofNat sp)), (.long (Int64.ofNat (fs fi)))])) _
      refine XS.lcmp X.here hx rfl (hb hby d10_10) rfl ?_
      exact k)
  by_cases hq : (Int64.ofNat sp) < (Int64.ofNat (fs fi))
  · have st : ∀ t, Steps p.tables e below (T3.setTop (mkF m 33 #[.val (.ref tb), .val (.int (Int32.ofNat fi))] [(.int (1 : Int32))])) t → Steps p.tables e below (s₁.setTop (mkF m 0 #[.val (.ref tb), .val (.int (Int32.ofNat fi))] [])) t := fun t k => st t (by
        show Steps p.tables e below (T3.setTop (mkF m 11 #[.val (.ref tb), .val (.int (Int32.ofNat fi))] [(.int (lcmpW (Int64.ofNat (fs fi)) (Int64.ofNat sp)))])) _
        refine XS.ifYes X.here hx rfl (pc0 := 11) (pc' := 28) rfl (hb hby d10_11) rfl ((if0 _ _).trans (tlt ((lw_gt (Int64.ofNat (fs fi)) (Int64.ofNat sp)).mpr hq)).2.2.1) (by decide) (by decide) ?_
        show Steps p.tables e below (T3.setTop (mkF m 28 #[.val (.ref tb), .val (.int (Int32.ofNat fi))] [])) _
        refine XS.iconst X.here hx rfl (hb hby d10_28) ?_
        show Steps p.tables e below (T3.setTop (mkF m 29 #[.val (.ref tb), .val (.int (Int32.ofNat fi))] [(.int (1 : Int32))])) _
        refine XS.goto X.here hx rfl (pc0 := 29) (pc' := 33) rfl (hb hby d10_29) (by decide) (by decide) ?_
        exact k)
    obtain ⟨fs_, hr, hrun, hended, hW, hsame⟩ := X.leave (v := some (.int (1 : Int32))) (fun h => by rw [Bd.returns] at h; cases h)
    refine ⟨_, _, pre0 _ (st _ ?_), hrun, hended, _, _, rfl, ?_, ⟨_, rfl⟩, hW, hsame.mono (by decide) (by decide)⟩
    · exact retN X hx (t := .boolean) Bd.returns (by simp) (hb hby d10_33) hr
    · show Q_rm10 Z tb ka ua fa sa ma k_ka k_ua k_fa k_sa k_ma ks us fs ss ms sp sz fi h0 n0 _ T3.heap _
      rw [eh]
      exact ⟨by rw [if_pos hq], N, rfl⟩
  · have st : ∀ t, Steps p.tables e below (T3.setTop (mkF m 15 #[.val (.ref tb), .val (.int (Int32.ofNat fi))] [(.ref tb)])) t → Steps p.tables e below (s₁.setTop (mkF m 0 #[.val (.ref tb), .val (.int (Int32.ofNat fi))] [])) t := fun t k => st t (by
        show Steps p.tables e below (T3.setTop (mkF m 11 #[.val (.ref tb), .val (.int (Int32.ofNat fi))] [(.int (lcmpW (Int64.ofNat (fs fi)) (Int64.ofNat sp)))])) _
        refine XS.ifNo X.here hx rfl (hb hby d10_11) rfl ((if0 _ _).trans (flt (fun q => hq ((lw_gt (Int64.ofNat (fs fi)) (Int64.ofNat sp)).mp q))).2.2.1) ?_
        show Steps p.tables e below (T3.setTop (mkF m 14 #[.val (.ref tb), .val (.int (Int32.ofNat fi))] [])) _
        refine XS.aloadN X.here hx rfl (hb hby d10_14) rfl rfl ?_
        exact k)
    obtain ⟨T4, X, eh, sx⟩ := getF X hx hZ hown (host := "") (Or.inl (hw _ (List.mem_of_getElem? (i := 29) rfl))) Via.refl eh F_tb_secondUntil (g := (mkF m 15 #[.val (.ref tb), .val (.int (Int32.ofNat fi))] [(.ref tb)])) rfl rfl (hb hby d10_15)
    have st : ∀ t, Steps p.tables e below (T4.setTop (mkF m 18 #[.val (.ref tb), .val (.int (Int32.ofNat fi))] [(.ref sa)])) t → Steps p.tables e below (s₁.setTop (mkF m 0 #[.val (.ref tb), .val (.int (Int32.ofNat fi))] [])) t := fun t k => st t (sx t k)
    have st : ∀ t, Steps p.tables e below (T4.setTop (mkF m 19 #[.val (.ref tb), .val (.int (Int32.ofNat fi))] [(.int (Int32.ofNat fi)), (.ref sa)])) t → Steps p.tables e below (s₁.setTop (mkF m 0 #[.val (.ref tb), .val (.int (Int32.ofNat fi))] [])) t := fun t k => st t (by
        show Steps p.tables e below (T4.setTop (mkF m 18 #[.val (.ref tb), .val (.int (Int32.ofNat fi))] [(.ref sa)])) _
        refine XS.iloadN X.here hx rfl (hb hby d10_18) rfl ?_
        exact k)
    obtain ⟨cl5, Ar5, hin5, hat5⟩ := own_rd (by decide) V_sa fi hfi
    have st : ∀ t, Steps p.tables e below (T4.setTop (mkF m 21 #[.val (.ref tb), .val (.int (Int32.ofNat fi))] [(.ref tb), (.long (Int64.ofNat (ss fi)))])) t → Steps p.tables e below (s₁.setTop (mkF m 0 #[.val (.ref tb), .val (.int (Int32.ofNat fi))] [])) t := fun t k => st t (by
        show Steps p.tables e below (T4.setTop (mkF m 19 #[.val (.ref tb), .val (.int (Int32.ofNat fi))] [(.int (Int32.ofNat fi)), (.ref sa)])) _
        refine X.laload hx (j := (Int32.ofNat fi)) (v := (.long (Int64.ofNat (ss fi)))) (by rw [eh]; exact Ar5.1) (State.isArrayOf_alike hZ.alike Ar5.2.1) Ar5.2.2 hin5 hat5 (g := (mkF m 19 #[.val (.ref tb), .val (.int (Int32.ofNat fi))] [(.int (Int32.ofNat fi)), (.ref sa)])) rfl rfl (hb hby d10_19) _ ?_
        show Steps p.tables e below (T4.setTop (mkF m 20 #[.val (.ref tb), .val (.int (Int32.ofNat fi))] [(.long (Int64.ofNat (ss fi)))])) _
        refine XS.aloadN X.here hx rfl (hb hby d10_20) rfl rfl ?_
        exact k)
    obtain ⟨T6, X, eh, sx⟩ := getF X hx hZ hown (host := "") (Or.inl (hw _ (List.mem_of_getElem? (i := 38) rfl))) Via.refl eh F_tb_step (g := (mkF m 21 #[.val (.ref tb), .val (.int (Int32.ofNat fi))] [(.ref tb), (.long (Int64.ofNat (ss fi)))])) rfl rfl (hb hby d10_21)
    have st : ∀ t, Steps p.tables e below (T6.setTop (mkF m 24 #[.val (.ref tb), .val (.int (Int32.ofNat fi))] [(.long (Int64.ofNat sp)), (.long (Int64.ofNat (ss fi)))])) t → Steps p.tables e below (s₁.setTop (mkF m 0 #[.val (.ref tb), .val (.int (Int32.ofNat fi))] [])) t := fun t k => st t (sx t k)
    have st : ∀ t, Steps p.tables e below (T6.setTop (mkF m 25 #[.val (.ref tb), .val (.int (Int32.ofNat fi))] [(.int (lcmpW (Int64.ofNat (ss fi)) (Int64.ofNat sp)))])) t → Steps p.tables e below (s₁.setTop (mkF m 0 #[.val (.ref tb), .val (.int (Int32.ofNat fi))] [])) t := fun t k => st t (by
        show Steps p.tables e below (T6.setTop (mkF m 24 #[.val (.ref tb), .val (.int (Int32.ofNat fi))] [(.long (Int64.ofNat sp)), (.long (Int64.ofNat (ss fi)))])) _
        refine XS.lcmp X.here hx rfl (hb hby d10_24) rfl ?_
        exact k)
    by_cases hq2 : (Int64.ofNat sp) < (Int64.ofNat (ss fi))
    · have st : ∀ t, Steps p.tables e below (T6.setTop (mkF m 33 #[.val (.ref tb), .val (.int (Int32.ofNat fi))] [(.int (1 : Int32))])) t → Steps p.tables e below (s₁.setTop (mkF m 0 #[.val (.ref tb), .val (.int (Int32.ofNat fi))] [])) t := fun t k => st t (by
          show Steps p.tables e below (T6.setTop (mkF m 25 #[.val (.ref tb), .val (.int (Int32.ofNat fi))] [(.int (lcmpW (Int64.ofNat (ss fi)) (Int64.ofNat sp)))])) _
          refine XS.ifNo X.here hx rfl (hb hby d10_25) rfl ((if0 _ _).trans (tlt ((lw_gt (Int64.ofNat (ss fi)) (Int64.ofNat sp)).mpr hq2)).2.2.2) ?_
          show Steps p.tables e below (T6.setTop (mkF m 28 #[.val (.ref tb), .val (.int (Int32.ofNat fi))] [])) _
          refine XS.iconst X.here hx rfl (hb hby d10_28) ?_
          show Steps p.tables e below (T6.setTop (mkF m 29 #[.val (.ref tb), .val (.int (Int32.ofNat fi))] [(.int (1 : Int32))])) _
          refine XS.goto X.here hx rfl (pc0 := 29) (pc' := 33) rfl (hb hby d10_29) (by decide) (by decide) ?_
          exact k)
      obtain ⟨fs_, hr, hrun, hended, hW, hsame⟩ := X.leave (v := some (.int (1 : Int32))) (fun h => by rw [Bd.returns] at h; cases h)
      refine ⟨_, _, pre0 _ (st _ ?_), hrun, hended, _, _, rfl, ?_, ⟨_, rfl⟩, hW, hsame.mono (by decide) (by decide)⟩
      · exact retN X hx (t := .boolean) Bd.returns (by simp) (hb hby d10_33) hr
      · show Q_rm10 Z tb ka ua fa sa ma k_ka k_ua k_fa k_sa k_ma ks us fs ss ms sp sz fi h0 n0 _ T6.heap _
        rw [eh]
        exact ⟨by rw [if_neg hq, if_pos hq2], N, rfl⟩
    · have st : ∀ t, Steps p.tables e below (T6.setTop (mkF m 33 #[.val (.ref tb), .val (.int (Int32.ofNat fi))] [(.int (0 : Int32))])) t → Steps p.tables e below (s₁.setTop (mkF m 0 #[.val (.ref tb), .val (.int (Int32.ofNat fi))] [])) t := fun t k => st t (by
          show Steps p.tables e below (T6.setTop (mkF m 25 #[.val (.ref tb), .val (.int (Int32.ofNat fi))] [(.int (lcmpW (Int64.ofNat (ss fi)) (Int64.ofNat sp)))])) _
          refine XS.ifYes X.here hx rfl (pc0 := 25) (pc' := 32) rfl (hb hby d10_25) rfl ((if0 _ _).trans (flt (fun q => hq2 ((lw_gt (Int64.ofNat (ss fi)) (Int64.ofNat sp)).mp q))).2.2.2) (by decide) (by decide) ?_
          show Steps p.tables e below (T6.setTop (mkF m 32 #[.val (.ref tb), .val (.int (Int32.ofNat fi))] [])) _
          refine XS.iconst X.here hx rfl (hb hby d10_32) ?_
          exact k)
      obtain ⟨fs_, hr, hrun, hended, hW, hsame⟩ := X.leave (v := some (.int (0 : Int32))) (fun h => by rw [Bd.returns] at h; cases h)
      refine ⟨_, _, pre0 _ (st _ ?_), hrun, hended, _, _, rfl, ?_, ⟨_, rfl⟩, hW, hsame.mono (by decide) (by decide)⟩
      · exact retN X hx (t := .boolean) Bd.returns (by simp) (hb hby d10_33) hr
      · show Q_rm10 Z tb ka ua fa sa ma k_ka k_ua k_fa k_sa k_ma ks us fs ss ms sp sz fi h0 n0 _ T6.heap _
        rw [eh]
        exact ⟨by rw [if_neg hq, if_neg hq2], N, rfl⟩
theorem own_nat {z m : Int32} {b : Nat} (hm : m.toBitVec.toNat = b) : (z &&& m).toBitVec.toNat ≤ b ∧ (z &&& m) = Int32.ofNat (z &&& m).toBitVec.toNat := by
  refine ⟨?_, ?_⟩
  · simp only [Int32.toBitVec_and, BitVec.toNat_and, hm]
    exact Nat.and_le_right
  · apply Int32.toBitVec_inj.mp
    show _ = BitVec.ofNat 32 _
    rw [BitVec.ofNat_toNat]; simp
theorem own_m3 (z : Int32) : ∃ n : Nat, n ≤ 3 ∧ (z &&& (3 : Int32)) = Int32.ofNat n := ⟨_, own_nat rfl⟩
theorem own_m1 (z : Int32) : ∃ n : Nat, n ≤ 1 ∧ (z &&& (1 : Int32)) = Int32.ofNat n := ⟨_, own_nat rfl⟩
theorem own_r3s (z : Int32) : ∃ n : Nat, n < 3 ∧ ((z &&& (3 : Int32)) - ((z &&& (3 : Int32)) / (3 : Int32)) * (3 : Int32)) = Int32.ofNat n := by
  obtain ⟨n, hn, e⟩ := own_m3 z
  rw [e]
  have all : ∀ k : Fin 4, Int32.ofNat k.val - (Int32.ofNat k.val / (3 : Int32)) * (3 : Int32) = Int32.ofNat (k.val % 3) := by decide +kernel
  exact ⟨n % 3, Nat.mod_lt _ (by decide), all ⟨n, by omega⟩⟩
theorem own_r3 (z : Int32) : ∃ n : Nat, n < 3 ∧ ((z &&& (2147483647 : Int32)) - ((z &&& (2147483647 : Int32)) / (3 : Int32)) * (3 : Int32)) = Int32.ofNat n := by
  obtain ⟨n, hn, e⟩ : ∃ n : Nat, n ≤ 2147483647 ∧ (z &&& (2147483647 : Int32)) = Int32.ofNat n := ⟨_, own_nat rfl⟩
  rw [e]
  have e1 : (Int32.ofNat n).toInt = n := Int32.toInt_ofNat_of_lt (by omega)
  have e3 : (3 : Int32).toInt = 3 := rfl
  have ed : (Int32.ofNat n / (3 : Int32)).toInt = (n / 3 : Nat) := by
    rw [Int32.toInt_div, e1, e3]
    have : (n : Int).tdiv 3 = ((n / 3 : Nat) : Int) := rfl
    rw [this, Int.bmod_def]; omega
  refine ⟨n % 3, Nat.mod_lt _ (by decide), Int32.toInt_inj.mp ?_⟩
  rw [Int32.toInt_sub, Int32.toInt_mul, ed, e1, e3, own_toInt (by omega)]
  rw [Int.bmod_def, Int.bmod_def]
  omega
theorem own_fin (f1 s1 f2 s2 n1 n2 a1 a2 q sp1 sp4 : Nat) (fs1 ss1 fs2 ss2 : Nat → Nat) (got v27 v28 v29 : Int32) (hf1 : f1 < 3) (hs1 : s1 < 3) (hf2 : f2 < 3) (hs2 : s2 < 3) (hq : q < 3) (hn1 : n1 ≤ 3) (hn2 : n2 ≤ 3) (ha1 : a1 ≤ 1) (ha2 : a2 ≤ 3)
    (hsp1 : sp1 = a1) (hsp4 : sp4 = sp1 + min a2 3) (hfs1 : fs1 = own_upd (fun _ => 0) f1 (max 0 (0 + 1 + n1))) (hss1 : ss1 = own_upd (fun _ => 0) s1 (max 0 (0 + 1 + n1))) (hfs2 : fs2 = own_upd fs1 f2 (max (fs1 f2) (sp1 + 1 + n2))) (hss2 : ss2 = own_upd ss1 s2 (max (ss1 s2) (sp1 + 1 + n2)))
    (hgot : got = (if Int64.ofNat sp4 < Int64.ofNat (fs2 q) then (1 : Int32) else (if Int64.ofNat sp4 < Int64.ofNat (ss2 q) then (1 : Int32) else (0 : Int32))))
    (h27 : v27 = (if Int32.ofNat q = Int32.ofNat f1 then (if Int64.ofNat (a1 + a2) < Int64.ofNat (1 + n1) then (1 : Int32) else (0 : Int32)) else (if Int32.ofNat q = Int32.ofNat s1 then (if Int64.ofNat (a1 + a2) < Int64.ofNat (1 + n1) then (1 : Int32) else (0 : Int32)) else (0 : Int32))))
    (h28 : v28 = (if Int32.ofNat q = Int32.ofNat f2 then (if Int64.ofNat (a1 + a2) < Int64.ofNat (a1 + 1 + n2) then (1 : Int32) else (0 : Int32)) else (if Int32.ofNat q = Int32.ofNat s2 then (if Int64.ofNat (a1 + a2) < Int64.ofNat (a1 + 1 + n2) then (1 : Int32) else (0 : Int32)) else (0 : Int32))))
    (h29 : v29 = (if v27 = (0 : Int32) then (if v28 = (0 : Int32) then (0 : Int32) else (1 : Int32)) else (1 : Int32))) : got = v29 := by
  have b1 : fs2 q = if q = f2 then max (if f2 = f1 then 1 + n1 else 0) (a1 + 1 + n2) else (if q = f1 then 1 + n1 else 0) := by
    rw [hfs2, hfs1, hsp1]; simp only [own_upd]; split <;> split <;> omega
  have b2 : ss2 q = if q = s2 then max (if s2 = s1 then 1 + n1 else 0) (a1 + 1 + n2) else (if q = s1 then 1 + n1 else 0) := by
    rw [hss2, hss1, hsp1]; simp only [own_upd]; split <;> split <;> omega
  have c1 : fs2 q ≤ 10 := by rw [b1]; split <;> split <;> omega
  have c2 : ss2 q ≤ 10 := by rw [b2]; split <;> split <;> omega
  have e4 : sp4 = a1 + a2 := by omega
  have i1 : Int64.ofNat sp4 < Int64.ofNat (fs2 q) ↔ sp4 < fs2 q := own_ltL (by omega) (by omega)
  have i2 : Int64.ofNat sp4 < Int64.ofNat (ss2 q) ↔ sp4 < ss2 q := own_ltL (by omega) (by omega)
  have i3 : Int64.ofNat (a1 + a2) < Int64.ofNat (1 + n1) ↔ a1 + a2 < 1 + n1 := own_ltL (by omega) (by omega)
  have i4 : Int64.ofNat (a1 + a2) < Int64.ofNat (a1 + 1 + n2) ↔ a1 + a2 < a1 + 1 + n2 := own_ltL (by omega) (by omega)
  have j1 : Int32.ofNat q = Int32.ofNat f1 ↔ q = f1 := own_inj (by omega) (by omega)
  have j2 : Int32.ofNat q = Int32.ofNat s1 ↔ q = s1 := own_inj (by omega) (by omega)
  have j3 : Int32.ofNat q = Int32.ofNat f2 ↔ q = f2 := own_inj (by omega) (by omega)
  have j4 : Int32.ofNat q = Int32.ofNat s2 ↔ q = s2 := own_inj (by omega) (by omega)
  simp only [i1, i2] at hgot
  simp only [i3, j1, j2] at h27
  simp only [i4, j3, j4] at h28
  have d27 : ¬ v27 = 0 ↔ (q = f1 ∨ q = s1) ∧ a1 + a2 < 1 + n1 := by
    rw [h27]; split <;> (try split) <;> (try split) <;> simp_all
  have d28 : ¬ v28 = 0 ↔ (q = f2 ∨ q = s2) ∧ a1 + a2 < a1 + 1 + n2 := by
    rw [h28]; split <;> (try split) <;> (try split) <;> simp_all
  have key : (sp4 < fs2 q ∨ sp4 < ss2 q) ↔ (¬ v27 = 0 ∨ ¬ v28 = 0) := by
    rw [d27, d28, b1, b2, e4]
    split <;> split <;> split <;> split <;> omega
  have l1 : got = if (sp4 < fs2 q ∨ sp4 < ss2 q) then (1 : Int32) else 0 := by
    rw [hgot]; by_cases u : sp4 < fs2 q <;> by_cases u2 : sp4 < ss2 q <;> simp [u, u2]
  have l2 : v29 = if (¬ v27 = 0 ∨ ¬ v28 = 0) then (1 : Int32) else 0 := by
    rw [h29]; by_cases u : v27 = 0 <;> by_cases u2 : v28 = 0 <;> simp [u, u2]
  rw [l1, l2]
  by_cases u : sp4 < fs2 q ∨ sp4 < ss2 q
  · rw [if_pos u, if_pos (key.mp u)]
  · rw [if_neg u, if_neg (fun z => u (key.mpr z))]
theorem own_pn0 : plainName "com/example/paretoloom/paretoloom/TabuListInPairsPinLaw" = true := by first | (simp [plainName, overriddenIn]; done) | decide +kernel
def Q_rm0 (Z : State) (y0 : Int32) (y1 : Int32) (y2 : Int32) (y3 : Int32) (y4 : Int32) (y5 : Int32)  (h0 : Heap) (n0 : Nat) (v : Option Value) (h : Heap) (L : List Loc) : Prop := v = some (.int 1) ∧ Fr n0 L
theorem own_pd6 : parseMethodDescriptor "(II)V" = some ⟨[.int, .int], none⟩ := by decide +kernel
theorem own_pd7 : parseMethodDescriptor "(III)V" = some ⟨[.int, .int, .int], none⟩ := by decide +kernel
theorem own_pd8 : parseMethodDescriptor "()V" = some ⟨[], none⟩ := by decide +kernel
theorem own_pd9 : parseMethodDescriptor "(I)Z" = some ⟨[.int], some .boolean⟩ := by decide +kernel
theorem ef_rm0 (m : MethodId) (x0 : Int32) (x1 : Int32) (x2 : Int32) (x3 : Int32) (x4 : Int32) (x5 : Int32) : entryFrame m #[(.int x0), (.int x1), (.int x2), (.int x3), (.int x4), (.int x5)] maxLocals = mkF m 0 #[.val (.int x0), .val (.int x1), .val (.int x2), .val (.int x3), .val (.int x4), .val (.int x5), .unset, .unset, .unset, .unset, .unset, .unset, .unset, .unset, .unset, .unset, .unset, .unset, .unset, .unset, .unset, .unset, .unset, .unset, .unset, .unset, .unset, .unset, .unset, .unset] [] := by first | (simp [entryFrame, mkF, argsToLocals, Value.category, maxLocals]; done) | rfl
set_option maxRecDepth 65536 in
set_option maxHeartbeats 40000000 in
theorem rm0 (l : Launch) (Z : State) (a0 : Array Value) (hw : ∀ d ∈ tables_1, d.before a0 Z = true) (ws : List Jvm.Cond) (y0 : Int32) (y1 : Int32) (y2 : Int32) (y3 : Int32) (y4 : Int32) (y5 : Int32)  (h0 : Heap) (n0 : Nat) (Z0 : n0 ≤ h0.size)  :
    MetFree l x (head1 (Jvm.Cond.code x code maxLocals ret :: ws) room_1) (fun a' U => a' = #[(.int y0), (.int y1), (.int y2), (.int y3), (.int y4), (.int y5)] ∧ Z.Warmed39 U.vm ∧ U.heap = h0) (fun _ _ _ _ _ => True) (fun _ U o U' => ∃ v L, o = .returned v ∧ Q_rm0 Z y0 y1 y2 y3 y4 y5 h0 n0 v U'.heap L ∧ FrameEnd U o U' L room_1.cells room_1.slots) := by
  refine MetFree.of_bodySF (plainFor_of_name own_pn0) hisR ?_
  intro p e s m args below meth cd0 s₁ Bd hml0 hP hK
  obtain ⟨rfl, hZ, hh⟩ := hP
  have hx := Bd.exec
  have hby := Bd.bytes
  have hml : cd0.maxLocals = 30 := hml0
  have hown : s.vm.findClass "com/example/paretoloom/paretoloom/TabuListInPairsPinLaw" = some m.cls := findClass_of_methodNamed Bd.named
  have hnm := (name_of_methodNamed Bd.named Bd.method).1
  have X : Stand p l e room_1 s m #[(.int y0), (.int y1), (.int y2), (.int y3), (.int y4), (.int y5)] below meth cd0 s₁ [] 0 0 := Stand.of_body Bd
  have eh : s₁.heap = h0 := by rw [← hh, Bd.state]; rfl
  have N := Fr.nil n0
  have K : Keep h0 h0 [] := Keep.refl _ _
  have pre0 : ∀ t, Steps p.tables e below (s₁.setTop (mkF m 0 #[.val (.int y0), .val (.int y1), .val (.int y2), .val (.int y3), .val (.int y4), .val (.int y5), .unset, .unset, .unset, .unset, .unset, .unset, .unset, .unset, .unset, .unset, .unset, .unset, .unset, .unset, .unset, .unset, .unset, .unset, .unset, .unset, .unset, .unset, .unset, .unset] [])) t → Steps p.tables e below (s₁.setTop (entryFrame m #[(.int y0), (.int y1), (.int y2), (.int y3), (.int y4), (.int y5)] maxLocals)) t := fun t k => castTop (ef_rm0 m y0 y1 y2 y3 y4 y5) k
  have st : ∀ t, Steps p.tables e below (s₁.setTop (mkF m 0 #[.val (.int y0), .val (.int y1), .val (.int y2), .val (.int y3), .val (.int y4), .val (.int y5), .unset, .unset, .unset, .unset, .unset, .unset, .unset, .unset, .unset, .unset, .unset, .unset, .unset, .unset, .unset, .unset, .unset, .unset, .unset, .unset, .unset, .unset, .unset, .unset] [])) t → Steps p.tables e below (s₁.setTop (mkF m 0 #[.val (.int y0), .val (.int y1), .val (.int y2), .val (.int y3), .val (.int y4), .val (.int y5), .unset, .unset, .unset, .unset, .unset, .unset, .unset, .unset, .unset, .unset, .unset, .unset, .unset, .unset, .unset, .unset, .unset, .unset, .unset, .unset, .unset, .unset, .unset, .unset] [])) t := fun t k => k
  have st : ∀ t, Steps p.tables e below (s₁.setTop (mkF m 6 #[.val (.int y0), .val (.int y1), .val (.int y2), .val (.int y3), .val (.int y4), .val (.int y5), .unset, .unset, .unset, .unset, .unset, .unset, .unset, .unset, .unset, .unset, .unset, .unset, .unset, .unset, .unset, .unset, .unset, .unset, .unset, .unset, .unset, .unset, .unset, .unset] [(.int ((y0 &&& (2147483647 : Int32)) - ((y0 &&& (2147483647 : Int32)) / (3 : Int32)) * (3 : Int32)))])) t → Steps p.tables e below (s₁.setTop (mkF m 0 #[.val (.int y0), .val (.int y1), .val (.int y2), .val (.int y3), .val (.int y4), .val (.int y5), .unset, .unset, .unset, .unset, .unset, .unset, .unset, .unset, .unset, .unset, .unset, .unset, .unset, .unset, .unset, .unset, .unset, .unset, .unset, .unset, .unset, .unset, .unset, .unset] [])) t := fun t k => st t (by
      show Steps p.tables e below (s₁.setTop (mkF m 0 #[.val (.int y0), .val (.int y1), .val (.int y2), .val (.int y3), .val (.int y4), .val (.int y5), .unset, .unset, .unset, .unset, .unset, .unset, .unset, .unset, .unset, .unset, .unset, .unset, .unset, .unset, .unset, .unset, .unset, .unset, .unset, .unset, .unset, .unset, .unset, .unset] [])) _
      refine XS.iloadN X.here hx rfl (hb hby at_0) rfl ?_
      show Steps p.tables e below (s₁.setTop (mkF m 1 #[.val (.int y0), .val (.int y1), .val (.int y2), .val (.int y3), .val (.int y4), .val (.int y5), .unset, .unset, .unset, .unset, .unset, .unset, .unset, .unset, .unset, .unset, .unset, .unset, .unset, .unset, .unset, .unset, .unset, .unset, .unset, .unset, .unset, .unset, .unset, .unset] [(.int y0)])) _
      refine X.ldcInt hx hown (mvT hZ (hw _ (List.mem_of_getElem? (i := 0) rfl))) (g := (mkF m 1 #[.val (.int y0), .val (.int y1), .val (.int y2), .val (.int y3), .val (.int y4), .val (.int y5), .unset, .unset, .unset, .unset, .unset, .unset, .unset, .unset, .unset, .unset, .unset, .unset, .unset, .unset, .unset, .unset, .unset, .unset, .unset, .unset, .unset, .unset, .unset, .unset] [(.int y0)])) rfl (hb hby at_1) _ ?_
      show Steps p.tables e below (s₁.setTop (mkF m 3 #[.val (.int y0), .val (.int y1), .val (.int y2), .val (.int y3), .val (.int y4), .val (.int y5), .unset, .unset, .unset, .unset, .unset, .unset, .unset, .unset, .unset, .unset, .unset, .unset, .unset, .unset, .unset, .unset, .unset, .unset, .unset, .unset, .unset, .unset, .unset, .unset] [(.int (2147483647 : Int32)), (.int y0)])) _
      refine XS.iand X.here hx rfl (hb hby at_3) rfl ?_
      show Steps p.tables e below (s₁.setTop (mkF m 4 #[.val (.int y0), .val (.int y1), .val (.int y2), .val (.int y3), .val (.int y4), .val (.int y5), .unset, .unset, .unset, .unset, .unset, .unset, .unset, .unset, .unset, .unset, .unset, .unset, .unset, .unset, .unset, .unset, .unset, .unset, .unset, .unset, .unset, .unset, .unset, .unset] [(.int (y0 &&& (2147483647 : Int32)))])) _
      refine XS.iconst X.here hx rfl (hb hby at_4) ?_
      show Steps p.tables e below (s₁.setTop (mkF m 5 #[.val (.int y0), .val (.int y1), .val (.int y2), .val (.int y3), .val (.int y4), .val (.int y5), .unset, .unset, .unset, .unset, .unset, .unset, .unset, .unset, .unset, .unset, .unset, .unset, .unset, .unset, .unset, .unset, .unset, .unset, .unset, .unset, .unset, .unset, .unset, .unset] [(.int (3 : Int32)), (.int (y0 &&& (2147483647 : Int32)))])) _
      refine XS.irem X.here hx rfl (hb hby at_5) rfl (by decide) ?_
      exact k)
  obtain ⟨f1, hf1, ex_f1⟩ := own_r3 y0
  have st : ∀ t, Steps p.tables e below (s₁.setTop (mkF m 6 #[.val (.int y0), .val (.int y1), .val (.int y2), .val (.int y3), .val (.int y4), .val (.int y5), .unset, .unset, .unset, .unset, .unset, .unset, .unset, .unset, .unset, .unset, .unset, .unset, .unset, .unset, .unset, .unset, .unset, .unset, .unset, .unset, .unset, .unset, .unset, .unset] [(.int (Int32.ofNat f1))])) t → Steps p.tables e below (s₁.setTop (mkF m 0 #[.val (.int y0), .val (.int y1), .val (.int y2), .val (.int y3), .val (.int y4), .val (.int y5), .unset, .unset, .unset, .unset, .unset, .unset, .unset, .unset, .unset, .unset, .unset, .unset, .unset, .unset, .unset, .unset, .unset, .unset, .unset, .unset, .unset, .unset, .unset, .unset] [])) t := by rw [← ex_f1]; exact st
  have st : ∀ t, Steps p.tables e below (s₁.setTop (mkF m 14 #[.val (.int y0), .val (.int y1), .val (.int y2), .val (.int y3), .val (.int y4), .val (.int y5), .val (.int (Int32.ofNat f1)), .unset, .unset, .unset, .unset, .unset, .unset, .unset, .unset, .unset, .unset, .unset, .unset, .unset, .unset, .unset, .unset, .unset, .unset, .unset, .unset, .unset, .unset, .unset] [(.int ((y1 &&& (2147483647 : Int32)) - ((y1 &&& (2147483647 : Int32)) / (3 : Int32)) * (3 : Int32)))])) t → Steps p.tables e below (s₁.setTop (mkF m 0 #[.val (.int y0), .val (.int y1), .val (.int y2), .val (.int y3), .val (.int y4), .val (.int y5), .unset, .unset, .unset, .unset, .unset, .unset, .unset, .unset, .unset, .unset, .unset, .unset, .unset, .unset, .unset, .unset, .unset, .unset, .unset, .unset, .unset, .unset, .unset, .unset] [])) t := fun t k => st t (by
      show Steps p.tables e below (s₁.setTop (mkF m 6 #[.val (.int y0), .val (.int y1), .val (.int y2), .val (.int y3), .val (.int y4), .val (.int y5), .unset, .unset, .unset, .unset, .unset, .unset, .unset, .unset, .unset, .unset, .unset, .unset, .unset, .unset, .unset, .unset, .unset, .unset, .unset, .unset, .unset, .unset, .unset, .unset] [(.int (Int32.ofNat f1))])) _
      refine XS.istore X.here hx rfl (hb hby at_6) rfl (l' := #[.val (.int y0), .val (.int y1), .val (.int y2), .val (.int y3), .val (.int y4), .val (.int y5), .val (.int (Int32.ofNat f1)), .unset, .unset, .unset, .unset, .unset, .unset, .unset, .unset, .unset, .unset, .unset, .unset, .unset, .unset, .unset, .unset, .unset, .unset, .unset, .unset, .unset, .unset, .unset]) rfl ?_
      show Steps p.tables e below (s₁.setTop (mkF m 8 #[.val (.int y0), .val (.int y1), .val (.int y2), .val (.int y3), .val (.int y4), .val (.int y5), .val (.int (Int32.ofNat f1)), .unset, .unset, .unset, .unset, .unset, .unset, .unset, .unset, .unset, .unset, .unset, .unset, .unset, .unset, .unset, .unset, .unset, .unset, .unset, .unset, .unset, .unset, .unset] [])) _
      refine XS.iloadN X.here hx rfl (hb hby at_8) rfl ?_
      show Steps p.tables e below (s₁.setTop (mkF m 9 #[.val (.int y0), .val (.int y1), .val (.int y2), .val (.int y3), .val (.int y4), .val (.int y5), .val (.int (Int32.ofNat f1)), .unset, .unset, .unset, .unset, .unset, .unset, .unset, .unset, .unset, .unset, .unset, .unset, .unset, .unset, .unset, .unset, .unset, .unset, .unset, .unset, .unset, .unset, .unset] [(.int y1)])) _
      refine X.ldcInt hx hown (mvT hZ (hw _ (List.mem_of_getElem? (i := 0) rfl))) (g := (mkF m 9 #[.val (.int y0), .val (.int y1), .val (.int y2), .val (.int y3), .val (.int y4), .val (.int y5), .val (.int (Int32.ofNat f1)), .unset, .unset, .unset, .unset, .unset, .unset, .unset, .unset, .unset, .unset, .unset, .unset, .unset, .unset, .unset, .unset, .unset, .unset, .unset, .unset, .unset, .unset, .unset] [(.int y1)])) rfl (hb hby at_9) _ ?_
      show Steps p.tables e below (s₁.setTop (mkF m 11 #[.val (.int y0), .val (.int y1), .val (.int y2), .val (.int y3), .val (.int y4), .val (.int y5), .val (.int (Int32.ofNat f1)), .unset, .unset, .unset, .unset, .unset, .unset, .unset, .unset, .unset, .unset, .unset, .unset, .unset, .unset, .unset, .unset, .unset, .unset, .unset, .unset, .unset, .unset, .unset] [(.int (2147483647 : Int32)), (.int y1)])) _
      refine XS.iand X.here hx rfl (hb hby at_11) rfl ?_
      show Steps p.tables e below (s₁.setTop (mkF m 12 #[.val (.int y0), .val (.int y1), .val (.int y2), .val (.int y3), .val (.int y4), .val (.int y5), .val (.int (Int32.ofNat f1)), .unset, .unset, .unset, .unset, .unset, .unset, .unset, .unset, .unset, .unset, .unset, .unset, .unset, .unset, .unset, .unset, .unset, .unset, .unset, .unset, .unset, .unset, .unset] [(.int (y1 &&& (2147483647 : Int32)))])) _
      refine XS.iconst X.here hx rfl (hb hby at_12) ?_
      show Steps p.tables e below (s₁.setTop (mkF m 13 #[.val (.int y0), .val (.int y1), .val (.int y2), .val (.int y3), .val (.int y4), .val (.int y5), .val (.int (Int32.ofNat f1)), .unset, .unset, .unset, .unset, .unset, .unset, .unset, .unset, .unset, .unset, .unset, .unset, .unset, .unset, .unset, .unset, .unset, .unset, .unset, .unset, .unset, .unset, .unset] [(.int (3 : Int32)), (.int (y1 &&& (2147483647 : Int32)))])) _
      refine XS.irem X.here hx rfl (hb hby at_13) rfl (by decide) ?_
      exact k)
  obtain ⟨s1, hs1, ex_s1⟩ := own_r3 y1
  have st : ∀ t, Steps p.tables e below (s₁.setTop (mkF m 14 #[.val (.int y0), .val (.int y1), .val (.int y2), .val (.int y3), .val (.int y4), .val (.int y5), .val (.int (Int32.ofNat f1)), .unset, .unset, .unset, .unset, .unset, .unset, .unset, .unset, .unset, .unset, .unset, .unset, .unset, .unset, .unset, .unset, .unset, .unset, .unset, .unset, .unset, .unset, .unset] [(.int (Int32.ofNat s1))])) t → Steps p.tables e below (s₁.setTop (mkF m 0 #[.val (.int y0), .val (.int y1), .val (.int y2), .val (.int y3), .val (.int y4), .val (.int y5), .unset, .unset, .unset, .unset, .unset, .unset, .unset, .unset, .unset, .unset, .unset, .unset, .unset, .unset, .unset, .unset, .unset, .unset, .unset, .unset, .unset, .unset, .unset, .unset] [])) t := by rw [← ex_s1]; exact st
  have st : ∀ t, Steps p.tables e below (s₁.setTop (mkF m 22 #[.val (.int y0), .val (.int y1), .val (.int y2), .val (.int y3), .val (.int y4), .val (.int y5), .val (.int (Int32.ofNat f1)), .val (.int (Int32.ofNat s1)), .unset, .unset, .unset, .unset, .unset, .unset, .unset, .unset, .unset, .unset, .unset, .unset, .unset, .unset, .unset, .unset, .unset, .unset, .unset, .unset, .unset, .unset] [(.int ((y3 &&& (2147483647 : Int32)) - ((y3 &&& (2147483647 : Int32)) / (3 : Int32)) * (3 : Int32)))])) t → Steps p.tables e below (s₁.setTop (mkF m 0 #[.val (.int y0), .val (.int y1), .val (.int y2), .val (.int y3), .val (.int y4), .val (.int y5), .unset, .unset, .unset, .unset, .unset, .unset, .unset, .unset, .unset, .unset, .unset, .unset, .unset, .unset, .unset, .unset, .unset, .unset, .unset, .unset, .unset, .unset, .unset, .unset] [])) t := fun t k => st t (by
      show Steps p.tables e below (s₁.setTop (mkF m 14 #[.val (.int y0), .val (.int y1), .val (.int y2), .val (.int y3), .val (.int y4), .val (.int y5), .val (.int (Int32.ofNat f1)), .unset, .unset, .unset, .unset, .unset, .unset, .unset, .unset, .unset, .unset, .unset, .unset, .unset, .unset, .unset, .unset, .unset, .unset, .unset, .unset, .unset, .unset, .unset] [(.int (Int32.ofNat s1))])) _
      refine XS.istore X.here hx rfl (hb hby at_14) rfl (l' := #[.val (.int y0), .val (.int y1), .val (.int y2), .val (.int y3), .val (.int y4), .val (.int y5), .val (.int (Int32.ofNat f1)), .val (.int (Int32.ofNat s1)), .unset, .unset, .unset, .unset, .unset, .unset, .unset, .unset, .unset, .unset, .unset, .unset, .unset, .unset, .unset, .unset, .unset, .unset, .unset, .unset, .unset, .unset]) rfl ?_
      show Steps p.tables e below (s₁.setTop (mkF m 16 #[.val (.int y0), .val (.int y1), .val (.int y2), .val (.int y3), .val (.int y4), .val (.int y5), .val (.int (Int32.ofNat f1)), .val (.int (Int32.ofNat s1)), .unset, .unset, .unset, .unset, .unset, .unset, .unset, .unset, .unset, .unset, .unset, .unset, .unset, .unset, .unset, .unset, .unset, .unset, .unset, .unset, .unset, .unset] [])) _
      refine XS.iloadN X.here hx rfl (hb hby at_16) rfl ?_
      show Steps p.tables e below (s₁.setTop (mkF m 17 #[.val (.int y0), .val (.int y1), .val (.int y2), .val (.int y3), .val (.int y4), .val (.int y5), .val (.int (Int32.ofNat f1)), .val (.int (Int32.ofNat s1)), .unset, .unset, .unset, .unset, .unset, .unset, .unset, .unset, .unset, .unset, .unset, .unset, .unset, .unset, .unset, .unset, .unset, .unset, .unset, .unset, .unset, .unset] [(.int y3)])) _
      refine X.ldcInt hx hown (mvT hZ (hw _ (List.mem_of_getElem? (i := 0) rfl))) (g := (mkF m 17 #[.val (.int y0), .val (.int y1), .val (.int y2), .val (.int y3), .val (.int y4), .val (.int y5), .val (.int (Int32.ofNat f1)), .val (.int (Int32.ofNat s1)), .unset, .unset, .unset, .unset, .unset, .unset, .unset, .unset, .unset, .unset, .unset, .unset, .unset, .unset, .unset, .unset, .unset, .unset, .unset, .unset, .unset, .unset] [(.int y3)])) rfl (hb hby at_17) _ ?_
      show Steps p.tables e below (s₁.setTop (mkF m 19 #[.val (.int y0), .val (.int y1), .val (.int y2), .val (.int y3), .val (.int y4), .val (.int y5), .val (.int (Int32.ofNat f1)), .val (.int (Int32.ofNat s1)), .unset, .unset, .unset, .unset, .unset, .unset, .unset, .unset, .unset, .unset, .unset, .unset, .unset, .unset, .unset, .unset, .unset, .unset, .unset, .unset, .unset, .unset] [(.int (2147483647 : Int32)), (.int y3)])) _
      refine XS.iand X.here hx rfl (hb hby at_19) rfl ?_
      show Steps p.tables e below (s₁.setTop (mkF m 20 #[.val (.int y0), .val (.int y1), .val (.int y2), .val (.int y3), .val (.int y4), .val (.int y5), .val (.int (Int32.ofNat f1)), .val (.int (Int32.ofNat s1)), .unset, .unset, .unset, .unset, .unset, .unset, .unset, .unset, .unset, .unset, .unset, .unset, .unset, .unset, .unset, .unset, .unset, .unset, .unset, .unset, .unset, .unset] [(.int (y3 &&& (2147483647 : Int32)))])) _
      refine XS.iconst X.here hx rfl (hb hby at_20) ?_
      show Steps p.tables e below (s₁.setTop (mkF m 21 #[.val (.int y0), .val (.int y1), .val (.int y2), .val (.int y3), .val (.int y4), .val (.int y5), .val (.int (Int32.ofNat f1)), .val (.int (Int32.ofNat s1)), .unset, .unset, .unset, .unset, .unset, .unset, .unset, .unset, .unset, .unset, .unset, .unset, .unset, .unset, .unset, .unset, .unset, .unset, .unset, .unset, .unset, .unset] [(.int (3 : Int32)), (.int (y3 &&& (2147483647 : Int32)))])) _
      refine XS.irem X.here hx rfl (hb hby at_21) rfl (by decide) ?_
      exact k)
  obtain ⟨f2, hf2, ex_f2⟩ := own_r3 y3
  have st : ∀ t, Steps p.tables e below (s₁.setTop (mkF m 22 #[.val (.int y0), .val (.int y1), .val (.int y2), .val (.int y3), .val (.int y4), .val (.int y5), .val (.int (Int32.ofNat f1)), .val (.int (Int32.ofNat s1)), .unset, .unset, .unset, .unset, .unset, .unset, .unset, .unset, .unset, .unset, .unset, .unset, .unset, .unset, .unset, .unset, .unset, .unset, .unset, .unset, .unset, .unset] [(.int (Int32.ofNat f2))])) t → Steps p.tables e below (s₁.setTop (mkF m 0 #[.val (.int y0), .val (.int y1), .val (.int y2), .val (.int y3), .val (.int y4), .val (.int y5), .unset, .unset, .unset, .unset, .unset, .unset, .unset, .unset, .unset, .unset, .unset, .unset, .unset, .unset, .unset, .unset, .unset, .unset, .unset, .unset, .unset, .unset, .unset, .unset] [])) t := by rw [← ex_f2]; exact st
  have st : ∀ t, Steps p.tables e below (s₁.setTop (mkF m 31 #[.val (.int y0), .val (.int y1), .val (.int y2), .val (.int y3), .val (.int y4), .val (.int y5), .val (.int (Int32.ofNat f1)), .val (.int (Int32.ofNat s1)), .val (.int (Int32.ofNat f2)), .unset, .unset, .unset, .unset, .unset, .unset, .unset, .unset, .unset, .unset, .unset, .unset, .unset, .unset, .unset, .unset, .unset, .unset, .unset, .unset, .unset] [(.int ((y4 &&& (2147483647 : Int32)) - ((y4 &&& (2147483647 : Int32)) / (3 : Int32)) * (3 : Int32)))])) t → Steps p.tables e below (s₁.setTop (mkF m 0 #[.val (.int y0), .val (.int y1), .val (.int y2), .val (.int y3), .val (.int y4), .val (.int y5), .unset, .unset, .unset, .unset, .unset, .unset, .unset, .unset, .unset, .unset, .unset, .unset, .unset, .unset, .unset, .unset, .unset, .unset, .unset, .unset, .unset, .unset, .unset, .unset] [])) t := fun t k => st t (by
      show Steps p.tables e below (s₁.setTop (mkF m 22 #[.val (.int y0), .val (.int y1), .val (.int y2), .val (.int y3), .val (.int y4), .val (.int y5), .val (.int (Int32.ofNat f1)), .val (.int (Int32.ofNat s1)), .unset, .unset, .unset, .unset, .unset, .unset, .unset, .unset, .unset, .unset, .unset, .unset, .unset, .unset, .unset, .unset, .unset, .unset, .unset, .unset, .unset, .unset] [(.int (Int32.ofNat f2))])) _
      refine XS.istore X.here hx rfl (hb hby at_22) rfl (l' := #[.val (.int y0), .val (.int y1), .val (.int y2), .val (.int y3), .val (.int y4), .val (.int y5), .val (.int (Int32.ofNat f1)), .val (.int (Int32.ofNat s1)), .val (.int (Int32.ofNat f2)), .unset, .unset, .unset, .unset, .unset, .unset, .unset, .unset, .unset, .unset, .unset, .unset, .unset, .unset, .unset, .unset, .unset, .unset, .unset, .unset, .unset]) rfl ?_
      show Steps p.tables e below (s₁.setTop (mkF m 24 #[.val (.int y0), .val (.int y1), .val (.int y2), .val (.int y3), .val (.int y4), .val (.int y5), .val (.int (Int32.ofNat f1)), .val (.int (Int32.ofNat s1)), .val (.int (Int32.ofNat f2)), .unset, .unset, .unset, .unset, .unset, .unset, .unset, .unset, .unset, .unset, .unset, .unset, .unset, .unset, .unset, .unset, .unset, .unset, .unset, .unset, .unset] [])) _
      refine XS.iload X.here hx rfl (hb hby at_24) rfl ?_
      show Steps p.tables e below (s₁.setTop (mkF m 26 #[.val (.int y0), .val (.int y1), .val (.int y2), .val (.int y3), .val (.int y4), .val (.int y5), .val (.int (Int32.ofNat f1)), .val (.int (Int32.ofNat s1)), .val (.int (Int32.ofNat f2)), .unset, .unset, .unset, .unset, .unset, .unset, .unset, .unset, .unset, .unset, .unset, .unset, .unset, .unset, .unset, .unset, .unset, .unset, .unset, .unset, .unset] [(.int y4)])) _
      refine X.ldcInt hx hown (mvT hZ (hw _ (List.mem_of_getElem? (i := 0) rfl))) (g := (mkF m 26 #[.val (.int y0), .val (.int y1), .val (.int y2), .val (.int y3), .val (.int y4), .val (.int y5), .val (.int (Int32.ofNat f1)), .val (.int (Int32.ofNat s1)), .val (.int (Int32.ofNat f2)), .unset, .unset, .unset, .unset, .unset, .unset, .unset, .unset, .unset, .unset, .unset, .unset, .unset, .unset, .unset, .unset, .unset, .unset, .unset, .unset, .unset] [(.int y4)])) rfl (hb hby at_26) _ ?_
      show Steps p.tables e below (s₁.setTop (mkF m 28 #[.val (.int y0), .val (.int y1), .val (.int y2), .val (.int y3), .val (.int y4), .val (.int y5), .val (.int (Int32.ofNat f1)), .val (.int (Int32.ofNat s1)), .val (.int (Int32.ofNat f2)), .unset, .unset, .unset, .unset, .unset, .unset, .unset, .unset, .unset, .unset, .unset, .unset, .unset, .unset, .unset, .unset, .unset, .unset, .unset, .unset, .unset] [(.int (2147483647 : Int32)), (.int y4)])) _
      refine XS.iand X.here hx rfl (hb hby at_28) rfl ?_
      show Steps p.tables e below (s₁.setTop (mkF m 29 #[.val (.int y0), .val (.int y1), .val (.int y2), .val (.int y3), .val (.int y4), .val (.int y5), .val (.int (Int32.ofNat f1)), .val (.int (Int32.ofNat s1)), .val (.int (Int32.ofNat f2)), .unset, .unset, .unset, .unset, .unset, .unset, .unset, .unset, .unset, .unset, .unset, .unset, .unset, .unset, .unset, .unset, .unset, .unset, .unset, .unset, .unset] [(.int (y4 &&& (2147483647 : Int32)))])) _
      refine XS.iconst X.here hx rfl (hb hby at_29) ?_
      show Steps p.tables e below (s₁.setTop (mkF m 30 #[.val (.int y0), .val (.int y1), .val (.int y2), .val (.int y3), .val (.int y4), .val (.int y5), .val (.int (Int32.ofNat f1)), .val (.int (Int32.ofNat s1)), .val (.int (Int32.ofNat f2)), .unset, .unset, .unset, .unset, .unset, .unset, .unset, .unset, .unset, .unset, .unset, .unset, .unset, .unset, .unset, .unset, .unset, .unset, .unset, .unset, .unset] [(.int (3 : Int32)), (.int (y4 &&& (2147483647 : Int32)))])) _
      refine XS.irem X.here hx rfl (hb hby at_30) rfl (by decide) ?_
      exact k)
  obtain ⟨s2, hs2, ex_s2⟩ := own_r3 y4
  have st : ∀ t, Steps p.tables e below (s₁.setTop (mkF m 31 #[.val (.int y0), .val (.int y1), .val (.int y2), .val (.int y3), .val (.int y4), .val (.int y5), .val (.int (Int32.ofNat f1)), .val (.int (Int32.ofNat s1)), .val (.int (Int32.ofNat f2)), .unset, .unset, .unset, .unset, .unset, .unset, .unset, .unset, .unset, .unset, .unset, .unset, .unset, .unset, .unset, .unset, .unset, .unset, .unset, .unset, .unset] [(.int (Int32.ofNat s2))])) t → Steps p.tables e below (s₁.setTop (mkF m 0 #[.val (.int y0), .val (.int y1), .val (.int y2), .val (.int y3), .val (.int y4), .val (.int y5), .unset, .unset, .unset, .unset, .unset, .unset, .unset, .unset, .unset, .unset, .unset, .unset, .unset, .unset, .unset, .unset, .unset, .unset, .unset, .unset, .unset, .unset, .unset, .unset] [])) t := by rw [← ex_s2]; exact st
  have st : ∀ t, Steps p.tables e below (s₁.setTop (mkF m 36 #[.val (.int y0), .val (.int y1), .val (.int y2), .val (.int y3), .val (.int y4), .val (.int y5), .val (.int (Int32.ofNat f1)), .val (.int (Int32.ofNat s1)), .val (.int (Int32.ofNat f2)), .val (.int (Int32.ofNat s2)), .unset, .unset, .unset, .unset, .unset, .unset, .unset, .unset, .unset, .unset, .unset, .unset, .unset, .unset, .unset, .unset, .unset, .unset, .unset, .unset] [(.int (y2 &&& (3 : Int32)))])) t → Steps p.tables e below (s₁.setTop (mkF m 0 #[.val (.int y0), .val (.int y1), .val (.int y2), .val (.int y3), .val (.int y4), .val (.int y5), .unset, .unset, .unset, .unset, .unset, .unset, .unset, .unset, .unset, .unset, .unset, .unset, .unset, .unset, .unset, .unset, .unset, .unset, .unset, .unset, .unset, .unset, .unset, .unset] [])) t := fun t k => st t (by
      show Steps p.tables e below (s₁.setTop (mkF m 31 #[.val (.int y0), .val (.int y1), .val (.int y2), .val (.int y3), .val (.int y4), .val (.int y5), .val (.int (Int32.ofNat f1)), .val (.int (Int32.ofNat s1)), .val (.int (Int32.ofNat f2)), .unset, .unset, .unset, .unset, .unset, .unset, .unset, .unset, .unset, .unset, .unset, .unset, .unset, .unset, .unset, .unset, .unset, .unset, .unset, .unset, .unset] [(.int (Int32.ofNat s2))])) _
      refine XS.istore X.here hx rfl (hb hby at_31) rfl (l' := #[.val (.int y0), .val (.int y1), .val (.int y2), .val (.int y3), .val (.int y4), .val (.int y5), .val (.int (Int32.ofNat f1)), .val (.int (Int32.ofNat s1)), .val (.int (Int32.ofNat f2)), .val (.int (Int32.ofNat s2)), .unset, .unset, .unset, .unset, .unset, .unset, .unset, .unset, .unset, .unset, .unset, .unset, .unset, .unset, .unset, .unset, .unset, .unset, .unset, .unset]) rfl ?_
      show Steps p.tables e below (s₁.setTop (mkF m 33 #[.val (.int y0), .val (.int y1), .val (.int y2), .val (.int y3), .val (.int y4), .val (.int y5), .val (.int (Int32.ofNat f1)), .val (.int (Int32.ofNat s1)), .val (.int (Int32.ofNat f2)), .val (.int (Int32.ofNat s2)), .unset, .unset, .unset, .unset, .unset, .unset, .unset, .unset, .unset, .unset, .unset, .unset, .unset, .unset, .unset, .unset, .unset, .unset, .unset, .unset] [])) _
      refine XS.iloadN X.here hx rfl (hb hby at_33) rfl ?_
      show Steps p.tables e below (s₁.setTop (mkF m 34 #[.val (.int y0), .val (.int y1), .val (.int y2), .val (.int y3), .val (.int y4), .val (.int y5), .val (.int (Int32.ofNat f1)), .val (.int (Int32.ofNat s1)), .val (.int (Int32.ofNat f2)), .val (.int (Int32.ofNat s2)), .unset, .unset, .unset, .unset, .unset, .unset, .unset, .unset, .unset, .unset, .unset, .unset, .unset, .unset, .unset, .unset, .unset, .unset, .unset, .unset] [(.int y2)])) _
      refine XS.iconst X.here hx rfl (hb hby at_34) ?_
      show Steps p.tables e below (s₁.setTop (mkF m 35 #[.val (.int y0), .val (.int y1), .val (.int y2), .val (.int y3), .val (.int y4), .val (.int y5), .val (.int (Int32.ofNat f1)), .val (.int (Int32.ofNat s1)), .val (.int (Int32.ofNat f2)), .val (.int (Int32.ofNat s2)), .unset, .unset, .unset, .unset, .unset, .unset, .unset, .unset, .unset, .unset, .unset, .unset, .unset, .unset, .unset, .unset, .unset, .unset, .unset, .unset] [(.int (3 : Int32)), (.int y2)])) _
      refine XS.iand X.here hx rfl (hb hby at_35) rfl ?_
      exact k)
  obtain ⟨n1, hn1, ex_n1⟩ := own_m3 y2
  have st : ∀ t, Steps p.tables e below (s₁.setTop (mkF m 36 #[.val (.int y0), .val (.int y1), .val (.int y2), .val (.int y3), .val (.int y4), .val (.int y5), .val (.int (Int32.ofNat f1)), .val (.int (Int32.ofNat s1)), .val (.int (Int32.ofNat f2)), .val (.int (Int32.ofNat s2)), .unset, .unset, .unset, .unset, .unset, .unset, .unset, .unset, .unset, .unset, .unset, .unset, .unset, .unset, .unset, .unset, .unset, .unset, .unset, .unset] [(.int (Int32.ofNat n1))])) t → Steps p.tables e below (s₁.setTop (mkF m 0 #[.val (.int y0), .val (.int y1), .val (.int y2), .val (.int y3), .val (.int y4), .val (.int y5), .unset, .unset, .unset, .unset, .unset, .unset, .unset, .unset, .unset, .unset, .unset, .unset, .unset, .unset, .unset, .unset, .unset, .unset, .unset, .unset, .unset, .unset, .unset, .unset] [])) t := by rw [← ex_n1]; exact st
  have st : ∀ t, Steps p.tables e below (s₁.setTop (mkF m 43 #[.val (.int y0), .val (.int y1), .val (.int y2), .val (.int y3), .val (.int y4), .val (.int y5), .val (.int (Int32.ofNat f1)), .val (.int (Int32.ofNat s1)), .val (.int (Int32.ofNat f2)), .val (.int (Int32.ofNat s2)), .val (.int (Int32.ofNat n1)), .unset, .unset, .unset, .unset, .unset, .unset, .unset, .unset, .unset, .unset, .unset, .unset, .unset, .unset, .unset, .unset, .unset, .unset, .unset] [(.int (((y2.toUInt32 >>> ((2 : Int32) &&& 31).toUInt32).toInt32) &&& (3 : Int32)))])) t → Steps p.tables e below (s₁.setTop (mkF m 0 #[.val (.int y0), .val (.int y1), .val (.int y2), .val (.int y3), .val (.int y4), .val (.int y5), .unset, .unset, .unset, .unset, .unset, .unset, .unset, .unset, .unset, .unset, .unset, .unset, .unset, .unset, .unset, .unset, .unset, .unset, .unset, .unset, .unset, .unset, .unset, .unset] [])) t := fun t k => st t (by
      show Steps p.tables e below (s₁.setTop (mkF m 36 #[.val (.int y0), .val (.int y1), .val (.int y2), .val (.int y3), .val (.int y4), .val (.int y5), .val (.int (Int32.ofNat f1)), .val (.int (Int32.ofNat s1)), .val (.int (Int32.ofNat f2)), .val (.int (Int32.ofNat s2)), .unset, .unset, .unset, .unset, .unset, .unset, .unset, .unset, .unset, .unset, .unset, .unset, .unset, .unset, .unset, .unset, .unset, .unset, .unset, .unset] [(.int (Int32.ofNat n1))])) _
      refine XS.istore X.here hx rfl (hb hby at_36) rfl (l' := #[.val (.int y0), .val (.int y1), .val (.int y2), .val (.int y3), .val (.int y4), .val (.int y5), .val (.int (Int32.ofNat f1)), .val (.int (Int32.ofNat s1)), .val (.int (Int32.ofNat f2)), .val (.int (Int32.ofNat s2)), .val (.int (Int32.ofNat n1)), .unset, .unset, .unset, .unset, .unset, .unset, .unset, .unset, .unset, .unset, .unset, .unset, .unset, .unset, .unset, .unset, .unset, .unset, .unset]) rfl ?_
      show Steps p.tables e below (s₁.setTop (mkF m 38 #[.val (.int y0), .val (.int y1), .val (.int y2), .val (.int y3), .val (.int y4), .val (.int y5), .val (.int (Int32.ofNat f1)), .val (.int (Int32.ofNat s1)), .val (.int (Int32.ofNat f2)), .val (.int (Int32.ofNat s2)), .val (.int (Int32.ofNat n1)), .unset, .unset, .unset, .unset, .unset, .unset, .unset, .unset, .unset, .unset, .unset, .unset, .unset, .unset, .unset, .unset, .unset, .unset, .unset] [])) _
      refine XS.iloadN X.here hx rfl (hb hby at_38) rfl ?_
      show Steps p.tables e below (s₁.setTop (mkF m 39 #[.val (.int y0), .val (.int y1), .val (.int y2), .val (.int y3), .val (.int y4), .val (.int y5), .val (.int (Int32.ofNat f1)), .val (.int (Int32.ofNat s1)), .val (.int (Int32.ofNat f2)), .val (.int (Int32.ofNat s2)), .val (.int (Int32.ofNat n1)), .unset, .unset, .unset, .unset, .unset, .unset, .unset, .unset, .unset, .unset, .unset, .unset, .unset, .unset, .unset, .unset, .unset, .unset, .unset] [(.int y2)])) _
      refine XS.iconst X.here hx rfl (hb hby at_39) ?_
      show Steps p.tables e below (s₁.setTop (mkF m 40 #[.val (.int y0), .val (.int y1), .val (.int y2), .val (.int y3), .val (.int y4), .val (.int y5), .val (.int (Int32.ofNat f1)), .val (.int (Int32.ofNat s1)), .val (.int (Int32.ofNat f2)), .val (.int (Int32.ofNat s2)), .val (.int (Int32.ofNat n1)), .unset, .unset, .unset, .unset, .unset, .unset, .unset, .unset, .unset, .unset, .unset, .unset, .unset, .unset, .unset, .unset, .unset, .unset, .unset] [(.int (2 : Int32)), (.int y2)])) _
      refine XS.iushr X.here hx rfl (hb hby at_40) rfl ?_
      show Steps p.tables e below (s₁.setTop (mkF m 41 #[.val (.int y0), .val (.int y1), .val (.int y2), .val (.int y3), .val (.int y4), .val (.int y5), .val (.int (Int32.ofNat f1)), .val (.int (Int32.ofNat s1)), .val (.int (Int32.ofNat f2)), .val (.int (Int32.ofNat s2)), .val (.int (Int32.ofNat n1)), .unset, .unset, .unset, .unset, .unset, .unset, .unset, .unset, .unset, .unset, .unset, .unset, .unset, .unset, .unset, .unset, .unset, .unset, .unset] [(.int ((y2.toUInt32 >>> ((2 : Int32) &&& 31).toUInt32).toInt32))])) _
      refine XS.iconst X.here hx rfl (hb hby at_41) ?_
      show Steps p.tables e below (s₁.setTop (mkF m 42 #[.val (.int y0), .val (.int y1), .val (.int y2), .val (.int y3), .val (.int y4), .val (.int y5), .val (.int (Int32.ofNat f1)), .val (.int (Int32.ofNat s1)), .val (.int (Int32.ofNat f2)), .val (.int (Int32.ofNat s2)), .val (.int (Int32.ofNat n1)), .unset, .unset, .unset, .unset, .unset, .unset, .unset, .unset, .unset, .unset, .unset, .unset, .unset, .unset, .unset, .unset, .unset, .unset, .unset] [(.int (3 : Int32)), (.int ((y2.toUInt32 >>> ((2 : Int32) &&& 31).toUInt32).toInt32))])) _
      refine XS.iand X.here hx rfl (hb hby at_42) rfl ?_
      exact k)
  obtain ⟨n2, hn2, ex_n2⟩ := own_m3 ((y2.toUInt32 >>> ((2 : Int32) &&& 31).toUInt32).toInt32)
  have st : ∀ t, Steps p.tables e below (s₁.setTop (mkF m 43 #[.val (.int y0), .val (.int y1), .val (.int y2), .val (.int y3), .val (.int y4), .val (.int y5), .val (.int (Int32.ofNat f1)), .val (.int (Int32.ofNat s1)), .val (.int (Int32.ofNat f2)), .val (.int (Int32.ofNat s2)), .val (.int (Int32.ofNat n1)), .unset, .unset, .unset, .unset, .unset, .unset, .unset, .unset, .unset, .unset, .unset, .unset, .unset, .unset, .unset, .unset, .unset, .unset, .unset] [(.int (Int32.ofNat n2))])) t → Steps p.tables e below (s₁.setTop (mkF m 0 #[.val (.int y0), .val (.int y1), .val (.int y2), .val (.int y3), .val (.int y4), .val (.int y5), .unset, .unset, .unset, .unset, .unset, .unset, .unset, .unset, .unset, .unset, .unset, .unset, .unset, .unset, .unset, .unset, .unset, .unset, .unset, .unset, .unset, .unset, .unset, .unset] [])) t := by rw [← ex_n2]; exact st
  have st : ∀ t, Steps p.tables e below (s₁.setTop (mkF m 50 #[.val (.int y0), .val (.int y1), .val (.int y2), .val (.int y3), .val (.int y4), .val (.int y5), .val (.int (Int32.ofNat f1)), .val (.int (Int32.ofNat s1)), .val (.int (Int32.ofNat f2)), .val (.int (Int32.ofNat s2)), .val (.int (Int32.ofNat n1)), .val (.int (Int32.ofNat n2)), .unset, .unset, .unset, .unset, .unset, .unset, .unset, .unset, .unset, .unset, .unset, .unset, .unset, .unset, .unset, .unset, .unset, .unset] [(.int (((y2.toUInt32 >>> ((4 : Int32) &&& 31).toUInt32).toInt32) &&& (3 : Int32)))])) t → Steps p.tables e below (s₁.setTop (mkF m 0 #[.val (.int y0), .val (.int y1), .val (.int y2), .val (.int y3), .val (.int y4), .val (.int y5), .unset, .unset, .unset, .unset, .unset, .unset, .unset, .unset, .unset, .unset, .unset, .unset, .unset, .unset, .unset, .unset, .unset, .unset, .unset, .unset, .unset, .unset, .unset, .unset] [])) t := fun t k => st t (by
      show Steps p.tables e below (s₁.setTop (mkF m 43 #[.val (.int y0), .val (.int y1), .val (.int y2), .val (.int y3), .val (.int y4), .val (.int y5), .val (.int (Int32.ofNat f1)), .val (.int (Int32.ofNat s1)), .val (.int (Int32.ofNat f2)), .val (.int (Int32.ofNat s2)), .val (.int (Int32.ofNat n1)), .unset, .unset, .unset, .unset, .unset, .unset, .unset, .unset, .unset, .unset, .unset, .unset, .unset, .unset, .unset, .unset, .unset, .unset, .unset] [(.int (Int32.ofNat n2))])) _
      refine XS.istore X.here hx rfl (hb hby at_43) rfl (l' := #[.val (.int y0), .val (.int y1), .val (.int y2), .val (.int y3), .val (.int y4), .val (.int y5), .val (.int (Int32.ofNat f1)), .val (.int (Int32.ofNat s1)), .val (.int (Int32.ofNat f2)), .val (.int (Int32.ofNat s2)), .val (.int (Int32.ofNat n1)), .val (.int (Int32.ofNat n2)), .unset, .unset, .unset, .unset, .unset, .unset, .unset, .unset, .unset, .unset, .unset, .unset, .unset, .unset, .unset, .unset, .unset, .unset]) rfl ?_
      show Steps p.tables e below (s₁.setTop (mkF m 45 #[.val (.int y0), .val (.int y1), .val (.int y2), .val (.int y3), .val (.int y4), .val (.int y5), .val (.int (Int32.ofNat f1)), .val (.int (Int32.ofNat s1)), .val (.int (Int32.ofNat f2)), .val (.int (Int32.ofNat s2)), .val (.int (Int32.ofNat n1)), .val (.int (Int32.ofNat n2)), .unset, .unset, .unset, .unset, .unset, .unset, .unset, .unset, .unset, .unset, .unset, .unset, .unset, .unset, .unset, .unset, .unset, .unset] [])) _
      refine XS.iloadN X.here hx rfl (hb hby at_45) rfl ?_
      show Steps p.tables e below (s₁.setTop (mkF m 46 #[.val (.int y0), .val (.int y1), .val (.int y2), .val (.int y3), .val (.int y4), .val (.int y5), .val (.int (Int32.ofNat f1)), .val (.int (Int32.ofNat s1)), .val (.int (Int32.ofNat f2)), .val (.int (Int32.ofNat s2)), .val (.int (Int32.ofNat n1)), .val (.int (Int32.ofNat n2)), .unset, .unset, .unset, .unset, .unset, .unset, .unset, .unset, .unset, .unset, .unset, .unset, .unset, .unset, .unset, .unset, .unset, .unset] [(.int y2)])) _
      refine XS.iconst X.here hx rfl (hb hby at_46) ?_
      show Steps p.tables e below (s₁.setTop (mkF m 47 #[.val (.int y0), .val (.int y1), .val (.int y2), .val (.int y3), .val (.int y4), .val (.int y5), .val (.int (Int32.ofNat f1)), .val (.int (Int32.ofNat s1)), .val (.int (Int32.ofNat f2)), .val (.int (Int32.ofNat s2)), .val (.int (Int32.ofNat n1)), .val (.int (Int32.ofNat n2)), .unset, .unset, .unset, .unset, .unset, .unset, .unset, .unset, .unset, .unset, .unset, .unset, .unset, .unset, .unset, .unset, .unset, .unset] [(.int (4 : Int32)), (.int y2)])) _
      refine XS.iushr X.here hx rfl (hb hby at_47) rfl ?_
      show Steps p.tables e below (s₁.setTop (mkF m 48 #[.val (.int y0), .val (.int y1), .val (.int y2), .val (.int y3), .val (.int y4), .val (.int y5), .val (.int (Int32.ofNat f1)), .val (.int (Int32.ofNat s1)), .val (.int (Int32.ofNat f2)), .val (.int (Int32.ofNat s2)), .val (.int (Int32.ofNat n1)), .val (.int (Int32.ofNat n2)), .unset, .unset, .unset, .unset, .unset, .unset, .unset, .unset, .unset, .unset, .unset, .unset, .unset, .unset, .unset, .unset, .unset, .unset] [(.int ((y2.toUInt32 >>> ((4 : Int32) &&& 31).toUInt32).toInt32))])) _
      refine XS.iconst X.here hx rfl (hb hby at_48) ?_
      show Steps p.tables e below (s₁.setTop (mkF m 49 #[.val (.int y0), .val (.int y1), .val (.int y2), .val (.int y3), .val (.int y4), .val (.int y5), .val (.int (Int32.ofNat f1)), .val (.int (Int32.ofNat s1)), .val (.int (Int32.ofNat f2)), .val (.int (Int32.ofNat s2)), .val (.int (Int32.ofNat n1)), .val (.int (Int32.ofNat n2)), .unset, .unset, .unset, .unset, .unset, .unset, .unset, .unset, .unset, .unset, .unset, .unset, .unset, .unset, .unset, .unset, .unset, .unset] [(.int (3 : Int32)), (.int ((y2.toUInt32 >>> ((4 : Int32) &&& 31).toUInt32).toInt32))])) _
      refine XS.iand X.here hx rfl (hb hby at_49) rfl ?_
      exact k)
  obtain ⟨n3, hn3, ex_n3⟩ := own_m3 ((y2.toUInt32 >>> ((4 : Int32) &&& 31).toUInt32).toInt32)
  have st : ∀ t, Steps p.tables e below (s₁.setTop (mkF m 50 #[.val (.int y0), .val (.int y1), .val (.int y2), .val (.int y3), .val (.int y4), .val (.int y5), .val (.int (Int32.ofNat f1)), .val (.int (Int32.ofNat s1)), .val (.int (Int32.ofNat f2)), .val (.int (Int32.ofNat s2)), .val (.int (Int32.ofNat n1)), .val (.int (Int32.ofNat n2)), .unset, .unset, .unset, .unset, .unset, .unset, .unset, .unset, .unset, .unset, .unset, .unset, .unset, .unset, .unset, .unset, .unset, .unset] [(.int (Int32.ofNat n3))])) t → Steps p.tables e below (s₁.setTop (mkF m 0 #[.val (.int y0), .val (.int y1), .val (.int y2), .val (.int y3), .val (.int y4), .val (.int y5), .unset, .unset, .unset, .unset, .unset, .unset, .unset, .unset, .unset, .unset, .unset, .unset, .unset, .unset, .unset, .unset, .unset, .unset, .unset, .unset, .unset, .unset, .unset, .unset] [])) t := by rw [← ex_n3]; exact st
  have st : ∀ t, Steps p.tables e below (s₁.setTop (mkF m 58 #[.val (.int y0), .val (.int y1), .val (.int y2), .val (.int y3), .val (.int y4), .val (.int y5), .val (.int (Int32.ofNat f1)), .val (.int (Int32.ofNat s1)), .val (.int (Int32.ofNat f2)), .val (.int (Int32.ofNat s2)), .val (.int (Int32.ofNat n1)), .val (.int (Int32.ofNat n2)), .val (.int (Int32.ofNat n3)), .unset, .unset, .unset, .unset, .unset, .unset, .unset, .unset, .unset, .unset, .unset, .unset, .unset, .unset, .unset, .unset, .unset] [(.int (((y2.toUInt32 >>> ((6 : Int32) &&& 31).toUInt32).toInt32) &&& (1 : Int32)))])) t → Steps p.tables e below (s₁.setTop (mkF m 0 #[.val (.int y0), .val (.int y1), .val (.int y2), .val (.int y3), .val (.int y4), .val (.int y5), .unset, .unset, .unset, .unset, .unset, .unset, .unset, .unset, .unset, .unset, .unset, .unset, .unset, .unset, .unset, .unset, .unset, .unset, .unset, .unset, .unset, .unset, .unset, .unset] [])) t := fun t k => st t (by
      show Steps p.tables e below (s₁.setTop (mkF m 50 #[.val (.int y0), .val (.int y1), .val (.int y2), .val (.int y3), .val (.int y4), .val (.int y5), .val (.int (Int32.ofNat f1)), .val (.int (Int32.ofNat s1)), .val (.int (Int32.ofNat f2)), .val (.int (Int32.ofNat s2)), .val (.int (Int32.ofNat n1)), .val (.int (Int32.ofNat n2)), .unset, .unset, .unset, .unset, .unset, .unset, .unset, .unset, .unset, .unset, .unset, .unset, .unset, .unset, .unset, .unset, .unset, .unset] [(.int (Int32.ofNat n3))])) _
      refine XS.istore X.here hx rfl (hb hby at_50) rfl (l' := #[.val (.int y0), .val (.int y1), .val (.int y2), .val (.int y3), .val (.int y4), .val (.int y5), .val (.int (Int32.ofNat f1)), .val (.int (Int32.ofNat s1)), .val (.int (Int32.ofNat f2)), .val (.int (Int32.ofNat s2)), .val (.int (Int32.ofNat n1)), .val (.int (Int32.ofNat n2)), .val (.int (Int32.ofNat n3)), .unset, .unset, .unset, .unset, .unset, .unset, .unset, .unset, .unset, .unset, .unset, .unset, .unset, .unset, .unset, .unset, .unset]) rfl ?_
      show Steps p.tables e below (s₁.setTop (mkF m 52 #[.val (.int y0), .val (.int y1), .val (.int y2), .val (.int y3), .val (.int y4), .val (.int y5), .val (.int (Int32.ofNat f1)), .val (.int (Int32.ofNat s1)), .val (.int (Int32.ofNat f2)), .val (.int (Int32.ofNat s2)), .val (.int (Int32.ofNat n1)), .val (.int (Int32.ofNat n2)), .val (.int (Int32.ofNat n3)), .unset, .unset, .unset, .unset, .unset, .unset, .unset, .unset, .unset, .unset, .unset, .unset, .unset, .unset, .unset, .unset, .unset] [])) _
      refine XS.iloadN X.here hx rfl (hb hby at_52) rfl ?_
      show Steps p.tables e below (s₁.setTop (mkF m 53 #[.val (.int y0), .val (.int y1), .val (.int y2), .val (.int y3), .val (.int y4), .val (.int y5), .val (.int (Int32.ofNat f1)), .val (.int (Int32.ofNat s1)), .val (.int (Int32.ofNat f2)), .val (.int (Int32.ofNat s2)), .val (.int (Int32.ofNat n1)), .val (.int (Int32.ofNat n2)), .val (.int (Int32.ofNat n3)), .unset, .unset, .unset, .unset, .unset, .unset, .unset, .unset, .unset, .unset, .unset, .unset, .unset, .unset, .unset, .unset, .unset] [(.int y2)])) _
      refine XS.bipush X.here hx rfl (hb hby at_53) ?_
      show Steps p.tables e below (s₁.setTop (mkF m 55 #[.val (.int y0), .val (.int y1), .val (.int y2), .val (.int y3), .val (.int y4), .val (.int y5), .val (.int (Int32.ofNat f1)), .val (.int (Int32.ofNat s1)), .val (.int (Int32.ofNat f2)), .val (.int (Int32.ofNat s2)), .val (.int (Int32.ofNat n1)), .val (.int (Int32.ofNat n2)), .val (.int (Int32.ofNat n3)), .unset, .unset, .unset, .unset, .unset, .unset, .unset, .unset, .unset, .unset, .unset, .unset, .unset, .unset, .unset, .unset, .unset] [(.int (6 : Int32)), (.int y2)])) _
      refine XS.iushr X.here hx rfl (hb hby at_55) rfl ?_
      show Steps p.tables e below (s₁.setTop (mkF m 56 #[.val (.int y0), .val (.int y1), .val (.int y2), .val (.int y3), .val (.int y4), .val (.int y5), .val (.int (Int32.ofNat f1)), .val (.int (Int32.ofNat s1)), .val (.int (Int32.ofNat f2)), .val (.int (Int32.ofNat s2)), .val (.int (Int32.ofNat n1)), .val (.int (Int32.ofNat n2)), .val (.int (Int32.ofNat n3)), .unset, .unset, .unset, .unset, .unset, .unset, .unset, .unset, .unset, .unset, .unset, .unset, .unset, .unset, .unset, .unset, .unset] [(.int ((y2.toUInt32 >>> ((6 : Int32) &&& 31).toUInt32).toInt32))])) _
      refine XS.iconst X.here hx rfl (hb hby at_56) ?_
      show Steps p.tables e below (s₁.setTop (mkF m 57 #[.val (.int y0), .val (.int y1), .val (.int y2), .val (.int y3), .val (.int y4), .val (.int y5), .val (.int (Int32.ofNat f1)), .val (.int (Int32.ofNat s1)), .val (.int (Int32.ofNat f2)), .val (.int (Int32.ofNat s2)), .val (.int (Int32.ofNat n1)), .val (.int (Int32.ofNat n2)), .val (.int (Int32.ofNat n3)), .unset, .unset, .unset, .unset, .unset, .unset, .unset, .unset, .unset, .unset, .unset, .unset, .unset, .unset, .unset, .unset, .unset] [(.int (1 : Int32)), (.int ((y2.toUInt32 >>> ((6 : Int32) &&& 31).toUInt32).toInt32))])) _
      refine XS.iand X.here hx rfl (hb hby at_57) rfl ?_
      exact k)
  obtain ⟨a1, ha1, ex_a1⟩ := own_m1 ((y2.toUInt32 >>> ((6 : Int32) &&& 31).toUInt32).toInt32)
  have st : ∀ t, Steps p.tables e below (s₁.setTop (mkF m 58 #[.val (.int y0), .val (.int y1), .val (.int y2), .val (.int y3), .val (.int y4), .val (.int y5), .val (.int (Int32.ofNat f1)), .val (.int (Int32.ofNat s1)), .val (.int (Int32.ofNat f2)), .val (.int (Int32.ofNat s2)), .val (.int (Int32.ofNat n1)), .val (.int (Int32.ofNat n2)), .val (.int (Int32.ofNat n3)), .unset, .unset, .unset, .unset, .unset, .unset, .unset, .unset, .unset, .unset, .unset, .unset, .unset, .unset, .unset, .unset, .unset] [(.int (Int32.ofNat a1))])) t → Steps p.tables e below (s₁.setTop (mkF m 0 #[.val (.int y0), .val (.int y1), .val (.int y2), .val (.int y3), .val (.int y4), .val (.int y5), .unset, .unset, .unset, .unset, .unset, .unset, .unset, .unset, .unset, .unset, .unset, .unset, .unset, .unset, .unset, .unset, .unset, .unset, .unset, .unset, .unset, .unset, .unset, .unset] [])) t := by rw [← ex_a1]; exact st
  have st : ∀ t, Steps p.tables e below (s₁.setTop (mkF m 66 #[.val (.int y0), .val (.int y1), .val (.int y2), .val (.int y3), .val (.int y4), .val (.int y5), .val (.int (Int32.ofNat f1)), .val (.int (Int32.ofNat s1)), .val (.int (Int32.ofNat f2)), .val (.int (Int32.ofNat s2)), .val (.int (Int32.ofNat n1)), .val (.int (Int32.ofNat n2)), .val (.int (Int32.ofNat n3)), .val (.int (Int32.ofNat a1)), .unset, .unset, .unset, .unset, .unset, .unset, .unset, .unset, .unset, .unset, .unset, .unset, .unset, .unset, .unset, .unset] [(.int (((y2.toUInt32 >>> ((7 : Int32) &&& 31).toUInt32).toInt32) &&& (3 : Int32)))])) t → Steps p.tables e below (s₁.setTop (mkF m 0 #[.val (.int y0), .val (.int y1), .val (.int y2), .val (.int y3), .val (.int y4), .val (.int y5), .unset, .unset, .unset, .unset, .unset, .unset, .unset, .unset, .unset, .unset, .unset, .unset, .unset, .unset, .unset, .unset, .unset, .unset, .unset, .unset, .unset, .unset, .unset, .unset] [])) t := fun t k => st t (by
      show Steps p.tables e below (s₁.setTop (mkF m 58 #[.val (.int y0), .val (.int y1), .val (.int y2), .val (.int y3), .val (.int y4), .val (.int y5), .val (.int (Int32.ofNat f1)), .val (.int (Int32.ofNat s1)), .val (.int (Int32.ofNat f2)), .val (.int (Int32.ofNat s2)), .val (.int (Int32.ofNat n1)), .val (.int (Int32.ofNat n2)), .val (.int (Int32.ofNat n3)), .unset, .unset, .unset, .unset, .unset, .unset, .unset, .unset, .unset, .unset, .unset, .unset, .unset, .unset, .unset, .unset, .unset] [(.int (Int32.ofNat a1))])) _
      refine XS.istore X.here hx rfl (hb hby at_58) rfl (l' := #[.val (.int y0), .val (.int y1), .val (.int y2), .val (.int y3), .val (.int y4), .val (.int y5), .val (.int (Int32.ofNat f1)), .val (.int (Int32.ofNat s1)), .val (.int (Int32.ofNat f2)), .val (.int (Int32.ofNat s2)), .val (.int (Int32.ofNat n1)), .val (.int (Int32.ofNat n2)), .val (.int (Int32.ofNat n3)), .val (.int (Int32.ofNat a1)), .unset, .unset, .unset, .unset, .unset, .unset, .unset, .unset, .unset, .unset, .unset, .unset, .unset, .unset, .unset, .unset]) rfl ?_
      show Steps p.tables e below (s₁.setTop (mkF m 60 #[.val (.int y0), .val (.int y1), .val (.int y2), .val (.int y3), .val (.int y4), .val (.int y5), .val (.int (Int32.ofNat f1)), .val (.int (Int32.ofNat s1)), .val (.int (Int32.ofNat f2)), .val (.int (Int32.ofNat s2)), .val (.int (Int32.ofNat n1)), .val (.int (Int32.ofNat n2)), .val (.int (Int32.ofNat n3)), .val (.int (Int32.ofNat a1)), .unset, .unset, .unset, .unset, .unset, .unset, .unset, .unset, .unset, .unset, .unset, .unset, .unset, .unset, .unset, .unset] [])) _
      refine XS.iloadN X.here hx rfl (hb hby at_60) rfl ?_
      show Steps p.tables e below (s₁.setTop (mkF m 61 #[.val (.int y0), .val (.int y1), .val (.int y2), .val (.int y3), .val (.int y4), .val (.int y5), .val (.int (Int32.ofNat f1)), .val (.int (Int32.ofNat s1)), .val (.int (Int32.ofNat f2)), .val (.int (Int32.ofNat s2)), .val (.int (Int32.ofNat n1)), .val (.int (Int32.ofNat n2)), .val (.int (Int32.ofNat n3)), .val (.int (Int32.ofNat a1)), .unset, .unset, .unset, .unset, .unset, .unset, .unset, .unset, .unset, .unset, .unset, .unset, .unset, .unset, .unset, .unset] [(.int y2)])) _
      refine XS.bipush X.here hx rfl (hb hby at_61) ?_
      show Steps p.tables e below (s₁.setTop (mkF m 63 #[.val (.int y0), .val (.int y1), .val (.int y2), .val (.int y3), .val (.int y4), .val (.int y5), .val (.int (Int32.ofNat f1)), .val (.int (Int32.ofNat s1)), .val (.int (Int32.ofNat f2)), .val (.int (Int32.ofNat s2)), .val (.int (Int32.ofNat n1)), .val (.int (Int32.ofNat n2)), .val (.int (Int32.ofNat n3)), .val (.int (Int32.ofNat a1)), .unset, .unset, .unset, .unset, .unset, .unset, .unset, .unset, .unset, .unset, .unset, .unset, .unset, .unset, .unset, .unset] [(.int (7 : Int32)), (.int y2)])) _
      refine XS.iushr X.here hx rfl (hb hby at_63) rfl ?_
      show Steps p.tables e below (s₁.setTop (mkF m 64 #[.val (.int y0), .val (.int y1), .val (.int y2), .val (.int y3), .val (.int y4), .val (.int y5), .val (.int (Int32.ofNat f1)), .val (.int (Int32.ofNat s1)), .val (.int (Int32.ofNat f2)), .val (.int (Int32.ofNat s2)), .val (.int (Int32.ofNat n1)), .val (.int (Int32.ofNat n2)), .val (.int (Int32.ofNat n3)), .val (.int (Int32.ofNat a1)), .unset, .unset, .unset, .unset, .unset, .unset, .unset, .unset, .unset, .unset, .unset, .unset, .unset, .unset, .unset, .unset] [(.int ((y2.toUInt32 >>> ((7 : Int32) &&& 31).toUInt32).toInt32))])) _
      refine XS.iconst X.here hx rfl (hb hby at_64) ?_
      show Steps p.tables e below (s₁.setTop (mkF m 65 #[.val (.int y0), .val (.int y1), .val (.int y2), .val (.int y3), .val (.int y4), .val (.int y5), .val (.int (Int32.ofNat f1)), .val (.int (Int32.ofNat s1)), .val (.int (Int32.ofNat f2)), .val (.int (Int32.ofNat s2)), .val (.int (Int32.ofNat n1)), .val (.int (Int32.ofNat n2)), .val (.int (Int32.ofNat n3)), .val (.int (Int32.ofNat a1)), .unset, .unset, .unset, .unset, .unset, .unset, .unset, .unset, .unset, .unset, .unset, .unset, .unset, .unset, .unset, .unset] [(.int (3 : Int32)), (.int ((y2.toUInt32 >>> ((7 : Int32) &&& 31).toUInt32).toInt32))])) _
      refine XS.iand X.here hx rfl (hb hby at_65) rfl ?_
      exact k)
  obtain ⟨a2, ha2, ex_a2⟩ := own_m3 ((y2.toUInt32 >>> ((7 : Int32) &&& 31).toUInt32).toInt32)
  have st : ∀ t, Steps p.tables e below (s₁.setTop (mkF m 66 #[.val (.int y0), .val (.int y1), .val (.int y2), .val (.int y3), .val (.int y4), .val (.int y5), .val (.int (Int32.ofNat f1)), .val (.int (Int32.ofNat s1)), .val (.int (Int32.ofNat f2)), .val (.int (Int32.ofNat s2)), .val (.int (Int32.ofNat n1)), .val (.int (Int32.ofNat n2)), .val (.int (Int32.ofNat n3)), .val (.int (Int32.ofNat a1)), .unset, .unset, .unset, .unset, .unset, .unset, .unset, .unset, .unset, .unset, .unset, .unset, .unset, .unset, .unset, .unset] [(.int (Int32.ofNat a2))])) t → Steps p.tables e below (s₁.setTop (mkF m 0 #[.val (.int y0), .val (.int y1), .val (.int y2), .val (.int y3), .val (.int y4), .val (.int y5), .unset, .unset, .unset, .unset, .unset, .unset, .unset, .unset, .unset, .unset, .unset, .unset, .unset, .unset, .unset, .unset, .unset, .unset, .unset, .unset, .unset, .unset, .unset, .unset] [])) t := by rw [← ex_a2]; exact st
  have st : ∀ t, Steps p.tables e below (s₁.setTop (mkF m 74 #[.val (.int y0), .val (.int y1), .val (.int y2), .val (.int y3), .val (.int y4), .val (.int y5), .val (.int (Int32.ofNat f1)), .val (.int (Int32.ofNat s1)), .val (.int (Int32.ofNat f2)), .val (.int (Int32.ofNat s2)), .val (.int (Int32.ofNat n1)), .val (.int (Int32.ofNat n2)), .val (.int (Int32.ofNat n3)), .val (.int (Int32.ofNat a1)), .val (.int (Int32.ofNat a2)), .unset, .unset, .unset, .unset, .unset, .unset, .unset, .unset, .unset, .unset, .unset, .unset, .unset, .unset, .unset] [(.int ((y5 &&& (3 : Int32)) - ((y5 &&& (3 : Int32)) / (3 : Int32)) * (3 : Int32)))])) t → Steps p.tables e below (s₁.setTop (mkF m 0 #[.val (.int y0), .val (.int y1), .val (.int y2), .val (.int y3), .val (.int y4), .val (.int y5), .unset, .unset, .unset, .unset, .unset, .unset, .unset, .unset, .unset, .unset, .unset, .unset, .unset, .unset, .unset, .unset, .unset, .unset, .unset, .unset, .unset, .unset, .unset, .unset] [])) t := fun t k => st t (by
      show Steps p.tables e below (s₁.setTop (mkF m 66 #[.val (.int y0), .val (.int y1), .val (.int y2), .val (.int y3), .val (.int y4), .val (.int y5), .val (.int (Int32.ofNat f1)), .val (.int (Int32.ofNat s1)), .val (.int (Int32.ofNat f2)), .val (.int (Int32.ofNat s2)), .val (.int (Int32.ofNat n1)), .val (.int (Int32.ofNat n2)), .val (.int (Int32.ofNat n3)), .val (.int (Int32.ofNat a1)), .unset, .unset, .unset, .unset, .unset, .unset, .unset, .unset, .unset, .unset, .unset, .unset, .unset, .unset, .unset, .unset] [(.int (Int32.ofNat a2))])) _
      refine XS.istore X.here hx rfl (hb hby at_66) rfl (l' := #[.val (.int y0), .val (.int y1), .val (.int y2), .val (.int y3), .val (.int y4), .val (.int y5), .val (.int (Int32.ofNat f1)), .val (.int (Int32.ofNat s1)), .val (.int (Int32.ofNat f2)), .val (.int (Int32.ofNat s2)), .val (.int (Int32.ofNat n1)), .val (.int (Int32.ofNat n2)), .val (.int (Int32.ofNat n3)), .val (.int (Int32.ofNat a1)), .val (.int (Int32.ofNat a2)), .unset, .unset, .unset, .unset, .unset, .unset, .unset, .unset, .unset, .unset, .unset, .unset, .unset, .unset, .unset]) rfl ?_
      show Steps p.tables e below (s₁.setTop (mkF m 68 #[.val (.int y0), .val (.int y1), .val (.int y2), .val (.int y3), .val (.int y4), .val (.int y5), .val (.int (Int32.ofNat f1)), .val (.int (Int32.ofNat s1)), .val (.int (Int32.ofNat f2)), .val (.int (Int32.ofNat s2)), .val (.int (Int32.ofNat n1)), .val (.int (Int32.ofNat n2)), .val (.int (Int32.ofNat n3)), .val (.int (Int32.ofNat a1)), .val (.int (Int32.ofNat a2)), .unset, .unset, .unset, .unset, .unset, .unset, .unset, .unset, .unset, .unset, .unset, .unset, .unset, .unset, .unset] [])) _
      refine XS.iload X.here hx rfl (hb hby at_68) rfl ?_
      show Steps p.tables e below (s₁.setTop (mkF m 70 #[.val (.int y0), .val (.int y1), .val (.int y2), .val (.int y3), .val (.int y4), .val (.int y5), .val (.int (Int32.ofNat f1)), .val (.int (Int32.ofNat s1)), .val (.int (Int32.ofNat f2)), .val (.int (Int32.ofNat s2)), .val (.int (Int32.ofNat n1)), .val (.int (Int32.ofNat n2)), .val (.int (Int32.ofNat n3)), .val (.int (Int32.ofNat a1)), .val (.int (Int32.ofNat a2)), .unset, .unset, .unset, .unset, .unset, .unset, .unset, .unset, .unset, .unset, .unset, .unset, .unset, .unset, .unset] [(.int y5)])) _
      refine XS.iconst X.here hx rfl (hb hby at_70) ?_
      show Steps p.tables e below (s₁.setTop (mkF m 71 #[.val (.int y0), .val (.int y1), .val (.int y2), .val (.int y3), .val (.int y4), .val (.int y5), .val (.int (Int32.ofNat f1)), .val (.int (Int32.ofNat s1)), .val (.int (Int32.ofNat f2)), .val (.int (Int32.ofNat s2)), .val (.int (Int32.ofNat n1)), .val (.int (Int32.ofNat n2)), .val (.int (Int32.ofNat n3)), .val (.int (Int32.ofNat a1)), .val (.int (Int32.ofNat a2)), .unset, .unset, .unset, .unset, .unset, .unset, .unset, .unset, .unset, .unset, .unset, .unset, .unset, .unset, .unset] [(.int (3 : Int32)), (.int y5)])) _
      refine XS.iand X.here hx rfl (hb hby at_71) rfl ?_
      show Steps p.tables e below (s₁.setTop (mkF m 72 #[.val (.int y0), .val (.int y1), .val (.int y2), .val (.int y3), .val (.int y4), .val (.int y5), .val (.int (Int32.ofNat f1)), .val (.int (Int32.ofNat s1)), .val (.int (Int32.ofNat f2)), .val (.int (Int32.ofNat s2)), .val (.int (Int32.ofNat n1)), .val (.int (Int32.ofNat n2)), .val (.int (Int32.ofNat n3)), .val (.int (Int32.ofNat a1)), .val (.int (Int32.ofNat a2)), .unset, .unset, .unset, .unset, .unset, .unset, .unset, .unset, .unset, .unset, .unset, .unset, .unset, .unset, .unset] [(.int (y5 &&& (3 : Int32)))])) _
      refine XS.iconst X.here hx rfl (hb hby at_72) ?_
      show Steps p.tables e below (s₁.setTop (mkF m 73 #[.val (.int y0), .val (.int y1), .val (.int y2), .val (.int y3), .val (.int y4), .val (.int y5), .val (.int (Int32.ofNat f1)), .val (.int (Int32.ofNat s1)), .val (.int (Int32.ofNat f2)), .val (.int (Int32.ofNat s2)), .val (.int (Int32.ofNat n1)), .val (.int (Int32.ofNat n2)), .val (.int (Int32.ofNat n3)), .val (.int (Int32.ofNat a1)), .val (.int (Int32.ofNat a2)), .unset, .unset, .unset, .unset, .unset, .unset, .unset, .unset, .unset, .unset, .unset, .unset, .unset, .unset, .unset] [(.int (3 : Int32)), (.int (y5 &&& (3 : Int32)))])) _
      refine XS.irem X.here hx rfl (hb hby at_73) rfl (by decide) ?_
      exact k)
  obtain ⟨q, hq, ex_q⟩ := own_r3s y5
  have st : ∀ t, Steps p.tables e below (s₁.setTop (mkF m 74 #[.val (.int y0), .val (.int y1), .val (.int y2), .val (.int y3), .val (.int y4), .val (.int y5), .val (.int (Int32.ofNat f1)), .val (.int (Int32.ofNat s1)), .val (.int (Int32.ofNat f2)), .val (.int (Int32.ofNat s2)), .val (.int (Int32.ofNat n1)), .val (.int (Int32.ofNat n2)), .val (.int (Int32.ofNat n3)), .val (.int (Int32.ofNat a1)), .val (.int (Int32.ofNat a2)), .unset, .unset, .unset, .unset, .unset, .unset, .unset, .unset, .unset, .unset, .unset, .unset, .unset, .unset, .unset] [(.int (Int32.ofNat q))])) t → Steps p.tables e below (s₁.setTop (mkF m 0 #[.val (.int y0), .val (.int y1), .val (.int y2), .val (.int y3), .val (.int y4), .val (.int y5), .unset, .unset, .unset, .unset, .unset, .unset, .unset, .unset, .unset, .unset, .unset, .unset, .unset, .unset, .unset, .unset, .unset, .unset, .unset, .unset, .unset, .unset, .unset, .unset] [])) t := by rw [← ex_q]; exact st
  have st : ∀ t, Steps p.tables e below (s₁.setTop (mkF m 84 #[.val (.int y0), .val (.int y1), .val (.int y2), .val (.int y3), .val (.int y4), .val (.int y5), .val (.int (Int32.ofNat f1)), .val (.int (Int32.ofNat s1)), .val (.int (Int32.ofNat f2)), .val (.int (Int32.ofNat s2)), .val (.int (Int32.ofNat n1)), .val (.int (Int32.ofNat n2)), .val (.int (Int32.ofNat n3)), .val (.int (Int32.ofNat a1)), .val (.int (Int32.ofNat a2)), .val (.int (Int32.ofNat q)), .unset, .unset, .unset, .unset, .unset, .unset, .unset, .unset, .unset, .unset, .unset, .unset, .unset, .unset] [(.int ((((y5.toUInt32 >>> ((2 : Int32) &&& 31).toUInt32).toInt32) &&& (3 : Int32)) - ((((y5.toUInt32 >>> ((2 : Int32) &&& 31).toUInt32).toInt32) &&& (3 : Int32)) / (3 : Int32)) * (3 : Int32)))])) t → Steps p.tables e below (s₁.setTop (mkF m 0 #[.val (.int y0), .val (.int y1), .val (.int y2), .val (.int y3), .val (.int y4), .val (.int y5), .unset, .unset, .unset, .unset, .unset, .unset, .unset, .unset, .unset, .unset, .unset, .unset, .unset, .unset, .unset, .unset, .unset, .unset, .unset, .unset, .unset, .unset, .unset, .unset] [])) t := fun t k => st t (by
      show Steps p.tables e below (s₁.setTop (mkF m 74 #[.val (.int y0), .val (.int y1), .val (.int y2), .val (.int y3), .val (.int y4), .val (.int y5), .val (.int (Int32.ofNat f1)), .val (.int (Int32.ofNat s1)), .val (.int (Int32.ofNat f2)), .val (.int (Int32.ofNat s2)), .val (.int (Int32.ofNat n1)), .val (.int (Int32.ofNat n2)), .val (.int (Int32.ofNat n3)), .val (.int (Int32.ofNat a1)), .val (.int (Int32.ofNat a2)), .unset, .unset, .unset, .unset, .unset, .unset, .unset, .unset, .unset, .unset, .unset, .unset, .unset, .unset, .unset] [(.int (Int32.ofNat q))])) _
      refine XS.istore X.here hx rfl (hb hby at_74) rfl (l' := #[.val (.int y0), .val (.int y1), .val (.int y2), .val (.int y3), .val (.int y4), .val (.int y5), .val (.int (Int32.ofNat f1)), .val (.int (Int32.ofNat s1)), .val (.int (Int32.ofNat f2)), .val (.int (Int32.ofNat s2)), .val (.int (Int32.ofNat n1)), .val (.int (Int32.ofNat n2)), .val (.int (Int32.ofNat n3)), .val (.int (Int32.ofNat a1)), .val (.int (Int32.ofNat a2)), .val (.int (Int32.ofNat q)), .unset, .unset, .unset, .unset, .unset, .unset, .unset, .unset, .unset, .unset, .unset, .unset, .unset, .unset]) rfl ?_
      show Steps p.tables e below (s₁.setTop (mkF m 76 #[.val (.int y0), .val (.int y1), .val (.int y2), .val (.int y3), .val (.int y4), .val (.int y5), .val (.int (Int32.ofNat f1)), .val (.int (Int32.ofNat s1)), .val (.int (Int32.ofNat f2)), .val (.int (Int32.ofNat s2)), .val (.int (Int32.ofNat n1)), .val (.int (Int32.ofNat n2)), .val (.int (Int32.ofNat n3)), .val (.int (Int32.ofNat a1)), .val (.int (Int32.ofNat a2)), .val (.int (Int32.ofNat q)), .unset, .unset, .unset, .unset, .unset, .unset, .unset, .unset, .unset, .unset, .unset, .unset, .unset, .unset] [])) _
      refine XS.iload X.here hx rfl (hb hby at_76) rfl ?_
      show Steps p.tables e below (s₁.setTop (mkF m 78 #[.val (.int y0), .val (.int y1), .val (.int y2), .val (.int y3), .val (.int y4), .val (.int y5), .val (.int (Int32.ofNat f1)), .val (.int (Int32.ofNat s1)), .val (.int (Int32.ofNat f2)), .val (.int (Int32.ofNat s2)), .val (.int (Int32.ofNat n1)), .val (.int (Int32.ofNat n2)), .val (.int (Int32.ofNat n3)), .val (.int (Int32.ofNat a1)), .val (.int (Int32.ofNat a2)), .val (.int (Int32.ofNat q)), .unset, .unset, .unset, .unset, .unset, .unset, .unset, .unset, .unset, .unset, .unset, .unset, .unset, .unset] [(.int y5)])) _
      refine XS.iconst X.here hx rfl (hb hby at_78) ?_
      show Steps p.tables e below (s₁.setTop (mkF m 79 #[.val (.int y0), .val (.int y1), .val (.int y2), .val (.int y3), .val (.int y4), .val (.int y5), .val (.int (Int32.ofNat f1)), .val (.int (Int32.ofNat s1)), .val (.int (Int32.ofNat f2)), .val (.int (Int32.ofNat s2)), .val (.int (Int32.ofNat n1)), .val (.int (Int32.ofNat n2)), .val (.int (Int32.ofNat n3)), .val (.int (Int32.ofNat a1)), .val (.int (Int32.ofNat a2)), .val (.int (Int32.ofNat q)), .unset, .unset, .unset, .unset, .unset, .unset, .unset, .unset, .unset, .unset, .unset, .unset, .unset, .unset] [(.int (2 : Int32)), (.int y5)])) _
      refine XS.iushr X.here hx rfl (hb hby at_79) rfl ?_
      show Steps p.tables e below (s₁.setTop (mkF m 80 #[.val (.int y0), .val (.int y1), .val (.int y2), .val (.int y3), .val (.int y4), .val (.int y5), .val (.int (Int32.ofNat f1)), .val (.int (Int32.ofNat s1)), .val (.int (Int32.ofNat f2)), .val (.int (Int32.ofNat s2)), .val (.int (Int32.ofNat n1)), .val (.int (Int32.ofNat n2)), .val (.int (Int32.ofNat n3)), .val (.int (Int32.ofNat a1)), .val (.int (Int32.ofNat a2)), .val (.int (Int32.ofNat q)), .unset, .unset, .unset, .unset, .unset, .unset, .unset, .unset, .unset, .unset, .unset, .unset, .unset, .unset] [(.int ((y5.toUInt32 >>> ((2 : Int32) &&& 31).toUInt32).toInt32))])) _
      refine XS.iconst X.here hx rfl (hb hby at_80) ?_
      show Steps p.tables e below (s₁.setTop (mkF m 81 #[.val (.int y0), .val (.int y1), .val (.int y2), .val (.int y3), .val (.int y4), .val (.int y5), .val (.int (Int32.ofNat f1)), .val (.int (Int32.ofNat s1)), .val (.int (Int32.ofNat f2)), .val (.int (Int32.ofNat s2)), .val (.int (Int32.ofNat n1)), .val (.int (Int32.ofNat n2)), .val (.int (Int32.ofNat n3)), .val (.int (Int32.ofNat a1)), .val (.int (Int32.ofNat a2)), .val (.int (Int32.ofNat q)), .unset, .unset, .unset, .unset, .unset, .unset, .unset, .unset, .unset, .unset, .unset, .unset, .unset, .unset] [(.int (3 : Int32)), (.int ((y5.toUInt32 >>> ((2 : Int32) &&& 31).toUInt32).toInt32))])) _
      refine XS.iand X.here hx rfl (hb hby at_81) rfl ?_
      show Steps p.tables e below (s₁.setTop (mkF m 82 #[.val (.int y0), .val (.int y1), .val (.int y2), .val (.int y3), .val (.int y4), .val (.int y5), .val (.int (Int32.ofNat f1)), .val (.int (Int32.ofNat s1)), .val (.int (Int32.ofNat f2)), .val (.int (Int32.ofNat s2)), .val (.int (Int32.ofNat n1)), .val (.int (Int32.ofNat n2)), .val (.int (Int32.ofNat n3)), .val (.int (Int32.ofNat a1)), .val (.int (Int32.ofNat a2)), .val (.int (Int32.ofNat q)), .unset, .unset, .unset, .unset, .unset, .unset, .unset, .unset, .unset, .unset, .unset, .unset, .unset, .unset] [(.int (((y5.toUInt32 >>> ((2 : Int32) &&& 31).toUInt32).toInt32) &&& (3 : Int32)))])) _
      refine XS.iconst X.here hx rfl (hb hby at_82) ?_
      show Steps p.tables e below (s₁.setTop (mkF m 83 #[.val (.int y0), .val (.int y1), .val (.int y2), .val (.int y3), .val (.int y4), .val (.int y5), .val (.int (Int32.ofNat f1)), .val (.int (Int32.ofNat s1)), .val (.int (Int32.ofNat f2)), .val (.int (Int32.ofNat s2)), .val (.int (Int32.ofNat n1)), .val (.int (Int32.ofNat n2)), .val (.int (Int32.ofNat n3)), .val (.int (Int32.ofNat a1)), .val (.int (Int32.ofNat a2)), .val (.int (Int32.ofNat q)), .unset, .unset, .unset, .unset, .unset, .unset, .unset, .unset, .unset, .unset, .unset, .unset, .unset, .unset] [(.int (3 : Int32)), (.int (((y5.toUInt32 >>> ((2 : Int32) &&& 31).toUInt32).toInt32) &&& (3 : Int32)))])) _
      refine XS.irem X.here hx rfl (hb hby at_83) rfl (by decide) ?_
      exact k)
  obtain ⟨o, ho, ex_o⟩ := own_r3s ((y5.toUInt32 >>> ((2 : Int32) &&& 31).toUInt32).toInt32)
  have st : ∀ t, Steps p.tables e below (s₁.setTop (mkF m 84 #[.val (.int y0), .val (.int y1), .val (.int y2), .val (.int y3), .val (.int y4), .val (.int y5), .val (.int (Int32.ofNat f1)), .val (.int (Int32.ofNat s1)), .val (.int (Int32.ofNat f2)), .val (.int (Int32.ofNat s2)), .val (.int (Int32.ofNat n1)), .val (.int (Int32.ofNat n2)), .val (.int (Int32.ofNat n3)), .val (.int (Int32.ofNat a1)), .val (.int (Int32.ofNat a2)), .val (.int (Int32.ofNat q)), .unset, .unset, .unset, .unset, .unset, .unset, .unset, .unset, .unset, .unset, .unset, .unset, .unset, .unset] [(.int (Int32.ofNat o))])) t → Steps p.tables e below (s₁.setTop (mkF m 0 #[.val (.int y0), .val (.int y1), .val (.int y2), .val (.int y3), .val (.int y4), .val (.int y5), .unset, .unset, .unset, .unset, .unset, .unset, .unset, .unset, .unset, .unset, .unset, .unset, .unset, .unset, .unset, .unset, .unset, .unset, .unset, .unset, .unset, .unset, .unset, .unset] [])) t := by rw [← ex_o]; exact st
  have st : ∀ t, Steps p.tables e below (s₁.setTop (mkF m 92 #[.val (.int y0), .val (.int y1), .val (.int y2), .val (.int y3), .val (.int y4), .val (.int y5), .val (.int (Int32.ofNat f1)), .val (.int (Int32.ofNat s1)), .val (.int (Int32.ofNat f2)), .val (.int (Int32.ofNat s2)), .val (.int (Int32.ofNat n1)), .val (.int (Int32.ofNat n2)), .val (.int (Int32.ofNat n3)), .val (.int (Int32.ofNat a1)), .val (.int (Int32.ofNat a2)), .val (.int (Int32.ofNat q)), .val (.int (Int32.ofNat o)), .unset, .unset, .unset, .unset, .unset, .unset, .unset, .unset, .unset, .unset, .unset, .unset, .unset] [(.int (((y5.toUInt32 >>> ((4 : Int32) &&& 31).toUInt32).toInt32) &&& (1 : Int32)))])) t → Steps p.tables e below (s₁.setTop (mkF m 0 #[.val (.int y0), .val (.int y1), .val (.int y2), .val (.int y3), .val (.int y4), .val (.int y5), .unset, .unset, .unset, .unset, .unset, .unset, .unset, .unset, .unset, .unset, .unset, .unset, .unset, .unset, .unset, .unset, .unset, .unset, .unset, .unset, .unset, .unset, .unset, .unset] [])) t := fun t k => st t (by
      show Steps p.tables e below (s₁.setTop (mkF m 84 #[.val (.int y0), .val (.int y1), .val (.int y2), .val (.int y3), .val (.int y4), .val (.int y5), .val (.int (Int32.ofNat f1)), .val (.int (Int32.ofNat s1)), .val (.int (Int32.ofNat f2)), .val (.int (Int32.ofNat s2)), .val (.int (Int32.ofNat n1)), .val (.int (Int32.ofNat n2)), .val (.int (Int32.ofNat n3)), .val (.int (Int32.ofNat a1)), .val (.int (Int32.ofNat a2)), .val (.int (Int32.ofNat q)), .unset, .unset, .unset, .unset, .unset, .unset, .unset, .unset, .unset, .unset, .unset, .unset, .unset, .unset] [(.int (Int32.ofNat o))])) _
      refine XS.istore X.here hx rfl (hb hby at_84) rfl (l' := #[.val (.int y0), .val (.int y1), .val (.int y2), .val (.int y3), .val (.int y4), .val (.int y5), .val (.int (Int32.ofNat f1)), .val (.int (Int32.ofNat s1)), .val (.int (Int32.ofNat f2)), .val (.int (Int32.ofNat s2)), .val (.int (Int32.ofNat n1)), .val (.int (Int32.ofNat n2)), .val (.int (Int32.ofNat n3)), .val (.int (Int32.ofNat a1)), .val (.int (Int32.ofNat a2)), .val (.int (Int32.ofNat q)), .val (.int (Int32.ofNat o)), .unset, .unset, .unset, .unset, .unset, .unset, .unset, .unset, .unset, .unset, .unset, .unset, .unset]) rfl ?_
      show Steps p.tables e below (s₁.setTop (mkF m 86 #[.val (.int y0), .val (.int y1), .val (.int y2), .val (.int y3), .val (.int y4), .val (.int y5), .val (.int (Int32.ofNat f1)), .val (.int (Int32.ofNat s1)), .val (.int (Int32.ofNat f2)), .val (.int (Int32.ofNat s2)), .val (.int (Int32.ofNat n1)), .val (.int (Int32.ofNat n2)), .val (.int (Int32.ofNat n3)), .val (.int (Int32.ofNat a1)), .val (.int (Int32.ofNat a2)), .val (.int (Int32.ofNat q)), .val (.int (Int32.ofNat o)), .unset, .unset, .unset, .unset, .unset, .unset, .unset, .unset, .unset, .unset, .unset, .unset, .unset] [])) _
      refine XS.iload X.here hx rfl (hb hby at_86) rfl ?_
      show Steps p.tables e below (s₁.setTop (mkF m 88 #[.val (.int y0), .val (.int y1), .val (.int y2), .val (.int y3), .val (.int y4), .val (.int y5), .val (.int (Int32.ofNat f1)), .val (.int (Int32.ofNat s1)), .val (.int (Int32.ofNat f2)), .val (.int (Int32.ofNat s2)), .val (.int (Int32.ofNat n1)), .val (.int (Int32.ofNat n2)), .val (.int (Int32.ofNat n3)), .val (.int (Int32.ofNat a1)), .val (.int (Int32.ofNat a2)), .val (.int (Int32.ofNat q)), .val (.int (Int32.ofNat o)), .unset, .unset, .unset, .unset, .unset, .unset, .unset, .unset, .unset, .unset, .unset, .unset, .unset] [(.int y5)])) _
      refine XS.iconst X.here hx rfl (hb hby at_88) ?_
      show Steps p.tables e below (s₁.setTop (mkF m 89 #[.val (.int y0), .val (.int y1), .val (.int y2), .val (.int y3), .val (.int y4), .val (.int y5), .val (.int (Int32.ofNat f1)), .val (.int (Int32.ofNat s1)), .val (.int (Int32.ofNat f2)), .val (.int (Int32.ofNat s2)), .val (.int (Int32.ofNat n1)), .val (.int (Int32.ofNat n2)), .val (.int (Int32.ofNat n3)), .val (.int (Int32.ofNat a1)), .val (.int (Int32.ofNat a2)), .val (.int (Int32.ofNat q)), .val (.int (Int32.ofNat o)), .unset, .unset, .unset, .unset, .unset, .unset, .unset, .unset, .unset, .unset, .unset, .unset, .unset] [(.int (4 : Int32)), (.int y5)])) _
      refine XS.iushr X.here hx rfl (hb hby at_89) rfl ?_
      show Steps p.tables e below (s₁.setTop (mkF m 90 #[.val (.int y0), .val (.int y1), .val (.int y2), .val (.int y3), .val (.int y4), .val (.int y5), .val (.int (Int32.ofNat f1)), .val (.int (Int32.ofNat s1)), .val (.int (Int32.ofNat f2)), .val (.int (Int32.ofNat s2)), .val (.int (Int32.ofNat n1)), .val (.int (Int32.ofNat n2)), .val (.int (Int32.ofNat n3)), .val (.int (Int32.ofNat a1)), .val (.int (Int32.ofNat a2)), .val (.int (Int32.ofNat q)), .val (.int (Int32.ofNat o)), .unset, .unset, .unset, .unset, .unset, .unset, .unset, .unset, .unset, .unset, .unset, .unset, .unset] [(.int ((y5.toUInt32 >>> ((4 : Int32) &&& 31).toUInt32).toInt32))])) _
      refine XS.iconst X.here hx rfl (hb hby at_90) ?_
      show Steps p.tables e below (s₁.setTop (mkF m 91 #[.val (.int y0), .val (.int y1), .val (.int y2), .val (.int y3), .val (.int y4), .val (.int y5), .val (.int (Int32.ofNat f1)), .val (.int (Int32.ofNat s1)), .val (.int (Int32.ofNat f2)), .val (.int (Int32.ofNat s2)), .val (.int (Int32.ofNat n1)), .val (.int (Int32.ofNat n2)), .val (.int (Int32.ofNat n3)), .val (.int (Int32.ofNat a1)), .val (.int (Int32.ofNat a2)), .val (.int (Int32.ofNat q)), .val (.int (Int32.ofNat o)), .unset, .unset, .unset, .unset, .unset, .unset, .unset, .unset, .unset, .unset, .unset, .unset, .unset] [(.int (1 : Int32)), (.int ((y5.toUInt32 >>> ((4 : Int32) &&& 31).toUInt32).toInt32))])) _
      refine XS.iand X.here hx rfl (hb hby at_91) rfl ?_
      exact k)
  obtain ⟨mm, hmm, ex_mm⟩ := own_m1 ((y5.toUInt32 >>> ((4 : Int32) &&& 31).toUInt32).toInt32)
  have st : ∀ t, Steps p.tables e below (s₁.setTop (mkF m 92 #[.val (.int y0), .val (.int y1), .val (.int y2), .val (.int y3), .val (.int y4), .val (.int y5), .val (.int (Int32.ofNat f1)), .val (.int (Int32.ofNat s1)), .val (.int (Int32.ofNat f2)), .val (.int (Int32.ofNat s2)), .val (.int (Int32.ofNat n1)), .val (.int (Int32.ofNat n2)), .val (.int (Int32.ofNat n3)), .val (.int (Int32.ofNat a1)), .val (.int (Int32.ofNat a2)), .val (.int (Int32.ofNat q)), .val (.int (Int32.ofNat o)), .unset, .unset, .unset, .unset, .unset, .unset, .unset, .unset, .unset, .unset, .unset, .unset, .unset] [(.int (Int32.ofNat mm))])) t → Steps p.tables e below (s₁.setTop (mkF m 0 #[.val (.int y0), .val (.int y1), .val (.int y2), .val (.int y3), .val (.int y4), .val (.int y5), .unset, .unset, .unset, .unset, .unset, .unset, .unset, .unset, .unset, .unset, .unset, .unset, .unset, .unset, .unset, .unset, .unset, .unset, .unset, .unset, .unset, .unset, .unset, .unset] [])) t := by rw [← ex_mm]; exact st
  have st : ∀ t, Steps p.tables e below (s₁.setTop (mkF m 99 #[.val (.int y0), .val (.int y1), .val (.int y2), .val (.int y3), .val (.int y4), .val (.int y5), .val (.int (Int32.ofNat f1)), .val (.int (Int32.ofNat s1)), .val (.int (Int32.ofNat f2)), .val (.int (Int32.ofNat s2)), .val (.int (Int32.ofNat n1)), .val (.int (Int32.ofNat n2)), .val (.int (Int32.ofNat n3)), .val (.int (Int32.ofNat a1)), .val (.int (Int32.ofNat a2)), .val (.int (Int32.ofNat q)), .val (.int (Int32.ofNat o)), .val (.int (Int32.ofNat mm)), .unset, .unset, .unset, .unset, .unset, .unset, .unset, .unset, .unset, .unset, .unset, .unset] [(.int (1 : Int32)), (.int ((y5.toUInt32 >>> ((5 : Int32) &&& 31).toUInt32).toInt32))])) t → Steps p.tables e below (s₁.setTop (mkF m 0 #[.val (.int y0), .val (.int y1), .val (.int y2), .val (.int y3), .val (.int y4), .val (.int y5), .unset, .unset, .unset, .unset, .unset, .unset, .unset, .unset, .unset, .unset, .unset, .unset, .unset, .unset, .unset, .unset, .unset, .unset, .unset, .unset, .unset, .unset, .unset, .unset] [])) t := fun t k => st t (by
      show Steps p.tables e below (s₁.setTop (mkF m 92 #[.val (.int y0), .val (.int y1), .val (.int y2), .val (.int y3), .val (.int y4), .val (.int y5), .val (.int (Int32.ofNat f1)), .val (.int (Int32.ofNat s1)), .val (.int (Int32.ofNat f2)), .val (.int (Int32.ofNat s2)), .val (.int (Int32.ofNat n1)), .val (.int (Int32.ofNat n2)), .val (.int (Int32.ofNat n3)), .val (.int (Int32.ofNat a1)), .val (.int (Int32.ofNat a2)), .val (.int (Int32.ofNat q)), .val (.int (Int32.ofNat o)), .unset, .unset, .unset, .unset, .unset, .unset, .unset, .unset, .unset, .unset, .unset, .unset, .unset] [(.int (Int32.ofNat mm))])) _
      refine XS.istore X.here hx rfl (hb hby at_92) rfl (l' := #[.val (.int y0), .val (.int y1), .val (.int y2), .val (.int y3), .val (.int y4), .val (.int y5), .val (.int (Int32.ofNat f1)), .val (.int (Int32.ofNat s1)), .val (.int (Int32.ofNat f2)), .val (.int (Int32.ofNat s2)), .val (.int (Int32.ofNat n1)), .val (.int (Int32.ofNat n2)), .val (.int (Int32.ofNat n3)), .val (.int (Int32.ofNat a1)), .val (.int (Int32.ofNat a2)), .val (.int (Int32.ofNat q)), .val (.int (Int32.ofNat o)), .val (.int (Int32.ofNat mm)), .unset, .unset, .unset, .unset, .unset, .unset, .unset, .unset, .unset, .unset, .unset, .unset]) rfl ?_
      show Steps p.tables e below (s₁.setTop (mkF m 94 #[.val (.int y0), .val (.int y1), .val (.int y2), .val (.int y3), .val (.int y4), .val (.int y5), .val (.int (Int32.ofNat f1)), .val (.int (Int32.ofNat s1)), .val (.int (Int32.ofNat f2)), .val (.int (Int32.ofNat s2)), .val (.int (Int32.ofNat n1)), .val (.int (Int32.ofNat n2)), .val (.int (Int32.ofNat n3)), .val (.int (Int32.ofNat a1)), .val (.int (Int32.ofNat a2)), .val (.int (Int32.ofNat q)), .val (.int (Int32.ofNat o)), .val (.int (Int32.ofNat mm)), .unset, .unset, .unset, .unset, .unset, .unset, .unset, .unset, .unset, .unset, .unset, .unset] [])) _
      refine XS.iload X.here hx rfl (hb hby at_94) rfl ?_
      show Steps p.tables e below (s₁.setTop (mkF m 96 #[.val (.int y0), .val (.int y1), .val (.int y2), .val (.int y3), .val (.int y4), .val (.int y5), .val (.int (Int32.ofNat f1)), .val (.int (Int32.ofNat s1)), .val (.int (Int32.ofNat f2)), .val (.int (Int32.ofNat s2)), .val (.int (Int32.ofNat n1)), .val (.int (Int32.ofNat n2)), .val (.int (Int32.ofNat n3)), .val (.int (Int32.ofNat a1)), .val (.int (Int32.ofNat a2)), .val (.int (Int32.ofNat q)), .val (.int (Int32.ofNat o)), .val (.int (Int32.ofNat mm)), .unset, .unset, .unset, .unset, .unset, .unset, .unset, .unset, .unset, .unset, .unset, .unset] [(.int y5)])) _
      refine XS.iconst X.here hx rfl (hb hby at_96) ?_
      show Steps p.tables e below (s₁.setTop (mkF m 97 #[.val (.int y0), .val (.int y1), .val (.int y2), .val (.int y3), .val (.int y4), .val (.int y5), .val (.int (Int32.ofNat f1)), .val (.int (Int32.ofNat s1)), .val (.int (Int32.ofNat f2)), .val (.int (Int32.ofNat s2)), .val (.int (Int32.ofNat n1)), .val (.int (Int32.ofNat n2)), .val (.int (Int32.ofNat n3)), .val (.int (Int32.ofNat a1)), .val (.int (Int32.ofNat a2)), .val (.int (Int32.ofNat q)), .val (.int (Int32.ofNat o)), .val (.int (Int32.ofNat mm)), .unset, .unset, .unset, .unset, .unset, .unset, .unset, .unset, .unset, .unset, .unset, .unset] [(.int (5 : Int32)), (.int y5)])) _
      refine XS.iushr X.here hx rfl (hb hby at_97) rfl ?_
      show Steps p.tables e below (s₁.setTop (mkF m 98 #[.val (.int y0), .val (.int y1), .val (.int y2), .val (.int y3), .val (.int y4), .val (.int y5), .val (.int (Int32.ofNat f1)), .val (.int (Int32.ofNat s1)), .val (.int (Int32.ofNat f2)), .val (.int (Int32.ofNat s2)), .val (.int (Int32.ofNat n1)), .val (.int (Int32.ofNat n2)), .val (.int (Int32.ofNat n3)), .val (.int (Int32.ofNat a1)), .val (.int (Int32.ofNat a2)), .val (.int (Int32.ofNat q)), .val (.int (Int32.ofNat o)), .val (.int (Int32.ofNat mm)), .unset, .unset, .unset, .unset, .unset, .unset, .unset, .unset, .unset, .unset, .unset, .unset] [(.int ((y5.toUInt32 >>> ((5 : Int32) &&& 31).toUInt32).toInt32))])) _
      refine XS.iconst X.here hx rfl (hb hby at_98) ?_
      exact k)
  obtain ⟨v18, hv_v18, sx⟩ : ∃ (v18 : Int32), v18 = (if (((y5.toUInt32 >>> ((5 : Int32) &&& 31).toUInt32).toInt32) &&& (1 : Int32)) = (0 : Int32) then (0 : Int32) else (1 : Int32)) ∧ ∀ t, Steps p.tables e below (s₁.setTop (mkF m 108 #[.val (.int y0), .val (.int y1), .val (.int y2), .val (.int y3), .val (.int y4), .val (.int y5), .val (.int (Int32.ofNat f1)), .val (.int (Int32.ofNat s1)), .val (.int (Int32.ofNat f2)), .val (.int (Int32.ofNat s2)), .val (.int (Int32.ofNat n1)), .val (.int (Int32.ofNat n2)), .val (.int (Int32.ofNat n3)), .val (.int (Int32.ofNat a1)), .val (.int (Int32.ofNat a2)), .val (.int (Int32.ofNat q)), .val (.int (Int32.ofNat o)), .val (.int (Int32.ofNat mm)), .unset, .unset, .unset, .unset, .unset, .unset, .unset, .unset, .unset, .unset, .unset, .unset] [(.int v18)])) t → Steps p.tables e below (s₁.setTop (mkF m 99 #[.val (.int y0), .val (.int y1), .val (.int y2), .val (.int y3), .val (.int y4), .val (.int y5), .val (.int (Int32.ofNat f1)), .val (.int (Int32.ofNat s1)), .val (.int (Int32.ofNat f2)), .val (.int (Int32.ofNat s2)), .val (.int (Int32.ofNat n1)), .val (.int (Int32.ofNat n2)), .val (.int (Int32.ofNat n3)), .val (.int (Int32.ofNat a1)), .val (.int (Int32.ofNat a2)), .val (.int (Int32.ofNat q)), .val (.int (Int32.ofNat o)), .val (.int (Int32.ofNat mm)), .unset, .unset, .unset, .unset, .unset, .unset, .unset, .unset, .unset, .unset, .unset, .unset] [(.int (1 : Int32)), (.int ((y5.toUInt32 >>> ((5 : Int32) &&& 31).toUInt32).toInt32))])) t := by
    by_cases hj1 : (((y5.toUInt32 >>> ((5 : Int32) &&& 31).toUInt32).toInt32) &&& (1 : Int32)) = (0 : Int32)
    · refine ⟨(0 : Int32), by rw [if_pos hj1], fun t k => ?_⟩
      show Steps p.tables e below (s₁.setTop (mkF m 99 #[.val (.int y0), .val (.int y1), .val (.int y2), .val (.int y3), .val (.int y4), .val (.int y5), .val (.int (Int32.ofNat f1)), .val (.int (Int32.ofNat s1)), .val (.int (Int32.ofNat f2)), .val (.int (Int32.ofNat s2)), .val (.int (Int32.ofNat n1)), .val (.int (Int32.ofNat n2)), .val (.int (Int32.ofNat n3)), .val (.int (Int32.ofNat a1)), .val (.int (Int32.ofNat a2)), .val (.int (Int32.ofNat q)), .val (.int (Int32.ofNat o)), .val (.int (Int32.ofNat mm)), .unset, .unset, .unset, .unset, .unset, .unset, .unset, .unset, .unset, .unset, .unset, .unset] [(.int (1 : Int32)), (.int ((y5.toUInt32 >>> ((5 : Int32) &&& 31).toUInt32).toInt32))])) _
      refine XS.iand X.here hx rfl (hb hby at_99) rfl ?_
      show Steps p.tables e below (s₁.setTop (mkF m 100 #[.val (.int y0), .val (.int y1), .val (.int y2), .val (.int y3), .val (.int y4), .val (.int y5), .val (.int (Int32.ofNat f1)), .val (.int (Int32.ofNat s1)), .val (.int (Int32.ofNat f2)), .val (.int (Int32.ofNat s2)), .val (.int (Int32.ofNat n1)), .val (.int (Int32.ofNat n2)), .val (.int (Int32.ofNat n3)), .val (.int (Int32.ofNat a1)), .val (.int (Int32.ofNat a2)), .val (.int (Int32.ofNat q)), .val (.int (Int32.ofNat o)), .val (.int (Int32.ofNat mm)), .unset, .unset, .unset, .unset, .unset, .unset, .unset, .unset, .unset, .unset, .unset, .unset] [(.int (((y5.toUInt32 >>> ((5 : Int32) &&& 31).toUInt32).toInt32) &&& (1 : Int32)))])) _
      refine XS.ifYes X.here hx rfl (pc0 := 100) (pc' := 107) rfl (hb hby at_100) rfl ((if0 _ _).trans (teq hj1).1) (by decide) (by decide) ?_
      show Steps p.tables e below (s₁.setTop (mkF m 107 #[.val (.int y0), .val (.int y1), .val (.int y2), .val (.int y3), .val (.int y4), .val (.int y5), .val (.int (Int32.ofNat f1)), .val (.int (Int32.ofNat s1)), .val (.int (Int32.ofNat f2)), .val (.int (Int32.ofNat s2)), .val (.int (Int32.ofNat n1)), .val (.int (Int32.ofNat n2)), .val (.int (Int32.ofNat n3)), .val (.int (Int32.ofNat a1)), .val (.int (Int32.ofNat a2)), .val (.int (Int32.ofNat q)), .val (.int (Int32.ofNat o)), .val (.int (Int32.ofNat mm)), .unset, .unset, .unset, .unset, .unset, .unset, .unset, .unset, .unset, .unset, .unset, .unset] [])) _
      refine XS.iconst X.here hx rfl (hb hby at_107) ?_
      exact k
    · refine ⟨(1 : Int32), by rw [if_neg hj1], fun t k => ?_⟩
      show Steps p.tables e below (s₁.setTop (mkF m 99 #[.val (.int y0), .val (.int y1), .val (.int y2), .val (.int y3), .val (.int y4), .val (.int y5), .val (.int (Int32.ofNat f1)), .val (.int (Int32.ofNat s1)), .val (.int (Int32.ofNat f2)), .val (.int (Int32.ofNat s2)), .val (.int (Int32.ofNat n1)), .val (.int (Int32.ofNat n2)), .val (.int (Int32.ofNat n3)), .val (.int (Int32.ofNat a1)), .val (.int (Int32.ofNat a2)), .val (.int (Int32.ofNat q)), .val (.int (Int32.ofNat o)), .val (.int (Int32.ofNat mm)), .unset, .unset, .unset, .unset, .unset, .unset, .unset, .unset, .unset, .unset, .unset, .unset] [(.int (1 : Int32)), (.int ((y5.toUInt32 >>> ((5 : Int32) &&& 31).toUInt32).toInt32))])) _
      refine XS.iand X.here hx rfl (hb hby at_99) rfl ?_
      show Steps p.tables e below (s₁.setTop (mkF m 100 #[.val (.int y0), .val (.int y1), .val (.int y2), .val (.int y3), .val (.int y4), .val (.int y5), .val (.int (Int32.ofNat f1)), .val (.int (Int32.ofNat s1)), .val (.int (Int32.ofNat f2)), .val (.int (Int32.ofNat s2)), .val (.int (Int32.ofNat n1)), .val (.int (Int32.ofNat n2)), .val (.int (Int32.ofNat n3)), .val (.int (Int32.ofNat a1)), .val (.int (Int32.ofNat a2)), .val (.int (Int32.ofNat q)), .val (.int (Int32.ofNat o)), .val (.int (Int32.ofNat mm)), .unset, .unset, .unset, .unset, .unset, .unset, .unset, .unset, .unset, .unset, .unset, .unset] [(.int (((y5.toUInt32 >>> ((5 : Int32) &&& 31).toUInt32).toInt32) &&& (1 : Int32)))])) _
      refine XS.ifNo X.here hx rfl (hb hby at_100) rfl ((if0 _ _).trans (feq hj1).1) ?_
      show Steps p.tables e below (s₁.setTop (mkF m 103 #[.val (.int y0), .val (.int y1), .val (.int y2), .val (.int y3), .val (.int y4), .val (.int y5), .val (.int (Int32.ofNat f1)), .val (.int (Int32.ofNat s1)), .val (.int (Int32.ofNat f2)), .val (.int (Int32.ofNat s2)), .val (.int (Int32.ofNat n1)), .val (.int (Int32.ofNat n2)), .val (.int (Int32.ofNat n3)), .val (.int (Int32.ofNat a1)), .val (.int (Int32.ofNat a2)), .val (.int (Int32.ofNat q)), .val (.int (Int32.ofNat o)), .val (.int (Int32.ofNat mm)), .unset, .unset, .unset, .unset, .unset, .unset, .unset, .unset, .unset, .unset, .unset, .unset] [])) _
      refine XS.iconst X.here hx rfl (hb hby at_103) ?_
      show Steps p.tables e below (s₁.setTop (mkF m 104 #[.val (.int y0), .val (.int y1), .val (.int y2), .val (.int y3), .val (.int y4), .val (.int y5), .val (.int (Int32.ofNat f1)), .val (.int (Int32.ofNat s1)), .val (.int (Int32.ofNat f2)), .val (.int (Int32.ofNat s2)), .val (.int (Int32.ofNat n1)), .val (.int (Int32.ofNat n2)), .val (.int (Int32.ofNat n3)), .val (.int (Int32.ofNat a1)), .val (.int (Int32.ofNat a2)), .val (.int (Int32.ofNat q)), .val (.int (Int32.ofNat o)), .val (.int (Int32.ofNat mm)), .unset, .unset, .unset, .unset, .unset, .unset, .unset, .unset, .unset, .unset, .unset, .unset] [(.int (1 : Int32))])) _
      refine XS.goto X.here hx rfl (pc0 := 104) (pc' := 108) rfl (hb hby at_104) (by decide) (by decide) ?_
      exact k
  have st : ∀ t, Steps p.tables e below (s₁.setTop (mkF m 108 #[.val (.int y0), .val (.int y1), .val (.int y2), .val (.int y3), .val (.int y4), .val (.int y5), .val (.int (Int32.ofNat f1)), .val (.int (Int32.ofNat s1)), .val (.int (Int32.ofNat f2)), .val (.int (Int32.ofNat s2)), .val (.int (Int32.ofNat n1)), .val (.int (Int32.ofNat n2)), .val (.int (Int32.ofNat n3)), .val (.int (Int32.ofNat a1)), .val (.int (Int32.ofNat a2)), .val (.int (Int32.ofNat q)), .val (.int (Int32.ofNat o)), .val (.int (Int32.ofNat mm)), .unset, .unset, .unset, .unset, .unset, .unset, .unset, .unset, .unset, .unset, .unset, .unset] [(.int v18)])) t → Steps p.tables e below (s₁.setTop (mkF m 0 #[.val (.int y0), .val (.int y1), .val (.int y2), .val (.int y3), .val (.int y4), .val (.int y5), .unset, .unset, .unset, .unset, .unset, .unset, .unset, .unset, .unset, .unset, .unset, .unset, .unset, .unset, .unset, .unset, .unset, .unset, .unset, .unset, .unset, .unset, .unset, .unset] [])) t := fun t k => st t (sx t k)
  have st : ∀ t, Steps p.tables e below (s₁.setTop (mkF m 110 #[.val (.int y0), .val (.int y1), .val (.int y2), .val (.int y3), .val (.int y4), .val (.int y5), .val (.int (Int32.ofNat f1)), .val (.int (Int32.ofNat s1)), .val (.int (Int32.ofNat f2)), .val (.int (Int32.ofNat s2)), .val (.int (Int32.ofNat n1)), .val (.int (Int32.ofNat n2)), .val (.int (Int32.ofNat n3)), .val (.int (Int32.ofNat a1)), .val (.int (Int32.ofNat a2)), .val (.int (Int32.ofNat q)), .val (.int (Int32.ofNat o)), .val (.int (Int32.ofNat mm)), .val (.int v18), .unset, .unset, .unset, .unset, .unset, .unset, .unset, .unset, .unset, .unset, .unset] [])) t → Steps p.tables e below (s₁.setTop (mkF m 0 #[.val (.int y0), .val (.int y1), .val (.int y2), .val (.int y3), .val (.int y4), .val (.int y5), .unset, .unset, .unset, .unset, .unset, .unset, .unset, .unset, .unset, .unset, .unset, .unset, .unset, .unset, .unset, .unset, .unset, .unset, .unset, .unset, .unset, .unset, .unset, .unset] [])) t := fun t k => st t (by
      show Steps p.tables e below (s₁.setTop (mkF m 108 #[.val (.int y0), .val (.int y1), .val (.int y2), .val (.int y3), .val (.int y4), .val (.int y5), .val (.int (Int32.ofNat f1)), .val (.int (Int32.ofNat s1)), .val (.int (Int32.ofNat f2)), .val (.int (Int32.ofNat s2)), .val (.int (Int32.ofNat n1)), .val (.int (Int32.ofNat n2)), .val (.int (Int32.ofNat n3)), .val (.int (Int32.ofNat a1)), .val (.int (Int32.ofNat a2)), .val (.int (Int32.ofNat q)), .val (.int (Int32.ofNat o)), .val (.int (Int32.ofNat mm)), .unset, .unset, .unset, .unset, .unset, .unset, .unset, .unset, .unset, .unset, .unset, .unset] [(.int v18)])) _
      refine XS.istore X.here hx rfl (hb hby at_108) rfl (l' := #[.val (.int y0), .val (.int y1), .val (.int y2), .val (.int y3), .val (.int y4), .val (.int y5), .val (.int (Int32.ofNat f1)), .val (.int (Int32.ofNat s1)), .val (.int (Int32.ofNat f2)), .val (.int (Int32.ofNat s2)), .val (.int (Int32.ofNat n1)), .val (.int (Int32.ofNat n2)), .val (.int (Int32.ofNat n3)), .val (.int (Int32.ofNat a1)), .val (.int (Int32.ofNat a2)), .val (.int (Int32.ofNat q)), .val (.int (Int32.ofNat o)), .val (.int (Int32.ofNat mm)), .val (.int v18), .unset, .unset, .unset, .unset, .unset, .unset, .unset, .unset, .unset, .unset, .unset]) rfl ?_
      exact k)
  obtain ⟨T1, h2, X, eh, E3, E_tb, D3, -, sx⟩ := newO X hx hZ hown (hw _ (List.mem_of_getElem? (i := 1) rfl)) (hw _ (List.mem_of_getElem? (i := 2) rfl)) (hw _ (List.mem_of_getElem? (i := 3) rfl)) eh (g := (mkF m 110 #[.val (.int y0), .val (.int y1), .val (.int y2), .val (.int y3), .val (.int y4), .val (.int y5), .val (.int (Int32.ofNat f1)), .val (.int (Int32.ofNat s1)), .val (.int (Int32.ofNat f2)), .val (.int (Int32.ofNat s2)), .val (.int (Int32.ofNat n1)), .val (.int (Int32.ofNat n2)), .val (.int (Int32.ofNat n3)), .val (.int (Int32.ofNat a1)), .val (.int (Int32.ofNat a2)), .val (.int (Int32.ofNat q)), .val (.int (Int32.ofNat o)), .val (.int (Int32.ofNat mm)), .val (.int v18), .unset, .unset, .unset, .unset, .unset, .unset, .unset, .unset, .unset, .unset, .unset] [])) rfl (hb hby at_110) (by decide) (by decide)
  obtain ⟨tb, g3⟩ : ∃ z, z = h0.size := ⟨_, rfl⟩
  have g_tb : n0 ≤ tb := Nat.le_trans Z0 (Nat.le_of_eq g3.symm)
  rw [← g3] at E_tb D3 sx
  have st : ∀ t, Steps p.tables e below (T1.setTop (mkF m 113 #[.val (.int y0), .val (.int y1), .val (.int y2), .val (.int y3), .val (.int y4), .val (.int y5), .val (.int (Int32.ofNat f1)), .val (.int (Int32.ofNat s1)), .val (.int (Int32.ofNat f2)), .val (.int (Int32.ofNat s2)), .val (.int (Int32.ofNat n1)), .val (.int (Int32.ofNat n2)), .val (.int (Int32.ofNat n3)), .val (.int (Int32.ofNat a1)), .val (.int (Int32.ofNat a2)), .val (.int (Int32.ofNat q)), .val (.int (Int32.ofNat o)), .val (.int (Int32.ofNat mm)), .val (.int v18), .unset, .unset, .unset, .unset, .unset, .unset, .unset, .unset, .unset, .unset, .unset] [(.ref tb)])) t → Steps p.tables e below (s₁.setTop (mkF m 0 #[.val (.int y0), .val (.int y1), .val (.int y2), .val (.int y3), .val (.int y4), .val (.int y5), .unset, .unset, .unset, .unset, .unset, .unset, .unset, .unset, .unset, .unset, .unset, .unset, .unset, .unset, .unset, .unset, .unset, .unset, .unset, .unset, .unset, .unset, .unset, .unset] [])) t := fun t k => st t (sx t k)
  have Z0 := Nat.le_trans Z0 E3.1
  have F_tb_keys : Fld Z h2 tb "com/example/paretoloom/paretoloom/TabuList" "keys" "[J" .null := D3 (Or.inl (hw _ (List.mem_of_getElem? (i := 20) rfl))) (ty := (.array .long)) (by decide)
  have F_tb_until : Fld Z h2 tb "com/example/paretoloom/paretoloom/TabuList" "until" "[J" .null := D3 (Or.inl (hw _ (List.mem_of_getElem? (i := 22) rfl))) (ty := (.array .long)) (by decide)
  have F_tb_operations : Fld Z h2 tb "com/example/paretoloom/paretoloom/TabuList" "operations" "I" (.int (0 : Int32)) := D3 (Or.inr (hw _ (List.mem_of_getElem? (i := 24) rfl))) (ty := .int) (by decide)
  have F_tb_machines : Fld Z h2 tb "com/example/paretoloom/paretoloom/TabuList" "machines" "I" (.int (0 : Int32)) := D3 (Or.inr (hw _ (List.mem_of_getElem? (i := 26) rfl))) (ty := .int) (by decide)
  have F_tb_firstUntil : Fld Z h2 tb "com/example/paretoloom/paretoloom/TabuList" "firstUntil" "[J" .null := D3 (Or.inr (hw _ (List.mem_of_getElem? (i := 28) rfl))) (ty := (.array .long)) (by decide)
  have F_tb_secondUntil : Fld Z h2 tb "com/example/paretoloom/paretoloom/TabuList" "secondUntil" "[J" .null := D3 (Or.inr (hw _ (List.mem_of_getElem? (i := 30) rfl))) (ty := (.array .long)) (by decide)
  have F_tb_machineUntil : Fld Z h2 tb "com/example/paretoloom/paretoloom/TabuList" "machineUntil" "[J" .null := D3 (Or.inr (hw _ (List.mem_of_getElem? (i := 32) rfl))) (ty := (.array .long)) (by decide)
  have F_tb_step : Fld Z h2 tb "com/example/paretoloom/paretoloom/TabuList" "step" "J" (.long (0 : Int64)) := D3 (Or.inl (hw _ (List.mem_of_getElem? (i := 39) rfl))) (ty := .long) (by decide)
  have F_tb_size : Fld Z h2 tb "com/example/paretoloom/paretoloom/TabuList" "size" "I" (.int (0 : Int32)) := D3 (Or.inl (hw _ (List.mem_of_getElem? (i := 53) rfl))) (ty := .int) (by decide)
  have st : ∀ t, Steps p.tables e below (T1.setTop (mkF m 116 #[.val (.int y0), .val (.int y1), .val (.int y2), .val (.int y3), .val (.int y4), .val (.int y5), .val (.int (Int32.ofNat f1)), .val (.int (Int32.ofNat s1)), .val (.int (Int32.ofNat f2)), .val (.int (Int32.ofNat s2)), .val (.int (Int32.ofNat n1)), .val (.int (Int32.ofNat n2)), .val (.int (Int32.ofNat n3)), .val (.int (Int32.ofNat a1)), .val (.int (Int32.ofNat a2)), .val (.int (Int32.ofNat q)), .val (.int (Int32.ofNat o)), .val (.int (Int32.ofNat mm)), .val (.int v18), .unset, .unset, .unset, .unset, .unset, .unset, .unset, .unset, .unset, .unset, .unset] [(.int (2 : Int32)), (.int (3 : Int32)), (.ref tb), (.ref tb)])) t → Steps p.tables e below (s₁.setTop (mkF m 0 #[.val (.int y0), .val (.int y1), .val (.int y2), .val (.int y3), .val (.int y4), .val (.int y5), .unset, .unset, .unset, .unset, .unset, .unset, .unset, .unset, .unset, .unset, .unset, .unset, .unset, .unset, .unset, .unset, .unset, .unset, .unset, .unset, .unset, .unset, .unset, .unset] [])) t := fun t k => st t (by
      show Steps p.tables e below (T1.setTop (mkF m 113 #[.val (.int y0), .val (.int y1), .val (.int y2), .val (.int y3), .val (.int y4), .val (.int y5), .val (.int (Int32.ofNat f1)), .val (.int (Int32.ofNat s1)), .val (.int (Int32.ofNat f2)), .val (.int (Int32.ofNat s2)), .val (.int (Int32.ofNat n1)), .val (.int (Int32.ofNat n2)), .val (.int (Int32.ofNat n3)), .val (.int (Int32.ofNat a1)), .val (.int (Int32.ofNat a2)), .val (.int (Int32.ofNat q)), .val (.int (Int32.ofNat o)), .val (.int (Int32.ofNat mm)), .val (.int v18), .unset, .unset, .unset, .unset, .unset, .unset, .unset, .unset, .unset, .unset, .unset] [(.ref tb)])) _
      refine XS.dup X.here hx rfl (hb hby at_113) rfl rfl ?_
      show Steps p.tables e below (T1.setTop (mkF m 114 #[.val (.int y0), .val (.int y1), .val (.int y2), .val (.int y3), .val (.int y4), .val (.int y5), .val (.int (Int32.ofNat f1)), .val (.int (Int32.ofNat s1)), .val (.int (Int32.ofNat f2)), .val (.int (Int32.ofNat s2)), .val (.int (Int32.ofNat n1)), .val (.int (Int32.ofNat n2)), .val (.int (Int32.ofNat n3)), .val (.int (Int32.ofNat a1)), .val (.int (Int32.ofNat a2)), .val (.int (Int32.ofNat q)), .val (.int (Int32.ofNat o)), .val (.int (Int32.ofNat mm)), .val (.int v18), .unset, .unset, .unset, .unset, .unset, .unset, .unset, .unset, .unset, .unset, .unset] [(.ref tb), (.ref tb)])) _
      refine XS.iconst X.here hx rfl (hb hby at_114) ?_
      show Steps p.tables e below (T1.setTop (mkF m 115 #[.val (.int y0), .val (.int y1), .val (.int y2), .val (.int y3), .val (.int y4), .val (.int y5), .val (.int (Int32.ofNat f1)), .val (.int (Int32.ofNat s1)), .val (.int (Int32.ofNat f2)), .val (.int (Int32.ofNat s2)), .val (.int (Int32.ofNat n1)), .val (.int (Int32.ofNat n2)), .val (.int (Int32.ofNat n3)), .val (.int (Int32.ofNat a1)), .val (.int (Int32.ofNat a2)), .val (.int (Int32.ofNat q)), .val (.int (Int32.ofNat o)), .val (.int (Int32.ofNat mm)), .val (.int v18), .unset, .unset, .unset, .unset, .unset, .unset, .unset, .unset, .unset, .unset, .unset] [(.int (3 : Int32)), (.ref tb), (.ref tb)])) _
      refine XS.iconst X.here hx rfl (hb hby at_115) ?_
      exact k)
  obtain ⟨_, _, ⟨T5, L4, k4, n4⟩, -, X, ⟨Lc4, hQ, l4, y4, z4⟩, sx⟩ := X.specialBack hx (y := (⟨"com/example/paretoloom/paretoloom/TabuList", "<init>", "(II)V"⟩ : MethodName)) rfl hown (mvT hZ (hw _ (List.mem_of_getElem? (i := 4) rfl))) (mvT hZ (hw _ (List.mem_of_getElem? (i := 5) rfl))) (mvT hZ (hw _ (List.mem_of_getElem? (i := 6) rfl))) (by decide) (backOf (W := 1) (rm1 l Z a0 hw [] tb  h2 n0 Z0 E_tb g_tb F_tb_keys F_tb_until F_tb_operations F_tb_machines F_tb_firstUntil F_tb_secondUntil F_tb_machineUntil F_tb_step F_tb_size) hZ (hw _ (List.mem_of_getElem? (i := 6) rfl)) (hw _ (List.mem_of_getElem? (i := 3) rfl)) (by decide) (by decide)) (g := (mkF m 116 #[.val (.int y0), .val (.int y1), .val (.int y2), .val (.int y3), .val (.int y4), .val (.int y5), .val (.int (Int32.ofNat f1)), .val (.int (Int32.ofNat s1)), .val (.int (Int32.ofNat f2)), .val (.int (Int32.ofNat s2)), .val (.int (Int32.ofNat n1)), .val (.int (Int32.ofNat n2)), .val (.int (Int32.ofNat n3)), .val (.int (Int32.ofNat a1)), .val (.int (Int32.ofNat a2)), .val (.int (Int32.ofNat q)), .val (.int (Int32.ofNat o)), .val (.int (Int32.ofNat mm)), .val (.int v18), .unset, .unset, .unset, .unset, .unset, .unset, .unset, .unset, .unset, .unset, .unset] [(.int (2 : Int32)), (.int (3 : Int32)), (.ref tb), (.ref tb)])) rfl (by rw [hml]; rfl) (Steps.refl _) (a := tb) (argsL := [(.int (3 : Int32)), (.int (2 : Int32))]) (rest := [(.ref tb)]) (lenOf own_pd6 rfl) rfl (by show 2 * 0 + _ ≤ _; exact Nat.le_of_eq rfl) (hb hby at_116) (fun _ _ => ⟨rfl, eh, (by decide : 1 + 5 ≤ _), (by decide : 9 + 41 ≤ _)⟩)
  dsimp only [Pt.U, Pt.locs, Pt.cells, Pt.slots] at X l4 y4 z4 sx hQ
  subst l4 y4 z4
  obtain ⟨rfl, Nc, K1, ka, ua, fa, sa, ma, k_ka, k_ua, k_fa, k_sa, k_ma, B, D⟩ := hQ
  have st : ∀ t, Steps p.tables e below (T5.setTop (mkF m 119 #[.val (.int y0), .val (.int y1), .val (.int y2), .val (.int y3), .val (.int y4), .val (.int y5), .val (.int (Int32.ofNat f1)), .val (.int (Int32.ofNat s1)), .val (.int (Int32.ofNat f2)), .val (.int (Int32.ofNat s2)), .val (.int (Int32.ofNat n1)), .val (.int (Int32.ofNat n2)), .val (.int (Int32.ofNat n3)), .val (.int (Int32.ofNat a1)), .val (.int (Int32.ofNat a2)), .val (.int (Int32.ofNat q)), .val (.int (Int32.ofNat o)), .val (.int (Int32.ofNat mm)), .val (.int v18), .unset, .unset, .unset, .unset, .unset, .unset, .unset, .unset, .unset, .unset, .unset] [(.ref tb)])) t → Steps p.tables e below (s₁.setTop (mkF m 0 #[.val (.int y0), .val (.int y1), .val (.int y2), .val (.int y3), .val (.int y4), .val (.int y5), .unset, .unset, .unset, .unset, .unset, .unset, .unset, .unset, .unset, .unset, .unset, .unset, .unset, .unset, .unset, .unset, .unset, .unset, .unset, .unset, .unset, .unset, .unset, .unset] [])) t := fun t k => st t (sx.trans k)
  have N := Fr.app N Nc
  obtain ⟨h6, eH⟩ : ∃ z, z = T5.heap := ⟨_, rfl⟩
  rw [← eH] at K1 B
  have eh : T5.heap = h6 := eH.symm
  have E_tb := E_tb.keep K1
  have Z0 := Nat.le_trans Z0 K1.1
  have st : ∀ t, Steps p.tables e below (T5.setTop (mkF m 129 #[.val (.int y0), .val (.int y1), .val (.int y2), .val (.int y3), .val (.int y4), .val (.int y5), .val (.int (Int32.ofNat f1)), .val (.int (Int32.ofNat s1)), .val (.int (Int32.ofNat f2)), .val (.int (Int32.ofNat s2)), .val (.int (Int32.ofNat n1)), .val (.int (Int32.ofNat n2)), .val (.int (Int32.ofNat n3)), .val (.int (Int32.ofNat a1)), .val (.int (Int32.ofNat a2)), .val (.int (Int32.ofNat q)), .val (.int (Int32.ofNat o)), .val (.int (Int32.ofNat mm)), .val (.int v18), .val (.ref tb), .unset, .unset, .unset, .unset, .unset, .unset, .unset, .unset, .unset, .unset] [(.int (Int32.ofNat n1)), (.int (Int32.ofNat s1)), (.int (Int32.ofNat f1)), (.ref tb)])) t → Steps p.tables e below (s₁.setTop (mkF m 0 #[.val (.int y0), .val (.int y1), .val (.int y2), .val (.int y3), .val (.int y4), .val (.int y5), .unset, .unset, .unset, .unset, .unset, .unset, .unset, .unset, .unset, .unset, .unset, .unset, .unset, .unset, .unset, .unset, .unset, .unset, .unset, .unset, .unset, .unset, .unset, .unset] [])) t := fun t k => st t (by
      show Steps p.tables e below (T5.setTop (mkF m 119 #[.val (.int y0), .val (.int y1), .val (.int y2), .val (.int y3), .val (.int y4), .val (.int y5), .val (.int (Int32.ofNat f1)), .val (.int (Int32.ofNat s1)), .val (.int (Int32.ofNat f2)), .val (.int (Int32.ofNat s2)), .val (.int (Int32.ofNat n1)), .val (.int (Int32.ofNat n2)), .val (.int (Int32.ofNat n3)), .val (.int (Int32.ofNat a1)), .val (.int (Int32.ofNat a2)), .val (.int (Int32.ofNat q)), .val (.int (Int32.ofNat o)), .val (.int (Int32.ofNat mm)), .val (.int v18), .unset, .unset, .unset, .unset, .unset, .unset, .unset, .unset, .unset, .unset, .unset] [(.ref tb)])) _
      refine XS.astore X.here hx rfl (hb hby at_119) rfl rfl (l' := #[.val (.int y0), .val (.int y1), .val (.int y2), .val (.int y3), .val (.int y4), .val (.int y5), .val (.int (Int32.ofNat f1)), .val (.int (Int32.ofNat s1)), .val (.int (Int32.ofNat f2)), .val (.int (Int32.ofNat s2)), .val (.int (Int32.ofNat n1)), .val (.int (Int32.ofNat n2)), .val (.int (Int32.ofNat n3)), .val (.int (Int32.ofNat a1)), .val (.int (Int32.ofNat a2)), .val (.int (Int32.ofNat q)), .val (.int (Int32.ofNat o)), .val (.int (Int32.ofNat mm)), .val (.int v18), .val (.ref tb), .unset, .unset, .unset, .unset, .unset, .unset, .unset, .unset, .unset, .unset]) rfl ?_
      show Steps p.tables e below (T5.setTop (mkF m 121 #[.val (.int y0), .val (.int y1), .val (.int y2), .val (.int y3), .val (.int y4), .val (.int y5), .val (.int (Int32.ofNat f1)), .val (.int (Int32.ofNat s1)), .val (.int (Int32.ofNat f2)), .val (.int (Int32.ofNat s2)), .val (.int (Int32.ofNat n1)), .val (.int (Int32.ofNat n2)), .val (.int (Int32.ofNat n3)), .val (.int (Int32.ofNat a1)), .val (.int (Int32.ofNat a2)), .val (.int (Int32.ofNat q)), .val (.int (Int32.ofNat o)), .val (.int (Int32.ofNat mm)), .val (.int v18), .val (.ref tb), .unset, .unset, .unset, .unset, .unset, .unset, .unset, .unset, .unset, .unset] [])) _
      refine XS.aload X.here hx rfl (hb hby at_121) rfl rfl ?_
      show Steps p.tables e below (T5.setTop (mkF m 123 #[.val (.int y0), .val (.int y1), .val (.int y2), .val (.int y3), .val (.int y4), .val (.int y5), .val (.int (Int32.ofNat f1)), .val (.int (Int32.ofNat s1)), .val (.int (Int32.ofNat f2)), .val (.int (Int32.ofNat s2)), .val (.int (Int32.ofNat n1)), .val (.int (Int32.ofNat n2)), .val (.int (Int32.ofNat n3)), .val (.int (Int32.ofNat a1)), .val (.int (Int32.ofNat a2)), .val (.int (Int32.ofNat q)), .val (.int (Int32.ofNat o)), .val (.int (Int32.ofNat mm)), .val (.int v18), .val (.ref tb), .unset, .unset, .unset, .unset, .unset, .unset, .unset, .unset, .unset, .unset] [(.ref tb)])) _
      refine XS.iload X.here hx rfl (hb hby at_123) rfl ?_
      show Steps p.tables e below (T5.setTop (mkF m 125 #[.val (.int y0), .val (.int y1), .val (.int y2), .val (.int y3), .val (.int y4), .val (.int y5), .val (.int (Int32.ofNat f1)), .val (.int (Int32.ofNat s1)), .val (.int (Int32.ofNat f2)), .val (.int (Int32.ofNat s2)), .val (.int (Int32.ofNat n1)), .val (.int (Int32.ofNat n2)), .val (.int (Int32.ofNat n3)), .val (.int (Int32.ofNat a1)), .val (.int (Int32.ofNat a2)), .val (.int (Int32.ofNat q)), .val (.int (Int32.ofNat o)), .val (.int (Int32.ofNat mm)), .val (.int v18), .val (.ref tb), .unset, .unset, .unset, .unset, .unset, .unset, .unset, .unset, .unset, .unset] [(.int (Int32.ofNat f1)), (.ref tb)])) _
      refine XS.iload X.here hx rfl (hb hby at_125) rfl ?_
      show Steps p.tables e below (T5.setTop (mkF m 127 #[.val (.int y0), .val (.int y1), .val (.int y2), .val (.int y3), .val (.int y4), .val (.int y5), .val (.int (Int32.ofNat f1)), .val (.int (Int32.ofNat s1)), .val (.int (Int32.ofNat f2)), .val (.int (Int32.ofNat s2)), .val (.int (Int32.ofNat n1)), .val (.int (Int32.ofNat n2)), .val (.int (Int32.ofNat n3)), .val (.int (Int32.ofNat a1)), .val (.int (Int32.ofNat a2)), .val (.int (Int32.ofNat q)), .val (.int (Int32.ofNat o)), .val (.int (Int32.ofNat mm)), .val (.int v18), .val (.ref tb), .unset, .unset, .unset, .unset, .unset, .unset, .unset, .unset, .unset, .unset] [(.int (Int32.ofNat s1)), (.int (Int32.ofNat f1)), (.ref tb)])) _
      refine XS.iload X.here hx rfl (hb hby at_127) rfl ?_
      exact k)
  obtain ⟨cq7, kq7, qa7, qb7, qc7⟩ := isOf hZ eh E_tb
  obtain ⟨_, _, ⟨T8, L7, k7, n7⟩, -, X, ⟨Lc7, hQ, l7, y7, z7⟩, sx⟩ := X.virtualBack hx (y := (⟨"com/example/paretoloom/paretoloom/TabuList", "forbidBefore", "(III)V"⟩ : MethodName)) (z := (⟨"com/example/paretoloom/paretoloom/TabuList", "forbidBefore", "(III)V"⟩ : MethodName)) hown (mvT hZ (hw _ (List.mem_of_getElem? (i := 33) rfl))) (mvT hZ (hw _ (List.mem_of_getElem? (i := 34) rfl))) (notFace_of_selects (args := #[]) (mvT hZ (hw _ (List.mem_of_getElem? (i := 36) rfl)))) (mvT hZ (hw _ (List.mem_of_getElem? (i := 36) rfl))) (mvT hZ (hw _ (List.mem_of_getElem? (i := 35) rfl))) (by decide) (backOf (W := 0) (rm5 l Z a0 hw [] tb ka ua fa sa ma k_ka k_ua k_fa k_sa k_ma (fun _ => (-1 : Int64)) (fun _ => (0 : Int64)) (fun _ => 0) (fun _ => 0) (fun _ => (0 : Int64)) 0 0 f1 s1 n1 h6 n0 Z0 B D (by decide) ⟨0, by decide, rfl⟩ hf1 hs1 hn1 (by decide) (Nat.zero_le _) (Nat.zero_le _)) hZ (hw _ (List.mem_of_getElem? (i := 37) rfl)) (hw _ (List.mem_of_getElem? (i := 3) rfl)) (by decide) (by decide)) qa7 qc7 (g := (mkF m 129 #[.val (.int y0), .val (.int y1), .val (.int y2), .val (.int y3), .val (.int y4), .val (.int y5), .val (.int (Int32.ofNat f1)), .val (.int (Int32.ofNat s1)), .val (.int (Int32.ofNat f2)), .val (.int (Int32.ofNat s2)), .val (.int (Int32.ofNat n1)), .val (.int (Int32.ofNat n2)), .val (.int (Int32.ofNat n3)), .val (.int (Int32.ofNat a1)), .val (.int (Int32.ofNat a2)), .val (.int (Int32.ofNat q)), .val (.int (Int32.ofNat o)), .val (.int (Int32.ofNat mm)), .val (.int v18), .val (.ref tb), .unset, .unset, .unset, .unset, .unset, .unset, .unset, .unset, .unset, .unset] [(.int (Int32.ofNat n1)), (.int (Int32.ofNat s1)), (.int (Int32.ofNat f1)), (.ref tb)])) rfl (by rw [hml]; rfl) (Steps.refl _) (argsL := [(.int (Int32.ofNat f1)), (.int (Int32.ofNat s1)), (.int (Int32.ofNat n1))]) (rest := []) (lenOf own_pd7 rfl) rfl (by show 2 * 0 + _ ≤ _; exact Nat.le_of_eq rfl) (hb hby at_129) (fun _ _ => ⟨rfl, eh, (by decide : 6 + 0 ≤ _), (by decide : 50 + 0 ≤ _)⟩)
  dsimp only [Pt.U, Pt.locs, Pt.cells, Pt.slots] at X l7 y7 z7 sx hQ
  subst l7 y7 z7
  obtain ⟨rfl, Nc, K1, r1, ks1, us1, sz1, hks1, hsz1, B⟩ := hQ
  have st : ∀ t, Steps p.tables e below (T8.setTop (mkF m 132 #[.val (.int y0), .val (.int y1), .val (.int y2), .val (.int y3), .val (.int y4), .val (.int y5), .val (.int (Int32.ofNat f1)), .val (.int (Int32.ofNat s1)), .val (.int (Int32.ofNat f2)), .val (.int (Int32.ofNat s2)), .val (.int (Int32.ofNat n1)), .val (.int (Int32.ofNat n2)), .val (.int (Int32.ofNat n3)), .val (.int (Int32.ofNat a1)), .val (.int (Int32.ofNat a2)), .val (.int (Int32.ofNat q)), .val (.int (Int32.ofNat o)), .val (.int (Int32.ofNat mm)), .val (.int v18), .val (.ref tb), .unset, .unset, .unset, .unset, .unset, .unset, .unset, .unset, .unset, .unset] [])) t → Steps p.tables e below (s₁.setTop (mkF m 0 #[.val (.int y0), .val (.int y1), .val (.int y2), .val (.int y3), .val (.int y4), .val (.int y5), .unset, .unset, .unset, .unset, .unset, .unset, .unset, .unset, .unset, .unset, .unset, .unset, .unset, .unset, .unset, .unset, .unset, .unset, .unset, .unset, .unset, .unset, .unset, .unset] [])) t := fun t k => st t (sx.trans k)
  have N := Fr.app N Nc
  obtain ⟨h9, eH⟩ : ∃ z, z = T8.heap := ⟨_, rfl⟩
  rw [← eH] at K1 B
  have eh : T8.heap = h9 := eH.symm
  have E_tb := E_tb.keep K1
  have Z0 := Nat.le_trans Z0 K1.1
  obtain ⟨fs1, hfs1⟩ : ∃ g : Nat → Nat, g = own_upd (fun _ => 0) f1 (max 0 (0 + 1 + n1)) := ⟨_, rfl⟩
  obtain ⟨ss1, hss1⟩ : ∃ g : Nat → Nat, g = own_upd (fun _ => 0) s1 (max 0 (0 + 1 + n1)) := ⟨_, rfl⟩
  have B : own_TL Z h9 tb ka ua fa sa ma k_ka k_ua k_fa k_sa k_ma ks1 us1 fs1 ss1 (fun _ => (0 : Int64)) 0 sz1 := by rw [hfs1, hss1]; exact B
  have st : ∀ t, Steps p.tables e below (T8.setTop (mkF m 135 #[.val (.int y0), .val (.int y1), .val (.int y2), .val (.int y3), .val (.int y4), .val (.int y5), .val (.int (Int32.ofNat f1)), .val (.int (Int32.ofNat s1)), .val (.int (Int32.ofNat f2)), .val (.int (Int32.ofNat s2)), .val (.int (Int32.ofNat n1)), .val (.int (Int32.ofNat n2)), .val (.int (Int32.ofNat n3)), .val (.int (Int32.ofNat a1)), .val (.int (Int32.ofNat a2)), .val (.int (Int32.ofNat q)), .val (.int (Int32.ofNat o)), .val (.int (Int32.ofNat mm)), .val (.int v18), .val (.ref tb), .unset, .unset, .unset, .unset, .unset, .unset, .unset, .unset, .unset, .unset] [(.int (1 : Int32)), (.int (Int32.ofNat a1))])) t → Steps p.tables e below (s₁.setTop (mkF m 0 #[.val (.int y0), .val (.int y1), .val (.int y2), .val (.int y3), .val (.int y4), .val (.int y5), .unset, .unset, .unset, .unset, .unset, .unset, .unset, .unset, .unset, .unset, .unset, .unset, .unset, .unset, .unset, .unset, .unset, .unset, .unset, .unset, .unset, .unset, .unset, .unset] [])) t := fun t k => st t (by
      show Steps p.tables e below (T8.setTop (mkF m 132 #[.val (.int y0), .val (.int y1), .val (.int y2), .val (.int y3), .val (.int y4), .val (.int y5), .val (.int (Int32.ofNat f1)), .val (.int (Int32.ofNat s1)), .val (.int (Int32.ofNat f2)), .val (.int (Int32.ofNat s2)), .val (.int (Int32.ofNat n1)), .val (.int (Int32.ofNat n2)), .val (.int (Int32.ofNat n3)), .val (.int (Int32.ofNat a1)), .val (.int (Int32.ofNat a2)), .val (.int (Int32.ofNat q)), .val (.int (Int32.ofNat o)), .val (.int (Int32.ofNat mm)), .val (.int v18), .val (.ref tb), .unset, .unset, .unset, .unset, .unset, .unset, .unset, .unset, .unset, .unset] [])) _
      refine XS.iload X.here hx rfl (hb hby at_132) rfl ?_
      show Steps p.tables e below (T8.setTop (mkF m 134 #[.val (.int y0), .val (.int y1), .val (.int y2), .val (.int y3), .val (.int y4), .val (.int y5), .val (.int (Int32.ofNat f1)), .val (.int (Int32.ofNat s1)), .val (.int (Int32.ofNat f2)), .val (.int (Int32.ofNat s2)), .val (.int (Int32.ofNat n1)), .val (.int (Int32.ofNat n2)), .val (.int (Int32.ofNat n3)), .val (.int (Int32.ofNat a1)), .val (.int (Int32.ofNat a2)), .val (.int (Int32.ofNat q)), .val (.int (Int32.ofNat o)), .val (.int (Int32.ofNat mm)), .val (.int v18), .val (.ref tb), .unset, .unset, .unset, .unset, .unset, .unset, .unset, .unset, .unset, .unset] [(.int (Int32.ofNat a1))])) _
      refine XS.iconst X.here hx rfl (hb hby at_134) ?_
      exact k)
  obtain ⟨lo10, X, N⟩ : ∃ loX, Stand p l e room_1 s m #[(.int y0), (.int y1), (.int y2), (.int y3), (.int y4), (.int y5)] below meth cd0 T8 loX 6 50 ∧ Fr n0 loX := ⟨_, X, N⟩
  obtain ⟨T11, h12, lo13, sp1, X, N, eh, Z0, E_tb, B, hsp1, sx⟩ : ∃ (T11 : State) (h12 : Heap) (lo13 : List Loc) (sp1 : Nat), Stand p l e room_1 s m #[(.int y0), (.int y1), (.int y2), (.int y3), (.int y4), (.int y5)] below meth cd0 T11 lo13 6 50 ∧ Fr n0 lo13 ∧ T11.heap = h12 ∧ n0 ≤ h12.size ∧ Exa Z h12 tb "com/example/paretoloom/paretoloom/TabuList" ∧ own_TL Z h12 tb ka ua fa sa ma k_ka k_ua k_fa k_sa k_ma ks1 us1 fs1 ss1 (fun _ => (0 : Int64)) sp1 sz1 ∧ sp1 = a1 ∧ (∀ t, Steps p.tables e below (T11.setTop (mkF m 143 #[.val (.int y0), .val (.int y1), .val (.int y2), .val (.int y3), .val (.int y4), .val (.int y5), .val (.int (Int32.ofNat f1)), .val (.int (Int32.ofNat s1)), .val (.int (Int32.ofNat f2)), .val (.int (Int32.ofNat s2)), .val (.int (Int32.ofNat n1)), .val (.int (Int32.ofNat n2)), .val (.int (Int32.ofNat n3)), .val (.int (Int32.ofNat a1)), .val (.int (Int32.ofNat a2)), .val (.int (Int32.ofNat q)), .val (.int (Int32.ofNat o)), .val (.int (Int32.ofNat mm)), .val (.int v18), .val (.ref tb), .unset, .unset, .unset, .unset, .unset, .unset, .unset, .unset, .unset, .unset] [])) t → Steps p.tables e below (T8.setTop (mkF m 135 #[.val (.int y0), .val (.int y1), .val (.int y2), .val (.int y3), .val (.int y4), .val (.int y5), .val (.int (Int32.ofNat f1)), .val (.int (Int32.ofNat s1)), .val (.int (Int32.ofNat f2)), .val (.int (Int32.ofNat s2)), .val (.int (Int32.ofNat n1)), .val (.int (Int32.ofNat n2)), .val (.int (Int32.ofNat n3)), .val (.int (Int32.ofNat a1)), .val (.int (Int32.ofNat a2)), .val (.int (Int32.ofNat q)), .val (.int (Int32.ofNat o)), .val (.int (Int32.ofNat mm)), .val (.int v18), .val (.ref tb), .unset, .unset, .unset, .unset, .unset, .unset, .unset, .unset, .unset, .unset] [(.int (1 : Int32)), (.int (Int32.ofNat a1))])) t) := by
    have st : ∀ t, Steps p.tables e below (T8.setTop (mkF m 135 #[.val (.int y0), .val (.int y1), .val (.int y2), .val (.int y3), .val (.int y4), .val (.int y5), .val (.int (Int32.ofNat f1)), .val (.int (Int32.ofNat s1)), .val (.int (Int32.ofNat f2)), .val (.int (Int32.ofNat s2)), .val (.int (Int32.ofNat n1)), .val (.int (Int32.ofNat n2)), .val (.int (Int32.ofNat n3)), .val (.int (Int32.ofNat a1)), .val (.int (Int32.ofNat a2)), .val (.int (Int32.ofNat q)), .val (.int (Int32.ofNat o)), .val (.int (Int32.ofNat mm)), .val (.int v18), .val (.ref tb), .unset, .unset, .unset, .unset, .unset, .unset, .unset, .unset, .unset, .unset] [(.int (1 : Int32)), (.int (Int32.ofNat a1))])) t → Steps p.tables e below (T8.setTop (mkF m 135 #[.val (.int y0), .val (.int y1), .val (.int y2), .val (.int y3), .val (.int y4), .val (.int y5), .val (.int (Int32.ofNat f1)), .val (.int (Int32.ofNat s1)), .val (.int (Int32.ofNat f2)), .val (.int (Int32.ofNat s2)), .val (.int (Int32.ofNat n1)), .val (.int (Int32.ofNat n2)), .val (.int (Int32.ofNat n3)), .val (.int (Int32.ofNat a1)), .val (.int (Int32.ofNat a2)), .val (.int (Int32.ofNat q)), .val (.int (Int32.ofNat o)), .val (.int (Int32.ofNat mm)), .val (.int v18), .val (.ref tb), .unset, .unset, .unset, .unset, .unset, .unset, .unset, .unset, .unset, .unset] [(.int (1 : Int32)), (.int (Int32.ofNat a1))])) t := fun t k => k
    by_cases hq : (Int32.ofNat a1) < (1 : Int32)
    · have st : ∀ t, Steps p.tables e below (T8.setTop (mkF m 143 #[.val (.int y0), .val (.int y1), .val (.int y2), .val (.int y3), .val (.int y4), .val (.int y5), .val (.int (Int32.ofNat f1)), .val (.int (Int32.ofNat s1)), .val (.int (Int32.ofNat f2)), .val (.int (Int32.ofNat s2)), .val (.int (Int32.ofNat n1)), .val (.int (Int32.ofNat n2)), .val (.int (Int32.ofNat n3)), .val (.int (Int32.ofNat a1)), .val (.int (Int32.ofNat a2)), .val (.int (Int32.ofNat q)), .val (.int (Int32.ofNat o)), .val (.int (Int32.ofNat mm)), .val (.int v18), .val (.ref tb), .unset, .unset, .unset, .unset, .unset, .unset, .unset, .unset, .unset, .unset] [])) t → Steps p.tables e below (T8.setTop (mkF m 135 #[.val (.int y0), .val (.int y1), .val (.int y2), .val (.int y3), .val (.int y4), .val (.int y5), .val (.int (Int32.ofNat f1)), .val (.int (Int32.ofNat s1)), .val (.int (Int32.ofNat f2)), .val (.int (Int32.ofNat s2)), .val (.int (Int32.ofNat n1)), .val (.int (Int32.ofNat n2)), .val (.int (Int32.ofNat n3)), .val (.int (Int32.ofNat a1)), .val (.int (Int32.ofNat a2)), .val (.int (Int32.ofNat q)), .val (.int (Int32.ofNat o)), .val (.int (Int32.ofNat mm)), .val (.int v18), .val (.ref tb), .unset, .unset, .unset, .unset, .unset, .unset, .unset, .unset, .unset, .unset] [(.int (1 : Int32)), (.int (Int32.ofNat a1))])) t := fun t k => st t (by
          show Steps p.tables e below (T8.setTop (mkF m 135 #[.val (.int y0), .val (.int y1), .val (.int y2), .val (.int y3), .val (.int y4), .val (.int y5), .val (.int (Int32.ofNat f1)), .val (.int (Int32.ofNat s1)), .val (.int (Int32.ofNat f2)), .val (.int (Int32.ofNat s2)), .val (.int (Int32.ofNat n1)), .val (.int (Int32.ofNat n2)), .val (.int (Int32.ofNat n3)), .val (.int (Int32.ofNat a1)), .val (.int (Int32.ofNat a2)), .val (.int (Int32.ofNat q)), .val (.int (Int32.ofNat o)), .val (.int (Int32.ofNat mm)), .val (.int v18), .val (.ref tb), .unset, .unset, .unset, .unset, .unset, .unset, .unset, .unset, .unset, .unset] [(.int (1 : Int32)), (.int (Int32.ofNat a1))])) _
          refine XS.icmpYes X.here hx rfl (pc0 := 135) (pc' := 143) rfl (hb hby at_135) rfl (tlt hq).1 (by decide) (by decide) ?_
          exact k)
      have z : a1 < 1 := (own_lt (by omega) (by decide)).mp hq
      exact ⟨T8, h9, _, 0, X, N, eh, Z0, E_tb, B, (by omega), st⟩
    · have z : ¬ a1 < 1 := fun y => hq ((own_lt (by omega) (by decide)).mpr y)
      have st : ∀ t, Steps p.tables e below (T8.setTop (mkF m 140 #[.val (.int y0), .val (.int y1), .val (.int y2), .val (.int y3), .val (.int y4), .val (.int y5), .val (.int (Int32.ofNat f1)), .val (.int (Int32.ofNat s1)), .val (.int (Int32.ofNat f2)), .val (.int (Int32.ofNat s2)), .val (.int (Int32.ofNat n1)), .val (.int (Int32.ofNat n2)), .val (.int (Int32.ofNat n3)), .val (.int (Int32.ofNat a1)), .val (.int (Int32.ofNat a2)), .val (.int (Int32.ofNat q)), .val (.int (Int32.ofNat o)), .val (.int (Int32.ofNat mm)), .val (.int v18), .val (.ref tb), .unset, .unset, .unset, .unset, .unset, .unset, .unset, .unset, .unset, .unset] [(.ref tb)])) t → Steps p.tables e below (T8.setTop (mkF m 135 #[.val (.int y0), .val (.int y1), .val (.int y2), .val (.int y3), .val (.int y4), .val (.int y5), .val (.int (Int32.ofNat f1)), .val (.int (Int32.ofNat s1)), .val (.int (Int32.ofNat f2)), .val (.int (Int32.ofNat s2)), .val (.int (Int32.ofNat n1)), .val (.int (Int32.ofNat n2)), .val (.int (Int32.ofNat n3)), .val (.int (Int32.ofNat a1)), .val (.int (Int32.ofNat a2)), .val (.int (Int32.ofNat q)), .val (.int (Int32.ofNat o)), .val (.int (Int32.ofNat mm)), .val (.int v18), .val (.ref tb), .unset, .unset, .unset, .unset, .unset, .unset, .unset, .unset, .unset, .unset] [(.int (1 : Int32)), (.int (Int32.ofNat a1))])) t := fun t k => st t (by
          show Steps p.tables e below (T8.setTop (mkF m 135 #[.val (.int y0), .val (.int y1), .val (.int y2), .val (.int y3), .val (.int y4), .val (.int y5), .val (.int (Int32.ofNat f1)), .val (.int (Int32.ofNat s1)), .val (.int (Int32.ofNat f2)), .val (.int (Int32.ofNat s2)), .val (.int (Int32.ofNat n1)), .val (.int (Int32.ofNat n2)), .val (.int (Int32.ofNat n3)), .val (.int (Int32.ofNat a1)), .val (.int (Int32.ofNat a2)), .val (.int (Int32.ofNat q)), .val (.int (Int32.ofNat o)), .val (.int (Int32.ofNat mm)), .val (.int v18), .val (.ref tb), .unset, .unset, .unset, .unset, .unset, .unset, .unset, .unset, .unset, .unset] [(.int (1 : Int32)), (.int (Int32.ofNat a1))])) _
          refine XS.icmpNo X.here hx rfl (hb hby at_135) rfl (flt hq).1 ?_
          show Steps p.tables e below (T8.setTop (mkF m 138 #[.val (.int y0), .val (.int y1), .val (.int y2), .val (.int y3), .val (.int y4), .val (.int y5), .val (.int (Int32.ofNat f1)), .val (.int (Int32.ofNat s1)), .val (.int (Int32.ofNat f2)), .val (.int (Int32.ofNat s2)), .val (.int (Int32.ofNat n1)), .val (.int (Int32.ofNat n2)), .val (.int (Int32.ofNat n3)), .val (.int (Int32.ofNat a1)), .val (.int (Int32.ofNat a2)), .val (.int (Int32.ofNat q)), .val (.int (Int32.ofNat o)), .val (.int (Int32.ofNat mm)), .val (.int v18), .val (.ref tb), .unset, .unset, .unset, .unset, .unset, .unset, .unset, .unset, .unset, .unset] [])) _
          refine XS.aload X.here hx rfl (hb hby at_138) rfl rfl ?_
          exact k)
      obtain ⟨cq14, kq14, qa14, qb14, qc14⟩ := isOf hZ eh E_tb
      obtain ⟨_, _, ⟨T15, L14, k14, n14⟩, -, X, ⟨Lc14, hQ, l14, y14, z14⟩, sx⟩ := X.virtualBack hx (y := (⟨"com/example/paretoloom/paretoloom/TabuList", "advance", "()V"⟩ : MethodName)) (z := (⟨"com/example/paretoloom/paretoloom/TabuList", "advance", "()V"⟩ : MethodName)) hown (mvT hZ (hw _ (List.mem_of_getElem? (i := 72) rfl))) (mvT hZ (hw _ (List.mem_of_getElem? (i := 73) rfl))) (notFace_of_selects (args := #[]) (mvT hZ (hw _ (List.mem_of_getElem? (i := 75) rfl)))) (mvT hZ (hw _ (List.mem_of_getElem? (i := 75) rfl))) (mvT hZ (hw _ (List.mem_of_getElem? (i := 74) rfl))) (by decide) (backOf (W := 0) (rm13 l Z a0 hw [] tb ka ua fa sa ma k_ka k_ua k_fa k_sa k_ma ks1 us1 fs1 ss1 (fun _ => (0 : Int64)) 0 sz1 h9 n0 Z0 B D (by omega)) hZ (hw _ (List.mem_of_getElem? (i := 76) rfl)) (hw _ (List.mem_of_getElem? (i := 3) rfl)) (by decide) (by decide)) qa14 qc14 (g := (mkF m 140 #[.val (.int y0), .val (.int y1), .val (.int y2), .val (.int y3), .val (.int y4), .val (.int y5), .val (.int (Int32.ofNat f1)), .val (.int (Int32.ofNat s1)), .val (.int (Int32.ofNat f2)), .val (.int (Int32.ofNat s2)), .val (.int (Int32.ofNat n1)), .val (.int (Int32.ofNat n2)), .val (.int (Int32.ofNat n3)), .val (.int (Int32.ofNat a1)), .val (.int (Int32.ofNat a2)), .val (.int (Int32.ofNat q)), .val (.int (Int32.ofNat o)), .val (.int (Int32.ofNat mm)), .val (.int v18), .val (.ref tb), .unset, .unset, .unset, .unset, .unset, .unset, .unset, .unset, .unset, .unset] [(.ref tb)])) rfl (by rw [hml]; rfl) (Steps.refl _) (argsL := []) (rest := []) (lenOf own_pd8 rfl) rfl (by show 2 * 0 + _ ≤ _; exact Nat.le_of_eq rfl) (hb hby at_140) (fun _ _ => ⟨rfl, eh, (by decide : 6 + 0 ≤ _), (by decide : 50 + 0 ≤ _)⟩)
      dsimp only [Pt.U, Pt.locs, Pt.cells, Pt.slots] at X l14 y14 z14 sx hQ
      subst l14 y14 z14
      obtain ⟨rfl, Nc, K1, B⟩ := hQ
      have st : ∀ t, Steps p.tables e below (T15.setTop (mkF m 143 #[.val (.int y0), .val (.int y1), .val (.int y2), .val (.int y3), .val (.int y4), .val (.int y5), .val (.int (Int32.ofNat f1)), .val (.int (Int32.ofNat s1)), .val (.int (Int32.ofNat f2)), .val (.int (Int32.ofNat s2)), .val (.int (Int32.ofNat n1)), .val (.int (Int32.ofNat n2)), .val (.int (Int32.ofNat n3)), .val (.int (Int32.ofNat a1)), .val (.int (Int32.ofNat a2)), .val (.int (Int32.ofNat q)), .val (.int (Int32.ofNat o)), .val (.int (Int32.ofNat mm)), .val (.int v18), .val (.ref tb), .unset, .unset, .unset, .unset, .unset, .unset, .unset, .unset, .unset, .unset] [])) t → Steps p.tables e below (T8.setTop (mkF m 135 #[.val (.int y0), .val (.int y1), .val (.int y2), .val (.int y3), .val (.int y4), .val (.int y5), .val (.int (Int32.ofNat f1)), .val (.int (Int32.ofNat s1)), .val (.int (Int32.ofNat f2)), .val (.int (Int32.ofNat s2)), .val (.int (Int32.ofNat n1)), .val (.int (Int32.ofNat n2)), .val (.int (Int32.ofNat n3)), .val (.int (Int32.ofNat a1)), .val (.int (Int32.ofNat a2)), .val (.int (Int32.ofNat q)), .val (.int (Int32.ofNat o)), .val (.int (Int32.ofNat mm)), .val (.int v18), .val (.ref tb), .unset, .unset, .unset, .unset, .unset, .unset, .unset, .unset, .unset, .unset] [(.int (1 : Int32)), (.int (Int32.ofNat a1))])) t := fun t k => st t (sx.trans k)
      have N := Fr.app N Nc
      obtain ⟨h16, eH⟩ : ∃ z, z = T15.heap := ⟨_, rfl⟩
      rw [← eH] at K1 B
      have eh : T15.heap = h16 := eH.symm
      have E_tb := E_tb.keep K1
      have Z0 := Nat.le_trans Z0 K1.1
      exact ⟨T15, h16, _, (0 + 1), X, N, eh, Z0, E_tb, B, (by omega), st⟩
  have st : ∀ t, Steps p.tables e below (T11.setTop (mkF m 143 #[.val (.int y0), .val (.int y1), .val (.int y2), .val (.int y3), .val (.int y4), .val (.int y5), .val (.int (Int32.ofNat f1)), .val (.int (Int32.ofNat s1)), .val (.int (Int32.ofNat f2)), .val (.int (Int32.ofNat s2)), .val (.int (Int32.ofNat n1)), .val (.int (Int32.ofNat n2)), .val (.int (Int32.ofNat n3)), .val (.int (Int32.ofNat a1)), .val (.int (Int32.ofNat a2)), .val (.int (Int32.ofNat q)), .val (.int (Int32.ofNat o)), .val (.int (Int32.ofNat mm)), .val (.int v18), .val (.ref tb), .unset, .unset, .unset, .unset, .unset, .unset, .unset, .unset, .unset, .unset] [])) t → Steps p.tables e below (s₁.setTop (mkF m 0 #[.val (.int y0), .val (.int y1), .val (.int y2), .val (.int y3), .val (.int y4), .val (.int y5), .unset, .unset, .unset, .unset, .unset, .unset, .unset, .unset, .unset, .unset, .unset, .unset, .unset, .unset, .unset, .unset, .unset, .unset, .unset, .unset, .unset, .unset, .unset, .unset] [])) t := fun t k => st t (sx t k)
  have hE1 : ∃ j, j < 16 ∧ ks1 j = (-1 : Int64) := by
    by_cases z : r1 = 0
    · exact ⟨1, by decide, hks1 1 (by omega)⟩
    · exact ⟨0, by decide, hks1 0 (by omega)⟩
  have hb1 : fs1 f2 ≤ 900 := by rw [hfs1]; simp only [own_upd]; split <;> omega
  have hb2 : ss1 s2 ≤ 900 := by rw [hss1]; simp only [own_upd]; split <;> omega
  have st : ∀ t, Steps p.tables e below (T11.setTop (mkF m 151 #[.val (.int y0), .val (.int y1), .val (.int y2), .val (.int y3), .val (.int y4), .val (.int y5), .val (.int (Int32.ofNat f1)), .val (.int (Int32.ofNat s1)), .val (.int (Int32.ofNat f2)), .val (.int (Int32.ofNat s2)), .val (.int (Int32.ofNat n1)), .val (.int (Int32.ofNat n2)), .val (.int (Int32.ofNat n3)), .val (.int (Int32.ofNat a1)), .val (.int (Int32.ofNat a2)), .val (.int (Int32.ofNat q)), .val (.int (Int32.ofNat o)), .val (.int (Int32.ofNat mm)), .val (.int v18), .val (.ref tb), .unset, .unset, .unset, .unset, .unset, .unset, .unset, .unset, .unset, .unset] [(.int (Int32.ofNat n2)), (.int (Int32.ofNat s2)), (.int (Int32.ofNat f2)), (.ref tb)])) t → Steps p.tables e below (s₁.setTop (mkF m 0 #[.val (.int y0), .val (.int y1), .val (.int y2), .val (.int y3), .val (.int y4), .val (.int y5), .unset, .unset, .unset, .unset, .unset, .unset, .unset, .unset, .unset, .unset, .unset, .unset, .unset, .unset, .unset, .unset, .unset, .unset, .unset, .unset, .unset, .unset, .unset, .unset] [])) t := fun t k => st t (by
      show Steps p.tables e below (T11.setTop (mkF m 143 #[.val (.int y0), .val (.int y1), .val (.int y2), .val (.int y3), .val (.int y4), .val (.int y5), .val (.int (Int32.ofNat f1)), .val (.int (Int32.ofNat s1)), .val (.int (Int32.ofNat f2)), .val (.int (Int32.ofNat s2)), .val (.int (Int32.ofNat n1)), .val (.int (Int32.ofNat n2)), .val (.int (Int32.ofNat n3)), .val (.int (Int32.ofNat a1)), .val (.int (Int32.ofNat a2)), .val (.int (Int32.ofNat q)), .val (.int (Int32.ofNat o)), .val (.int (Int32.ofNat mm)), .val (.int v18), .val (.ref tb), .unset, .unset, .unset, .unset, .unset, .unset, .unset, .unset, .unset, .unset] [])) _
      refine XS.aload X.here hx rfl (hb hby at_143) rfl rfl ?_
      show Steps p.tables e below (T11.setTop (mkF m 145 #[.val (.int y0), .val (.int y1), .val (.int y2), .val (.int y3), .val (.int y4), .val (.int y5), .val (.int (Int32.ofNat f1)), .val (.int (Int32.ofNat s1)), .val (.int (Int32.ofNat f2)), .val (.int (Int32.ofNat s2)), .val (.int (Int32.ofNat n1)), .val (.int (Int32.ofNat n2)), .val (.int (Int32.ofNat n3)), .val (.int (Int32.ofNat a1)), .val (.int (Int32.ofNat a2)), .val (.int (Int32.ofNat q)), .val (.int (Int32.ofNat o)), .val (.int (Int32.ofNat mm)), .val (.int v18), .val (.ref tb), .unset, .unset, .unset, .unset, .unset, .unset, .unset, .unset, .unset, .unset] [(.ref tb)])) _
      refine XS.iload X.here hx rfl (hb hby at_145) rfl ?_
      show Steps p.tables e below (T11.setTop (mkF m 147 #[.val (.int y0), .val (.int y1), .val (.int y2), .val (.int y3), .val (.int y4), .val (.int y5), .val (.int (Int32.ofNat f1)), .val (.int (Int32.ofNat s1)), .val (.int (Int32.ofNat f2)), .val (.int (Int32.ofNat s2)), .val (.int (Int32.ofNat n1)), .val (.int (Int32.ofNat n2)), .val (.int (Int32.ofNat n3)), .val (.int (Int32.ofNat a1)), .val (.int (Int32.ofNat a2)), .val (.int (Int32.ofNat q)), .val (.int (Int32.ofNat o)), .val (.int (Int32.ofNat mm)), .val (.int v18), .val (.ref tb), .unset, .unset, .unset, .unset, .unset, .unset, .unset, .unset, .unset, .unset] [(.int (Int32.ofNat f2)), (.ref tb)])) _
      refine XS.iload X.here hx rfl (hb hby at_147) rfl ?_
      show Steps p.tables e below (T11.setTop (mkF m 149 #[.val (.int y0), .val (.int y1), .val (.int y2), .val (.int y3), .val (.int y4), .val (.int y5), .val (.int (Int32.ofNat f1)), .val (.int (Int32.ofNat s1)), .val (.int (Int32.ofNat f2)), .val (.int (Int32.ofNat s2)), .val (.int (Int32.ofNat n1)), .val (.int (Int32.ofNat n2)), .val (.int (Int32.ofNat n3)), .val (.int (Int32.ofNat a1)), .val (.int (Int32.ofNat a2)), .val (.int (Int32.ofNat q)), .val (.int (Int32.ofNat o)), .val (.int (Int32.ofNat mm)), .val (.int v18), .val (.ref tb), .unset, .unset, .unset, .unset, .unset, .unset, .unset, .unset, .unset, .unset] [(.int (Int32.ofNat s2)), (.int (Int32.ofNat f2)), (.ref tb)])) _
      refine XS.iload X.here hx rfl (hb hby at_149) rfl ?_
      exact k)
  obtain ⟨cq17, kq17, qa17, qb17, qc17⟩ := isOf hZ eh E_tb
  obtain ⟨_, _, ⟨T18, L17, k17, n17⟩, -, X, ⟨Lc17, hQ, l17, y17, z17⟩, sx⟩ := X.virtualBack hx (y := (⟨"com/example/paretoloom/paretoloom/TabuList", "forbidBefore", "(III)V"⟩ : MethodName)) (z := (⟨"com/example/paretoloom/paretoloom/TabuList", "forbidBefore", "(III)V"⟩ : MethodName)) hown (mvT hZ (hw _ (List.mem_of_getElem? (i := 33) rfl))) (mvT hZ (hw _ (List.mem_of_getElem? (i := 34) rfl))) (notFace_of_selects (args := #[]) (mvT hZ (hw _ (List.mem_of_getElem? (i := 36) rfl)))) (mvT hZ (hw _ (List.mem_of_getElem? (i := 36) rfl))) (mvT hZ (hw _ (List.mem_of_getElem? (i := 35) rfl))) (by decide) (backOf (W := 0) (rm5 l Z a0 hw [] tb ka ua fa sa ma k_ka k_ua k_fa k_sa k_ma ks1 us1 fs1 ss1 (fun _ => (0 : Int64)) sp1 sz1 f2 s2 n2 h12 n0 Z0 B D (by omega) hE1 hf2 hs2 hn2 (by omega) hb1 hb2) hZ (hw _ (List.mem_of_getElem? (i := 37) rfl)) (hw _ (List.mem_of_getElem? (i := 3) rfl)) (by decide) (by decide)) qa17 qc17 (g := (mkF m 151 #[.val (.int y0), .val (.int y1), .val (.int y2), .val (.int y3), .val (.int y4), .val (.int y5), .val (.int (Int32.ofNat f1)), .val (.int (Int32.ofNat s1)), .val (.int (Int32.ofNat f2)), .val (.int (Int32.ofNat s2)), .val (.int (Int32.ofNat n1)), .val (.int (Int32.ofNat n2)), .val (.int (Int32.ofNat n3)), .val (.int (Int32.ofNat a1)), .val (.int (Int32.ofNat a2)), .val (.int (Int32.ofNat q)), .val (.int (Int32.ofNat o)), .val (.int (Int32.ofNat mm)), .val (.int v18), .val (.ref tb), .unset, .unset, .unset, .unset, .unset, .unset, .unset, .unset, .unset, .unset] [(.int (Int32.ofNat n2)), (.int (Int32.ofNat s2)), (.int (Int32.ofNat f2)), (.ref tb)])) rfl (by rw [hml]; rfl) (Steps.refl _) (argsL := [(.int (Int32.ofNat f2)), (.int (Int32.ofNat s2)), (.int (Int32.ofNat n2))]) (rest := []) (lenOf own_pd7 rfl) rfl (by show 2 * 0 + _ ≤ _; exact Nat.le_of_eq rfl) (hb hby at_151) (fun _ _ => ⟨rfl, eh, (by decide : 6 + 0 ≤ _), (by decide : 50 + 0 ≤ _)⟩)
  dsimp only [Pt.U, Pt.locs, Pt.cells, Pt.slots] at X l17 y17 z17 sx hQ
  subst l17 y17 z17
  obtain ⟨rfl, Nc, K1, r2, ks2, us2, sz2, hks2, hsz2, B⟩ := hQ
  have st : ∀ t, Steps p.tables e below (T18.setTop (mkF m 154 #[.val (.int y0), .val (.int y1), .val (.int y2), .val (.int y3), .val (.int y4), .val (.int y5), .val (.int (Int32.ofNat f1)), .val (.int (Int32.ofNat s1)), .val (.int (Int32.ofNat f2)), .val (.int (Int32.ofNat s2)), .val (.int (Int32.ofNat n1)), .val (.int (Int32.ofNat n2)), .val (.int (Int32.ofNat n3)), .val (.int (Int32.ofNat a1)), .val (.int (Int32.ofNat a2)), .val (.int (Int32.ofNat q)), .val (.int (Int32.ofNat o)), .val (.int (Int32.ofNat mm)), .val (.int v18), .val (.ref tb), .unset, .unset, .unset, .unset, .unset, .unset, .unset, .unset, .unset, .unset] [])) t → Steps p.tables e below (s₁.setTop (mkF m 0 #[.val (.int y0), .val (.int y1), .val (.int y2), .val (.int y3), .val (.int y4), .val (.int y5), .unset, .unset, .unset, .unset, .unset, .unset, .unset, .unset, .unset, .unset, .unset, .unset, .unset, .unset, .unset, .unset, .unset, .unset, .unset, .unset, .unset, .unset, .unset, .unset] [])) t := fun t k => st t (sx.trans k)
  have N := Fr.app N Nc
  obtain ⟨h19, eH⟩ : ∃ z, z = T18.heap := ⟨_, rfl⟩
  rw [← eH] at K1 B
  have eh : T18.heap = h19 := eH.symm
  have E_tb := E_tb.keep K1
  have Z0 := Nat.le_trans Z0 K1.1
  obtain ⟨fs2, hfs2⟩ : ∃ g : Nat → Nat, g = own_upd fs1 f2 (max (fs1 f2) (sp1 + 1 + n2)) := ⟨_, rfl⟩
  obtain ⟨ss2, hss2⟩ : ∃ g : Nat → Nat, g = own_upd ss1 s2 (max (ss1 s2) (sp1 + 1 + n2)) := ⟨_, rfl⟩
  have B : own_TL Z h19 tb ka ua fa sa ma k_ka k_ua k_fa k_sa k_ma ks2 us2 fs2 ss2 (fun _ => (0 : Int64)) sp1 sz2 := by rw [hfs2, hss2]; exact B
  have hE2 : ∃ j, j < 16 ∧ ks2 j = (-1 : Int64) := by
    have y : ∀ j, j ≠ r1 → j ≠ r2 → ks2 j = (-1 : Int64) := fun j u1 u2 => (hks2 j u2).trans (hks1 j u1)
    by_cases z0 : 0 ≠ r1 ∧ 0 ≠ r2
    · exact ⟨0, by decide, y 0 z0.1 z0.2⟩
    · by_cases z1 : 1 ≠ r1 ∧ 1 ≠ r2
      · exact ⟨1, by decide, y 1 z1.1 z1.2⟩
      · exact ⟨2, by decide, y 2 (by omega) (by omega)⟩
  have st : ∀ t, Steps p.tables e below (T18.setTop (mkF m 156 #[.val (.int y0), .val (.int y1), .val (.int y2), .val (.int y3), .val (.int y4), .val (.int y5), .val (.int (Int32.ofNat f1)), .val (.int (Int32.ofNat s1)), .val (.int (Int32.ofNat f2)), .val (.int (Int32.ofNat s2)), .val (.int (Int32.ofNat n1)), .val (.int (Int32.ofNat n2)), .val (.int (Int32.ofNat n3)), .val (.int (Int32.ofNat a1)), .val (.int (Int32.ofNat a2)), .val (.int (Int32.ofNat q)), .val (.int (Int32.ofNat o)), .val (.int (Int32.ofNat mm)), .val (.int v18), .val (.ref tb), .unset, .unset, .unset, .unset, .unset, .unset, .unset, .unset, .unset, .unset] [(.int v18)])) t → Steps p.tables e below (s₁.setTop (mkF m 0 #[.val (.int y0), .val (.int y1), .val (.int y2), .val (.int y3), .val (.int y4), .val (.int y5), .unset, .unset, .unset, .unset, .unset, .unset, .unset, .unset, .unset, .unset, .unset, .unset, .unset, .unset, .unset, .unset, .unset, .unset, .unset, .unset, .unset, .unset, .unset, .unset] [])) t := fun t k => st t (by
      show Steps p.tables e below (T18.setTop (mkF m 154 #[.val (.int y0), .val (.int y1), .val (.int y2), .val (.int y3), .val (.int y4), .val (.int y5), .val (.int (Int32.ofNat f1)), .val (.int (Int32.ofNat s1)), .val (.int (Int32.ofNat f2)), .val (.int (Int32.ofNat s2)), .val (.int (Int32.ofNat n1)), .val (.int (Int32.ofNat n2)), .val (.int (Int32.ofNat n3)), .val (.int (Int32.ofNat a1)), .val (.int (Int32.ofNat a2)), .val (.int (Int32.ofNat q)), .val (.int (Int32.ofNat o)), .val (.int (Int32.ofNat mm)), .val (.int v18), .val (.ref tb), .unset, .unset, .unset, .unset, .unset, .unset, .unset, .unset, .unset, .unset] [])) _
      refine XS.iload X.here hx rfl (hb hby at_154) rfl ?_
      exact k)
  obtain ⟨lo20, X, N⟩ : ∃ loX, Stand p l e room_1 s m #[(.int y0), (.int y1), (.int y2), (.int y3), (.int y4), (.int y5)] below meth cd0 T18 loX 6 50 ∧ Fr n0 loX := ⟨_, X, N⟩
  obtain ⟨T21, h22, lo23, ks3, us3, ms3, sz3, X, N, eh, Z0, E_tb, B, hsz3, sx⟩ : ∃ (T21 : State) (h22 : Heap) (lo23 : List Loc) (ks3 : Nat → Int64) (us3 : Nat → Int64) (ms3 : Nat → Int64) (sz3 : Nat), Stand p l e room_1 s m #[(.int y0), (.int y1), (.int y2), (.int y3), (.int y4), (.int y5)] below meth cd0 T21 lo23 6 50 ∧ Fr n0 lo23 ∧ T21.heap = h22 ∧ n0 ≤ h22.size ∧ Exa Z h22 tb "com/example/paretoloom/paretoloom/TabuList" ∧ own_TL Z h22 tb ka ua fa sa ma k_ka k_ua k_fa k_sa k_ma ks3 us3 fs2 ss2 ms3 sp1 sz3 ∧ sz3 ≤ 3 ∧ (∀ t, Steps p.tables e below (T21.setTop (mkF m 170 #[.val (.int y0), .val (.int y1), .val (.int y2), .val (.int y3), .val (.int y4), .val (.int y5), .val (.int (Int32.ofNat f1)), .val (.int (Int32.ofNat s1)), .val (.int (Int32.ofNat f2)), .val (.int (Int32.ofNat s2)), .val (.int (Int32.ofNat n1)), .val (.int (Int32.ofNat n2)), .val (.int (Int32.ofNat n3)), .val (.int (Int32.ofNat a1)), .val (.int (Int32.ofNat a2)), .val (.int (Int32.ofNat q)), .val (.int (Int32.ofNat o)), .val (.int (Int32.ofNat mm)), .val (.int v18), .val (.ref tb), .unset, .unset, .unset, .unset, .unset, .unset, .unset, .unset, .unset, .unset] [])) t → Steps p.tables e below (T18.setTop (mkF m 156 #[.val (.int y0), .val (.int y1), .val (.int y2), .val (.int y3), .val (.int y4), .val (.int y5), .val (.int (Int32.ofNat f1)), .val (.int (Int32.ofNat s1)), .val (.int (Int32.ofNat f2)), .val (.int (Int32.ofNat s2)), .val (.int (Int32.ofNat n1)), .val (.int (Int32.ofNat n2)), .val (.int (Int32.ofNat n3)), .val (.int (Int32.ofNat a1)), .val (.int (Int32.ofNat a2)), .val (.int (Int32.ofNat q)), .val (.int (Int32.ofNat o)), .val (.int (Int32.ofNat mm)), .val (.int v18), .val (.ref tb), .unset, .unset, .unset, .unset, .unset, .unset, .unset, .unset, .unset, .unset] [(.int v18)])) t) := by
    have st : ∀ t, Steps p.tables e below (T18.setTop (mkF m 156 #[.val (.int y0), .val (.int y1), .val (.int y2), .val (.int y3), .val (.int y4), .val (.int y5), .val (.int (Int32.ofNat f1)), .val (.int (Int32.ofNat s1)), .val (.int (Int32.ofNat f2)), .val (.int (Int32.ofNat s2)), .val (.int (Int32.ofNat n1)), .val (.int (Int32.ofNat n2)), .val (.int (Int32.ofNat n3)), .val (.int (Int32.ofNat a1)), .val (.int (Int32.ofNat a2)), .val (.int (Int32.ofNat q)), .val (.int (Int32.ofNat o)), .val (.int (Int32.ofNat mm)), .val (.int v18), .val (.ref tb), .unset, .unset, .unset, .unset, .unset, .unset, .unset, .unset, .unset, .unset] [(.int v18)])) t → Steps p.tables e below (T18.setTop (mkF m 156 #[.val (.int y0), .val (.int y1), .val (.int y2), .val (.int y3), .val (.int y4), .val (.int y5), .val (.int (Int32.ofNat f1)), .val (.int (Int32.ofNat s1)), .val (.int (Int32.ofNat f2)), .val (.int (Int32.ofNat s2)), .val (.int (Int32.ofNat n1)), .val (.int (Int32.ofNat n2)), .val (.int (Int32.ofNat n3)), .val (.int (Int32.ofNat a1)), .val (.int (Int32.ofNat a2)), .val (.int (Int32.ofNat q)), .val (.int (Int32.ofNat o)), .val (.int (Int32.ofNat mm)), .val (.int v18), .val (.ref tb), .unset, .unset, .unset, .unset, .unset, .unset, .unset, .unset, .unset, .unset] [(.int v18)])) t := fun t k => k
    by_cases hq : v18 = (0 : Int32)
    · have st : ∀ t, Steps p.tables e below (T18.setTop (mkF m 170 #[.val (.int y0), .val (.int y1), .val (.int y2), .val (.int y3), .val (.int y4), .val (.int y5), .val (.int (Int32.ofNat f1)), .val (.int (Int32.ofNat s1)), .val (.int (Int32.ofNat f2)), .val (.int (Int32.ofNat s2)), .val (.int (Int32.ofNat n1)), .val (.int (Int32.ofNat n2)), .val (.int (Int32.ofNat n3)), .val (.int (Int32.ofNat a1)), .val (.int (Int32.ofNat a2)), .val (.int (Int32.ofNat q)), .val (.int (Int32.ofNat o)), .val (.int (Int32.ofNat mm)), .val (.int v18), .val (.ref tb), .unset, .unset, .unset, .unset, .unset, .unset, .unset, .unset, .unset, .unset] [])) t → Steps p.tables e below (T18.setTop (mkF m 156 #[.val (.int y0), .val (.int y1), .val (.int y2), .val (.int y3), .val (.int y4), .val (.int y5), .val (.int (Int32.ofNat f1)), .val (.int (Int32.ofNat s1)), .val (.int (Int32.ofNat f2)), .val (.int (Int32.ofNat s2)), .val (.int (Int32.ofNat n1)), .val (.int (Int32.ofNat n2)), .val (.int (Int32.ofNat n3)), .val (.int (Int32.ofNat a1)), .val (.int (Int32.ofNat a2)), .val (.int (Int32.ofNat q)), .val (.int (Int32.ofNat o)), .val (.int (Int32.ofNat mm)), .val (.int v18), .val (.ref tb), .unset, .unset, .unset, .unset, .unset, .unset, .unset, .unset, .unset, .unset] [(.int v18)])) t := fun t k => st t (by
          show Steps p.tables e below (T18.setTop (mkF m 156 #[.val (.int y0), .val (.int y1), .val (.int y2), .val (.int y3), .val (.int y4), .val (.int y5), .val (.int (Int32.ofNat f1)), .val (.int (Int32.ofNat s1)), .val (.int (Int32.ofNat f2)), .val (.int (Int32.ofNat s2)), .val (.int (Int32.ofNat n1)), .val (.int (Int32.ofNat n2)), .val (.int (Int32.ofNat n3)), .val (.int (Int32.ofNat a1)), .val (.int (Int32.ofNat a2)), .val (.int (Int32.ofNat q)), .val (.int (Int32.ofNat o)), .val (.int (Int32.ofNat mm)), .val (.int v18), .val (.ref tb), .unset, .unset, .unset, .unset, .unset, .unset, .unset, .unset, .unset, .unset] [(.int v18)])) _
          refine XS.ifYes X.here hx rfl (pc0 := 156) (pc' := 170) rfl (hb hby at_156) rfl ((if0 _ _).trans (teq hq).1) (by decide) (by decide) ?_
          exact k)
      exact ⟨T18, h19, _, ks2, us2, (fun _ => (0 : Int64)), sz2, X, N, eh, Z0, E_tb, B, (by omega), st⟩
    · have st : ∀ t, Steps p.tables e below (T18.setTop (mkF m 167 #[.val (.int y0), .val (.int y1), .val (.int y2), .val (.int y3), .val (.int y4), .val (.int y5), .val (.int (Int32.ofNat f1)), .val (.int (Int32.ofNat s1)), .val (.int (Int32.ofNat f2)), .val (.int (Int32.ofNat s2)), .val (.int (Int32.ofNat n1)), .val (.int (Int32.ofNat n2)), .val (.int (Int32.ofNat n3)), .val (.int (Int32.ofNat a1)), .val (.int (Int32.ofNat a2)), .val (.int (Int32.ofNat q)), .val (.int (Int32.ofNat o)), .val (.int (Int32.ofNat mm)), .val (.int v18), .val (.ref tb), .unset, .unset, .unset, .unset, .unset, .unset, .unset, .unset, .unset, .unset] [(.int (Int32.ofNat n3)), (.int (Int32.ofNat mm)), (.int (Int32.ofNat o)), (.ref tb)])) t → Steps p.tables e below (T18.setTop (mkF m 156 #[.val (.int y0), .val (.int y1), .val (.int y2), .val (.int y3), .val (.int y4), .val (.int y5), .val (.int (Int32.ofNat f1)), .val (.int (Int32.ofNat s1)), .val (.int (Int32.ofNat f2)), .val (.int (Int32.ofNat s2)), .val (.int (Int32.ofNat n1)), .val (.int (Int32.ofNat n2)), .val (.int (Int32.ofNat n3)), .val (.int (Int32.ofNat a1)), .val (.int (Int32.ofNat a2)), .val (.int (Int32.ofNat q)), .val (.int (Int32.ofNat o)), .val (.int (Int32.ofNat mm)), .val (.int v18), .val (.ref tb), .unset, .unset, .unset, .unset, .unset, .unset, .unset, .unset, .unset, .unset] [(.int v18)])) t := fun t k => st t (by
          show Steps p.tables e below (T18.setTop (mkF m 156 #[.val (.int y0), .val (.int y1), .val (.int y2), .val (.int y3), .val (.int y4), .val (.int y5), .val (.int (Int32.ofNat f1)), .val (.int (Int32.ofNat s1)), .val (.int (Int32.ofNat f2)), .val (.int (Int32.ofNat s2)), .val (.int (Int32.ofNat n1)), .val (.int (Int32.ofNat n2)), .val (.int (Int32.ofNat n3)), .val (.int (Int32.ofNat a1)), .val (.int (Int32.ofNat a2)), .val (.int (Int32.ofNat q)), .val (.int (Int32.ofNat o)), .val (.int (Int32.ofNat mm)), .val (.int v18), .val (.ref tb), .unset, .unset, .unset, .unset, .unset, .unset, .unset, .unset, .unset, .unset] [(.int v18)])) _
          refine XS.ifNo X.here hx rfl (hb hby at_156) rfl ((if0 _ _).trans (feq hq).1) ?_
          show Steps p.tables e below (T18.setTop (mkF m 159 #[.val (.int y0), .val (.int y1), .val (.int y2), .val (.int y3), .val (.int y4), .val (.int y5), .val (.int (Int32.ofNat f1)), .val (.int (Int32.ofNat s1)), .val (.int (Int32.ofNat f2)), .val (.int (Int32.ofNat s2)), .val (.int (Int32.ofNat n1)), .val (.int (Int32.ofNat n2)), .val (.int (Int32.ofNat n3)), .val (.int (Int32.ofNat a1)), .val (.int (Int32.ofNat a2)), .val (.int (Int32.ofNat q)), .val (.int (Int32.ofNat o)), .val (.int (Int32.ofNat mm)), .val (.int v18), .val (.ref tb), .unset, .unset, .unset, .unset, .unset, .unset, .unset, .unset, .unset, .unset] [])) _
          refine XS.aload X.here hx rfl (hb hby at_159) rfl rfl ?_
          show Steps p.tables e below (T18.setTop (mkF m 161 #[.val (.int y0), .val (.int y1), .val (.int y2), .val (.int y3), .val (.int y4), .val (.int y5), .val (.int (Int32.ofNat f1)), .val (.int (Int32.ofNat s1)), .val (.int (Int32.ofNat f2)), .val (.int (Int32.ofNat s2)), .val (.int (Int32.ofNat n1)), .val (.int (Int32.ofNat n2)), .val (.int (Int32.ofNat n3)), .val (.int (Int32.ofNat a1)), .val (.int (Int32.ofNat a2)), .val (.int (Int32.ofNat q)), .val (.int (Int32.ofNat o)), .val (.int (Int32.ofNat mm)), .val (.int v18), .val (.ref tb), .unset, .unset, .unset, .unset, .unset, .unset, .unset, .unset, .unset, .unset] [(.ref tb)])) _
          refine XS.iload X.here hx rfl (hb hby at_161) rfl ?_
          show Steps p.tables e below (T18.setTop (mkF m 163 #[.val (.int y0), .val (.int y1), .val (.int y2), .val (.int y3), .val (.int y4), .val (.int y5), .val (.int (Int32.ofNat f1)), .val (.int (Int32.ofNat s1)), .val (.int (Int32.ofNat f2)), .val (.int (Int32.ofNat s2)), .val (.int (Int32.ofNat n1)), .val (.int (Int32.ofNat n2)), .val (.int (Int32.ofNat n3)), .val (.int (Int32.ofNat a1)), .val (.int (Int32.ofNat a2)), .val (.int (Int32.ofNat q)), .val (.int (Int32.ofNat o)), .val (.int (Int32.ofNat mm)), .val (.int v18), .val (.ref tb), .unset, .unset, .unset, .unset, .unset, .unset, .unset, .unset, .unset, .unset] [(.int (Int32.ofNat o)), (.ref tb)])) _
          refine XS.iload X.here hx rfl (hb hby at_163) rfl ?_
          show Steps p.tables e below (T18.setTop (mkF m 165 #[.val (.int y0), .val (.int y1), .val (.int y2), .val (.int y3), .val (.int y4), .val (.int y5), .val (.int (Int32.ofNat f1)), .val (.int (Int32.ofNat s1)), .val (.int (Int32.ofNat f2)), .val (.int (Int32.ofNat s2)), .val (.int (Int32.ofNat n1)), .val (.int (Int32.ofNat n2)), .val (.int (Int32.ofNat n3)), .val (.int (Int32.ofNat a1)), .val (.int (Int32.ofNat a2)), .val (.int (Int32.ofNat q)), .val (.int (Int32.ofNat o)), .val (.int (Int32.ofNat mm)), .val (.int v18), .val (.ref tb), .unset, .unset, .unset, .unset, .unset, .unset, .unset, .unset, .unset, .unset] [(.int (Int32.ofNat mm)), (.int (Int32.ofNat o)), (.ref tb)])) _
          refine XS.iload X.here hx rfl (hb hby at_165) rfl ?_
          exact k)
      obtain ⟨cq24, kq24, qa24, qb24, qc24⟩ := isOf hZ eh E_tb
      obtain ⟨_, _, ⟨T25, L24, k24, n24⟩, -, X, ⟨Lc24, hQ, l24, y24, z24⟩, sx⟩ := X.virtualBack hx (y := (⟨"com/example/paretoloom/paretoloom/TabuList", "forbidOn", "(III)V"⟩ : MethodName)) (z := (⟨"com/example/paretoloom/paretoloom/TabuList", "forbidOn", "(III)V"⟩ : MethodName)) hown (mvT hZ (hw _ (List.mem_of_getElem? (i := 63) rfl))) (mvT hZ (hw _ (List.mem_of_getElem? (i := 64) rfl))) (notFace_of_selects (args := #[]) (mvT hZ (hw _ (List.mem_of_getElem? (i := 66) rfl)))) (mvT hZ (hw _ (List.mem_of_getElem? (i := 66) rfl))) (mvT hZ (hw _ (List.mem_of_getElem? (i := 65) rfl))) (by decide) (backOf (W := 0) (rm11 l Z a0 hw [] tb (Int32.ofNat mm) (Int32.ofNat n3) ka ua fa sa ma k_ka k_ua k_fa k_sa k_ma ks2 us2 fs2 ss2 (fun _ => (0 : Int64)) sp1 sz2 o h19 n0 Z0 B D (by omega) hE2 ho) hZ (hw _ (List.mem_of_getElem? (i := 67) rfl)) (hw _ (List.mem_of_getElem? (i := 3) rfl)) (by decide) (by decide)) qa24 qc24 (g := (mkF m 167 #[.val (.int y0), .val (.int y1), .val (.int y2), .val (.int y3), .val (.int y4), .val (.int y5), .val (.int (Int32.ofNat f1)), .val (.int (Int32.ofNat s1)), .val (.int (Int32.ofNat f2)), .val (.int (Int32.ofNat s2)), .val (.int (Int32.ofNat n1)), .val (.int (Int32.ofNat n2)), .val (.int (Int32.ofNat n3)), .val (.int (Int32.ofNat a1)), .val (.int (Int32.ofNat a2)), .val (.int (Int32.ofNat q)), .val (.int (Int32.ofNat o)), .val (.int (Int32.ofNat mm)), .val (.int v18), .val (.ref tb), .unset, .unset, .unset, .unset, .unset, .unset, .unset, .unset, .unset, .unset] [(.int (Int32.ofNat n3)), (.int (Int32.ofNat mm)), (.int (Int32.ofNat o)), (.ref tb)])) rfl (by rw [hml]; rfl) (Steps.refl _) (argsL := [(.int (Int32.ofNat o)), (.int (Int32.ofNat mm)), (.int (Int32.ofNat n3))]) (rest := []) (lenOf own_pd7 rfl) rfl (by show 2 * 0 + _ ≤ _; exact Nat.le_of_eq rfl) (hb hby at_167) (fun _ _ => ⟨rfl, eh, (by decide : 6 + 0 ≤ _), (by decide : 50 + 0 ≤ _)⟩)
      dsimp only [Pt.U, Pt.locs, Pt.cells, Pt.slots] at X l24 y24 z24 sx hQ
      subst l24 y24 z24
      obtain ⟨rfl, Nc, K1, ms3, r3, ks3, us3, sz3, hks3, hsz3, B⟩ := hQ
      have st : ∀ t, Steps p.tables e below (T25.setTop (mkF m 170 #[.val (.int y0), .val (.int y1), .val (.int y2), .val (.int y3), .val (.int y4), .val (.int y5), .val (.int (Int32.ofNat f1)), .val (.int (Int32.ofNat s1)), .val (.int (Int32.ofNat f2)), .val (.int (Int32.ofNat s2)), .val (.int (Int32.ofNat n1)), .val (.int (Int32.ofNat n2)), .val (.int (Int32.ofNat n3)), .val (.int (Int32.ofNat a1)), .val (.int (Int32.ofNat a2)), .val (.int (Int32.ofNat q)), .val (.int (Int32.ofNat o)), .val (.int (Int32.ofNat mm)), .val (.int v18), .val (.ref tb), .unset, .unset, .unset, .unset, .unset, .unset, .unset, .unset, .unset, .unset] [])) t → Steps p.tables e below (T18.setTop (mkF m 156 #[.val (.int y0), .val (.int y1), .val (.int y2), .val (.int y3), .val (.int y4), .val (.int y5), .val (.int (Int32.ofNat f1)), .val (.int (Int32.ofNat s1)), .val (.int (Int32.ofNat f2)), .val (.int (Int32.ofNat s2)), .val (.int (Int32.ofNat n1)), .val (.int (Int32.ofNat n2)), .val (.int (Int32.ofNat n3)), .val (.int (Int32.ofNat a1)), .val (.int (Int32.ofNat a2)), .val (.int (Int32.ofNat q)), .val (.int (Int32.ofNat o)), .val (.int (Int32.ofNat mm)), .val (.int v18), .val (.ref tb), .unset, .unset, .unset, .unset, .unset, .unset, .unset, .unset, .unset, .unset] [(.int v18)])) t := fun t k => st t (sx.trans k)
      have N := Fr.app N Nc
      obtain ⟨h26, eH⟩ : ∃ z, z = T25.heap := ⟨_, rfl⟩
      rw [← eH] at K1 B
      have eh : T25.heap = h26 := eH.symm
      have E_tb := E_tb.keep K1
      have Z0 := Nat.le_trans Z0 K1.1
      exact ⟨T25, h26, _, ks3, us3, ms3, sz3, X, N, eh, Z0, E_tb, B, (by omega), st⟩
  have st : ∀ t, Steps p.tables e below (T21.setTop (mkF m 170 #[.val (.int y0), .val (.int y1), .val (.int y2), .val (.int y3), .val (.int y4), .val (.int y5), .val (.int (Int32.ofNat f1)), .val (.int (Int32.ofNat s1)), .val (.int (Int32.ofNat f2)), .val (.int (Int32.ofNat s2)), .val (.int (Int32.ofNat n1)), .val (.int (Int32.ofNat n2)), .val (.int (Int32.ofNat n3)), .val (.int (Int32.ofNat a1)), .val (.int (Int32.ofNat a2)), .val (.int (Int32.ofNat q)), .val (.int (Int32.ofNat o)), .val (.int (Int32.ofNat mm)), .val (.int v18), .val (.ref tb), .unset, .unset, .unset, .unset, .unset, .unset, .unset, .unset, .unset, .unset] [])) t → Steps p.tables e below (s₁.setTop (mkF m 0 #[.val (.int y0), .val (.int y1), .val (.int y2), .val (.int y3), .val (.int y4), .val (.int y5), .unset, .unset, .unset, .unset, .unset, .unset, .unset, .unset, .unset, .unset, .unset, .unset, .unset, .unset, .unset, .unset, .unset, .unset, .unset, .unset, .unset, .unset, .unset, .unset] [])) t := fun t k => st t (sx t k)
  have st : ∀ t, Steps p.tables e below (T21.setTop (mkF m 173 #[.val (.int y0), .val (.int y1), .val (.int y2), .val (.int y3), .val (.int y4), .val (.int y5), .val (.int (Int32.ofNat f1)), .val (.int (Int32.ofNat s1)), .val (.int (Int32.ofNat f2)), .val (.int (Int32.ofNat s2)), .val (.int (Int32.ofNat n1)), .val (.int (Int32.ofNat n2)), .val (.int (Int32.ofNat n3)), .val (.int (Int32.ofNat a1)), .val (.int (Int32.ofNat a2)), .val (.int (Int32.ofNat q)), .val (.int (Int32.ofNat o)), .val (.int (Int32.ofNat mm)), .val (.int v18), .val (.ref tb), .unset, .unset, .unset, .unset, .unset, .unset, .unset, .unset, .unset, .unset] [(.int (1 : Int32)), (.int (Int32.ofNat a2))])) t → Steps p.tables e below (s₁.setTop (mkF m 0 #[.val (.int y0), .val (.int y1), .val (.int y2), .val (.int y3), .val (.int y4), .val (.int y5), .unset, .unset, .unset, .unset, .unset, .unset, .unset, .unset, .unset, .unset, .unset, .unset, .unset, .unset, .unset, .unset, .unset, .unset, .unset, .unset, .unset, .unset, .unset, .unset] [])) t := fun t k => st t (by
      show Steps p.tables e below (T21.setTop (mkF m 170 #[.val (.int y0), .val (.int y1), .val (.int y2), .val (.int y3), .val (.int y4), .val (.int y5), .val (.int (Int32.ofNat f1)), .val (.int (Int32.ofNat s1)), .val (.int (Int32.ofNat f2)), .val (.int (Int32.ofNat s2)), .val (.int (Int32.ofNat n1)), .val (.int (Int32.ofNat n2)), .val (.int (Int32.ofNat n3)), .val (.int (Int32.ofNat a1)), .val (.int (Int32.ofNat a2)), .val (.int (Int32.ofNat q)), .val (.int (Int32.ofNat o)), .val (.int (Int32.ofNat mm)), .val (.int v18), .val (.ref tb), .unset, .unset, .unset, .unset, .unset, .unset, .unset, .unset, .unset, .unset] [])) _
      refine XS.iload X.here hx rfl (hb hby at_170) rfl ?_
      show Steps p.tables e below (T21.setTop (mkF m 172 #[.val (.int y0), .val (.int y1), .val (.int y2), .val (.int y3), .val (.int y4), .val (.int y5), .val (.int (Int32.ofNat f1)), .val (.int (Int32.ofNat s1)), .val (.int (Int32.ofNat f2)), .val (.int (Int32.ofNat s2)), .val (.int (Int32.ofNat n1)), .val (.int (Int32.ofNat n2)), .val (.int (Int32.ofNat n3)), .val (.int (Int32.ofNat a1)), .val (.int (Int32.ofNat a2)), .val (.int (Int32.ofNat q)), .val (.int (Int32.ofNat o)), .val (.int (Int32.ofNat mm)), .val (.int v18), .val (.ref tb), .unset, .unset, .unset, .unset, .unset, .unset, .unset, .unset, .unset, .unset] [(.int (Int32.ofNat a2))])) _
      refine XS.iconst X.here hx rfl (hb hby at_172) ?_
      exact k)
  obtain ⟨lo27, X, N⟩ : ∃ loX, Stand p l e room_1 s m #[(.int y0), (.int y1), (.int y2), (.int y3), (.int y4), (.int y5)] below meth cd0 T21 loX 6 50 ∧ Fr n0 loX := ⟨_, X, N⟩
  obtain ⟨T28, h29, lo30, sp2, X, N, eh, Z0, E_tb, B, hsp2, sx⟩ : ∃ (T28 : State) (h29 : Heap) (lo30 : List Loc) (sp2 : Nat), Stand p l e room_1 s m #[(.int y0), (.int y1), (.int y2), (.int y3), (.int y4), (.int y5)] below meth cd0 T28 lo30 6 50 ∧ Fr n0 lo30 ∧ T28.heap = h29 ∧ n0 ≤ h29.size ∧ Exa Z h29 tb "com/example/paretoloom/paretoloom/TabuList" ∧ own_TL Z h29 tb ka ua fa sa ma k_ka k_ua k_fa k_sa k_ma ks3 us3 fs2 ss2 ms3 sp2 sz3 ∧ sp2 = sp1 + min a2 1 ∧ (∀ t, Steps p.tables e below (T28.setTop (mkF m 181 #[.val (.int y0), .val (.int y1), .val (.int y2), .val (.int y3), .val (.int y4), .val (.int y5), .val (.int (Int32.ofNat f1)), .val (.int (Int32.ofNat s1)), .val (.int (Int32.ofNat f2)), .val (.int (Int32.ofNat s2)), .val (.int (Int32.ofNat n1)), .val (.int (Int32.ofNat n2)), .val (.int (Int32.ofNat n3)), .val (.int (Int32.ofNat a1)), .val (.int (Int32.ofNat a2)), .val (.int (Int32.ofNat q)), .val (.int (Int32.ofNat o)), .val (.int (Int32.ofNat mm)), .val (.int v18), .val (.ref tb), .unset, .unset, .unset, .unset, .unset, .unset, .unset, .unset, .unset, .unset] [])) t → Steps p.tables e below (T21.setTop (mkF m 173 #[.val (.int y0), .val (.int y1), .val (.int y2), .val (.int y3), .val (.int y4), .val (.int y5), .val (.int (Int32.ofNat f1)), .val (.int (Int32.ofNat s1)), .val (.int (Int32.ofNat f2)), .val (.int (Int32.ofNat s2)), .val (.int (Int32.ofNat n1)), .val (.int (Int32.ofNat n2)), .val (.int (Int32.ofNat n3)), .val (.int (Int32.ofNat a1)), .val (.int (Int32.ofNat a2)), .val (.int (Int32.ofNat q)), .val (.int (Int32.ofNat o)), .val (.int (Int32.ofNat mm)), .val (.int v18), .val (.ref tb), .unset, .unset, .unset, .unset, .unset, .unset, .unset, .unset, .unset, .unset] [(.int (1 : Int32)), (.int (Int32.ofNat a2))])) t) := by
    have st : ∀ t, Steps p.tables e below (T21.setTop (mkF m 173 #[.val (.int y0), .val (.int y1), .val (.int y2), .val (.int y3), .val (.int y4), .val (.int y5), .val (.int (Int32.ofNat f1)), .val (.int (Int32.ofNat s1)), .val (.int (Int32.ofNat f2)), .val (.int (Int32.ofNat s2)), .val (.int (Int32.ofNat n1)), .val (.int (Int32.ofNat n2)), .val (.int (Int32.ofNat n3)), .val (.int (Int32.ofNat a1)), .val (.int (Int32.ofNat a2)), .val (.int (Int32.ofNat q)), .val (.int (Int32.ofNat o)), .val (.int (Int32.ofNat mm)), .val (.int v18), .val (.ref tb), .unset, .unset, .unset, .unset, .unset, .unset, .unset, .unset, .unset, .unset] [(.int (1 : Int32)), (.int (Int32.ofNat a2))])) t → Steps p.tables e below (T21.setTop (mkF m 173 #[.val (.int y0), .val (.int y1), .val (.int y2), .val (.int y3), .val (.int y4), .val (.int y5), .val (.int (Int32.ofNat f1)), .val (.int (Int32.ofNat s1)), .val (.int (Int32.ofNat f2)), .val (.int (Int32.ofNat s2)), .val (.int (Int32.ofNat n1)), .val (.int (Int32.ofNat n2)), .val (.int (Int32.ofNat n3)), .val (.int (Int32.ofNat a1)), .val (.int (Int32.ofNat a2)), .val (.int (Int32.ofNat q)), .val (.int (Int32.ofNat o)), .val (.int (Int32.ofNat mm)), .val (.int v18), .val (.ref tb), .unset, .unset, .unset, .unset, .unset, .unset, .unset, .unset, .unset, .unset] [(.int (1 : Int32)), (.int (Int32.ofNat a2))])) t := fun t k => k
    by_cases hq : (Int32.ofNat a2) < (1 : Int32)
    · have st : ∀ t, Steps p.tables e below (T21.setTop (mkF m 181 #[.val (.int y0), .val (.int y1), .val (.int y2), .val (.int y3), .val (.int y4), .val (.int y5), .val (.int (Int32.ofNat f1)), .val (.int (Int32.ofNat s1)), .val (.int (Int32.ofNat f2)), .val (.int (Int32.ofNat s2)), .val (.int (Int32.ofNat n1)), .val (.int (Int32.ofNat n2)), .val (.int (Int32.ofNat n3)), .val (.int (Int32.ofNat a1)), .val (.int (Int32.ofNat a2)), .val (.int (Int32.ofNat q)), .val (.int (Int32.ofNat o)), .val (.int (Int32.ofNat mm)), .val (.int v18), .val (.ref tb), .unset, .unset, .unset, .unset, .unset, .unset, .unset, .unset, .unset, .unset] [])) t → Steps p.tables e below (T21.setTop (mkF m 173 #[.val (.int y0), .val (.int y1), .val (.int y2), .val (.int y3), .val (.int y4), .val (.int y5), .val (.int (Int32.ofNat f1)), .val (.int (Int32.ofNat s1)), .val (.int (Int32.ofNat f2)), .val (.int (Int32.ofNat s2)), .val (.int (Int32.ofNat n1)), .val (.int (Int32.ofNat n2)), .val (.int (Int32.ofNat n3)), .val (.int (Int32.ofNat a1)), .val (.int (Int32.ofNat a2)), .val (.int (Int32.ofNat q)), .val (.int (Int32.ofNat o)), .val (.int (Int32.ofNat mm)), .val (.int v18), .val (.ref tb), .unset, .unset, .unset, .unset, .unset, .unset, .unset, .unset, .unset, .unset] [(.int (1 : Int32)), (.int (Int32.ofNat a2))])) t := fun t k => st t (by
          show Steps p.tables e below (T21.setTop (mkF m 173 #[.val (.int y0), .val (.int y1), .val (.int y2), .val (.int y3), .val (.int y4), .val (.int y5), .val (.int (Int32.ofNat f1)), .val (.int (Int32.ofNat s1)), .val (.int (Int32.ofNat f2)), .val (.int (Int32.ofNat s2)), .val (.int (Int32.ofNat n1)), .val (.int (Int32.ofNat n2)), .val (.int (Int32.ofNat n3)), .val (.int (Int32.ofNat a1)), .val (.int (Int32.ofNat a2)), .val (.int (Int32.ofNat q)), .val (.int (Int32.ofNat o)), .val (.int (Int32.ofNat mm)), .val (.int v18), .val (.ref tb), .unset, .unset, .unset, .unset, .unset, .unset, .unset, .unset, .unset, .unset] [(.int (1 : Int32)), (.int (Int32.ofNat a2))])) _
          refine XS.icmpYes X.here hx rfl (pc0 := 173) (pc' := 181) rfl (hb hby at_173) rfl (tlt hq).1 (by decide) (by decide) ?_
          exact k)
      have z : a2 < 1 := (own_lt (by omega) (by decide)).mp hq
      exact ⟨T21, h22, _, sp1, X, N, eh, Z0, E_tb, B, (by omega), st⟩
    · have z : ¬ a2 < 1 := fun y => hq ((own_lt (by omega) (by decide)).mpr y)
      have st : ∀ t, Steps p.tables e below (T21.setTop (mkF m 178 #[.val (.int y0), .val (.int y1), .val (.int y2), .val (.int y3), .val (.int y4), .val (.int y5), .val (.int (Int32.ofNat f1)), .val (.int (Int32.ofNat s1)), .val (.int (Int32.ofNat f2)), .val (.int (Int32.ofNat s2)), .val (.int (Int32.ofNat n1)), .val (.int (Int32.ofNat n2)), .val (.int (Int32.ofNat n3)), .val (.int (Int32.ofNat a1)), .val (.int (Int32.ofNat a2)), .val (.int (Int32.ofNat q)), .val (.int (Int32.ofNat o)), .val (.int (Int32.ofNat mm)), .val (.int v18), .val (.ref tb), .unset, .unset, .unset, .unset, .unset, .unset, .unset, .unset, .unset, .unset] [(.ref tb)])) t → Steps p.tables e below (T21.setTop (mkF m 173 #[.val (.int y0), .val (.int y1), .val (.int y2), .val (.int y3), .val (.int y4), .val (.int y5), .val (.int (Int32.ofNat f1)), .val (.int (Int32.ofNat s1)), .val (.int (Int32.ofNat f2)), .val (.int (Int32.ofNat s2)), .val (.int (Int32.ofNat n1)), .val (.int (Int32.ofNat n2)), .val (.int (Int32.ofNat n3)), .val (.int (Int32.ofNat a1)), .val (.int (Int32.ofNat a2)), .val (.int (Int32.ofNat q)), .val (.int (Int32.ofNat o)), .val (.int (Int32.ofNat mm)), .val (.int v18), .val (.ref tb), .unset, .unset, .unset, .unset, .unset, .unset, .unset, .unset, .unset, .unset] [(.int (1 : Int32)), (.int (Int32.ofNat a2))])) t := fun t k => st t (by
          show Steps p.tables e below (T21.setTop (mkF m 173 #[.val (.int y0), .val (.int y1), .val (.int y2), .val (.int y3), .val (.int y4), .val (.int y5), .val (.int (Int32.ofNat f1)), .val (.int (Int32.ofNat s1)), .val (.int (Int32.ofNat f2)), .val (.int (Int32.ofNat s2)), .val (.int (Int32.ofNat n1)), .val (.int (Int32.ofNat n2)), .val (.int (Int32.ofNat n3)), .val (.int (Int32.ofNat a1)), .val (.int (Int32.ofNat a2)), .val (.int (Int32.ofNat q)), .val (.int (Int32.ofNat o)), .val (.int (Int32.ofNat mm)), .val (.int v18), .val (.ref tb), .unset, .unset, .unset, .unset, .unset, .unset, .unset, .unset, .unset, .unset] [(.int (1 : Int32)), (.int (Int32.ofNat a2))])) _
          refine XS.icmpNo X.here hx rfl (hb hby at_173) rfl (flt hq).1 ?_
          show Steps p.tables e below (T21.setTop (mkF m 176 #[.val (.int y0), .val (.int y1), .val (.int y2), .val (.int y3), .val (.int y4), .val (.int y5), .val (.int (Int32.ofNat f1)), .val (.int (Int32.ofNat s1)), .val (.int (Int32.ofNat f2)), .val (.int (Int32.ofNat s2)), .val (.int (Int32.ofNat n1)), .val (.int (Int32.ofNat n2)), .val (.int (Int32.ofNat n3)), .val (.int (Int32.ofNat a1)), .val (.int (Int32.ofNat a2)), .val (.int (Int32.ofNat q)), .val (.int (Int32.ofNat o)), .val (.int (Int32.ofNat mm)), .val (.int v18), .val (.ref tb), .unset, .unset, .unset, .unset, .unset, .unset, .unset, .unset, .unset, .unset] [])) _
          refine XS.aload X.here hx rfl (hb hby at_176) rfl rfl ?_
          exact k)
      obtain ⟨cq31, kq31, qa31, qb31, qc31⟩ := isOf hZ eh E_tb
      obtain ⟨_, _, ⟨T32, L31, k31, n31⟩, -, X, ⟨Lc31, hQ, l31, y31, z31⟩, sx⟩ := X.virtualBack hx (y := (⟨"com/example/paretoloom/paretoloom/TabuList", "advance", "()V"⟩ : MethodName)) (z := (⟨"com/example/paretoloom/paretoloom/TabuList", "advance", "()V"⟩ : MethodName)) hown (mvT hZ (hw _ (List.mem_of_getElem? (i := 72) rfl))) (mvT hZ (hw _ (List.mem_of_getElem? (i := 73) rfl))) (notFace_of_selects (args := #[]) (mvT hZ (hw _ (List.mem_of_getElem? (i := 75) rfl)))) (mvT hZ (hw _ (List.mem_of_getElem? (i := 75) rfl))) (mvT hZ (hw _ (List.mem_of_getElem? (i := 74) rfl))) (by decide) (backOf (W := 0) (rm13 l Z a0 hw [] tb ka ua fa sa ma k_ka k_ua k_fa k_sa k_ma ks3 us3 fs2 ss2 ms3 sp1 sz3 h22 n0 Z0 B D (by omega)) hZ (hw _ (List.mem_of_getElem? (i := 76) rfl)) (hw _ (List.mem_of_getElem? (i := 3) rfl)) (by decide) (by decide)) qa31 qc31 (g := (mkF m 178 #[.val (.int y0), .val (.int y1), .val (.int y2), .val (.int y3), .val (.int y4), .val (.int y5), .val (.int (Int32.ofNat f1)), .val (.int (Int32.ofNat s1)), .val (.int (Int32.ofNat f2)), .val (.int (Int32.ofNat s2)), .val (.int (Int32.ofNat n1)), .val (.int (Int32.ofNat n2)), .val (.int (Int32.ofNat n3)), .val (.int (Int32.ofNat a1)), .val (.int (Int32.ofNat a2)), .val (.int (Int32.ofNat q)), .val (.int (Int32.ofNat o)), .val (.int (Int32.ofNat mm)), .val (.int v18), .val (.ref tb), .unset, .unset, .unset, .unset, .unset, .unset, .unset, .unset, .unset, .unset] [(.ref tb)])) rfl (by rw [hml]; rfl) (Steps.refl _) (argsL := []) (rest := []) (lenOf own_pd8 rfl) rfl (by show 2 * 0 + _ ≤ _; exact Nat.le_of_eq rfl) (hb hby at_178) (fun _ _ => ⟨rfl, eh, (by decide : 6 + 0 ≤ _), (by decide : 50 + 0 ≤ _)⟩)
      dsimp only [Pt.U, Pt.locs, Pt.cells, Pt.slots] at X l31 y31 z31 sx hQ
      subst l31 y31 z31
      obtain ⟨rfl, Nc, K1, B⟩ := hQ
      have st : ∀ t, Steps p.tables e below (T32.setTop (mkF m 181 #[.val (.int y0), .val (.int y1), .val (.int y2), .val (.int y3), .val (.int y4), .val (.int y5), .val (.int (Int32.ofNat f1)), .val (.int (Int32.ofNat s1)), .val (.int (Int32.ofNat f2)), .val (.int (Int32.ofNat s2)), .val (.int (Int32.ofNat n1)), .val (.int (Int32.ofNat n2)), .val (.int (Int32.ofNat n3)), .val (.int (Int32.ofNat a1)), .val (.int (Int32.ofNat a2)), .val (.int (Int32.ofNat q)), .val (.int (Int32.ofNat o)), .val (.int (Int32.ofNat mm)), .val (.int v18), .val (.ref tb), .unset, .unset, .unset, .unset, .unset, .unset, .unset, .unset, .unset, .unset] [])) t → Steps p.tables e below (T21.setTop (mkF m 173 #[.val (.int y0), .val (.int y1), .val (.int y2), .val (.int y3), .val (.int y4), .val (.int y5), .val (.int (Int32.ofNat f1)), .val (.int (Int32.ofNat s1)), .val (.int (Int32.ofNat f2)), .val (.int (Int32.ofNat s2)), .val (.int (Int32.ofNat n1)), .val (.int (Int32.ofNat n2)), .val (.int (Int32.ofNat n3)), .val (.int (Int32.ofNat a1)), .val (.int (Int32.ofNat a2)), .val (.int (Int32.ofNat q)), .val (.int (Int32.ofNat o)), .val (.int (Int32.ofNat mm)), .val (.int v18), .val (.ref tb), .unset, .unset, .unset, .unset, .unset, .unset, .unset, .unset, .unset, .unset] [(.int (1 : Int32)), (.int (Int32.ofNat a2))])) t := fun t k => st t (sx.trans k)
      have N := Fr.app N Nc
      obtain ⟨h33, eH⟩ : ∃ z, z = T32.heap := ⟨_, rfl⟩
      rw [← eH] at K1 B
      have eh : T32.heap = h33 := eH.symm
      have E_tb := E_tb.keep K1
      have Z0 := Nat.le_trans Z0 K1.1
      exact ⟨T32, h33, _, (sp1 + 1), X, N, eh, Z0, E_tb, B, (by omega), st⟩
  have st : ∀ t, Steps p.tables e below (T28.setTop (mkF m 181 #[.val (.int y0), .val (.int y1), .val (.int y2), .val (.int y3), .val (.int y4), .val (.int y5), .val (.int (Int32.ofNat f1)), .val (.int (Int32.ofNat s1)), .val (.int (Int32.ofNat f2)), .val (.int (Int32.ofNat s2)), .val (.int (Int32.ofNat n1)), .val (.int (Int32.ofNat n2)), .val (.int (Int32.ofNat n3)), .val (.int (Int32.ofNat a1)), .val (.int (Int32.ofNat a2)), .val (.int (Int32.ofNat q)), .val (.int (Int32.ofNat o)), .val (.int (Int32.ofNat mm)), .val (.int v18), .val (.ref tb), .unset, .unset, .unset, .unset, .unset, .unset, .unset, .unset, .unset, .unset] [])) t → Steps p.tables e below (s₁.setTop (mkF m 0 #[.val (.int y0), .val (.int y1), .val (.int y2), .val (.int y3), .val (.int y4), .val (.int y5), .unset, .unset, .unset, .unset, .unset, .unset, .unset, .unset, .unset, .unset, .unset, .unset, .unset, .unset, .unset, .unset, .unset, .unset, .unset, .unset, .unset, .unset, .unset, .unset] [])) t := fun t k => st t (sx t k)
  have st : ∀ t, Steps p.tables e below (T28.setTop (mkF m 184 #[.val (.int y0), .val (.int y1), .val (.int y2), .val (.int y3), .val (.int y4), .val (.int y5), .val (.int (Int32.ofNat f1)), .val (.int (Int32.ofNat s1)), .val (.int (Int32.ofNat f2)), .val (.int (Int32.ofNat s2)), .val (.int (Int32.ofNat n1)), .val (.int (Int32.ofNat n2)), .val (.int (Int32.ofNat n3)), .val (.int (Int32.ofNat a1)), .val (.int (Int32.ofNat a2)), .val (.int (Int32.ofNat q)), .val (.int (Int32.ofNat o)), .val (.int (Int32.ofNat mm)), .val (.int v18), .val (.ref tb), .unset, .unset, .unset, .unset, .unset, .unset, .unset, .unset, .unset, .unset] [(.int (2 : Int32)), (.int (Int32.ofNat a2))])) t → Steps p.tables e below (s₁.setTop (mkF m 0 #[.val (.int y0), .val (.int y1), .val (.int y2), .val (.int y3), .val (.int y4), .val (.int y5), .unset, .unset, .unset, .unset, .unset, .unset, .unset, .unset, .unset, .unset, .unset, .unset, .unset, .unset, .unset, .unset, .unset, .unset, .unset, .unset, .unset, .unset, .unset, .unset] [])) t := fun t k => st t (by
      show Steps p.tables e below (T28.setTop (mkF m 181 #[.val (.int y0), .val (.int y1), .val (.int y2), .val (.int y3), .val (.int y4), .val (.int y5), .val (.int (Int32.ofNat f1)), .val (.int (Int32.ofNat s1)), .val (.int (Int32.ofNat f2)), .val (.int (Int32.ofNat s2)), .val (.int (Int32.ofNat n1)), .val (.int (Int32.ofNat n2)), .val (.int (Int32.ofNat n3)), .val (.int (Int32.ofNat a1)), .val (.int (Int32.ofNat a2)), .val (.int (Int32.ofNat q)), .val (.int (Int32.ofNat o)), .val (.int (Int32.ofNat mm)), .val (.int v18), .val (.ref tb), .unset, .unset, .unset, .unset, .unset, .unset, .unset, .unset, .unset, .unset] [])) _
      refine XS.iload X.here hx rfl (hb hby at_181) rfl ?_
      show Steps p.tables e below (T28.setTop (mkF m 183 #[.val (.int y0), .val (.int y1), .val (.int y2), .val (.int y3), .val (.int y4), .val (.int y5), .val (.int (Int32.ofNat f1)), .val (.int (Int32.ofNat s1)), .val (.int (Int32.ofNat f2)), .val (.int (Int32.ofNat s2)), .val (.int (Int32.ofNat n1)), .val (.int (Int32.ofNat n2)), .val (.int (Int32.ofNat n3)), .val (.int (Int32.ofNat a1)), .val (.int (Int32.ofNat a2)), .val (.int (Int32.ofNat q)), .val (.int (Int32.ofNat o)), .val (.int (Int32.ofNat mm)), .val (.int v18), .val (.ref tb), .unset, .unset, .unset, .unset, .unset, .unset, .unset, .unset, .unset, .unset] [(.int (Int32.ofNat a2))])) _
      refine XS.iconst X.here hx rfl (hb hby at_183) ?_
      exact k)
  obtain ⟨lo34, X, N⟩ : ∃ loX, Stand p l e room_1 s m #[(.int y0), (.int y1), (.int y2), (.int y3), (.int y4), (.int y5)] below meth cd0 T28 loX 6 50 ∧ Fr n0 loX := ⟨_, X, N⟩
  obtain ⟨T35, h36, lo37, sp3, X, N, eh, Z0, E_tb, B, hsp3, sx⟩ : ∃ (T35 : State) (h36 : Heap) (lo37 : List Loc) (sp3 : Nat), Stand p l e room_1 s m #[(.int y0), (.int y1), (.int y2), (.int y3), (.int y4), (.int y5)] below meth cd0 T35 lo37 6 50 ∧ Fr n0 lo37 ∧ T35.heap = h36 ∧ n0 ≤ h36.size ∧ Exa Z h36 tb "com/example/paretoloom/paretoloom/TabuList" ∧ own_TL Z h36 tb ka ua fa sa ma k_ka k_ua k_fa k_sa k_ma ks3 us3 fs2 ss2 ms3 sp3 sz3 ∧ sp3 = sp1 + min a2 2 ∧ (∀ t, Steps p.tables e below (T35.setTop (mkF m 192 #[.val (.int y0), .val (.int y1), .val (.int y2), .val (.int y3), .val (.int y4), .val (.int y5), .val (.int (Int32.ofNat f1)), .val (.int (Int32.ofNat s1)), .val (.int (Int32.ofNat f2)), .val (.int (Int32.ofNat s2)), .val (.int (Int32.ofNat n1)), .val (.int (Int32.ofNat n2)), .val (.int (Int32.ofNat n3)), .val (.int (Int32.ofNat a1)), .val (.int (Int32.ofNat a2)), .val (.int (Int32.ofNat q)), .val (.int (Int32.ofNat o)), .val (.int (Int32.ofNat mm)), .val (.int v18), .val (.ref tb), .unset, .unset, .unset, .unset, .unset, .unset, .unset, .unset, .unset, .unset] [])) t → Steps p.tables e below (T28.setTop (mkF m 184 #[.val (.int y0), .val (.int y1), .val (.int y2), .val (.int y3), .val (.int y4), .val (.int y5), .val (.int (Int32.ofNat f1)), .val (.int (Int32.ofNat s1)), .val (.int (Int32.ofNat f2)), .val (.int (Int32.ofNat s2)), .val (.int (Int32.ofNat n1)), .val (.int (Int32.ofNat n2)), .val (.int (Int32.ofNat n3)), .val (.int (Int32.ofNat a1)), .val (.int (Int32.ofNat a2)), .val (.int (Int32.ofNat q)), .val (.int (Int32.ofNat o)), .val (.int (Int32.ofNat mm)), .val (.int v18), .val (.ref tb), .unset, .unset, .unset, .unset, .unset, .unset, .unset, .unset, .unset, .unset] [(.int (2 : Int32)), (.int (Int32.ofNat a2))])) t) := by
    have st : ∀ t, Steps p.tables e below (T28.setTop (mkF m 184 #[.val (.int y0), .val (.int y1), .val (.int y2), .val (.int y3), .val (.int y4), .val (.int y5), .val (.int (Int32.ofNat f1)), .val (.int (Int32.ofNat s1)), .val (.int (Int32.ofNat f2)), .val (.int (Int32.ofNat s2)), .val (.int (Int32.ofNat n1)), .val (.int (Int32.ofNat n2)), .val (.int (Int32.ofNat n3)), .val (.int (Int32.ofNat a1)), .val (.int (Int32.ofNat a2)), .val (.int (Int32.ofNat q)), .val (.int (Int32.ofNat o)), .val (.int (Int32.ofNat mm)), .val (.int v18), .val (.ref tb), .unset, .unset, .unset, .unset, .unset, .unset, .unset, .unset, .unset, .unset] [(.int (2 : Int32)), (.int (Int32.ofNat a2))])) t → Steps p.tables e below (T28.setTop (mkF m 184 #[.val (.int y0), .val (.int y1), .val (.int y2), .val (.int y3), .val (.int y4), .val (.int y5), .val (.int (Int32.ofNat f1)), .val (.int (Int32.ofNat s1)), .val (.int (Int32.ofNat f2)), .val (.int (Int32.ofNat s2)), .val (.int (Int32.ofNat n1)), .val (.int (Int32.ofNat n2)), .val (.int (Int32.ofNat n3)), .val (.int (Int32.ofNat a1)), .val (.int (Int32.ofNat a2)), .val (.int (Int32.ofNat q)), .val (.int (Int32.ofNat o)), .val (.int (Int32.ofNat mm)), .val (.int v18), .val (.ref tb), .unset, .unset, .unset, .unset, .unset, .unset, .unset, .unset, .unset, .unset] [(.int (2 : Int32)), (.int (Int32.ofNat a2))])) t := fun t k => k
    by_cases hq : (Int32.ofNat a2) < (2 : Int32)
    · have st : ∀ t, Steps p.tables e below (T28.setTop (mkF m 192 #[.val (.int y0), .val (.int y1), .val (.int y2), .val (.int y3), .val (.int y4), .val (.int y5), .val (.int (Int32.ofNat f1)), .val (.int (Int32.ofNat s1)), .val (.int (Int32.ofNat f2)), .val (.int (Int32.ofNat s2)), .val (.int (Int32.ofNat n1)), .val (.int (Int32.ofNat n2)), .val (.int (Int32.ofNat n3)), .val (.int (Int32.ofNat a1)), .val (.int (Int32.ofNat a2)), .val (.int (Int32.ofNat q)), .val (.int (Int32.ofNat o)), .val (.int (Int32.ofNat mm)), .val (.int v18), .val (.ref tb), .unset, .unset, .unset, .unset, .unset, .unset, .unset, .unset, .unset, .unset] [])) t → Steps p.tables e below (T28.setTop (mkF m 184 #[.val (.int y0), .val (.int y1), .val (.int y2), .val (.int y3), .val (.int y4), .val (.int y5), .val (.int (Int32.ofNat f1)), .val (.int (Int32.ofNat s1)), .val (.int (Int32.ofNat f2)), .val (.int (Int32.ofNat s2)), .val (.int (Int32.ofNat n1)), .val (.int (Int32.ofNat n2)), .val (.int (Int32.ofNat n3)), .val (.int (Int32.ofNat a1)), .val (.int (Int32.ofNat a2)), .val (.int (Int32.ofNat q)), .val (.int (Int32.ofNat o)), .val (.int (Int32.ofNat mm)), .val (.int v18), .val (.ref tb), .unset, .unset, .unset, .unset, .unset, .unset, .unset, .unset, .unset, .unset] [(.int (2 : Int32)), (.int (Int32.ofNat a2))])) t := fun t k => st t (by
          show Steps p.tables e below (T28.setTop (mkF m 184 #[.val (.int y0), .val (.int y1), .val (.int y2), .val (.int y3), .val (.int y4), .val (.int y5), .val (.int (Int32.ofNat f1)), .val (.int (Int32.ofNat s1)), .val (.int (Int32.ofNat f2)), .val (.int (Int32.ofNat s2)), .val (.int (Int32.ofNat n1)), .val (.int (Int32.ofNat n2)), .val (.int (Int32.ofNat n3)), .val (.int (Int32.ofNat a1)), .val (.int (Int32.ofNat a2)), .val (.int (Int32.ofNat q)), .val (.int (Int32.ofNat o)), .val (.int (Int32.ofNat mm)), .val (.int v18), .val (.ref tb), .unset, .unset, .unset, .unset, .unset, .unset, .unset, .unset, .unset, .unset] [(.int (2 : Int32)), (.int (Int32.ofNat a2))])) _
          refine XS.icmpYes X.here hx rfl (pc0 := 184) (pc' := 192) rfl (hb hby at_184) rfl (tlt hq).1 (by decide) (by decide) ?_
          exact k)
      have z : a2 < 2 := (own_lt (by omega) (by decide)).mp hq
      exact ⟨T28, h29, _, sp2, X, N, eh, Z0, E_tb, B, (by omega), st⟩
    · have z : ¬ a2 < 2 := fun y => hq ((own_lt (by omega) (by decide)).mpr y)
      have st : ∀ t, Steps p.tables e below (T28.setTop (mkF m 189 #[.val (.int y0), .val (.int y1), .val (.int y2), .val (.int y3), .val (.int y4), .val (.int y5), .val (.int (Int32.ofNat f1)), .val (.int (Int32.ofNat s1)), .val (.int (Int32.ofNat f2)), .val (.int (Int32.ofNat s2)), .val (.int (Int32.ofNat n1)), .val (.int (Int32.ofNat n2)), .val (.int (Int32.ofNat n3)), .val (.int (Int32.ofNat a1)), .val (.int (Int32.ofNat a2)), .val (.int (Int32.ofNat q)), .val (.int (Int32.ofNat o)), .val (.int (Int32.ofNat mm)), .val (.int v18), .val (.ref tb), .unset, .unset, .unset, .unset, .unset, .unset, .unset, .unset, .unset, .unset] [(.ref tb)])) t → Steps p.tables e below (T28.setTop (mkF m 184 #[.val (.int y0), .val (.int y1), .val (.int y2), .val (.int y3), .val (.int y4), .val (.int y5), .val (.int (Int32.ofNat f1)), .val (.int (Int32.ofNat s1)), .val (.int (Int32.ofNat f2)), .val (.int (Int32.ofNat s2)), .val (.int (Int32.ofNat n1)), .val (.int (Int32.ofNat n2)), .val (.int (Int32.ofNat n3)), .val (.int (Int32.ofNat a1)), .val (.int (Int32.ofNat a2)), .val (.int (Int32.ofNat q)), .val (.int (Int32.ofNat o)), .val (.int (Int32.ofNat mm)), .val (.int v18), .val (.ref tb), .unset, .unset, .unset, .unset, .unset, .unset, .unset, .unset, .unset, .unset] [(.int (2 : Int32)), (.int (Int32.ofNat a2))])) t := fun t k => st t (by
          show Steps p.tables e below (T28.setTop (mkF m 184 #[.val (.int y0), .val (.int y1), .val (.int y2), .val (.int y3), .val (.int y4), .val (.int y5), .val (.int (Int32.ofNat f1)), .val (.int (Int32.ofNat s1)), .val (.int (Int32.ofNat f2)), .val (.int (Int32.ofNat s2)), .val (.int (Int32.ofNat n1)), .val (.int (Int32.ofNat n2)), .val (.int (Int32.ofNat n3)), .val (.int (Int32.ofNat a1)), .val (.int (Int32.ofNat a2)), .val (.int (Int32.ofNat q)), .val (.int (Int32.ofNat o)), .val (.int (Int32.ofNat mm)), .val (.int v18), .val (.ref tb), .unset, .unset, .unset, .unset, .unset, .unset, .unset, .unset, .unset, .unset] [(.int (2 : Int32)), (.int (Int32.ofNat a2))])) _
          refine XS.icmpNo X.here hx rfl (hb hby at_184) rfl (flt hq).1 ?_
          show Steps p.tables e below (T28.setTop (mkF m 187 #[.val (.int y0), .val (.int y1), .val (.int y2), .val (.int y3), .val (.int y4), .val (.int y5), .val (.int (Int32.ofNat f1)), .val (.int (Int32.ofNat s1)), .val (.int (Int32.ofNat f2)), .val (.int (Int32.ofNat s2)), .val (.int (Int32.ofNat n1)), .val (.int (Int32.ofNat n2)), .val (.int (Int32.ofNat n3)), .val (.int (Int32.ofNat a1)), .val (.int (Int32.ofNat a2)), .val (.int (Int32.ofNat q)), .val (.int (Int32.ofNat o)), .val (.int (Int32.ofNat mm)), .val (.int v18), .val (.ref tb), .unset, .unset, .unset, .unset, .unset, .unset, .unset, .unset, .unset, .unset] [])) _
          refine XS.aload X.here hx rfl (hb hby at_187) rfl rfl ?_
          exact k)
      obtain ⟨cq38, kq38, qa38, qb38, qc38⟩ := isOf hZ eh E_tb
      obtain ⟨_, _, ⟨T39, L38, k38, n38⟩, -, X, ⟨Lc38, hQ, l38, y38, z38⟩, sx⟩ := X.virtualBack hx (y := (⟨"com/example/paretoloom/paretoloom/TabuList", "advance", "()V"⟩ : MethodName)) (z := (⟨"com/example/paretoloom/paretoloom/TabuList", "advance", "()V"⟩ : MethodName)) hown (mvT hZ (hw _ (List.mem_of_getElem? (i := 72) rfl))) (mvT hZ (hw _ (List.mem_of_getElem? (i := 73) rfl))) (notFace_of_selects (args := #[]) (mvT hZ (hw _ (List.mem_of_getElem? (i := 75) rfl)))) (mvT hZ (hw _ (List.mem_of_getElem? (i := 75) rfl))) (mvT hZ (hw _ (List.mem_of_getElem? (i := 74) rfl))) (by decide) (backOf (W := 0) (rm13 l Z a0 hw [] tb ka ua fa sa ma k_ka k_ua k_fa k_sa k_ma ks3 us3 fs2 ss2 ms3 sp2 sz3 h29 n0 Z0 B D (by omega)) hZ (hw _ (List.mem_of_getElem? (i := 76) rfl)) (hw _ (List.mem_of_getElem? (i := 3) rfl)) (by decide) (by decide)) qa38 qc38 (g := (mkF m 189 #[.val (.int y0), .val (.int y1), .val (.int y2), .val (.int y3), .val (.int y4), .val (.int y5), .val (.int (Int32.ofNat f1)), .val (.int (Int32.ofNat s1)), .val (.int (Int32.ofNat f2)), .val (.int (Int32.ofNat s2)), .val (.int (Int32.ofNat n1)), .val (.int (Int32.ofNat n2)), .val (.int (Int32.ofNat n3)), .val (.int (Int32.ofNat a1)), .val (.int (Int32.ofNat a2)), .val (.int (Int32.ofNat q)), .val (.int (Int32.ofNat o)), .val (.int (Int32.ofNat mm)), .val (.int v18), .val (.ref tb), .unset, .unset, .unset, .unset, .unset, .unset, .unset, .unset, .unset, .unset] [(.ref tb)])) rfl (by rw [hml]; rfl) (Steps.refl _) (argsL := []) (rest := []) (lenOf own_pd8 rfl) rfl (by show 2 * 0 + _ ≤ _; exact Nat.le_of_eq rfl) (hb hby at_189) (fun _ _ => ⟨rfl, eh, (by decide : 6 + 0 ≤ _), (by decide : 50 + 0 ≤ _)⟩)
      dsimp only [Pt.U, Pt.locs, Pt.cells, Pt.slots] at X l38 y38 z38 sx hQ
      subst l38 y38 z38
      obtain ⟨rfl, Nc, K1, B⟩ := hQ
      have st : ∀ t, Steps p.tables e below (T39.setTop (mkF m 192 #[.val (.int y0), .val (.int y1), .val (.int y2), .val (.int y3), .val (.int y4), .val (.int y5), .val (.int (Int32.ofNat f1)), .val (.int (Int32.ofNat s1)), .val (.int (Int32.ofNat f2)), .val (.int (Int32.ofNat s2)), .val (.int (Int32.ofNat n1)), .val (.int (Int32.ofNat n2)), .val (.int (Int32.ofNat n3)), .val (.int (Int32.ofNat a1)), .val (.int (Int32.ofNat a2)), .val (.int (Int32.ofNat q)), .val (.int (Int32.ofNat o)), .val (.int (Int32.ofNat mm)), .val (.int v18), .val (.ref tb), .unset, .unset, .unset, .unset, .unset, .unset, .unset, .unset, .unset, .unset] [])) t → Steps p.tables e below (T28.setTop (mkF m 184 #[.val (.int y0), .val (.int y1), .val (.int y2), .val (.int y3), .val (.int y4), .val (.int y5), .val (.int (Int32.ofNat f1)), .val (.int (Int32.ofNat s1)), .val (.int (Int32.ofNat f2)), .val (.int (Int32.ofNat s2)), .val (.int (Int32.ofNat n1)), .val (.int (Int32.ofNat n2)), .val (.int (Int32.ofNat n3)), .val (.int (Int32.ofNat a1)), .val (.int (Int32.ofNat a2)), .val (.int (Int32.ofNat q)), .val (.int (Int32.ofNat o)), .val (.int (Int32.ofNat mm)), .val (.int v18), .val (.ref tb), .unset, .unset, .unset, .unset, .unset, .unset, .unset, .unset, .unset, .unset] [(.int (2 : Int32)), (.int (Int32.ofNat a2))])) t := fun t k => st t (sx.trans k)
      have N := Fr.app N Nc
      obtain ⟨h40, eH⟩ : ∃ z, z = T39.heap := ⟨_, rfl⟩
      rw [← eH] at K1 B
      have eh : T39.heap = h40 := eH.symm
      have E_tb := E_tb.keep K1
      have Z0 := Nat.le_trans Z0 K1.1
      exact ⟨T39, h40, _, (sp2 + 1), X, N, eh, Z0, E_tb, B, (by omega), st⟩
  have st : ∀ t, Steps p.tables e below (T35.setTop (mkF m 192 #[.val (.int y0), .val (.int y1), .val (.int y2), .val (.int y3), .val (.int y4), .val (.int y5), .val (.int (Int32.ofNat f1)), .val (.int (Int32.ofNat s1)), .val (.int (Int32.ofNat f2)), .val (.int (Int32.ofNat s2)), .val (.int (Int32.ofNat n1)), .val (.int (Int32.ofNat n2)), .val (.int (Int32.ofNat n3)), .val (.int (Int32.ofNat a1)), .val (.int (Int32.ofNat a2)), .val (.int (Int32.ofNat q)), .val (.int (Int32.ofNat o)), .val (.int (Int32.ofNat mm)), .val (.int v18), .val (.ref tb), .unset, .unset, .unset, .unset, .unset, .unset, .unset, .unset, .unset, .unset] [])) t → Steps p.tables e below (s₁.setTop (mkF m 0 #[.val (.int y0), .val (.int y1), .val (.int y2), .val (.int y3), .val (.int y4), .val (.int y5), .unset, .unset, .unset, .unset, .unset, .unset, .unset, .unset, .unset, .unset, .unset, .unset, .unset, .unset, .unset, .unset, .unset, .unset, .unset, .unset, .unset, .unset, .unset, .unset] [])) t := fun t k => st t (sx t k)
  have st : ∀ t, Steps p.tables e below (T35.setTop (mkF m 195 #[.val (.int y0), .val (.int y1), .val (.int y2), .val (.int y3), .val (.int y4), .val (.int y5), .val (.int (Int32.ofNat f1)), .val (.int (Int32.ofNat s1)), .val (.int (Int32.ofNat f2)), .val (.int (Int32.ofNat s2)), .val (.int (Int32.ofNat n1)), .val (.int (Int32.ofNat n2)), .val (.int (Int32.ofNat n3)), .val (.int (Int32.ofNat a1)), .val (.int (Int32.ofNat a2)), .val (.int (Int32.ofNat q)), .val (.int (Int32.ofNat o)), .val (.int (Int32.ofNat mm)), .val (.int v18), .val (.ref tb), .unset, .unset, .unset, .unset, .unset, .unset, .unset, .unset, .unset, .unset] [(.int (3 : Int32)), (.int (Int32.ofNat a2))])) t → Steps p.tables e below (s₁.setTop (mkF m 0 #[.val (.int y0), .val (.int y1), .val (.int y2), .val (.int y3), .val (.int y4), .val (.int y5), .unset, .unset, .unset, .unset, .unset, .unset, .unset, .unset, .unset, .unset, .unset, .unset, .unset, .unset, .unset, .unset, .unset, .unset, .unset, .unset, .unset, .unset, .unset, .unset] [])) t := fun t k => st t (by
      show Steps p.tables e below (T35.setTop (mkF m 192 #[.val (.int y0), .val (.int y1), .val (.int y2), .val (.int y3), .val (.int y4), .val (.int y5), .val (.int (Int32.ofNat f1)), .val (.int (Int32.ofNat s1)), .val (.int (Int32.ofNat f2)), .val (.int (Int32.ofNat s2)), .val (.int (Int32.ofNat n1)), .val (.int (Int32.ofNat n2)), .val (.int (Int32.ofNat n3)), .val (.int (Int32.ofNat a1)), .val (.int (Int32.ofNat a2)), .val (.int (Int32.ofNat q)), .val (.int (Int32.ofNat o)), .val (.int (Int32.ofNat mm)), .val (.int v18), .val (.ref tb), .unset, .unset, .unset, .unset, .unset, .unset, .unset, .unset, .unset, .unset] [])) _
      refine XS.iload X.here hx rfl (hb hby at_192) rfl ?_
      show Steps p.tables e below (T35.setTop (mkF m 194 #[.val (.int y0), .val (.int y1), .val (.int y2), .val (.int y3), .val (.int y4), .val (.int y5), .val (.int (Int32.ofNat f1)), .val (.int (Int32.ofNat s1)), .val (.int (Int32.ofNat f2)), .val (.int (Int32.ofNat s2)), .val (.int (Int32.ofNat n1)), .val (.int (Int32.ofNat n2)), .val (.int (Int32.ofNat n3)), .val (.int (Int32.ofNat a1)), .val (.int (Int32.ofNat a2)), .val (.int (Int32.ofNat q)), .val (.int (Int32.ofNat o)), .val (.int (Int32.ofNat mm)), .val (.int v18), .val (.ref tb), .unset, .unset, .unset, .unset, .unset, .unset, .unset, .unset, .unset, .unset] [(.int (Int32.ofNat a2))])) _
      refine XS.iconst X.here hx rfl (hb hby at_194) ?_
      exact k)
  obtain ⟨lo41, X, N⟩ : ∃ loX, Stand p l e room_1 s m #[(.int y0), (.int y1), (.int y2), (.int y3), (.int y4), (.int y5)] below meth cd0 T35 loX 6 50 ∧ Fr n0 loX := ⟨_, X, N⟩
  obtain ⟨T42, h43, lo44, sp4, X, N, eh, Z0, E_tb, B, hsp4, sx⟩ : ∃ (T42 : State) (h43 : Heap) (lo44 : List Loc) (sp4 : Nat), Stand p l e room_1 s m #[(.int y0), (.int y1), (.int y2), (.int y3), (.int y4), (.int y5)] below meth cd0 T42 lo44 6 50 ∧ Fr n0 lo44 ∧ T42.heap = h43 ∧ n0 ≤ h43.size ∧ Exa Z h43 tb "com/example/paretoloom/paretoloom/TabuList" ∧ own_TL Z h43 tb ka ua fa sa ma k_ka k_ua k_fa k_sa k_ma ks3 us3 fs2 ss2 ms3 sp4 sz3 ∧ sp4 = sp1 + min a2 3 ∧ (∀ t, Steps p.tables e below (T42.setTop (mkF m 203 #[.val (.int y0), .val (.int y1), .val (.int y2), .val (.int y3), .val (.int y4), .val (.int y5), .val (.int (Int32.ofNat f1)), .val (.int (Int32.ofNat s1)), .val (.int (Int32.ofNat f2)), .val (.int (Int32.ofNat s2)), .val (.int (Int32.ofNat n1)), .val (.int (Int32.ofNat n2)), .val (.int (Int32.ofNat n3)), .val (.int (Int32.ofNat a1)), .val (.int (Int32.ofNat a2)), .val (.int (Int32.ofNat q)), .val (.int (Int32.ofNat o)), .val (.int (Int32.ofNat mm)), .val (.int v18), .val (.ref tb), .unset, .unset, .unset, .unset, .unset, .unset, .unset, .unset, .unset, .unset] [])) t → Steps p.tables e below (T35.setTop (mkF m 195 #[.val (.int y0), .val (.int y1), .val (.int y2), .val (.int y3), .val (.int y4), .val (.int y5), .val (.int (Int32.ofNat f1)), .val (.int (Int32.ofNat s1)), .val (.int (Int32.ofNat f2)), .val (.int (Int32.ofNat s2)), .val (.int (Int32.ofNat n1)), .val (.int (Int32.ofNat n2)), .val (.int (Int32.ofNat n3)), .val (.int (Int32.ofNat a1)), .val (.int (Int32.ofNat a2)), .val (.int (Int32.ofNat q)), .val (.int (Int32.ofNat o)), .val (.int (Int32.ofNat mm)), .val (.int v18), .val (.ref tb), .unset, .unset, .unset, .unset, .unset, .unset, .unset, .unset, .unset, .unset] [(.int (3 : Int32)), (.int (Int32.ofNat a2))])) t) := by
    have st : ∀ t, Steps p.tables e below (T35.setTop (mkF m 195 #[.val (.int y0), .val (.int y1), .val (.int y2), .val (.int y3), .val (.int y4), .val (.int y5), .val (.int (Int32.ofNat f1)), .val (.int (Int32.ofNat s1)), .val (.int (Int32.ofNat f2)), .val (.int (Int32.ofNat s2)), .val (.int (Int32.ofNat n1)), .val (.int (Int32.ofNat n2)), .val (.int (Int32.ofNat n3)), .val (.int (Int32.ofNat a1)), .val (.int (Int32.ofNat a2)), .val (.int (Int32.ofNat q)), .val (.int (Int32.ofNat o)), .val (.int (Int32.ofNat mm)), .val (.int v18), .val (.ref tb), .unset, .unset, .unset, .unset, .unset, .unset, .unset, .unset, .unset, .unset] [(.int (3 : Int32)), (.int (Int32.ofNat a2))])) t → Steps p.tables e below (T35.setTop (mkF m 195 #[.val (.int y0), .val (.int y1), .val (.int y2), .val (.int y3), .val (.int y4), .val (.int y5), .val (.int (Int32.ofNat f1)), .val (.int (Int32.ofNat s1)), .val (.int (Int32.ofNat f2)), .val (.int (Int32.ofNat s2)), .val (.int (Int32.ofNat n1)), .val (.int (Int32.ofNat n2)), .val (.int (Int32.ofNat n3)), .val (.int (Int32.ofNat a1)), .val (.int (Int32.ofNat a2)), .val (.int (Int32.ofNat q)), .val (.int (Int32.ofNat o)), .val (.int (Int32.ofNat mm)), .val (.int v18), .val (.ref tb), .unset, .unset, .unset, .unset, .unset, .unset, .unset, .unset, .unset, .unset] [(.int (3 : Int32)), (.int (Int32.ofNat a2))])) t := fun t k => k
    by_cases hq : (Int32.ofNat a2) < (3 : Int32)
    · have st : ∀ t, Steps p.tables e below (T35.setTop (mkF m 203 #[.val (.int y0), .val (.int y1), .val (.int y2), .val (.int y3), .val (.int y4), .val (.int y5), .val (.int (Int32.ofNat f1)), .val (.int (Int32.ofNat s1)), .val (.int (Int32.ofNat f2)), .val (.int (Int32.ofNat s2)), .val (.int (Int32.ofNat n1)), .val (.int (Int32.ofNat n2)), .val (.int (Int32.ofNat n3)), .val (.int (Int32.ofNat a1)), .val (.int (Int32.ofNat a2)), .val (.int (Int32.ofNat q)), .val (.int (Int32.ofNat o)), .val (.int (Int32.ofNat mm)), .val (.int v18), .val (.ref tb), .unset, .unset, .unset, .unset, .unset, .unset, .unset, .unset, .unset, .unset] [])) t → Steps p.tables e below (T35.setTop (mkF m 195 #[.val (.int y0), .val (.int y1), .val (.int y2), .val (.int y3), .val (.int y4), .val (.int y5), .val (.int (Int32.ofNat f1)), .val (.int (Int32.ofNat s1)), .val (.int (Int32.ofNat f2)), .val (.int (Int32.ofNat s2)), .val (.int (Int32.ofNat n1)), .val (.int (Int32.ofNat n2)), .val (.int (Int32.ofNat n3)), .val (.int (Int32.ofNat a1)), .val (.int (Int32.ofNat a2)), .val (.int (Int32.ofNat q)), .val (.int (Int32.ofNat o)), .val (.int (Int32.ofNat mm)), .val (.int v18), .val (.ref tb), .unset, .unset, .unset, .unset, .unset, .unset, .unset, .unset, .unset, .unset] [(.int (3 : Int32)), (.int (Int32.ofNat a2))])) t := fun t k => st t (by
          show Steps p.tables e below (T35.setTop (mkF m 195 #[.val (.int y0), .val (.int y1), .val (.int y2), .val (.int y3), .val (.int y4), .val (.int y5), .val (.int (Int32.ofNat f1)), .val (.int (Int32.ofNat s1)), .val (.int (Int32.ofNat f2)), .val (.int (Int32.ofNat s2)), .val (.int (Int32.ofNat n1)), .val (.int (Int32.ofNat n2)), .val (.int (Int32.ofNat n3)), .val (.int (Int32.ofNat a1)), .val (.int (Int32.ofNat a2)), .val (.int (Int32.ofNat q)), .val (.int (Int32.ofNat o)), .val (.int (Int32.ofNat mm)), .val (.int v18), .val (.ref tb), .unset, .unset, .unset, .unset, .unset, .unset, .unset, .unset, .unset, .unset] [(.int (3 : Int32)), (.int (Int32.ofNat a2))])) _
          refine XS.icmpYes X.here hx rfl (pc0 := 195) (pc' := 203) rfl (hb hby at_195) rfl (tlt hq).1 (by decide) (by decide) ?_
          exact k)
      have z : a2 < 3 := (own_lt (by omega) (by decide)).mp hq
      exact ⟨T35, h36, _, sp3, X, N, eh, Z0, E_tb, B, (by omega), st⟩
    · have z : ¬ a2 < 3 := fun y => hq ((own_lt (by omega) (by decide)).mpr y)
      have st : ∀ t, Steps p.tables e below (T35.setTop (mkF m 200 #[.val (.int y0), .val (.int y1), .val (.int y2), .val (.int y3), .val (.int y4), .val (.int y5), .val (.int (Int32.ofNat f1)), .val (.int (Int32.ofNat s1)), .val (.int (Int32.ofNat f2)), .val (.int (Int32.ofNat s2)), .val (.int (Int32.ofNat n1)), .val (.int (Int32.ofNat n2)), .val (.int (Int32.ofNat n3)), .val (.int (Int32.ofNat a1)), .val (.int (Int32.ofNat a2)), .val (.int (Int32.ofNat q)), .val (.int (Int32.ofNat o)), .val (.int (Int32.ofNat mm)), .val (.int v18), .val (.ref tb), .unset, .unset, .unset, .unset, .unset, .unset, .unset, .unset, .unset, .unset] [(.ref tb)])) t → Steps p.tables e below (T35.setTop (mkF m 195 #[.val (.int y0), .val (.int y1), .val (.int y2), .val (.int y3), .val (.int y4), .val (.int y5), .val (.int (Int32.ofNat f1)), .val (.int (Int32.ofNat s1)), .val (.int (Int32.ofNat f2)), .val (.int (Int32.ofNat s2)), .val (.int (Int32.ofNat n1)), .val (.int (Int32.ofNat n2)), .val (.int (Int32.ofNat n3)), .val (.int (Int32.ofNat a1)), .val (.int (Int32.ofNat a2)), .val (.int (Int32.ofNat q)), .val (.int (Int32.ofNat o)), .val (.int (Int32.ofNat mm)), .val (.int v18), .val (.ref tb), .unset, .unset, .unset, .unset, .unset, .unset, .unset, .unset, .unset, .unset] [(.int (3 : Int32)), (.int (Int32.ofNat a2))])) t := fun t k => st t (by
          show Steps p.tables e below (T35.setTop (mkF m 195 #[.val (.int y0), .val (.int y1), .val (.int y2), .val (.int y3), .val (.int y4), .val (.int y5), .val (.int (Int32.ofNat f1)), .val (.int (Int32.ofNat s1)), .val (.int (Int32.ofNat f2)), .val (.int (Int32.ofNat s2)), .val (.int (Int32.ofNat n1)), .val (.int (Int32.ofNat n2)), .val (.int (Int32.ofNat n3)), .val (.int (Int32.ofNat a1)), .val (.int (Int32.ofNat a2)), .val (.int (Int32.ofNat q)), .val (.int (Int32.ofNat o)), .val (.int (Int32.ofNat mm)), .val (.int v18), .val (.ref tb), .unset, .unset, .unset, .unset, .unset, .unset, .unset, .unset, .unset, .unset] [(.int (3 : Int32)), (.int (Int32.ofNat a2))])) _
          refine XS.icmpNo X.here hx rfl (hb hby at_195) rfl (flt hq).1 ?_
          show Steps p.tables e below (T35.setTop (mkF m 198 #[.val (.int y0), .val (.int y1), .val (.int y2), .val (.int y3), .val (.int y4), .val (.int y5), .val (.int (Int32.ofNat f1)), .val (.int (Int32.ofNat s1)), .val (.int (Int32.ofNat f2)), .val (.int (Int32.ofNat s2)), .val (.int (Int32.ofNat n1)), .val (.int (Int32.ofNat n2)), .val (.int (Int32.ofNat n3)), .val (.int (Int32.ofNat a1)), .val (.int (Int32.ofNat a2)), .val (.int (Int32.ofNat q)), .val (.int (Int32.ofNat o)), .val (.int (Int32.ofNat mm)), .val (.int v18), .val (.ref tb), .unset, .unset, .unset, .unset, .unset, .unset, .unset, .unset, .unset, .unset] [])) _
          refine XS.aload X.here hx rfl (hb hby at_198) rfl rfl ?_
          exact k)
      obtain ⟨cq45, kq45, qa45, qb45, qc45⟩ := isOf hZ eh E_tb
      obtain ⟨_, _, ⟨T46, L45, k45, n45⟩, -, X, ⟨Lc45, hQ, l45, y45, z45⟩, sx⟩ := X.virtualBack hx (y := (⟨"com/example/paretoloom/paretoloom/TabuList", "advance", "()V"⟩ : MethodName)) (z := (⟨"com/example/paretoloom/paretoloom/TabuList", "advance", "()V"⟩ : MethodName)) hown (mvT hZ (hw _ (List.mem_of_getElem? (i := 72) rfl))) (mvT hZ (hw _ (List.mem_of_getElem? (i := 73) rfl))) (notFace_of_selects (args := #[]) (mvT hZ (hw _ (List.mem_of_getElem? (i := 75) rfl)))) (mvT hZ (hw _ (List.mem_of_getElem? (i := 75) rfl))) (mvT hZ (hw _ (List.mem_of_getElem? (i := 74) rfl))) (by decide) (backOf (W := 0) (rm13 l Z a0 hw [] tb ka ua fa sa ma k_ka k_ua k_fa k_sa k_ma ks3 us3 fs2 ss2 ms3 sp3 sz3 h36 n0 Z0 B D (by omega)) hZ (hw _ (List.mem_of_getElem? (i := 76) rfl)) (hw _ (List.mem_of_getElem? (i := 3) rfl)) (by decide) (by decide)) qa45 qc45 (g := (mkF m 200 #[.val (.int y0), .val (.int y1), .val (.int y2), .val (.int y3), .val (.int y4), .val (.int y5), .val (.int (Int32.ofNat f1)), .val (.int (Int32.ofNat s1)), .val (.int (Int32.ofNat f2)), .val (.int (Int32.ofNat s2)), .val (.int (Int32.ofNat n1)), .val (.int (Int32.ofNat n2)), .val (.int (Int32.ofNat n3)), .val (.int (Int32.ofNat a1)), .val (.int (Int32.ofNat a2)), .val (.int (Int32.ofNat q)), .val (.int (Int32.ofNat o)), .val (.int (Int32.ofNat mm)), .val (.int v18), .val (.ref tb), .unset, .unset, .unset, .unset, .unset, .unset, .unset, .unset, .unset, .unset] [(.ref tb)])) rfl (by rw [hml]; rfl) (Steps.refl _) (argsL := []) (rest := []) (lenOf own_pd8 rfl) rfl (by show 2 * 0 + _ ≤ _; exact Nat.le_of_eq rfl) (hb hby at_200) (fun _ _ => ⟨rfl, eh, (by decide : 6 + 0 ≤ _), (by decide : 50 + 0 ≤ _)⟩)
      dsimp only [Pt.U, Pt.locs, Pt.cells, Pt.slots] at X l45 y45 z45 sx hQ
      subst l45 y45 z45
      obtain ⟨rfl, Nc, K1, B⟩ := hQ
      have st : ∀ t, Steps p.tables e below (T46.setTop (mkF m 203 #[.val (.int y0), .val (.int y1), .val (.int y2), .val (.int y3), .val (.int y4), .val (.int y5), .val (.int (Int32.ofNat f1)), .val (.int (Int32.ofNat s1)), .val (.int (Int32.ofNat f2)), .val (.int (Int32.ofNat s2)), .val (.int (Int32.ofNat n1)), .val (.int (Int32.ofNat n2)), .val (.int (Int32.ofNat n3)), .val (.int (Int32.ofNat a1)), .val (.int (Int32.ofNat a2)), .val (.int (Int32.ofNat q)), .val (.int (Int32.ofNat o)), .val (.int (Int32.ofNat mm)), .val (.int v18), .val (.ref tb), .unset, .unset, .unset, .unset, .unset, .unset, .unset, .unset, .unset, .unset] [])) t → Steps p.tables e below (T35.setTop (mkF m 195 #[.val (.int y0), .val (.int y1), .val (.int y2), .val (.int y3), .val (.int y4), .val (.int y5), .val (.int (Int32.ofNat f1)), .val (.int (Int32.ofNat s1)), .val (.int (Int32.ofNat f2)), .val (.int (Int32.ofNat s2)), .val (.int (Int32.ofNat n1)), .val (.int (Int32.ofNat n2)), .val (.int (Int32.ofNat n3)), .val (.int (Int32.ofNat a1)), .val (.int (Int32.ofNat a2)), .val (.int (Int32.ofNat q)), .val (.int (Int32.ofNat o)), .val (.int (Int32.ofNat mm)), .val (.int v18), .val (.ref tb), .unset, .unset, .unset, .unset, .unset, .unset, .unset, .unset, .unset, .unset] [(.int (3 : Int32)), (.int (Int32.ofNat a2))])) t := fun t k => st t (sx.trans k)
      have N := Fr.app N Nc
      obtain ⟨h47, eH⟩ : ∃ z, z = T46.heap := ⟨_, rfl⟩
      rw [← eH] at K1 B
      have eh : T46.heap = h47 := eH.symm
      have E_tb := E_tb.keep K1
      have Z0 := Nat.le_trans Z0 K1.1
      exact ⟨T46, h47, _, (sp3 + 1), X, N, eh, Z0, E_tb, B, (by omega), st⟩
  have st : ∀ t, Steps p.tables e below (T42.setTop (mkF m 203 #[.val (.int y0), .val (.int y1), .val (.int y2), .val (.int y3), .val (.int y4), .val (.int y5), .val (.int (Int32.ofNat f1)), .val (.int (Int32.ofNat s1)), .val (.int (Int32.ofNat f2)), .val (.int (Int32.ofNat s2)), .val (.int (Int32.ofNat n1)), .val (.int (Int32.ofNat n2)), .val (.int (Int32.ofNat n3)), .val (.int (Int32.ofNat a1)), .val (.int (Int32.ofNat a2)), .val (.int (Int32.ofNat q)), .val (.int (Int32.ofNat o)), .val (.int (Int32.ofNat mm)), .val (.int v18), .val (.ref tb), .unset, .unset, .unset, .unset, .unset, .unset, .unset, .unset, .unset, .unset] [])) t → Steps p.tables e below (s₁.setTop (mkF m 0 #[.val (.int y0), .val (.int y1), .val (.int y2), .val (.int y3), .val (.int y4), .val (.int y5), .unset, .unset, .unset, .unset, .unset, .unset, .unset, .unset, .unset, .unset, .unset, .unset, .unset, .unset, .unset, .unset, .unset, .unset, .unset, .unset, .unset, .unset, .unset, .unset] [])) t := fun t k => st t (sx t k)
  have st : ∀ t, Steps p.tables e below (T42.setTop (mkF m 207 #[.val (.int y0), .val (.int y1), .val (.int y2), .val (.int y3), .val (.int y4), .val (.int y5), .val (.int (Int32.ofNat f1)), .val (.int (Int32.ofNat s1)), .val (.int (Int32.ofNat f2)), .val (.int (Int32.ofNat s2)), .val (.int (Int32.ofNat n1)), .val (.int (Int32.ofNat n2)), .val (.int (Int32.ofNat n3)), .val (.int (Int32.ofNat a1)), .val (.int (Int32.ofNat a2)), .val (.int (Int32.ofNat q)), .val (.int (Int32.ofNat o)), .val (.int (Int32.ofNat mm)), .val (.int v18), .val (.ref tb), .unset, .unset, .unset, .unset, .unset, .unset, .unset, .unset, .unset, .unset] [(.int (Int32.ofNat q)), (.ref tb)])) t → Steps p.tables e below (s₁.setTop (mkF m 0 #[.val (.int y0), .val (.int y1), .val (.int y2), .val (.int y3), .val (.int y4), .val (.int y5), .unset, .unset, .unset, .unset, .unset, .unset, .unset, .unset, .unset, .unset, .unset, .unset, .unset, .unset, .unset, .unset, .unset, .unset, .unset, .unset, .unset, .unset, .unset, .unset] [])) t := fun t k => st t (by
      show Steps p.tables e below (T42.setTop (mkF m 203 #[.val (.int y0), .val (.int y1), .val (.int y2), .val (.int y3), .val (.int y4), .val (.int y5), .val (.int (Int32.ofNat f1)), .val (.int (Int32.ofNat s1)), .val (.int (Int32.ofNat f2)), .val (.int (Int32.ofNat s2)), .val (.int (Int32.ofNat n1)), .val (.int (Int32.ofNat n2)), .val (.int (Int32.ofNat n3)), .val (.int (Int32.ofNat a1)), .val (.int (Int32.ofNat a2)), .val (.int (Int32.ofNat q)), .val (.int (Int32.ofNat o)), .val (.int (Int32.ofNat mm)), .val (.int v18), .val (.ref tb), .unset, .unset, .unset, .unset, .unset, .unset, .unset, .unset, .unset, .unset] [])) _
      refine XS.aload X.here hx rfl (hb hby at_203) rfl rfl ?_
      show Steps p.tables e below (T42.setTop (mkF m 205 #[.val (.int y0), .val (.int y1), .val (.int y2), .val (.int y3), .val (.int y4), .val (.int y5), .val (.int (Int32.ofNat f1)), .val (.int (Int32.ofNat s1)), .val (.int (Int32.ofNat f2)), .val (.int (Int32.ofNat s2)), .val (.int (Int32.ofNat n1)), .val (.int (Int32.ofNat n2)), .val (.int (Int32.ofNat n3)), .val (.int (Int32.ofNat a1)), .val (.int (Int32.ofNat a2)), .val (.int (Int32.ofNat q)), .val (.int (Int32.ofNat o)), .val (.int (Int32.ofNat mm)), .val (.int v18), .val (.ref tb), .unset, .unset, .unset, .unset, .unset, .unset, .unset, .unset, .unset, .unset] [(.ref tb)])) _
      refine XS.iload X.here hx rfl (hb hby at_205) rfl ?_
      exact k)
  obtain ⟨cq48, kq48, qa48, qb48, qc48⟩ := isOf hZ eh E_tb
  obtain ⟨_, _, ⟨T49, L48, k48, n48⟩, -, X, ⟨Lc48, hQ, l48, y48, z48⟩, sx⟩ := X.virtualBack hx (y := (⟨"com/example/paretoloom/paretoloom/TabuList", "inPairs", "(I)Z"⟩ : MethodName)) (z := (⟨"com/example/paretoloom/paretoloom/TabuList", "inPairs", "(I)Z"⟩ : MethodName)) hown (mvT hZ (hw _ (List.mem_of_getElem? (i := 58) rfl))) (mvT hZ (hw _ (List.mem_of_getElem? (i := 59) rfl))) (notFace_of_selects (args := #[]) (mvT hZ (hw _ (List.mem_of_getElem? (i := 61) rfl)))) (mvT hZ (hw _ (List.mem_of_getElem? (i := 61) rfl))) (mvT hZ (hw _ (List.mem_of_getElem? (i := 60) rfl))) (by decide) (backOf (W := 0) (rm10 l Z a0 hw [] tb ka ua fa sa ma k_ka k_ua k_fa k_sa k_ma ks3 us3 fs2 ss2 ms3 sp4 sz3 q h43 n0 Z0 B hq) hZ (hw _ (List.mem_of_getElem? (i := 62) rfl)) (hw _ (List.mem_of_getElem? (i := 3) rfl)) (by decide) (by decide)) qa48 qc48 (g := (mkF m 207 #[.val (.int y0), .val (.int y1), .val (.int y2), .val (.int y3), .val (.int y4), .val (.int y5), .val (.int (Int32.ofNat f1)), .val (.int (Int32.ofNat s1)), .val (.int (Int32.ofNat f2)), .val (.int (Int32.ofNat s2)), .val (.int (Int32.ofNat n1)), .val (.int (Int32.ofNat n2)), .val (.int (Int32.ofNat n3)), .val (.int (Int32.ofNat a1)), .val (.int (Int32.ofNat a2)), .val (.int (Int32.ofNat q)), .val (.int (Int32.ofNat o)), .val (.int (Int32.ofNat mm)), .val (.int v18), .val (.ref tb), .unset, .unset, .unset, .unset, .unset, .unset, .unset, .unset, .unset, .unset] [(.int (Int32.ofNat q)), (.ref tb)])) rfl (by rw [hml]; rfl) (Steps.refl _) (argsL := [(.int (Int32.ofNat q))]) (rest := []) (lenOf own_pd9 rfl) rfl (by show 2 * 0 + _ ≤ _; exact Nat.le_of_eq rfl) (hb hby at_207) (fun _ _ => ⟨rfl, eh, (by decide : 6 + 0 ≤ _), (by decide : 50 + 0 ≤ _)⟩)
  dsimp only [Pt.U, Pt.locs, Pt.cells, Pt.slots] at X l48 y48 z48 sx hQ
  subst l48 y48 z48
  obtain ⟨rfl, Nc, hsame_⟩ := hQ
  have st : ∀ t, Steps p.tables e below (T49.setTop (mkF m 210 #[.val (.int y0), .val (.int y1), .val (.int y2), .val (.int y3), .val (.int y4), .val (.int y5), .val (.int (Int32.ofNat f1)), .val (.int (Int32.ofNat s1)), .val (.int (Int32.ofNat f2)), .val (.int (Int32.ofNat s2)), .val (.int (Int32.ofNat n1)), .val (.int (Int32.ofNat n2)), .val (.int (Int32.ofNat n3)), .val (.int (Int32.ofNat a1)), .val (.int (Int32.ofNat a2)), .val (.int (Int32.ofNat q)), .val (.int (Int32.ofNat o)), .val (.int (Int32.ofNat mm)), .val (.int v18), .val (.ref tb), .unset, .unset, .unset, .unset, .unset, .unset, .unset, .unset, .unset, .unset] [(.int (if Int64.ofNat sp4 < Int64.ofNat (fs2 q) then (1 : Int32) else (if Int64.ofNat sp4 < Int64.ofNat (ss2 q) then (1 : Int32) else (0 : Int32))))])) t → Steps p.tables e below (s₁.setTop (mkF m 0 #[.val (.int y0), .val (.int y1), .val (.int y2), .val (.int y3), .val (.int y4), .val (.int y5), .unset, .unset, .unset, .unset, .unset, .unset, .unset, .unset, .unset, .unset, .unset, .unset, .unset, .unset, .unset, .unset, .unset, .unset, .unset, .unset, .unset, .unset, .unset, .unset] [])) t := fun t k => st t (sx.trans k)
  have N := Fr.app N Nc
  have eh : T49.heap = h43 := hsame_
  obtain ⟨got, hgot⟩ : ∃ z : Int32, z = (if Int64.ofNat sp4 < Int64.ofNat (fs2 q) then (1 : Int32) else (if Int64.ofNat sp4 < Int64.ofNat (ss2 q) then (1 : Int32) else (0 : Int32))) := ⟨_, rfl⟩
  have st : ∀ t, Steps p.tables e below (T49.setTop (mkF m 210 #[.val (.int y0), .val (.int y1), .val (.int y2), .val (.int y3), .val (.int y4), .val (.int y5), .val (.int (Int32.ofNat f1)), .val (.int (Int32.ofNat s1)), .val (.int (Int32.ofNat f2)), .val (.int (Int32.ofNat s2)), .val (.int (Int32.ofNat n1)), .val (.int (Int32.ofNat n2)), .val (.int (Int32.ofNat n3)), .val (.int (Int32.ofNat a1)), .val (.int (Int32.ofNat a2)), .val (.int (Int32.ofNat q)), .val (.int (Int32.ofNat o)), .val (.int (Int32.ofNat mm)), .val (.int v18), .val (.ref tb), .unset, .unset, .unset, .unset, .unset, .unset, .unset, .unset, .unset, .unset] [(.int got)])) t → Steps p.tables e below (s₁.setTop (mkF m 0 #[.val (.int y0), .val (.int y1), .val (.int y2), .val (.int y3), .val (.int y4), .val (.int y5), .unset, .unset, .unset, .unset, .unset, .unset, .unset, .unset, .unset, .unset, .unset, .unset, .unset, .unset, .unset, .unset, .unset, .unset, .unset, .unset, .unset, .unset, .unset, .unset] [])) t := by rw [hgot]; exact st
  have st : ∀ t, Steps p.tables e below (T49.setTop (mkF m 218 #[.val (.int y0), .val (.int y1), .val (.int y2), .val (.int y3), .val (.int y4), .val (.int y5), .val (.int (Int32.ofNat f1)), .val (.int (Int32.ofNat s1)), .val (.int (Int32.ofNat f2)), .val (.int (Int32.ofNat s2)), .val (.int (Int32.ofNat n1)), .val (.int (Int32.ofNat n2)), .val (.int (Int32.ofNat n3)), .val (.int (Int32.ofNat a1)), .val (.int (Int32.ofNat a2)), .val (.int (Int32.ofNat q)), .val (.int (Int32.ofNat o)), .val (.int (Int32.ofNat mm)), .val (.int v18), .val (.ref tb), .val (.int got), .unset, .unset, .unset, .unset, .unset, .unset, .unset, .unset, .unset] [(.long (((Int32.ofNat a1) + (Int32.ofNat a2)).toInt64))])) t → Steps p.tables e below (s₁.setTop (mkF m 0 #[.val (.int y0), .val (.int y1), .val (.int y2), .val (.int y3), .val (.int y4), .val (.int y5), .unset, .unset, .unset, .unset, .unset, .unset, .unset, .unset, .unset, .unset, .unset, .unset, .unset, .unset, .unset, .unset, .unset, .unset, .unset, .unset, .unset, .unset, .unset, .unset] [])) t := fun t k => st t (by
      show Steps p.tables e below (T49.setTop (mkF m 210 #[.val (.int y0), .val (.int y1), .val (.int y2), .val (.int y3), .val (.int y4), .val (.int y5), .val (.int (Int32.ofNat f1)), .val (.int (Int32.ofNat s1)), .val (.int (Int32.ofNat f2)), .val (.int (Int32.ofNat s2)), .val (.int (Int32.ofNat n1)), .val (.int (Int32.ofNat n2)), .val (.int (Int32.ofNat n3)), .val (.int (Int32.ofNat a1)), .val (.int (Int32.ofNat a2)), .val (.int (Int32.ofNat q)), .val (.int (Int32.ofNat o)), .val (.int (Int32.ofNat mm)), .val (.int v18), .val (.ref tb), .unset, .unset, .unset, .unset, .unset, .unset, .unset, .unset, .unset, .unset] [(.int got)])) _
      refine XS.istore X.here hx rfl (hb hby at_210) rfl (l' := #[.val (.int y0), .val (.int y1), .val (.int y2), .val (.int y3), .val (.int y4), .val (.int y5), .val (.int (Int32.ofNat f1)), .val (.int (Int32.ofNat s1)), .val (.int (Int32.ofNat f2)), .val (.int (Int32.ofNat s2)), .val (.int (Int32.ofNat n1)), .val (.int (Int32.ofNat n2)), .val (.int (Int32.ofNat n3)), .val (.int (Int32.ofNat a1)), .val (.int (Int32.ofNat a2)), .val (.int (Int32.ofNat q)), .val (.int (Int32.ofNat o)), .val (.int (Int32.ofNat mm)), .val (.int v18), .val (.ref tb), .val (.int got), .unset, .unset, .unset, .unset, .unset, .unset, .unset, .unset, .unset]) rfl ?_
      show Steps p.tables e below (T49.setTop (mkF m 212 #[.val (.int y0), .val (.int y1), .val (.int y2), .val (.int y3), .val (.int y4), .val (.int y5), .val (.int (Int32.ofNat f1)), .val (.int (Int32.ofNat s1)), .val (.int (Int32.ofNat f2)), .val (.int (Int32.ofNat s2)), .val (.int (Int32.ofNat n1)), .val (.int (Int32.ofNat n2)), .val (.int (Int32.ofNat n3)), .val (.int (Int32.ofNat a1)), .val (.int (Int32.ofNat a2)), .val (.int (Int32.ofNat q)), .val (.int (Int32.ofNat o)), .val (.int (Int32.ofNat mm)), .val (.int v18), .val (.ref tb), .val (.int got), .unset, .unset, .unset, .unset, .unset, .unset, .unset, .unset, .unset] [])) _
      refine XS.iload X.here hx rfl (hb hby at_212) rfl ?_
      show Steps p.tables e below (T49.setTop (mkF m 214 #[.val (.int y0), .val (.int y1), .val (.int y2), .val (.int y3), .val (.int y4), .val (.int y5), .val (.int (Int32.ofNat f1)), .val (.int (Int32.ofNat s1)), .val (.int (Int32.ofNat f2)), .val (.int (Int32.ofNat s2)), .val (.int (Int32.ofNat n1)), .val (.int (Int32.ofNat n2)), .val (.int (Int32.ofNat n3)), .val (.int (Int32.ofNat a1)), .val (.int (Int32.ofNat a2)), .val (.int (Int32.ofNat q)), .val (.int (Int32.ofNat o)), .val (.int (Int32.ofNat mm)), .val (.int v18), .val (.ref tb), .val (.int got), .unset, .unset, .unset, .unset, .unset, .unset, .unset, .unset, .unset] [(.int (Int32.ofNat a1))])) _
      refine XS.iload X.here hx rfl (hb hby at_214) rfl ?_
      show Steps p.tables e below (T49.setTop (mkF m 216 #[.val (.int y0), .val (.int y1), .val (.int y2), .val (.int y3), .val (.int y4), .val (.int y5), .val (.int (Int32.ofNat f1)), .val (.int (Int32.ofNat s1)), .val (.int (Int32.ofNat f2)), .val (.int (Int32.ofNat s2)), .val (.int (Int32.ofNat n1)), .val (.int (Int32.ofNat n2)), .val (.int (Int32.ofNat n3)), .val (.int (Int32.ofNat a1)), .val (.int (Int32.ofNat a2)), .val (.int (Int32.ofNat q)), .val (.int (Int32.ofNat o)), .val (.int (Int32.ofNat mm)), .val (.int v18), .val (.ref tb), .val (.int got), .unset, .unset, .unset, .unset, .unset, .unset, .unset, .unset, .unset] [(.int (Int32.ofNat a2)), (.int (Int32.ofNat a1))])) _
      refine XS.iadd X.here hx rfl (hb hby at_216) rfl ?_
      show Steps p.tables e below (T49.setTop (mkF m 217 #[.val (.int y0), .val (.int y1), .val (.int y2), .val (.int y3), .val (.int y4), .val (.int y5), .val (.int (Int32.ofNat f1)), .val (.int (Int32.ofNat s1)), .val (.int (Int32.ofNat f2)), .val (.int (Int32.ofNat s2)), .val (.int (Int32.ofNat n1)), .val (.int (Int32.ofNat n2)), .val (.int (Int32.ofNat n3)), .val (.int (Int32.ofNat a1)), .val (.int (Int32.ofNat a2)), .val (.int (Int32.ofNat q)), .val (.int (Int32.ofNat o)), .val (.int (Int32.ofNat mm)), .val (.int v18), .val (.ref tb), .val (.int got), .unset, .unset, .unset, .unset, .unset, .unset, .unset, .unset, .unset] [(.int ((Int32.ofNat a1) + (Int32.ofNat a2)))])) _
      refine XS.i2l X.here hx rfl (hb hby at_217) rfl ?_
      exact k)
  have st : ∀ t, Steps p.tables e below (T49.setTop (mkF m 218 #[.val (.int y0), .val (.int y1), .val (.int y2), .val (.int y3), .val (.int y4), .val (.int y5), .val (.int (Int32.ofNat f1)), .val (.int (Int32.ofNat s1)), .val (.int (Int32.ofNat f2)), .val (.int (Int32.ofNat s2)), .val (.int (Int32.ofNat n1)), .val (.int (Int32.ofNat n2)), .val (.int (Int32.ofNat n3)), .val (.int (Int32.ofNat a1)), .val (.int (Int32.ofNat a2)), .val (.int (Int32.ofNat q)), .val (.int (Int32.ofNat o)), .val (.int (Int32.ofNat mm)), .val (.int v18), .val (.ref tb), .val (.int got), .unset, .unset, .unset, .unset, .unset, .unset, .unset, .unset, .unset] [(.long (Int64.ofNat (a1 + a2)))])) t → Steps p.tables e below (s₁.setTop (mkF m 0 #[.val (.int y0), .val (.int y1), .val (.int y2), .val (.int y3), .val (.int y4), .val (.int y5), .unset, .unset, .unset, .unset, .unset, .unset, .unset, .unset, .unset, .unset, .unset, .unset, .unset, .unset, .unset, .unset, .unset, .unset, .unset, .unset, .unset, .unset, .unset, .unset] [])) t := by rw [← own_ext (by omega), Int32.ofNat_add]; exact st
  have st : ∀ t, Steps p.tables e below (T49.setTop (mkF m 225 #[.val (.int y0), .val (.int y1), .val (.int y2), .val (.int y3), .val (.int y4), .val (.int y5), .val (.int (Int32.ofNat f1)), .val (.int (Int32.ofNat s1)), .val (.int (Int32.ofNat f2)), .val (.int (Int32.ofNat s2)), .val (.int (Int32.ofNat n1)), .val (.int (Int32.ofNat n2)), .val (.int (Int32.ofNat n3)), .val (.int (Int32.ofNat a1)), .val (.int (Int32.ofNat a2)), .val (.int (Int32.ofNat q)), .val (.int (Int32.ofNat o)), .val (.int (Int32.ofNat mm)), .val (.int v18), .val (.ref tb), .val (.int got), .val (.long (Int64.ofNat (a1 + a2))), .second, .unset, .unset, .unset, .unset, .unset, .unset, .unset] [(.long ((1 : Int64) + ((Int32.ofNat n1).toInt64)))])) t → Steps p.tables e below (s₁.setTop (mkF m 0 #[.val (.int y0), .val (.int y1), .val (.int y2), .val (.int y3), .val (.int y4), .val (.int y5), .unset, .unset, .unset, .unset, .unset, .unset, .unset, .unset, .unset, .unset, .unset, .unset, .unset, .unset, .unset, .unset, .unset, .unset, .unset, .unset, .unset, .unset, .unset, .unset] [])) t := fun t k => st t (by
      show Steps p.tables e below (T49.setTop (mkF m 218 #[.val (.int y0), .val (.int y1), .val (.int y2), .val (.int y3), .val (.int y4), .val (.int y5), .val (.int (Int32.ofNat f1)), .val (.int (Int32.ofNat s1)), .val (.int (Int32.ofNat f2)), .val (.int (Int32.ofNat s2)), .val (.int (Int32.ofNat n1)), .val (.int (Int32.ofNat n2)), .val (.int (Int32.ofNat n3)), .val (.int (Int32.ofNat a1)), .val (.int (Int32.ofNat a2)), .val (.int (Int32.ofNat q)), .val (.int (Int32.ofNat o)), .val (.int (Int32.ofNat mm)), .val (.int v18), .val (.ref tb), .val (.int got), .unset, .unset, .unset, .unset, .unset, .unset, .unset, .unset, .unset] [(.long (Int64.ofNat (a1 + a2)))])) _
      refine XS.lstore X.here hx rfl (hb hby at_218) rfl (l' := #[.val (.int y0), .val (.int y1), .val (.int y2), .val (.int y3), .val (.int y4), .val (.int y5), .val (.int (Int32.ofNat f1)), .val (.int (Int32.ofNat s1)), .val (.int (Int32.ofNat f2)), .val (.int (Int32.ofNat s2)), .val (.int (Int32.ofNat n1)), .val (.int (Int32.ofNat n2)), .val (.int (Int32.ofNat n3)), .val (.int (Int32.ofNat a1)), .val (.int (Int32.ofNat a2)), .val (.int (Int32.ofNat q)), .val (.int (Int32.ofNat o)), .val (.int (Int32.ofNat mm)), .val (.int v18), .val (.ref tb), .val (.int got), .val (.long (Int64.ofNat (a1 + a2))), .second, .unset, .unset, .unset, .unset, .unset, .unset, .unset]) rfl ?_
      show Steps p.tables e below (T49.setTop (mkF m 220 #[.val (.int y0), .val (.int y1), .val (.int y2), .val (.int y3), .val (.int y4), .val (.int y5), .val (.int (Int32.ofNat f1)), .val (.int (Int32.ofNat s1)), .val (.int (Int32.ofNat f2)), .val (.int (Int32.ofNat s2)), .val (.int (Int32.ofNat n1)), .val (.int (Int32.ofNat n2)), .val (.int (Int32.ofNat n3)), .val (.int (Int32.ofNat a1)), .val (.int (Int32.ofNat a2)), .val (.int (Int32.ofNat q)), .val (.int (Int32.ofNat o)), .val (.int (Int32.ofNat mm)), .val (.int v18), .val (.ref tb), .val (.int got), .val (.long (Int64.ofNat (a1 + a2))), .second, .unset, .unset, .unset, .unset, .unset, .unset, .unset] [])) _
      refine XS.lconst X.here hx rfl (hb hby at_220) ?_
      show Steps p.tables e below (T49.setTop (mkF m 221 #[.val (.int y0), .val (.int y1), .val (.int y2), .val (.int y3), .val (.int y4), .val (.int y5), .val (.int (Int32.ofNat f1)), .val (.int (Int32.ofNat s1)), .val (.int (Int32.ofNat f2)), .val (.int (Int32.ofNat s2)), .val (.int (Int32.ofNat n1)), .val (.int (Int32.ofNat n2)), .val (.int (Int32.ofNat n3)), .val (.int (Int32.ofNat a1)), .val (.int (Int32.ofNat a2)), .val (.int (Int32.ofNat q)), .val (.int (Int32.ofNat o)), .val (.int (Int32.ofNat mm)), .val (.int v18), .val (.ref tb), .val (.int got), .val (.long (Int64.ofNat (a1 + a2))), .second, .unset, .unset, .unset, .unset, .unset, .unset, .unset] [(.long (1 : Int64))])) _
      refine XS.iload X.here hx rfl (hb hby at_221) rfl ?_
      show Steps p.tables e below (T49.setTop (mkF m 223 #[.val (.int y0), .val (.int y1), .val (.int y2), .val (.int y3), .val (.int y4), .val (.int y5), .val (.int (Int32.ofNat f1)), .val (.int (Int32.ofNat s1)), .val (.int (Int32.ofNat f2)), .val (.int (Int32.ofNat s2)), .val (.int (Int32.ofNat n1)), .val (.int (Int32.ofNat n2)), .val (.int (Int32.ofNat n3)), .val (.int (Int32.ofNat a1)), .val (.int (Int32.ofNat a2)), .val (.int (Int32.ofNat q)), .val (.int (Int32.ofNat o)), .val (.int (Int32.ofNat mm)), .val (.int v18), .val (.ref tb), .val (.int got), .val (.long (Int64.ofNat (a1 + a2))), .second, .unset, .unset, .unset, .unset, .unset, .unset, .unset] [(.int (Int32.ofNat n1)), (.long (1 : Int64))])) _
      refine XS.i2l X.here hx rfl (hb hby at_223) rfl ?_
      show Steps p.tables e below (T49.setTop (mkF m 224 #[.val (.int y0), .val (.int y1), .val (.int y2), .val (.int y3), .val (.int y4), .val (.int y5), .val (.int (Int32.ofNat f1)), .val (.int (Int32.ofNat s1)), .val (.int (Int32.ofNat f2)), .val (.int (Int32.ofNat s2)), .val (.int (Int32.ofNat n1)), .val (.int (Int32.ofNat n2)), .val (.int (Int32.ofNat n3)), .val (.int (Int32.ofNat a1)), .val (.int (Int32.ofNat a2)), .val (.int (Int32.ofNat q)), .val (.int (Int32.ofNat o)), .val (.int (Int32.ofNat mm)), .val (.int v18), .val (.ref tb), .val (.int got), .val (.long (Int64.ofNat (a1 + a2))), .second, .unset, .unset, .unset, .unset, .unset, .unset, .unset] [(.long ((Int32.ofNat n1).toInt64)), (.long (1 : Int64))])) _
      refine XS.ladd X.here hx rfl (hb hby at_224) rfl ?_
      exact k)
  have st : ∀ t, Steps p.tables e below (T49.setTop (mkF m 225 #[.val (.int y0), .val (.int y1), .val (.int y2), .val (.int y3), .val (.int y4), .val (.int y5), .val (.int (Int32.ofNat f1)), .val (.int (Int32.ofNat s1)), .val (.int (Int32.ofNat f2)), .val (.int (Int32.ofNat s2)), .val (.int (Int32.ofNat n1)), .val (.int (Int32.ofNat n2)), .val (.int (Int32.ofNat n3)), .val (.int (Int32.ofNat a1)), .val (.int (Int32.ofNat a2)), .val (.int (Int32.ofNat q)), .val (.int (Int32.ofNat o)), .val (.int (Int32.ofNat mm)), .val (.int v18), .val (.ref tb), .val (.int got), .val (.long (Int64.ofNat (a1 + a2))), .second, .unset, .unset, .unset, .unset, .unset, .unset, .unset] [(.long (Int64.ofNat (1 + n1)))])) t → Steps p.tables e below (s₁.setTop (mkF m 0 #[.val (.int y0), .val (.int y1), .val (.int y2), .val (.int y3), .val (.int y4), .val (.int y5), .unset, .unset, .unset, .unset, .unset, .unset, .unset, .unset, .unset, .unset, .unset, .unset, .unset, .unset, .unset, .unset, .unset, .unset, .unset, .unset, .unset, .unset, .unset, .unset] [])) t := by rw [← own_addL 1 n1, ← own_ext (i := n1) (by omega)]; exact st
  have st : ∀ t, Steps p.tables e below (T49.setTop (mkF m 236 #[.val (.int y0), .val (.int y1), .val (.int y2), .val (.int y3), .val (.int y4), .val (.int y5), .val (.int (Int32.ofNat f1)), .val (.int (Int32.ofNat s1)), .val (.int (Int32.ofNat f2)), .val (.int (Int32.ofNat s2)), .val (.int (Int32.ofNat n1)), .val (.int (Int32.ofNat n2)), .val (.int (Int32.ofNat n3)), .val (.int (Int32.ofNat a1)), .val (.int (Int32.ofNat a2)), .val (.int (Int32.ofNat q)), .val (.int (Int32.ofNat o)), .val (.int (Int32.ofNat mm)), .val (.int v18), .val (.ref tb), .val (.int got), .val (.long (Int64.ofNat (a1 + a2))), .second, .val (.long (Int64.ofNat (1 + n1))), .second, .unset, .unset, .unset, .unset, .unset] [(.long ((((Int32.ofNat a1).toInt64) + (1 : Int64)) + ((Int32.ofNat n2).toInt64)))])) t → Steps p.tables e below (s₁.setTop (mkF m 0 #[.val (.int y0), .val (.int y1), .val (.int y2), .val (.int y3), .val (.int y4), .val (.int y5), .unset, .unset, .unset, .unset, .unset, .unset, .unset, .unset, .unset, .unset, .unset, .unset, .unset, .unset, .unset, .unset, .unset, .unset, .unset, .unset, .unset, .unset, .unset, .unset] [])) t := fun t k => st t (by
      show Steps p.tables e below (T49.setTop (mkF m 225 #[.val (.int y0), .val (.int y1), .val (.int y2), .val (.int y3), .val (.int y4), .val (.int y5), .val (.int (Int32.ofNat f1)), .val (.int (Int32.ofNat s1)), .val (.int (Int32.ofNat f2)), .val (.int (Int32.ofNat s2)), .val (.int (Int32.ofNat n1)), .val (.int (Int32.ofNat n2)), .val (.int (Int32.ofNat n3)), .val (.int (Int32.ofNat a1)), .val (.int (Int32.ofNat a2)), .val (.int (Int32.ofNat q)), .val (.int (Int32.ofNat o)), .val (.int (Int32.ofNat mm)), .val (.int v18), .val (.ref tb), .val (.int got), .val (.long (Int64.ofNat (a1 + a2))), .second, .unset, .unset, .unset, .unset, .unset, .unset, .unset] [(.long (Int64.ofNat (1 + n1)))])) _
      refine XS.lstore X.here hx rfl (hb hby at_225) rfl (l' := #[.val (.int y0), .val (.int y1), .val (.int y2), .val (.int y3), .val (.int y4), .val (.int y5), .val (.int (Int32.ofNat f1)), .val (.int (Int32.ofNat s1)), .val (.int (Int32.ofNat f2)), .val (.int (Int32.ofNat s2)), .val (.int (Int32.ofNat n1)), .val (.int (Int32.ofNat n2)), .val (.int (Int32.ofNat n3)), .val (.int (Int32.ofNat a1)), .val (.int (Int32.ofNat a2)), .val (.int (Int32.ofNat q)), .val (.int (Int32.ofNat o)), .val (.int (Int32.ofNat mm)), .val (.int v18), .val (.ref tb), .val (.int got), .val (.long (Int64.ofNat (a1 + a2))), .second, .val (.long (Int64.ofNat (1 + n1))), .second, .unset, .unset, .unset, .unset, .unset]) rfl ?_
      show Steps p.tables e below (T49.setTop (mkF m 227 #[.val (.int y0), .val (.int y1), .val (.int y2), .val (.int y3), .val (.int y4), .val (.int y5), .val (.int (Int32.ofNat f1)), .val (.int (Int32.ofNat s1)), .val (.int (Int32.ofNat f2)), .val (.int (Int32.ofNat s2)), .val (.int (Int32.ofNat n1)), .val (.int (Int32.ofNat n2)), .val (.int (Int32.ofNat n3)), .val (.int (Int32.ofNat a1)), .val (.int (Int32.ofNat a2)), .val (.int (Int32.ofNat q)), .val (.int (Int32.ofNat o)), .val (.int (Int32.ofNat mm)), .val (.int v18), .val (.ref tb), .val (.int got), .val (.long (Int64.ofNat (a1 + a2))), .second, .val (.long (Int64.ofNat (1 + n1))), .second, .unset, .unset, .unset, .unset, .unset] [])) _
      refine XS.iload X.here hx rfl (hb hby at_227) rfl ?_
      show Steps p.tables e below (T49.setTop (mkF m 229 #[.val (.int y0), .val (.int y1), .val (.int y2), .val (.int y3), .val (.int y4), .val (.int y5), .val (.int (Int32.ofNat f1)), .val (.int (Int32.ofNat s1)), .val (.int (Int32.ofNat f2)), .val (.int (Int32.ofNat s2)), .val (.int (Int32.ofNat n1)), .val (.int (Int32.ofNat n2)), .val (.int (Int32.ofNat n3)), .val (.int (Int32.ofNat a1)), .val (.int (Int32.ofNat a2)), .val (.int (Int32.ofNat q)), .val (.int (Int32.ofNat o)), .val (.int (Int32.ofNat mm)), .val (.int v18), .val (.ref tb), .val (.int got), .val (.long (Int64.ofNat (a1 + a2))), .second, .val (.long (Int64.ofNat (1 + n1))), .second, .unset, .unset, .unset, .unset, .unset] [(.int (Int32.ofNat a1))])) _
      refine XS.i2l X.here hx rfl (hb hby at_229) rfl ?_
      show Steps p.tables e below (T49.setTop (mkF m 230 #[.val (.int y0), .val (.int y1), .val (.int y2), .val (.int y3), .val (.int y4), .val (.int y5), .val (.int (Int32.ofNat f1)), .val (.int (Int32.ofNat s1)), .val (.int (Int32.ofNat f2)), .val (.int (Int32.ofNat s2)), .val (.int (Int32.ofNat n1)), .val (.int (Int32.ofNat n2)), .val (.int (Int32.ofNat n3)), .val (.int (Int32.ofNat a1)), .val (.int (Int32.ofNat a2)), .val (.int (Int32.ofNat q)), .val (.int (Int32.ofNat o)), .val (.int (Int32.ofNat mm)), .val (.int v18), .val (.ref tb), .val (.int got), .val (.long (Int64.ofNat (a1 + a2))), .second, .val (.long (Int64.ofNat (1 + n1))), .second, .unset, .unset, .unset, .unset, .unset] [(.long ((Int32.ofNat a1).toInt64))])) _
      refine XS.lconst X.here hx rfl (hb hby at_230) ?_
      show Steps p.tables e below (T49.setTop (mkF m 231 #[.val (.int y0), .val (.int y1), .val (.int y2), .val (.int y3), .val (.int y4), .val (.int y5), .val (.int (Int32.ofNat f1)), .val (.int (Int32.ofNat s1)), .val (.int (Int32.ofNat f2)), .val (.int (Int32.ofNat s2)), .val (.int (Int32.ofNat n1)), .val (.int (Int32.ofNat n2)), .val (.int (Int32.ofNat n3)), .val (.int (Int32.ofNat a1)), .val (.int (Int32.ofNat a2)), .val (.int (Int32.ofNat q)), .val (.int (Int32.ofNat o)), .val (.int (Int32.ofNat mm)), .val (.int v18), .val (.ref tb), .val (.int got), .val (.long (Int64.ofNat (a1 + a2))), .second, .val (.long (Int64.ofNat (1 + n1))), .second, .unset, .unset, .unset, .unset, .unset] [(.long (1 : Int64)), (.long ((Int32.ofNat a1).toInt64))])) _
      refine XS.ladd X.here hx rfl (hb hby at_231) rfl ?_
      show Steps p.tables e below (T49.setTop (mkF m 232 #[.val (.int y0), .val (.int y1), .val (.int y2), .val (.int y3), .val (.int y4), .val (.int y5), .val (.int (Int32.ofNat f1)), .val (.int (Int32.ofNat s1)), .val (.int (Int32.ofNat f2)), .val (.int (Int32.ofNat s2)), .val (.int (Int32.ofNat n1)), .val (.int (Int32.ofNat n2)), .val (.int (Int32.ofNat n3)), .val (.int (Int32.ofNat a1)), .val (.int (Int32.ofNat a2)), .val (.int (Int32.ofNat q)), .val (.int (Int32.ofNat o)), .val (.int (Int32.ofNat mm)), .val (.int v18), .val (.ref tb), .val (.int got), .val (.long (Int64.ofNat (a1 + a2))), .second, .val (.long (Int64.ofNat (1 + n1))), .second, .unset, .unset, .unset, .unset, .unset] [(.long (((Int32.ofNat a1).toInt64) + (1 : Int64)))])) _
      refine XS.iload X.here hx rfl (hb hby at_232) rfl ?_
      show Steps p.tables e below (T49.setTop (mkF m 234 #[.val (.int y0), .val (.int y1), .val (.int y2), .val (.int y3), .val (.int y4), .val (.int y5), .val (.int (Int32.ofNat f1)), .val (.int (Int32.ofNat s1)), .val (.int (Int32.ofNat f2)), .val (.int (Int32.ofNat s2)), .val (.int (Int32.ofNat n1)), .val (.int (Int32.ofNat n2)), .val (.int (Int32.ofNat n3)), .val (.int (Int32.ofNat a1)), .val (.int (Int32.ofNat a2)), .val (.int (Int32.ofNat q)), .val (.int (Int32.ofNat o)), .val (.int (Int32.ofNat mm)), .val (.int v18), .val (.ref tb), .val (.int got), .val (.long (Int64.ofNat (a1 + a2))), .second, .val (.long (Int64.ofNat (1 + n1))), .second, .unset, .unset, .unset, .unset, .unset] [(.int (Int32.ofNat n2)), (.long (((Int32.ofNat a1).toInt64) + (1 : Int64)))])) _
      refine XS.i2l X.here hx rfl (hb hby at_234) rfl ?_
      show Steps p.tables e below (T49.setTop (mkF m 235 #[.val (.int y0), .val (.int y1), .val (.int y2), .val (.int y3), .val (.int y4), .val (.int y5), .val (.int (Int32.ofNat f1)), .val (.int (Int32.ofNat s1)), .val (.int (Int32.ofNat f2)), .val (.int (Int32.ofNat s2)), .val (.int (Int32.ofNat n1)), .val (.int (Int32.ofNat n2)), .val (.int (Int32.ofNat n3)), .val (.int (Int32.ofNat a1)), .val (.int (Int32.ofNat a2)), .val (.int (Int32.ofNat q)), .val (.int (Int32.ofNat o)), .val (.int (Int32.ofNat mm)), .val (.int v18), .val (.ref tb), .val (.int got), .val (.long (Int64.ofNat (a1 + a2))), .second, .val (.long (Int64.ofNat (1 + n1))), .second, .unset, .unset, .unset, .unset, .unset] [(.long ((Int32.ofNat n2).toInt64)), (.long (((Int32.ofNat a1).toInt64) + (1 : Int64)))])) _
      refine XS.ladd X.here hx rfl (hb hby at_235) rfl ?_
      exact k)
  have st : ∀ t, Steps p.tables e below (T49.setTop (mkF m 236 #[.val (.int y0), .val (.int y1), .val (.int y2), .val (.int y3), .val (.int y4), .val (.int y5), .val (.int (Int32.ofNat f1)), .val (.int (Int32.ofNat s1)), .val (.int (Int32.ofNat f2)), .val (.int (Int32.ofNat s2)), .val (.int (Int32.ofNat n1)), .val (.int (Int32.ofNat n2)), .val (.int (Int32.ofNat n3)), .val (.int (Int32.ofNat a1)), .val (.int (Int32.ofNat a2)), .val (.int (Int32.ofNat q)), .val (.int (Int32.ofNat o)), .val (.int (Int32.ofNat mm)), .val (.int v18), .val (.ref tb), .val (.int got), .val (.long (Int64.ofNat (a1 + a2))), .second, .val (.long (Int64.ofNat (1 + n1))), .second, .unset, .unset, .unset, .unset, .unset] [(.long (Int64.ofNat (a1 + 1 + n2)))])) t → Steps p.tables e below (s₁.setTop (mkF m 0 #[.val (.int y0), .val (.int y1), .val (.int y2), .val (.int y3), .val (.int y4), .val (.int y5), .unset, .unset, .unset, .unset, .unset, .unset, .unset, .unset, .unset, .unset, .unset, .unset, .unset, .unset, .unset, .unset, .unset, .unset, .unset, .unset, .unset, .unset, .unset, .unset] [])) t := by rw [← own_addL (a1 + 1) n2, ← own_succ a1, ← own_ext (i := n2) (by omega), ← own_ext (i := a1) (by omega)]; exact st
  have st : ∀ t, Steps p.tables e below (T49.setTop (mkF m 238 #[.val (.int y0), .val (.int y1), .val (.int y2), .val (.int y3), .val (.int y4), .val (.int y5), .val (.int (Int32.ofNat f1)), .val (.int (Int32.ofNat s1)), .val (.int (Int32.ofNat f2)), .val (.int (Int32.ofNat s2)), .val (.int (Int32.ofNat n1)), .val (.int (Int32.ofNat n2)), .val (.int (Int32.ofNat n3)), .val (.int (Int32.ofNat a1)), .val (.int (Int32.ofNat a2)), .val (.int (Int32.ofNat q)), .val (.int (Int32.ofNat o)), .val (.int (Int32.ofNat mm)), .val (.int v18), .val (.ref tb), .val (.int got), .val (.long (Int64.ofNat (a1 + a2))), .second, .val (.long (Int64.ofNat (1 + n1))), .second, .val (.long (Int64.ofNat (a1 + 1 + n2))), .second, .unset, .unset, .unset] [])) t → Steps p.tables e below (s₁.setTop (mkF m 0 #[.val (.int y0), .val (.int y1), .val (.int y2), .val (.int y3), .val (.int y4), .val (.int y5), .unset, .unset, .unset, .unset, .unset, .unset, .unset, .unset, .unset, .unset, .unset, .unset, .unset, .unset, .unset, .unset, .unset, .unset, .unset, .unset, .unset, .unset, .unset, .unset] [])) t := fun t k => st t (by
      show Steps p.tables e below (T49.setTop (mkF m 236 #[.val (.int y0), .val (.int y1), .val (.int y2), .val (.int y3), .val (.int y4), .val (.int y5), .val (.int (Int32.ofNat f1)), .val (.int (Int32.ofNat s1)), .val (.int (Int32.ofNat f2)), .val (.int (Int32.ofNat s2)), .val (.int (Int32.ofNat n1)), .val (.int (Int32.ofNat n2)), .val (.int (Int32.ofNat n3)), .val (.int (Int32.ofNat a1)), .val (.int (Int32.ofNat a2)), .val (.int (Int32.ofNat q)), .val (.int (Int32.ofNat o)), .val (.int (Int32.ofNat mm)), .val (.int v18), .val (.ref tb), .val (.int got), .val (.long (Int64.ofNat (a1 + a2))), .second, .val (.long (Int64.ofNat (1 + n1))), .second, .unset, .unset, .unset, .unset, .unset] [(.long (Int64.ofNat (a1 + 1 + n2)))])) _
      refine XS.lstore X.here hx rfl (hb hby at_236) rfl (l' := #[.val (.int y0), .val (.int y1), .val (.int y2), .val (.int y3), .val (.int y4), .val (.int y5), .val (.int (Int32.ofNat f1)), .val (.int (Int32.ofNat s1)), .val (.int (Int32.ofNat f2)), .val (.int (Int32.ofNat s2)), .val (.int (Int32.ofNat n1)), .val (.int (Int32.ofNat n2)), .val (.int (Int32.ofNat n3)), .val (.int (Int32.ofNat a1)), .val (.int (Int32.ofNat a2)), .val (.int (Int32.ofNat q)), .val (.int (Int32.ofNat o)), .val (.int (Int32.ofNat mm)), .val (.int v18), .val (.ref tb), .val (.int got), .val (.long (Int64.ofNat (a1 + a2))), .second, .val (.long (Int64.ofNat (1 + n1))), .second, .val (.long (Int64.ofNat (a1 + 1 + n2))), .second, .unset, .unset, .unset]) rfl ?_
      exact k)
  obtain ⟨v27, hv_v27, sx⟩ : ∃ (v27 : Int32), v27 = (if (Int32.ofNat q) = (Int32.ofNat f1) then (if (Int64.ofNat (a1 + a2)) < (Int64.ofNat (1 + n1)) then (1 : Int32) else (0 : Int32)) else (if (Int32.ofNat q) = (Int32.ofNat s1) then (if (Int64.ofNat (a1 + a2)) < (Int64.ofNat (1 + n1)) then (1 : Int32) else (0 : Int32)) else (0 : Int32))) ∧ ∀ t, Steps p.tables e below (T49.setTop (mkF m 265 #[.val (.int y0), .val (.int y1), .val (.int y2), .val (.int y3), .val (.int y4), .val (.int y5), .val (.int (Int32.ofNat f1)), .val (.int (Int32.ofNat s1)), .val (.int (Int32.ofNat f2)), .val (.int (Int32.ofNat s2)), .val (.int (Int32.ofNat n1)), .val (.int (Int32.ofNat n2)), .val (.int (Int32.ofNat n3)), .val (.int (Int32.ofNat a1)), .val (.int (Int32.ofNat a2)), .val (.int (Int32.ofNat q)), .val (.int (Int32.ofNat o)), .val (.int (Int32.ofNat mm)), .val (.int v18), .val (.ref tb), .val (.int got), .val (.long (Int64.ofNat (a1 + a2))), .second, .val (.long (Int64.ofNat (1 + n1))), .second, .val (.long (Int64.ofNat (a1 + 1 + n2))), .second, .unset, .unset, .unset] [(.int v27)])) t → Steps p.tables e below (T49.setTop (mkF m 238 #[.val (.int y0), .val (.int y1), .val (.int y2), .val (.int y3), .val (.int y4), .val (.int y5), .val (.int (Int32.ofNat f1)), .val (.int (Int32.ofNat s1)), .val (.int (Int32.ofNat f2)), .val (.int (Int32.ofNat s2)), .val (.int (Int32.ofNat n1)), .val (.int (Int32.ofNat n2)), .val (.int (Int32.ofNat n3)), .val (.int (Int32.ofNat a1)), .val (.int (Int32.ofNat a2)), .val (.int (Int32.ofNat q)), .val (.int (Int32.ofNat o)), .val (.int (Int32.ofNat mm)), .val (.int v18), .val (.ref tb), .val (.int got), .val (.long (Int64.ofNat (a1 + a2))), .second, .val (.long (Int64.ofNat (1 + n1))), .second, .val (.long (Int64.ofNat (a1 + 1 + n2))), .second, .unset, .unset, .unset] [])) t := by
    by_cases hj1 : (Int32.ofNat q) = (Int32.ofNat f1)
    · by_cases hj2 : (Int64.ofNat (a1 + a2)) < (Int64.ofNat (1 + n1))
      · refine ⟨(1 : Int32), by rw [if_pos hj1, if_pos hj2], fun t k => ?_⟩
        show Steps p.tables e below (T49.setTop (mkF m 238 #[.val (.int y0), .val (.int y1), .val (.int y2), .val (.int y3), .val (.int y4), .val (.int y5), .val (.int (Int32.ofNat f1)), .val (.int (Int32.ofNat s1)), .val (.int (Int32.ofNat f2)), .val (.int (Int32.ofNat s2)), .val (.int (Int32.ofNat n1)), .val (.int (Int32.ofNat n2)), .val (.int (Int32.ofNat n3)), .val (.int (Int32.ofNat a1)), .val (.int (Int32.ofNat a2)), .val (.int (Int32.ofNat q)), .val (.int (Int32.ofNat o)), .val (.int (Int32.ofNat mm)), .val (.int v18), .val (.ref tb), .val (.int got), .val (.long (Int64.ofNat (a1 + a2))), .second, .val (.long (Int64.ofNat (1 + n1))), .second, .val (.long (Int64.ofNat (a1 + 1 + n2))), .second, .unset, .unset, .unset] [])) _
        refine XS.iload X.here hx rfl (hb hby at_238) rfl ?_
        show Steps p.tables e below (T49.setTop (mkF m 240 #[.val (.int y0), .val (.int y1), .val (.int y2), .val (.int y3), .val (.int y4), .val (.int y5), .val (.int (Int32.ofNat f1)), .val (.int (Int32.ofNat s1)), .val (.int (Int32.ofNat f2)), .val (.int (Int32.ofNat s2)), .val (.int (Int32.ofNat n1)), .val (.int (Int32.ofNat n2)), .val (.int (Int32.ofNat n3)), .val (.int (Int32.ofNat a1)), .val (.int (Int32.ofNat a2)), .val (.int (Int32.ofNat q)), .val (.int (Int32.ofNat o)), .val (.int (Int32.ofNat mm)), .val (.int v18), .val (.ref tb), .val (.int got), .val (.long (Int64.ofNat (a1 + a2))), .second, .val (.long (Int64.ofNat (1 + n1))), .second, .val (.long (Int64.ofNat (a1 + 1 + n2))), .second, .unset, .unset, .unset] [(.int (Int32.ofNat q))])) _
        refine XS.iload X.here hx rfl (hb hby at_240) rfl ?_
        show Steps p.tables e below (T49.setTop (mkF m 242 #[.val (.int y0), .val (.int y1), .val (.int y2), .val (.int y3), .val (.int y4), .val (.int y5), .val (.int (Int32.ofNat f1)), .val (.int (Int32.ofNat s1)), .val (.int (Int32.ofNat f2)), .val (.int (Int32.ofNat s2)), .val (.int (Int32.ofNat n1)), .val (.int (Int32.ofNat n2)), .val (.int (Int32.ofNat n3)), .val (.int (Int32.ofNat a1)), .val (.int (Int32.ofNat a2)), .val (.int (Int32.ofNat q)), .val (.int (Int32.ofNat o)), .val (.int (Int32.ofNat mm)), .val (.int v18), .val (.ref tb), .val (.int got), .val (.long (Int64.ofNat (a1 + a2))), .second, .val (.long (Int64.ofNat (1 + n1))), .second, .val (.long (Int64.ofNat (a1 + 1 + n2))), .second, .unset, .unset, .unset] [(.int (Int32.ofNat f1)), (.int (Int32.ofNat q))])) _
        refine XS.icmpYes X.here hx rfl (pc0 := 242) (pc' := 252) rfl (hb hby at_242) rfl (teq hj1).1 (by decide) (by decide) ?_
        show Steps p.tables e below (T49.setTop (mkF m 252 #[.val (.int y0), .val (.int y1), .val (.int y2), .val (.int y3), .val (.int y4), .val (.int y5), .val (.int (Int32.ofNat f1)), .val (.int (Int32.ofNat s1)), .val (.int (Int32.ofNat f2)), .val (.int (Int32.ofNat s2)), .val (.int (Int32.ofNat n1)), .val (.int (Int32.ofNat n2)), .val (.int (Int32.ofNat n3)), .val (.int (Int32.ofNat a1)), .val (.int (Int32.ofNat a2)), .val (.int (Int32.ofNat q)), .val (.int (Int32.ofNat o)), .val (.int (Int32.ofNat mm)), .val (.int v18), .val (.ref tb), .val (.int got), .val (.long (Int64.ofNat (a1 + a2))), .second, .val (.long (Int64.ofNat (1 + n1))), .second, .val (.long (Int64.ofNat (a1 + 1 + n2))), .second, .unset, .unset, .unset] [])) _
        refine XS.lload X.here hx rfl (hb hby at_252) rfl ?_
        show Steps p.tables e below (T49.setTop (mkF m 254 #[.val (.int y0), .val (.int y1), .val (.int y2), .val (.int y3), .val (.int y4), .val (.int y5), .val (.int (Int32.ofNat f1)), .val (.int (Int32.ofNat s1)), .val (.int (Int32.ofNat f2)), .val (.int (Int32.ofNat s2)), .val (.int (Int32.ofNat n1)), .val (.int (Int32.ofNat n2)), .val (.int (Int32.ofNat n3)), .val (.int (Int32.ofNat a1)), .val (.int (Int32.ofNat a2)), .val (.int (Int32.ofNat q)), .val (.int (Int32.ofNat o)), .val (.int (Int32.ofNat mm)), .val (.int v18), .val (.ref tb), .val (.int got), .val (.long (Int64.ofNat (a1 + a2))), .second, .val (.long (Int64.ofNat (1 + n1))), .second, .val (.long (Int64.ofNat (a1 + 1 + n2))), .second, .unset, .unset, .unset] [(.long (Int64.ofNat (1 + n1)))])) _
        refine XS.lload X.here hx rfl (hb hby at_254) rfl ?_
        show Steps p.tables e below (T49.setTop (mkF m 256 #[.val (.int y0), .val (.int y1), .val (.int y2), .val (.int y3), .val (.int y4), .val (.int y5), .val (.int (Int32.ofNat f1)), .val (.int (Int32.ofNat s1)), .val (.int (Int32.ofNat f2)), .val (.int (Int32.ofNat s2)), .val (.int (Int32.ofNat n1)), .val (.int (Int32.ofNat n2)), .val (.int (Int32.ofNat n3)), .val (.int (Int32.ofNat a1)), .val (.int (Int32.ofNat a2)), .val (.int (Int32.ofNat q)), .val (.int (Int32.ofNat o)), .val (.int (Int32.ofNat mm)), .val (.int v18), .val (.ref tb), .val (.int got), .val (.long (Int64.ofNat (a1 + a2))), .second, .val (.long (Int64.ofNat (1 + n1))), .second, .val (.long (Int64.ofNat (a1 + 1 + n2))), .second, .unset, .unset, .unset] [(.long (Int64.ofNat (a1 + a2))), (.long (Int64.ofNat (1 + n1)))])) _
        refine XS.lcmp X.here hx rfl (hb hby at_256) rfl ?_
        show Steps p.tables e below (T49.setTop (mkF m 257 #[.val (.int y0), .val (.int y1), .val (.int y2), .val (.int y3), .val (.int y4), .val (.int y5), .val (.int (Int32.ofNat f1)), .val (.int (Int32.ofNat s1)), .val (.int (Int32.ofNat f2)), .val (.int (Int32.ofNat s2)), .val (.int (Int32.ofNat n1)), .val (.int (Int32.ofNat n2)), .val (.int (Int32.ofNat n3)), .val (.int (Int32.ofNat a1)), .val (.int (Int32.ofNat a2)), .val (.int (Int32.ofNat q)), .val (.int (Int32.ofNat o)), .val (.int (Int32.ofNat mm)), .val (.int v18), .val (.ref tb), .val (.int got), .val (.long (Int64.ofNat (a1 + a2))), .second, .val (.long (Int64.ofNat (1 + n1))), .second, .val (.long (Int64.ofNat (a1 + 1 + n2))), .second, .unset, .unset, .unset] [(.int (lcmpW (Int64.ofNat (1 + n1)) (Int64.ofNat (a1 + a2))))])) _
        refine XS.ifNo X.here hx rfl (hb hby at_257) rfl ((if0 _ _).trans (tlt ((lw_gt (Int64.ofNat (1 + n1)) (Int64.ofNat (a1 + a2))).mpr hj2)).2.2.2) ?_
        show Steps p.tables e below (T49.setTop (mkF m 260 #[.val (.int y0), .val (.int y1), .val (.int y2), .val (.int y3), .val (.int y4), .val (.int y5), .val (.int (Int32.ofNat f1)), .val (.int (Int32.ofNat s1)), .val (.int (Int32.ofNat f2)), .val (.int (Int32.ofNat s2)), .val (.int (Int32.ofNat n1)), .val (.int (Int32.ofNat n2)), .val (.int (Int32.ofNat n3)), .val (.int (Int32.ofNat a1)), .val (.int (Int32.ofNat a2)), .val (.int (Int32.ofNat q)), .val (.int (Int32.ofNat o)), .val (.int (Int32.ofNat mm)), .val (.int v18), .val (.ref tb), .val (.int got), .val (.long (Int64.ofNat (a1 + a2))), .second, .val (.long (Int64.ofNat (1 + n1))), .second, .val (.long (Int64.ofNat (a1 + 1 + n2))), .second, .unset, .unset, .unset] [])) _
        refine XS.iconst X.here hx rfl (hb hby at_260) ?_
        show Steps p.tables e below (T49.setTop (mkF m 261 #[.val (.int y0), .val (.int y1), .val (.int y2), .val (.int y3), .val (.int y4), .val (.int y5), .val (.int (Int32.ofNat f1)), .val (.int (Int32.ofNat s1)), .val (.int (Int32.ofNat f2)), .val (.int (Int32.ofNat s2)), .val (.int (Int32.ofNat n1)), .val (.int (Int32.ofNat n2)), .val (.int (Int32.ofNat n3)), .val (.int (Int32.ofNat a1)), .val (.int (Int32.ofNat a2)), .val (.int (Int32.ofNat q)), .val (.int (Int32.ofNat o)), .val (.int (Int32.ofNat mm)), .val (.int v18), .val (.ref tb), .val (.int got), .val (.long (Int64.ofNat (a1 + a2))), .second, .val (.long (Int64.ofNat (1 + n1))), .second, .val (.long (Int64.ofNat (a1 + 1 + n2))), .second, .unset, .unset, .unset] [(.int (1 : Int32))])) _
        refine XS.goto X.here hx rfl (pc0 := 261) (pc' := 265) rfl (hb hby at_261) (by decide) (by decide) ?_
        exact k
      · refine ⟨(0 : Int32), by rw [if_pos hj1, if_neg hj2], fun t k => ?_⟩
        show Steps p.tables e below (T49.setTop (mkF m 238 #[.val (.int y0), .val (.int y1), .val (.int y2), .val (.int y3), .val (.int y4), .val (.int y5), .val (.int (Int32.ofNat f1)), .val (.int (Int32.ofNat s1)), .val (.int (Int32.ofNat f2)), .val (.int (Int32.ofNat s2)), .val (.int (Int32.ofNat n1)), .val (.int (Int32.ofNat n2)), .val (.int (Int32.ofNat n3)), .val (.int (Int32.ofNat a1)), .val (.int (Int32.ofNat a2)), .val (.int (Int32.ofNat q)), .val (.int (Int32.ofNat o)), .val (.int (Int32.ofNat mm)), .val (.int v18), .val (.ref tb), .val (.int got), .val (.long (Int64.ofNat (a1 + a2))), .second, .val (.long (Int64.ofNat (1 + n1))), .second, .val (.long (Int64.ofNat (a1 + 1 + n2))), .second, .unset, .unset, .unset] [])) _
        refine XS.iload X.here hx rfl (hb hby at_238) rfl ?_
        show Steps p.tables e below (T49.setTop (mkF m 240 #[.val (.int y0), .val (.int y1), .val (.int y2), .val (.int y3), .val (.int y4), .val (.int y5), .val (.int (Int32.ofNat f1)), .val (.int (Int32.ofNat s1)), .val (.int (Int32.ofNat f2)), .val (.int (Int32.ofNat s2)), .val (.int (Int32.ofNat n1)), .val (.int (Int32.ofNat n2)), .val (.int (Int32.ofNat n3)), .val (.int (Int32.ofNat a1)), .val (.int (Int32.ofNat a2)), .val (.int (Int32.ofNat q)), .val (.int (Int32.ofNat o)), .val (.int (Int32.ofNat mm)), .val (.int v18), .val (.ref tb), .val (.int got), .val (.long (Int64.ofNat (a1 + a2))), .second, .val (.long (Int64.ofNat (1 + n1))), .second, .val (.long (Int64.ofNat (a1 + 1 + n2))), .second, .unset, .unset, .unset] [(.int (Int32.ofNat q))])) _
        refine XS.iload X.here hx rfl (hb hby at_240) rfl ?_
        show Steps p.tables e below (T49.setTop (mkF m 242 #[.val (.int y0), .val (.int y1), .val (.int y2), .val (.int y3), .val (.int y4), .val (.int y5), .val (.int (Int32.ofNat f1)), .val (.int (Int32.ofNat s1)), .val (.int (Int32.ofNat f2)), .val (.int (Int32.ofNat s2)), .val (.int (Int32.ofNat n1)), .val (.int (Int32.ofNat n2)), .val (.int (Int32.ofNat n3)), .val (.int (Int32.ofNat a1)), .val (.int (Int32.ofNat a2)), .val (.int (Int32.ofNat q)), .val (.int (Int32.ofNat o)), .val (.int (Int32.ofNat mm)), .val (.int v18), .val (.ref tb), .val (.int got), .val (.long (Int64.ofNat (a1 + a2))), .second, .val (.long (Int64.ofNat (1 + n1))), .second, .val (.long (Int64.ofNat (a1 + 1 + n2))), .second, .unset, .unset, .unset] [(.int (Int32.ofNat f1)), (.int (Int32.ofNat q))])) _
        refine XS.icmpYes X.here hx rfl (pc0 := 242) (pc' := 252) rfl (hb hby at_242) rfl (teq hj1).1 (by decide) (by decide) ?_
        show Steps p.tables e below (T49.setTop (mkF m 252 #[.val (.int y0), .val (.int y1), .val (.int y2), .val (.int y3), .val (.int y4), .val (.int y5), .val (.int (Int32.ofNat f1)), .val (.int (Int32.ofNat s1)), .val (.int (Int32.ofNat f2)), .val (.int (Int32.ofNat s2)), .val (.int (Int32.ofNat n1)), .val (.int (Int32.ofNat n2)), .val (.int (Int32.ofNat n3)), .val (.int (Int32.ofNat a1)), .val (.int (Int32.ofNat a2)), .val (.int (Int32.ofNat q)), .val (.int (Int32.ofNat o)), .val (.int (Int32.ofNat mm)), .val (.int v18), .val (.ref tb), .val (.int got), .val (.long (Int64.ofNat (a1 + a2))), .second, .val (.long (Int64.ofNat (1 + n1))), .second, .val (.long (Int64.ofNat (a1 + 1 + n2))), .second, .unset, .unset, .unset] [])) _
        refine XS.lload X.here hx rfl (hb hby at_252) rfl ?_
        show Steps p.tables e below (T49.setTop (mkF m 254 #[.val (.int y0), .val (.int y1), .val (.int y2), .val (.int y3), .val (.int y4), .val (.int y5), .val (.int (Int32.ofNat f1)), .val (.int (Int32.ofNat s1)), .val (.int (Int32.ofNat f2)), .val (.int (Int32.ofNat s2)), .val (.int (Int32.ofNat n1)), .val (.int (Int32.ofNat n2)), .val (.int (Int32.ofNat n3)), .val (.int (Int32.ofNat a1)), .val (.int (Int32.ofNat a2)), .val (.int (Int32.ofNat q)), .val (.int (Int32.ofNat o)), .val (.int (Int32.ofNat mm)), .val (.int v18), .val (.ref tb), .val (.int got), .val (.long (Int64.ofNat (a1 + a2))), .second, .val (.long (Int64.ofNat (1 + n1))), .second, .val (.long (Int64.ofNat (a1 + 1 + n2))), .second, .unset, .unset, .unset] [(.long (Int64.ofNat (1 + n1)))])) _
        refine XS.lload X.here hx rfl (hb hby at_254) rfl ?_
        show Steps p.tables e below (T49.setTop (mkF m 256 #[.val (.int y0), .val (.int y1), .val (.int y2), .val (.int y3), .val (.int y4), .val (.int y5), .val (.int (Int32.ofNat f1)), .val (.int (Int32.ofNat s1)), .val (.int (Int32.ofNat f2)), .val (.int (Int32.ofNat s2)), .val (.int (Int32.ofNat n1)), .val (.int (Int32.ofNat n2)), .val (.int (Int32.ofNat n3)), .val (.int (Int32.ofNat a1)), .val (.int (Int32.ofNat a2)), .val (.int (Int32.ofNat q)), .val (.int (Int32.ofNat o)), .val (.int (Int32.ofNat mm)), .val (.int v18), .val (.ref tb), .val (.int got), .val (.long (Int64.ofNat (a1 + a2))), .second, .val (.long (Int64.ofNat (1 + n1))), .second, .val (.long (Int64.ofNat (a1 + 1 + n2))), .second, .unset, .unset, .unset] [(.long (Int64.ofNat (a1 + a2))), (.long (Int64.ofNat (1 + n1)))])) _
        refine XS.lcmp X.here hx rfl (hb hby at_256) rfl ?_
        show Steps p.tables e below (T49.setTop (mkF m 257 #[.val (.int y0), .val (.int y1), .val (.int y2), .val (.int y3), .val (.int y4), .val (.int y5), .val (.int (Int32.ofNat f1)), .val (.int (Int32.ofNat s1)), .val (.int (Int32.ofNat f2)), .val (.int (Int32.ofNat s2)), .val (.int (Int32.ofNat n1)), .val (.int (Int32.ofNat n2)), .val (.int (Int32.ofNat n3)), .val (.int (Int32.ofNat a1)), .val (.int (Int32.ofNat a2)), .val (.int (Int32.ofNat q)), .val (.int (Int32.ofNat o)), .val (.int (Int32.ofNat mm)), .val (.int v18), .val (.ref tb), .val (.int got), .val (.long (Int64.ofNat (a1 + a2))), .second, .val (.long (Int64.ofNat (1 + n1))), .second, .val (.long (Int64.ofNat (a1 + 1 + n2))), .second, .unset, .unset, .unset] [(.int (lcmpW (Int64.ofNat (1 + n1)) (Int64.ofNat (a1 + a2))))])) _
        refine XS.ifYes X.here hx rfl (pc0 := 257) (pc' := 264) rfl (hb hby at_257) rfl ((if0 _ _).trans (flt (fun q => hj2 ((lw_gt (Int64.ofNat (1 + n1)) (Int64.ofNat (a1 + a2))).mp q))).2.2.2) (by decide) (by decide) ?_
        show Steps p.tables e below (T49.setTop (mkF m 264 #[.val (.int y0), .val (.int y1), .val (.int y2), .val (.int y3), .val (.int y4), .val (.int y5), .val (.int (Int32.ofNat f1)), .val (.int (Int32.ofNat s1)), .val (.int (Int32.ofNat f2)), .val (.int (Int32.ofNat s2)), .val (.int (Int32.ofNat n1)), .val (.int (Int32.ofNat n2)), .val (.int (Int32.ofNat n3)), .val (.int (Int32.ofNat a1)), .val (.int (Int32.ofNat a2)), .val (.int (Int32.ofNat q)), .val (.int (Int32.ofNat o)), .val (.int (Int32.ofNat mm)), .val (.int v18), .val (.ref tb), .val (.int got), .val (.long (Int64.ofNat (a1 + a2))), .second, .val (.long (Int64.ofNat (1 + n1))), .second, .val (.long (Int64.ofNat (a1 + 1 + n2))), .second, .unset, .unset, .unset] [])) _
        refine XS.iconst X.here hx rfl (hb hby at_264) ?_
        exact k
    · by_cases hj3 : (Int32.ofNat q) = (Int32.ofNat s1)
      · by_cases hj4 : (Int64.ofNat (a1 + a2)) < (Int64.ofNat (1 + n1))
        · refine ⟨(1 : Int32), by rw [if_neg hj1, if_pos hj3, if_pos hj4], fun t k => ?_⟩
          show Steps p.tables e below (T49.setTop (mkF m 238 #[.val (.int y0), .val (.int y1), .val (.int y2), .val (.int y3), .val (.int y4), .val (.int y5), .val (.int (Int32.ofNat f1)), .val (.int (Int32.ofNat s1)), .val (.int (Int32.ofNat f2)), .val (.int (Int32.ofNat s2)), .val (.int (Int32.ofNat n1)), .val (.int (Int32.ofNat n2)), .val (.int (Int32.ofNat n3)), .val (.int (Int32.ofNat a1)), .val (.int (Int32.ofNat a2)), .val (.int (Int32.ofNat q)), .val (.int (Int32.ofNat o)), .val (.int (Int32.ofNat mm)), .val (.int v18), .val (.ref tb), .val (.int got), .val (.long (Int64.ofNat (a1 + a2))), .second, .val (.long (Int64.ofNat (1 + n1))), .second, .val (.long (Int64.ofNat (a1 + 1 + n2))), .second, .unset, .unset, .unset] [])) _
          refine XS.iload X.here hx rfl (hb hby at_238) rfl ?_
          show Steps p.tables e below (T49.setTop (mkF m 240 #[.val (.int y0), .val (.int y1), .val (.int y2), .val (.int y3), .val (.int y4), .val (.int y5), .val (.int (Int32.ofNat f1)), .val (.int (Int32.ofNat s1)), .val (.int (Int32.ofNat f2)), .val (.int (Int32.ofNat s2)), .val (.int (Int32.ofNat n1)), .val (.int (Int32.ofNat n2)), .val (.int (Int32.ofNat n3)), .val (.int (Int32.ofNat a1)), .val (.int (Int32.ofNat a2)), .val (.int (Int32.ofNat q)), .val (.int (Int32.ofNat o)), .val (.int (Int32.ofNat mm)), .val (.int v18), .val (.ref tb), .val (.int got), .val (.long (Int64.ofNat (a1 + a2))), .second, .val (.long (Int64.ofNat (1 + n1))), .second, .val (.long (Int64.ofNat (a1 + 1 + n2))), .second, .unset, .unset, .unset] [(.int (Int32.ofNat q))])) _
          refine XS.iload X.here hx rfl (hb hby at_240) rfl ?_
          show Steps p.tables e below (T49.setTop (mkF m 242 #[.val (.int y0), .val (.int y1), .val (.int y2), .val (.int y3), .val (.int y4), .val (.int y5), .val (.int (Int32.ofNat f1)), .val (.int (Int32.ofNat s1)), .val (.int (Int32.ofNat f2)), .val (.int (Int32.ofNat s2)), .val (.int (Int32.ofNat n1)), .val (.int (Int32.ofNat n2)), .val (.int (Int32.ofNat n3)), .val (.int (Int32.ofNat a1)), .val (.int (Int32.ofNat a2)), .val (.int (Int32.ofNat q)), .val (.int (Int32.ofNat o)), .val (.int (Int32.ofNat mm)), .val (.int v18), .val (.ref tb), .val (.int got), .val (.long (Int64.ofNat (a1 + a2))), .second, .val (.long (Int64.ofNat (1 + n1))), .second, .val (.long (Int64.ofNat (a1 + 1 + n2))), .second, .unset, .unset, .unset] [(.int (Int32.ofNat f1)), (.int (Int32.ofNat q))])) _
          refine XS.icmpNo X.here hx rfl (hb hby at_242) rfl (feq hj1).1 ?_
          show Steps p.tables e below (T49.setTop (mkF m 245 #[.val (.int y0), .val (.int y1), .val (.int y2), .val (.int y3), .val (.int y4), .val (.int y5), .val (.int (Int32.ofNat f1)), .val (.int (Int32.ofNat s1)), .val (.int (Int32.ofNat f2)), .val (.int (Int32.ofNat s2)), .val (.int (Int32.ofNat n1)), .val (.int (Int32.ofNat n2)), .val (.int (Int32.ofNat n3)), .val (.int (Int32.ofNat a1)), .val (.int (Int32.ofNat a2)), .val (.int (Int32.ofNat q)), .val (.int (Int32.ofNat o)), .val (.int (Int32.ofNat mm)), .val (.int v18), .val (.ref tb), .val (.int got), .val (.long (Int64.ofNat (a1 + a2))), .second, .val (.long (Int64.ofNat (1 + n1))), .second, .val (.long (Int64.ofNat (a1 + 1 + n2))), .second, .unset, .unset, .unset] [])) _
          refine XS.iload X.here hx rfl (hb hby at_245) rfl ?_
          show Steps p.tables e below (T49.setTop (mkF m 247 #[.val (.int y0), .val (.int y1), .val (.int y2), .val (.int y3), .val (.int y4), .val (.int y5), .val (.int (Int32.ofNat f1)), .val (.int (Int32.ofNat s1)), .val (.int (Int32.ofNat f2)), .val (.int (Int32.ofNat s2)), .val (.int (Int32.ofNat n1)), .val (.int (Int32.ofNat n2)), .val (.int (Int32.ofNat n3)), .val (.int (Int32.ofNat a1)), .val (.int (Int32.ofNat a2)), .val (.int (Int32.ofNat q)), .val (.int (Int32.ofNat o)), .val (.int (Int32.ofNat mm)), .val (.int v18), .val (.ref tb), .val (.int got), .val (.long (Int64.ofNat (a1 + a2))), .second, .val (.long (Int64.ofNat (1 + n1))), .second, .val (.long (Int64.ofNat (a1 + 1 + n2))), .second, .unset, .unset, .unset] [(.int (Int32.ofNat q))])) _
          refine XS.iload X.here hx rfl (hb hby at_247) rfl ?_
          show Steps p.tables e below (T49.setTop (mkF m 249 #[.val (.int y0), .val (.int y1), .val (.int y2), .val (.int y3), .val (.int y4), .val (.int y5), .val (.int (Int32.ofNat f1)), .val (.int (Int32.ofNat s1)), .val (.int (Int32.ofNat f2)), .val (.int (Int32.ofNat s2)), .val (.int (Int32.ofNat n1)), .val (.int (Int32.ofNat n2)), .val (.int (Int32.ofNat n3)), .val (.int (Int32.ofNat a1)), .val (.int (Int32.ofNat a2)), .val (.int (Int32.ofNat q)), .val (.int (Int32.ofNat o)), .val (.int (Int32.ofNat mm)), .val (.int v18), .val (.ref tb), .val (.int got), .val (.long (Int64.ofNat (a1 + a2))), .second, .val (.long (Int64.ofNat (1 + n1))), .second, .val (.long (Int64.ofNat (a1 + 1 + n2))), .second, .unset, .unset, .unset] [(.int (Int32.ofNat s1)), (.int (Int32.ofNat q))])) _
          refine XS.icmpNo X.here hx rfl (hb hby at_249) rfl (teq hj3).2 ?_
          show Steps p.tables e below (T49.setTop (mkF m 252 #[.val (.int y0), .val (.int y1), .val (.int y2), .val (.int y3), .val (.int y4), .val (.int y5), .val (.int (Int32.ofNat f1)), .val (.int (Int32.ofNat s1)), .val (.int (Int32.ofNat f2)), .val (.int (Int32.ofNat s2)), .val (.int (Int32.ofNat n1)), .val (.int (Int32.ofNat n2)), .val (.int (Int32.ofNat n3)), .val (.int (Int32.ofNat a1)), .val (.int (Int32.ofNat a2)), .val (.int (Int32.ofNat q)), .val (.int (Int32.ofNat o)), .val (.int (Int32.ofNat mm)), .val (.int v18), .val (.ref tb), .val (.int got), .val (.long (Int64.ofNat (a1 + a2))), .second, .val (.long (Int64.ofNat (1 + n1))), .second, .val (.long (Int64.ofNat (a1 + 1 + n2))), .second, .unset, .unset, .unset] [])) _
          refine XS.lload X.here hx rfl (hb hby at_252) rfl ?_
          show Steps p.tables e below (T49.setTop (mkF m 254 #[.val (.int y0), .val (.int y1), .val (.int y2), .val (.int y3), .val (.int y4), .val (.int y5), .val (.int (Int32.ofNat f1)), .val (.int (Int32.ofNat s1)), .val (.int (Int32.ofNat f2)), .val (.int (Int32.ofNat s2)), .val (.int (Int32.ofNat n1)), .val (.int (Int32.ofNat n2)), .val (.int (Int32.ofNat n3)), .val (.int (Int32.ofNat a1)), .val (.int (Int32.ofNat a2)), .val (.int (Int32.ofNat q)), .val (.int (Int32.ofNat o)), .val (.int (Int32.ofNat mm)), .val (.int v18), .val (.ref tb), .val (.int got), .val (.long (Int64.ofNat (a1 + a2))), .second, .val (.long (Int64.ofNat (1 + n1))), .second, .val (.long (Int64.ofNat (a1 + 1 + n2))), .second, .unset, .unset, .unset] [(.long (Int64.ofNat (1 + n1)))])) _
          refine XS.lload X.here hx rfl (hb hby at_254) rfl ?_
          show Steps p.tables e below (T49.setTop (mkF m 256 #[.val (.int y0), .val (.int y1), .val (.int y2), .val (.int y3), .val (.int y4), .val (.int y5), .val (.int (Int32.ofNat f1)), .val (.int (Int32.ofNat s1)), .val (.int (Int32.ofNat f2)), .val (.int (Int32.ofNat s2)), .val (.int (Int32.ofNat n1)), .val (.int (Int32.ofNat n2)), .val (.int (Int32.ofNat n3)), .val (.int (Int32.ofNat a1)), .val (.int (Int32.ofNat a2)), .val (.int (Int32.ofNat q)), .val (.int (Int32.ofNat o)), .val (.int (Int32.ofNat mm)), .val (.int v18), .val (.ref tb), .val (.int got), .val (.long (Int64.ofNat (a1 + a2))), .second, .val (.long (Int64.ofNat (1 + n1))), .second, .val (.long (Int64.ofNat (a1 + 1 + n2))), .second, .unset, .unset, .unset] [(.long (Int64.ofNat (a1 + a2))), (.long (Int64.ofNat (1 + n1)))])) _
          refine XS.lcmp X.here hx rfl (hb hby at_256) rfl ?_
          show Steps p.tables e below (T49.setTop (mkF m 257 #[.val (.int y0), .val (.int y1), .val (.int y2), .val (.int y3), .val (.int y4), .val (.int y5), .val (.int (Int32.ofNat f1)), .val (.int (Int32.ofNat s1)), .val (.int (Int32.ofNat f2)), .val (.int (Int32.ofNat s2)), .val (.int (Int32.ofNat n1)), .val (.int (Int32.ofNat n2)), .val (.int (Int32.ofNat n3)), .val (.int (Int32.ofNat a1)), .val (.int (Int32.ofNat a2)), .val (.int (Int32.ofNat q)), .val (.int (Int32.ofNat o)), .val (.int (Int32.ofNat mm)), .val (.int v18), .val (.ref tb), .val (.int got), .val (.long (Int64.ofNat (a1 + a2))), .second, .val (.long (Int64.ofNat (1 + n1))), .second, .val (.long (Int64.ofNat (a1 + 1 + n2))), .second, .unset, .unset, .unset] [(.int (lcmpW (Int64.ofNat (1 + n1)) (Int64.ofNat (a1 + a2))))])) _
          refine XS.ifNo X.here hx rfl (hb hby at_257) rfl ((if0 _ _).trans (tlt ((lw_gt (Int64.ofNat (1 + n1)) (Int64.ofNat (a1 + a2))).mpr hj4)).2.2.2) ?_
          show Steps p.tables e below (T49.setTop (mkF m 260 #[.val (.int y0), .val (.int y1), .val (.int y2), .val (.int y3), .val (.int y4), .val (.int y5), .val (.int (Int32.ofNat f1)), .val (.int (Int32.ofNat s1)), .val (.int (Int32.ofNat f2)), .val (.int (Int32.ofNat s2)), .val (.int (Int32.ofNat n1)), .val (.int (Int32.ofNat n2)), .val (.int (Int32.ofNat n3)), .val (.int (Int32.ofNat a1)), .val (.int (Int32.ofNat a2)), .val (.int (Int32.ofNat q)), .val (.int (Int32.ofNat o)), .val (.int (Int32.ofNat mm)), .val (.int v18), .val (.ref tb), .val (.int got), .val (.long (Int64.ofNat (a1 + a2))), .second, .val (.long (Int64.ofNat (1 + n1))), .second, .val (.long (Int64.ofNat (a1 + 1 + n2))), .second, .unset, .unset, .unset] [])) _
          refine XS.iconst X.here hx rfl (hb hby at_260) ?_
          show Steps p.tables e below (T49.setTop (mkF m 261 #[.val (.int y0), .val (.int y1), .val (.int y2), .val (.int y3), .val (.int y4), .val (.int y5), .val (.int (Int32.ofNat f1)), .val (.int (Int32.ofNat s1)), .val (.int (Int32.ofNat f2)), .val (.int (Int32.ofNat s2)), .val (.int (Int32.ofNat n1)), .val (.int (Int32.ofNat n2)), .val (.int (Int32.ofNat n3)), .val (.int (Int32.ofNat a1)), .val (.int (Int32.ofNat a2)), .val (.int (Int32.ofNat q)), .val (.int (Int32.ofNat o)), .val (.int (Int32.ofNat mm)), .val (.int v18), .val (.ref tb), .val (.int got), .val (.long (Int64.ofNat (a1 + a2))), .second, .val (.long (Int64.ofNat (1 + n1))), .second, .val (.long (Int64.ofNat (a1 + 1 + n2))), .second, .unset, .unset, .unset] [(.int (1 : Int32))])) _
          refine XS.goto X.here hx rfl (pc0 := 261) (pc' := 265) rfl (hb hby at_261) (by decide) (by decide) ?_
          exact k
        · refine ⟨(0 : Int32), by rw [if_neg hj1, if_pos hj3, if_neg hj4], fun t k => ?_⟩
          show Steps p.tables e below (T49.setTop (mkF m 238 #[.val (.int y0), .val (.int y1), .val (.int y2), .val (.int y3), .val (.int y4), .val (.int y5), .val (.int (Int32.ofNat f1)), .val (.int (Int32.ofNat s1)), .val (.int (Int32.ofNat f2)), .val (.int (Int32.ofNat s2)), .val (.int (Int32.ofNat n1)), .val (.int (Int32.ofNat n2)), .val (.int (Int32.ofNat n3)), .val (.int (Int32.ofNat a1)), .val (.int (Int32.ofNat a2)), .val (.int (Int32.ofNat q)), .val (.int (Int32.ofNat o)), .val (.int (Int32.ofNat mm)), .val (.int v18), .val (.ref tb), .val (.int got), .val (.long (Int64.ofNat (a1 + a2))), .second, .val (.long (Int64.ofNat (1 + n1))), .second, .val (.long (Int64.ofNat (a1 + 1 + n2))), .second, .unset, .unset, .unset] [])) _
          refine XS.iload X.here hx rfl (hb hby at_238) rfl ?_
          show Steps p.tables e below (T49.setTop (mkF m 240 #[.val (.int y0), .val (.int y1), .val (.int y2), .val (.int y3), .val (.int y4), .val (.int y5), .val (.int (Int32.ofNat f1)), .val (.int (Int32.ofNat s1)), .val (.int (Int32.ofNat f2)), .val (.int (Int32.ofNat s2)), .val (.int (Int32.ofNat n1)), .val (.int (Int32.ofNat n2)), .val (.int (Int32.ofNat n3)), .val (.int (Int32.ofNat a1)), .val (.int (Int32.ofNat a2)), .val (.int (Int32.ofNat q)), .val (.int (Int32.ofNat o)), .val (.int (Int32.ofNat mm)), .val (.int v18), .val (.ref tb), .val (.int got), .val (.long (Int64.ofNat (a1 + a2))), .second, .val (.long (Int64.ofNat (1 + n1))), .second, .val (.long (Int64.ofNat (a1 + 1 + n2))), .second, .unset, .unset, .unset] [(.int (Int32.ofNat q))])) _
          refine XS.iload X.here hx rfl (hb hby at_240) rfl ?_
          show Steps p.tables e below (T49.setTop (mkF m 242 #[.val (.int y0), .val (.int y1), .val (.int y2), .val (.int y3), .val (.int y4), .val (.int y5), .val (.int (Int32.ofNat f1)), .val (.int (Int32.ofNat s1)), .val (.int (Int32.ofNat f2)), .val (.int (Int32.ofNat s2)), .val (.int (Int32.ofNat n1)), .val (.int (Int32.ofNat n2)), .val (.int (Int32.ofNat n3)), .val (.int (Int32.ofNat a1)), .val (.int (Int32.ofNat a2)), .val (.int (Int32.ofNat q)), .val (.int (Int32.ofNat o)), .val (.int (Int32.ofNat mm)), .val (.int v18), .val (.ref tb), .val (.int got), .val (.long (Int64.ofNat (a1 + a2))), .second, .val (.long (Int64.ofNat (1 + n1))), .second, .val (.long (Int64.ofNat (a1 + 1 + n2))), .second, .unset, .unset, .unset] [(.int (Int32.ofNat f1)), (.int (Int32.ofNat q))])) _
          refine XS.icmpNo X.here hx rfl (hb hby at_242) rfl (feq hj1).1 ?_
          show Steps p.tables e below (T49.setTop (mkF m 245 #[.val (.int y0), .val (.int y1), .val (.int y2), .val (.int y3), .val (.int y4), .val (.int y5), .val (.int (Int32.ofNat f1)), .val (.int (Int32.ofNat s1)), .val (.int (Int32.ofNat f2)), .val (.int (Int32.ofNat s2)), .val (.int (Int32.ofNat n1)), .val (.int (Int32.ofNat n2)), .val (.int (Int32.ofNat n3)), .val (.int (Int32.ofNat a1)), .val (.int (Int32.ofNat a2)), .val (.int (Int32.ofNat q)), .val (.int (Int32.ofNat o)), .val (.int (Int32.ofNat mm)), .val (.int v18), .val (.ref tb), .val (.int got), .val (.long (Int64.ofNat (a1 + a2))), .second, .val (.long (Int64.ofNat (1 + n1))), .second, .val (.long (Int64.ofNat (a1 + 1 + n2))), .second, .unset, .unset, .unset] [])) _
          refine XS.iload X.here hx rfl (hb hby at_245) rfl ?_
          show Steps p.tables e below (T49.setTop (mkF m 247 #[.val (.int y0), .val (.int y1), .val (.int y2), .val (.int y3), .val (.int y4), .val (.int y5), .val (.int (Int32.ofNat f1)), .val (.int (Int32.ofNat s1)), .val (.int (Int32.ofNat f2)), .val (.int (Int32.ofNat s2)), .val (.int (Int32.ofNat n1)), .val (.int (Int32.ofNat n2)), .val (.int (Int32.ofNat n3)), .val (.int (Int32.ofNat a1)), .val (.int (Int32.ofNat a2)), .val (.int (Int32.ofNat q)), .val (.int (Int32.ofNat o)), .val (.int (Int32.ofNat mm)), .val (.int v18), .val (.ref tb), .val (.int got), .val (.long (Int64.ofNat (a1 + a2))), .second, .val (.long (Int64.ofNat (1 + n1))), .second, .val (.long (Int64.ofNat (a1 + 1 + n2))), .second, .unset, .unset, .unset] [(.int (Int32.ofNat q))])) _
          refine XS.iload X.here hx rfl (hb hby at_247) rfl ?_
          show Steps p.tables e below (T49.setTop (mkF m 249 #[.val (.int y0), .val (.int y1), .val (.int y2), .val (.int y3), .val (.int y4), .val (.int y5), .val (.int (Int32.ofNat f1)), .val (.int (Int32.ofNat s1)), .val (.int (Int32.ofNat f2)), .val (.int (Int32.ofNat s2)), .val (.int (Int32.ofNat n1)), .val (.int (Int32.ofNat n2)), .val (.int (Int32.ofNat n3)), .val (.int (Int32.ofNat a1)), .val (.int (Int32.ofNat a2)), .val (.int (Int32.ofNat q)), .val (.int (Int32.ofNat o)), .val (.int (Int32.ofNat mm)), .val (.int v18), .val (.ref tb), .val (.int got), .val (.long (Int64.ofNat (a1 + a2))), .second, .val (.long (Int64.ofNat (1 + n1))), .second, .val (.long (Int64.ofNat (a1 + 1 + n2))), .second, .unset, .unset, .unset] [(.int (Int32.ofNat s1)), (.int (Int32.ofNat q))])) _
          refine XS.icmpNo X.here hx rfl (hb hby at_249) rfl (teq hj3).2 ?_
          show Steps p.tables e below (T49.setTop (mkF m 252 #[.val (.int y0), .val (.int y1), .val (.int y2), .val (.int y3), .val (.int y4), .val (.int y5), .val (.int (Int32.ofNat f1)), .val (.int (Int32.ofNat s1)), .val (.int (Int32.ofNat f2)), .val (.int (Int32.ofNat s2)), .val (.int (Int32.ofNat n1)), .val (.int (Int32.ofNat n2)), .val (.int (Int32.ofNat n3)), .val (.int (Int32.ofNat a1)), .val (.int (Int32.ofNat a2)), .val (.int (Int32.ofNat q)), .val (.int (Int32.ofNat o)), .val (.int (Int32.ofNat mm)), .val (.int v18), .val (.ref tb), .val (.int got), .val (.long (Int64.ofNat (a1 + a2))), .second, .val (.long (Int64.ofNat (1 + n1))), .second, .val (.long (Int64.ofNat (a1 + 1 + n2))), .second, .unset, .unset, .unset] [])) _
          refine XS.lload X.here hx rfl (hb hby at_252) rfl ?_
          show Steps p.tables e below (T49.setTop (mkF m 254 #[.val (.int y0), .val (.int y1), .val (.int y2), .val (.int y3), .val (.int y4), .val (.int y5), .val (.int (Int32.ofNat f1)), .val (.int (Int32.ofNat s1)), .val (.int (Int32.ofNat f2)), .val (.int (Int32.ofNat s2)), .val (.int (Int32.ofNat n1)), .val (.int (Int32.ofNat n2)), .val (.int (Int32.ofNat n3)), .val (.int (Int32.ofNat a1)), .val (.int (Int32.ofNat a2)), .val (.int (Int32.ofNat q)), .val (.int (Int32.ofNat o)), .val (.int (Int32.ofNat mm)), .val (.int v18), .val (.ref tb), .val (.int got), .val (.long (Int64.ofNat (a1 + a2))), .second, .val (.long (Int64.ofNat (1 + n1))), .second, .val (.long (Int64.ofNat (a1 + 1 + n2))), .second, .unset, .unset, .unset] [(.long (Int64.ofNat (1 + n1)))])) _
          refine XS.lload X.here hx rfl (hb hby at_254) rfl ?_
          show Steps p.tables e below (T49.setTop (mkF m 256 #[.val (.int y0), .val (.int y1), .val (.int y2), .val (.int y3), .val (.int y4), .val (.int y5), .val (.int (Int32.ofNat f1)), .val (.int (Int32.ofNat s1)), .val (.int (Int32.ofNat f2)), .val (.int (Int32.ofNat s2)), .val (.int (Int32.ofNat n1)), .val (.int (Int32.ofNat n2)), .val (.int (Int32.ofNat n3)), .val (.int (Int32.ofNat a1)), .val (.int (Int32.ofNat a2)), .val (.int (Int32.ofNat q)), .val (.int (Int32.ofNat o)), .val (.int (Int32.ofNat mm)), .val (.int v18), .val (.ref tb), .val (.int got), .val (.long (Int64.ofNat (a1 + a2))), .second, .val (.long (Int64.ofNat (1 + n1))), .second, .val (.long (Int64.ofNat (a1 + 1 + n2))), .second, .unset, .unset, .unset] [(.long (Int64.ofNat (a1 + a2))), (.long (Int64.ofNat (1 + n1)))])) _
          refine XS.lcmp X.here hx rfl (hb hby at_256) rfl ?_
          show Steps p.tables e below (T49.setTop (mkF m 257 #[.val (.int y0), .val (.int y1), .val (.int y2), .val (.int y3), .val (.int y4), .val (.int y5), .val (.int (Int32.ofNat f1)), .val (.int (Int32.ofNat s1)), .val (.int (Int32.ofNat f2)), .val (.int (Int32.ofNat s2)), .val (.int (Int32.ofNat n1)), .val (.int (Int32.ofNat n2)), .val (.int (Int32.ofNat n3)), .val (.int (Int32.ofNat a1)), .val (.int (Int32.ofNat a2)), .val (.int (Int32.ofNat q)), .val (.int (Int32.ofNat o)), .val (.int (Int32.ofNat mm)), .val (.int v18), .val (.ref tb), .val (.int got), .val (.long (Int64.ofNat (a1 + a2))), .second, .val (.long (Int64.ofNat (1 + n1))), .second, .val (.long (Int64.ofNat (a1 + 1 + n2))), .second, .unset, .unset, .unset] [(.int (lcmpW (Int64.ofNat (1 + n1)) (Int64.ofNat (a1 + a2))))])) _
          refine XS.ifYes X.here hx rfl (pc0 := 257) (pc' := 264) rfl (hb hby at_257) rfl ((if0 _ _).trans (flt (fun q => hj4 ((lw_gt (Int64.ofNat (1 + n1)) (Int64.ofNat (a1 + a2))).mp q))).2.2.2) (by decide) (by decide) ?_
          show Steps p.tables e below (T49.setTop (mkF m 264 #[.val (.int y0), .val (.int y1), .val (.int y2), .val (.int y3), .val (.int y4), .val (.int y5), .val (.int (Int32.ofNat f1)), .val (.int (Int32.ofNat s1)), .val (.int (Int32.ofNat f2)), .val (.int (Int32.ofNat s2)), .val (.int (Int32.ofNat n1)), .val (.int (Int32.ofNat n2)), .val (.int (Int32.ofNat n3)), .val (.int (Int32.ofNat a1)), .val (.int (Int32.ofNat a2)), .val (.int (Int32.ofNat q)), .val (.int (Int32.ofNat o)), .val (.int (Int32.ofNat mm)), .val (.int v18), .val (.ref tb), .val (.int got), .val (.long (Int64.ofNat (a1 + a2))), .second, .val (.long (Int64.ofNat (1 + n1))), .second, .val (.long (Int64.ofNat (a1 + 1 + n2))), .second, .unset, .unset, .unset] [])) _
          refine XS.iconst X.here hx rfl (hb hby at_264) ?_
          exact k
      · refine ⟨(0 : Int32), by rw [if_neg hj1, if_neg hj3], fun t k => ?_⟩
        show Steps p.tables e below (T49.setTop (mkF m 238 #[.val (.int y0), .val (.int y1), .val (.int y2), .val (.int y3), .val (.int y4), .val (.int y5), .val (.int (Int32.ofNat f1)), .val (.int (Int32.ofNat s1)), .val (.int (Int32.ofNat f2)), .val (.int (Int32.ofNat s2)), .val (.int (Int32.ofNat n1)), .val (.int (Int32.ofNat n2)), .val (.int (Int32.ofNat n3)), .val (.int (Int32.ofNat a1)), .val (.int (Int32.ofNat a2)), .val (.int (Int32.ofNat q)), .val (.int (Int32.ofNat o)), .val (.int (Int32.ofNat mm)), .val (.int v18), .val (.ref tb), .val (.int got), .val (.long (Int64.ofNat (a1 + a2))), .second, .val (.long (Int64.ofNat (1 + n1))), .second, .val (.long (Int64.ofNat (a1 + 1 + n2))), .second, .unset, .unset, .unset] [])) _
        refine XS.iload X.here hx rfl (hb hby at_238) rfl ?_
        show Steps p.tables e below (T49.setTop (mkF m 240 #[.val (.int y0), .val (.int y1), .val (.int y2), .val (.int y3), .val (.int y4), .val (.int y5), .val (.int (Int32.ofNat f1)), .val (.int (Int32.ofNat s1)), .val (.int (Int32.ofNat f2)), .val (.int (Int32.ofNat s2)), .val (.int (Int32.ofNat n1)), .val (.int (Int32.ofNat n2)), .val (.int (Int32.ofNat n3)), .val (.int (Int32.ofNat a1)), .val (.int (Int32.ofNat a2)), .val (.int (Int32.ofNat q)), .val (.int (Int32.ofNat o)), .val (.int (Int32.ofNat mm)), .val (.int v18), .val (.ref tb), .val (.int got), .val (.long (Int64.ofNat (a1 + a2))), .second, .val (.long (Int64.ofNat (1 + n1))), .second, .val (.long (Int64.ofNat (a1 + 1 + n2))), .second, .unset, .unset, .unset] [(.int (Int32.ofNat q))])) _
        refine XS.iload X.here hx rfl (hb hby at_240) rfl ?_
        show Steps p.tables e below (T49.setTop (mkF m 242 #[.val (.int y0), .val (.int y1), .val (.int y2), .val (.int y3), .val (.int y4), .val (.int y5), .val (.int (Int32.ofNat f1)), .val (.int (Int32.ofNat s1)), .val (.int (Int32.ofNat f2)), .val (.int (Int32.ofNat s2)), .val (.int (Int32.ofNat n1)), .val (.int (Int32.ofNat n2)), .val (.int (Int32.ofNat n3)), .val (.int (Int32.ofNat a1)), .val (.int (Int32.ofNat a2)), .val (.int (Int32.ofNat q)), .val (.int (Int32.ofNat o)), .val (.int (Int32.ofNat mm)), .val (.int v18), .val (.ref tb), .val (.int got), .val (.long (Int64.ofNat (a1 + a2))), .second, .val (.long (Int64.ofNat (1 + n1))), .second, .val (.long (Int64.ofNat (a1 + 1 + n2))), .second, .unset, .unset, .unset] [(.int (Int32.ofNat f1)), (.int (Int32.ofNat q))])) _
        refine XS.icmpNo X.here hx rfl (hb hby at_242) rfl (feq hj1).1 ?_
        show Steps p.tables e below (T49.setTop (mkF m 245 #[.val (.int y0), .val (.int y1), .val (.int y2), .val (.int y3), .val (.int y4), .val (.int y5), .val (.int (Int32.ofNat f1)), .val (.int (Int32.ofNat s1)), .val (.int (Int32.ofNat f2)), .val (.int (Int32.ofNat s2)), .val (.int (Int32.ofNat n1)), .val (.int (Int32.ofNat n2)), .val (.int (Int32.ofNat n3)), .val (.int (Int32.ofNat a1)), .val (.int (Int32.ofNat a2)), .val (.int (Int32.ofNat q)), .val (.int (Int32.ofNat o)), .val (.int (Int32.ofNat mm)), .val (.int v18), .val (.ref tb), .val (.int got), .val (.long (Int64.ofNat (a1 + a2))), .second, .val (.long (Int64.ofNat (1 + n1))), .second, .val (.long (Int64.ofNat (a1 + 1 + n2))), .second, .unset, .unset, .unset] [])) _
        refine XS.iload X.here hx rfl (hb hby at_245) rfl ?_
        show Steps p.tables e below (T49.setTop (mkF m 247 #[.val (.int y0), .val (.int y1), .val (.int y2), .val (.int y3), .val (.int y4), .val (.int y5), .val (.int (Int32.ofNat f1)), .val (.int (Int32.ofNat s1)), .val (.int (Int32.ofNat f2)), .val (.int (Int32.ofNat s2)), .val (.int (Int32.ofNat n1)), .val (.int (Int32.ofNat n2)), .val (.int (Int32.ofNat n3)), .val (.int (Int32.ofNat a1)), .val (.int (Int32.ofNat a2)), .val (.int (Int32.ofNat q)), .val (.int (Int32.ofNat o)), .val (.int (Int32.ofNat mm)), .val (.int v18), .val (.ref tb), .val (.int got), .val (.long (Int64.ofNat (a1 + a2))), .second, .val (.long (Int64.ofNat (1 + n1))), .second, .val (.long (Int64.ofNat (a1 + 1 + n2))), .second, .unset, .unset, .unset] [(.int (Int32.ofNat q))])) _
        refine XS.iload X.here hx rfl (hb hby at_247) rfl ?_
        show Steps p.tables e below (T49.setTop (mkF m 249 #[.val (.int y0), .val (.int y1), .val (.int y2), .val (.int y3), .val (.int y4), .val (.int y5), .val (.int (Int32.ofNat f1)), .val (.int (Int32.ofNat s1)), .val (.int (Int32.ofNat f2)), .val (.int (Int32.ofNat s2)), .val (.int (Int32.ofNat n1)), .val (.int (Int32.ofNat n2)), .val (.int (Int32.ofNat n3)), .val (.int (Int32.ofNat a1)), .val (.int (Int32.ofNat a2)), .val (.int (Int32.ofNat q)), .val (.int (Int32.ofNat o)), .val (.int (Int32.ofNat mm)), .val (.int v18), .val (.ref tb), .val (.int got), .val (.long (Int64.ofNat (a1 + a2))), .second, .val (.long (Int64.ofNat (1 + n1))), .second, .val (.long (Int64.ofNat (a1 + 1 + n2))), .second, .unset, .unset, .unset] [(.int (Int32.ofNat s1)), (.int (Int32.ofNat q))])) _
        refine XS.icmpYes X.here hx rfl (pc0 := 249) (pc' := 264) rfl (hb hby at_249) rfl (feq hj3).2 (by decide) (by decide) ?_
        show Steps p.tables e below (T49.setTop (mkF m 264 #[.val (.int y0), .val (.int y1), .val (.int y2), .val (.int y3), .val (.int y4), .val (.int y5), .val (.int (Int32.ofNat f1)), .val (.int (Int32.ofNat s1)), .val (.int (Int32.ofNat f2)), .val (.int (Int32.ofNat s2)), .val (.int (Int32.ofNat n1)), .val (.int (Int32.ofNat n2)), .val (.int (Int32.ofNat n3)), .val (.int (Int32.ofNat a1)), .val (.int (Int32.ofNat a2)), .val (.int (Int32.ofNat q)), .val (.int (Int32.ofNat o)), .val (.int (Int32.ofNat mm)), .val (.int v18), .val (.ref tb), .val (.int got), .val (.long (Int64.ofNat (a1 + a2))), .second, .val (.long (Int64.ofNat (1 + n1))), .second, .val (.long (Int64.ofNat (a1 + 1 + n2))), .second, .unset, .unset, .unset] [])) _
        refine XS.iconst X.here hx rfl (hb hby at_264) ?_
        exact k
  have st : ∀ t, Steps p.tables e below (T49.setTop (mkF m 265 #[.val (.int y0), .val (.int y1), .val (.int y2), .val (.int y3), .val (.int y4), .val (.int y5), .val (.int (Int32.ofNat f1)), .val (.int (Int32.ofNat s1)), .val (.int (Int32.ofNat f2)), .val (.int (Int32.ofNat s2)), .val (.int (Int32.ofNat n1)), .val (.int (Int32.ofNat n2)), .val (.int (Int32.ofNat n3)), .val (.int (Int32.ofNat a1)), .val (.int (Int32.ofNat a2)), .val (.int (Int32.ofNat q)), .val (.int (Int32.ofNat o)), .val (.int (Int32.ofNat mm)), .val (.int v18), .val (.ref tb), .val (.int got), .val (.long (Int64.ofNat (a1 + a2))), .second, .val (.long (Int64.ofNat (1 + n1))), .second, .val (.long (Int64.ofNat (a1 + 1 + n2))), .second, .unset, .unset, .unset] [(.int v27)])) t → Steps p.tables e below (s₁.setTop (mkF m 0 #[.val (.int y0), .val (.int y1), .val (.int y2), .val (.int y3), .val (.int y4), .val (.int y5), .unset, .unset, .unset, .unset, .unset, .unset, .unset, .unset, .unset, .unset, .unset, .unset, .unset, .unset, .unset, .unset, .unset, .unset, .unset, .unset, .unset, .unset, .unset, .unset] [])) t := fun t k => st t (sx t k)
  have st : ∀ t, Steps p.tables e below (T49.setTop (mkF m 267 #[.val (.int y0), .val (.int y1), .val (.int y2), .val (.int y3), .val (.int y4), .val (.int y5), .val (.int (Int32.ofNat f1)), .val (.int (Int32.ofNat s1)), .val (.int (Int32.ofNat f2)), .val (.int (Int32.ofNat s2)), .val (.int (Int32.ofNat n1)), .val (.int (Int32.ofNat n2)), .val (.int (Int32.ofNat n3)), .val (.int (Int32.ofNat a1)), .val (.int (Int32.ofNat a2)), .val (.int (Int32.ofNat q)), .val (.int (Int32.ofNat o)), .val (.int (Int32.ofNat mm)), .val (.int v18), .val (.ref tb), .val (.int got), .val (.long (Int64.ofNat (a1 + a2))), .second, .val (.long (Int64.ofNat (1 + n1))), .second, .val (.long (Int64.ofNat (a1 + 1 + n2))), .second, .val (.int v27), .unset, .unset] [])) t → Steps p.tables e below (s₁.setTop (mkF m 0 #[.val (.int y0), .val (.int y1), .val (.int y2), .val (.int y3), .val (.int y4), .val (.int y5), .unset, .unset, .unset, .unset, .unset, .unset, .unset, .unset, .unset, .unset, .unset, .unset, .unset, .unset, .unset, .unset, .unset, .unset, .unset, .unset, .unset, .unset, .unset, .unset] [])) t := fun t k => st t (by
      show Steps p.tables e below (T49.setTop (mkF m 265 #[.val (.int y0), .val (.int y1), .val (.int y2), .val (.int y3), .val (.int y4), .val (.int y5), .val (.int (Int32.ofNat f1)), .val (.int (Int32.ofNat s1)), .val (.int (Int32.ofNat f2)), .val (.int (Int32.ofNat s2)), .val (.int (Int32.ofNat n1)), .val (.int (Int32.ofNat n2)), .val (.int (Int32.ofNat n3)), .val (.int (Int32.ofNat a1)), .val (.int (Int32.ofNat a2)), .val (.int (Int32.ofNat q)), .val (.int (Int32.ofNat o)), .val (.int (Int32.ofNat mm)), .val (.int v18), .val (.ref tb), .val (.int got), .val (.long (Int64.ofNat (a1 + a2))), .second, .val (.long (Int64.ofNat (1 + n1))), .second, .val (.long (Int64.ofNat (a1 + 1 + n2))), .second, .unset, .unset, .unset] [(.int v27)])) _
      refine XS.istore X.here hx rfl (hb hby at_265) rfl (l' := #[.val (.int y0), .val (.int y1), .val (.int y2), .val (.int y3), .val (.int y4), .val (.int y5), .val (.int (Int32.ofNat f1)), .val (.int (Int32.ofNat s1)), .val (.int (Int32.ofNat f2)), .val (.int (Int32.ofNat s2)), .val (.int (Int32.ofNat n1)), .val (.int (Int32.ofNat n2)), .val (.int (Int32.ofNat n3)), .val (.int (Int32.ofNat a1)), .val (.int (Int32.ofNat a2)), .val (.int (Int32.ofNat q)), .val (.int (Int32.ofNat o)), .val (.int (Int32.ofNat mm)), .val (.int v18), .val (.ref tb), .val (.int got), .val (.long (Int64.ofNat (a1 + a2))), .second, .val (.long (Int64.ofNat (1 + n1))), .second, .val (.long (Int64.ofNat (a1 + 1 + n2))), .second, .val (.int v27), .unset, .unset]) rfl ?_
      exact k)
  obtain ⟨v28, hv_v28, sx⟩ : ∃ (v28 : Int32), v28 = (if (Int32.ofNat q) = (Int32.ofNat f2) then (if (Int64.ofNat (a1 + a2)) < (Int64.ofNat (a1 + 1 + n2)) then (1 : Int32) else (0 : Int32)) else (if (Int32.ofNat q) = (Int32.ofNat s2) then (if (Int64.ofNat (a1 + a2)) < (Int64.ofNat (a1 + 1 + n2)) then (1 : Int32) else (0 : Int32)) else (0 : Int32))) ∧ ∀ t, Steps p.tables e below (T49.setTop (mkF m 294 #[.val (.int y0), .val (.int y1), .val (.int y2), .val (.int y3), .val (.int y4), .val (.int y5), .val (.int (Int32.ofNat f1)), .val (.int (Int32.ofNat s1)), .val (.int (Int32.ofNat f2)), .val (.int (Int32.ofNat s2)), .val (.int (Int32.ofNat n1)), .val (.int (Int32.ofNat n2)), .val (.int (Int32.ofNat n3)), .val (.int (Int32.ofNat a1)), .val (.int (Int32.ofNat a2)), .val (.int (Int32.ofNat q)), .val (.int (Int32.ofNat o)), .val (.int (Int32.ofNat mm)), .val (.int v18), .val (.ref tb), .val (.int got), .val (.long (Int64.ofNat (a1 + a2))), .second, .val (.long (Int64.ofNat (1 + n1))), .second, .val (.long (Int64.ofNat (a1 + 1 + n2))), .second, .val (.int v27), .unset, .unset] [(.int v28)])) t → Steps p.tables e below (T49.setTop (mkF m 267 #[.val (.int y0), .val (.int y1), .val (.int y2), .val (.int y3), .val (.int y4), .val (.int y5), .val (.int (Int32.ofNat f1)), .val (.int (Int32.ofNat s1)), .val (.int (Int32.ofNat f2)), .val (.int (Int32.ofNat s2)), .val (.int (Int32.ofNat n1)), .val (.int (Int32.ofNat n2)), .val (.int (Int32.ofNat n3)), .val (.int (Int32.ofNat a1)), .val (.int (Int32.ofNat a2)), .val (.int (Int32.ofNat q)), .val (.int (Int32.ofNat o)), .val (.int (Int32.ofNat mm)), .val (.int v18), .val (.ref tb), .val (.int got), .val (.long (Int64.ofNat (a1 + a2))), .second, .val (.long (Int64.ofNat (1 + n1))), .second, .val (.long (Int64.ofNat (a1 + 1 + n2))), .second, .val (.int v27), .unset, .unset] [])) t := by
    by_cases hj1 : (Int32.ofNat q) = (Int32.ofNat f2)
    · by_cases hj2 : (Int64.ofNat (a1 + a2)) < (Int64.ofNat (a1 + 1 + n2))
      · refine ⟨(1 : Int32), by rw [if_pos hj1, if_pos hj2], fun t k => ?_⟩
        show Steps p.tables e below (T49.setTop (mkF m 267 #[.val (.int y0), .val (.int y1), .val (.int y2), .val (.int y3), .val (.int y4), .val (.int y5), .val (.int (Int32.ofNat f1)), .val (.int (Int32.ofNat s1)), .val (.int (Int32.ofNat f2)), .val (.int (Int32.ofNat s2)), .val (.int (Int32.ofNat n1)), .val (.int (Int32.ofNat n2)), .val (.int (Int32.ofNat n3)), .val (.int (Int32.ofNat a1)), .val (.int (Int32.ofNat a2)), .val (.int (Int32.ofNat q)), .val (.int (Int32.ofNat o)), .val (.int (Int32.ofNat mm)), .val (.int v18), .val (.ref tb), .val (.int got), .val (.long (Int64.ofNat (a1 + a2))), .second, .val (.long (Int64.ofNat (1 + n1))), .second, .val (.long (Int64.ofNat (a1 + 1 + n2))), .second, .val (.int v27), .unset, .unset] [])) _
        refine XS.iload X.here hx rfl (hb hby at_267) rfl ?_
        show Steps p.tables e below (T49.setTop (mkF m 269 #[.val (.int y0), .val (.int y1), .val (.int y2), .val (.int y3), .val (.int y4), .val (.int y5), .val (.int (Int32.ofNat f1)), .val (.int (Int32.ofNat s1)), .val (.int (Int32.ofNat f2)), .val (.int (Int32.ofNat s2)), .val (.int (Int32.ofNat n1)), .val (.int (Int32.ofNat n2)), .val (.int (Int32.ofNat n3)), .val (.int (Int32.ofNat a1)), .val (.int (Int32.ofNat a2)), .val (.int (Int32.ofNat q)), .val (.int (Int32.ofNat o)), .val (.int (Int32.ofNat mm)), .val (.int v18), .val (.ref tb), .val (.int got), .val (.long (Int64.ofNat (a1 + a2))), .second, .val (.long (Int64.ofNat (1 + n1))), .second, .val (.long (Int64.ofNat (a1 + 1 + n2))), .second, .val (.int v27), .unset, .unset] [(.int (Int32.ofNat q))])) _
        refine XS.iload X.here hx rfl (hb hby at_269) rfl ?_
        show Steps p.tables e below (T49.setTop (mkF m 271 #[.val (.int y0), .val (.int y1), .val (.int y2), .val (.int y3), .val (.int y4), .val (.int y5), .val (.int (Int32.ofNat f1)), .val (.int (Int32.ofNat s1)), .val (.int (Int32.ofNat f2)), .val (.int (Int32.ofNat s2)), .val (.int (Int32.ofNat n1)), .val (.int (Int32.ofNat n2)), .val (.int (Int32.ofNat n3)), .val (.int (Int32.ofNat a1)), .val (.int (Int32.ofNat a2)), .val (.int (Int32.ofNat q)), .val (.int (Int32.ofNat o)), .val (.int (Int32.ofNat mm)), .val (.int v18), .val (.ref tb), .val (.int got), .val (.long (Int64.ofNat (a1 + a2))), .second, .val (.long (Int64.ofNat (1 + n1))), .second, .val (.long (Int64.ofNat (a1 + 1 + n2))), .second, .val (.int v27), .unset, .unset] [(.int (Int32.ofNat f2)), (.int (Int32.ofNat q))])) _
        refine XS.icmpYes X.here hx rfl (pc0 := 271) (pc' := 281) rfl (hb hby at_271) rfl (teq hj1).1 (by decide) (by decide) ?_
        show Steps p.tables e below (T49.setTop (mkF m 281 #[.val (.int y0), .val (.int y1), .val (.int y2), .val (.int y3), .val (.int y4), .val (.int y5), .val (.int (Int32.ofNat f1)), .val (.int (Int32.ofNat s1)), .val (.int (Int32.ofNat f2)), .val (.int (Int32.ofNat s2)), .val (.int (Int32.ofNat n1)), .val (.int (Int32.ofNat n2)), .val (.int (Int32.ofNat n3)), .val (.int (Int32.ofNat a1)), .val (.int (Int32.ofNat a2)), .val (.int (Int32.ofNat q)), .val (.int (Int32.ofNat o)), .val (.int (Int32.ofNat mm)), .val (.int v18), .val (.ref tb), .val (.int got), .val (.long (Int64.ofNat (a1 + a2))), .second, .val (.long (Int64.ofNat (1 + n1))), .second, .val (.long (Int64.ofNat (a1 + 1 + n2))), .second, .val (.int v27), .unset, .unset] [])) _
        refine XS.lload X.here hx rfl (hb hby at_281) rfl ?_
        show Steps p.tables e below (T49.setTop (mkF m 283 #[.val (.int y0), .val (.int y1), .val (.int y2), .val (.int y3), .val (.int y4), .val (.int y5), .val (.int (Int32.ofNat f1)), .val (.int (Int32.ofNat s1)), .val (.int (Int32.ofNat f2)), .val (.int (Int32.ofNat s2)), .val (.int (Int32.ofNat n1)), .val (.int (Int32.ofNat n2)), .val (.int (Int32.ofNat n3)), .val (.int (Int32.ofNat a1)), .val (.int (Int32.ofNat a2)), .val (.int (Int32.ofNat q)), .val (.int (Int32.ofNat o)), .val (.int (Int32.ofNat mm)), .val (.int v18), .val (.ref tb), .val (.int got), .val (.long (Int64.ofNat (a1 + a2))), .second, .val (.long (Int64.ofNat (1 + n1))), .second, .val (.long (Int64.ofNat (a1 + 1 + n2))), .second, .val (.int v27), .unset, .unset] [(.long (Int64.ofNat (a1 + 1 + n2)))])) _
        refine XS.lload X.here hx rfl (hb hby at_283) rfl ?_
        show Steps p.tables e below (T49.setTop (mkF m 285 #[.val (.int y0), .val (.int y1), .val (.int y2), .val (.int y3), .val (.int y4), .val (.int y5), .val (.int (Int32.ofNat f1)), .val (.int (Int32.ofNat s1)), .val (.int (Int32.ofNat f2)), .val (.int (Int32.ofNat s2)), .val (.int (Int32.ofNat n1)), .val (.int (Int32.ofNat n2)), .val (.int (Int32.ofNat n3)), .val (.int (Int32.ofNat a1)), .val (.int (Int32.ofNat a2)), .val (.int (Int32.ofNat q)), .val (.int (Int32.ofNat o)), .val (.int (Int32.ofNat mm)), .val (.int v18), .val (.ref tb), .val (.int got), .val (.long (Int64.ofNat (a1 + a2))), .second, .val (.long (Int64.ofNat (1 + n1))), .second, .val (.long (Int64.ofNat (a1 + 1 + n2))), .second, .val (.int v27), .unset, .unset] [(.long (Int64.ofNat (a1 + a2))), (.long (Int64.ofNat (a1 + 1 + n2)))])) _
        refine XS.lcmp X.here hx rfl (hb hby at_285) rfl ?_
        show Steps p.tables e below (T49.setTop (mkF m 286 #[.val (.int y0), .val (.int y1), .val (.int y2), .val (.int y3), .val (.int y4), .val (.int y5), .val (.int (Int32.ofNat f1)), .val (.int (Int32.ofNat s1)), .val (.int (Int32.ofNat f2)), .val (.int (Int32.ofNat s2)), .val (.int (Int32.ofNat n1)), .val (.int (Int32.ofNat n2)), .val (.int (Int32.ofNat n3)), .val (.int (Int32.ofNat a1)), .val (.int (Int32.ofNat a2)), .val (.int (Int32.ofNat q)), .val (.int (Int32.ofNat o)), .val (.int (Int32.ofNat mm)), .val (.int v18), .val (.ref tb), .val (.int got), .val (.long (Int64.ofNat (a1 + a2))), .second, .val (.long (Int64.ofNat (1 + n1))), .second, .val (.long (Int64.ofNat (a1 + 1 + n2))), .second, .val (.int v27), .unset, .unset] [(.int (lcmpW (Int64.ofNat (a1 + 1 + n2)) (Int64.ofNat (a1 + a2))))])) _
        refine XS.ifNo X.here hx rfl (hb hby at_286) rfl ((if0 _ _).trans (tlt ((lw_gt (Int64.ofNat (a1 + 1 + n2)) (Int64.ofNat (a1 + a2))).mpr hj2)).2.2.2) ?_
        show Steps p.tables e below (T49.setTop (mkF m 289 #[.val (.int y0), .val (.int y1), .val (.int y2), .val (.int y3), .val (.int y4), .val (.int y5), .val (.int (Int32.ofNat f1)), .val (.int (Int32.ofNat s1)), .val (.int (Int32.ofNat f2)), .val (.int (Int32.ofNat s2)), .val (.int (Int32.ofNat n1)), .val (.int (Int32.ofNat n2)), .val (.int (Int32.ofNat n3)), .val (.int (Int32.ofNat a1)), .val (.int (Int32.ofNat a2)), .val (.int (Int32.ofNat q)), .val (.int (Int32.ofNat o)), .val (.int (Int32.ofNat mm)), .val (.int v18), .val (.ref tb), .val (.int got), .val (.long (Int64.ofNat (a1 + a2))), .second, .val (.long (Int64.ofNat (1 + n1))), .second, .val (.long (Int64.ofNat (a1 + 1 + n2))), .second, .val (.int v27), .unset, .unset] [])) _
        refine XS.iconst X.here hx rfl (hb hby at_289) ?_
        show Steps p.tables e below (T49.setTop (mkF m 290 #[.val (.int y0), .val (.int y1), .val (.int y2), .val (.int y3), .val (.int y4), .val (.int y5), .val (.int (Int32.ofNat f1)), .val (.int (Int32.ofNat s1)), .val (.int (Int32.ofNat f2)), .val (.int (Int32.ofNat s2)), .val (.int (Int32.ofNat n1)), .val (.int (Int32.ofNat n2)), .val (.int (Int32.ofNat n3)), .val (.int (Int32.ofNat a1)), .val (.int (Int32.ofNat a2)), .val (.int (Int32.ofNat q)), .val (.int (Int32.ofNat o)), .val (.int (Int32.ofNat mm)), .val (.int v18), .val (.ref tb), .val (.int got), .val (.long (Int64.ofNat (a1 + a2))), .second, .val (.long (Int64.ofNat (1 + n1))), .second, .val (.long (Int64.ofNat (a1 + 1 + n2))), .second, .val (.int v27), .unset, .unset] [(.int (1 : Int32))])) _
        refine XS.goto X.here hx rfl (pc0 := 290) (pc' := 294) rfl (hb hby at_290) (by decide) (by decide) ?_
        exact k
      · refine ⟨(0 : Int32), by rw [if_pos hj1, if_neg hj2], fun t k => ?_⟩
        show Steps p.tables e below (T49.setTop (mkF m 267 #[.val (.int y0), .val (.int y1), .val (.int y2), .val (.int y3), .val (.int y4), .val (.int y5), .val (.int (Int32.ofNat f1)), .val (.int (Int32.ofNat s1)), .val (.int (Int32.ofNat f2)), .val (.int (Int32.ofNat s2)), .val (.int (Int32.ofNat n1)), .val (.int (Int32.ofNat n2)), .val (.int (Int32.ofNat n3)), .val (.int (Int32.ofNat a1)), .val (.int (Int32.ofNat a2)), .val (.int (Int32.ofNat q)), .val (.int (Int32.ofNat o)), .val (.int (Int32.ofNat mm)), .val (.int v18), .val (.ref tb), .val (.int got), .val (.long (Int64.ofNat (a1 + a2))), .second, .val (.long (Int64.ofNat (1 + n1))), .second, .val (.long (Int64.ofNat (a1 + 1 + n2))), .second, .val (.int v27), .unset, .unset] [])) _
        refine XS.iload X.here hx rfl (hb hby at_267) rfl ?_
        show Steps p.tables e below (T49.setTop (mkF m 269 #[.val (.int y0), .val (.int y1), .val (.int y2), .val (.int y3), .val (.int y4), .val (.int y5), .val (.int (Int32.ofNat f1)), .val (.int (Int32.ofNat s1)), .val (.int (Int32.ofNat f2)), .val (.int (Int32.ofNat s2)), .val (.int (Int32.ofNat n1)), .val (.int (Int32.ofNat n2)), .val (.int (Int32.ofNat n3)), .val (.int (Int32.ofNat a1)), .val (.int (Int32.ofNat a2)), .val (.int (Int32.ofNat q)), .val (.int (Int32.ofNat o)), .val (.int (Int32.ofNat mm)), .val (.int v18), .val (.ref tb), .val (.int got), .val (.long (Int64.ofNat (a1 + a2))), .second, .val (.long (Int64.ofNat (1 + n1))), .second, .val (.long (Int64.ofNat (a1 + 1 + n2))), .second, .val (.int v27), .unset, .unset] [(.int (Int32.ofNat q))])) _
        refine XS.iload X.here hx rfl (hb hby at_269) rfl ?_
        show Steps p.tables e below (T49.setTop (mkF m 271 #[.val (.int y0), .val (.int y1), .val (.int y2), .val (.int y3), .val (.int y4), .val (.int y5), .val (.int (Int32.ofNat f1)), .val (.int (Int32.ofNat s1)), .val (.int (Int32.ofNat f2)), .val (.int (Int32.ofNat s2)), .val (.int (Int32.ofNat n1)), .val (.int (Int32.ofNat n2)), .val (.int (Int32.ofNat n3)), .val (.int (Int32.ofNat a1)), .val (.int (Int32.ofNat a2)), .val (.int (Int32.ofNat q)), .val (.int (Int32.ofNat o)), .val (.int (Int32.ofNat mm)), .val (.int v18), .val (.ref tb), .val (.int got), .val (.long (Int64.ofNat (a1 + a2))), .second, .val (.long (Int64.ofNat (1 + n1))), .second, .val (.long (Int64.ofNat (a1 + 1 + n2))), .second, .val (.int v27), .unset, .unset] [(.int (Int32.ofNat f2)), (.int (Int32.ofNat q))])) _
        refine XS.icmpYes X.here hx rfl (pc0 := 271) (pc' := 281) rfl (hb hby at_271) rfl (teq hj1).1 (by decide) (by decide) ?_
        show Steps p.tables e below (T49.setTop (mkF m 281 #[.val (.int y0), .val (.int y1), .val (.int y2), .val (.int y3), .val (.int y4), .val (.int y5), .val (.int (Int32.ofNat f1)), .val (.int (Int32.ofNat s1)), .val (.int (Int32.ofNat f2)), .val (.int (Int32.ofNat s2)), .val (.int (Int32.ofNat n1)), .val (.int (Int32.ofNat n2)), .val (.int (Int32.ofNat n3)), .val (.int (Int32.ofNat a1)), .val (.int (Int32.ofNat a2)), .val (.int (Int32.ofNat q)), .val (.int (Int32.ofNat o)), .val (.int (Int32.ofNat mm)), .val (.int v18), .val (.ref tb), .val (.int got), .val (.long (Int64.ofNat (a1 + a2))), .second, .val (.long (Int64.ofNat (1 + n1))), .second, .val (.long (Int64.ofNat (a1 + 1 + n2))), .second, .val (.int v27), .unset, .unset] [])) _
        refine XS.lload X.here hx rfl (hb hby at_281) rfl ?_
        show Steps p.tables e below (T49.setTop (mkF m 283 #[.val (.int y0), .val (.int y1), .val (.int y2), .val (.int y3), .val (.int y4), .val (.int y5), .val (.int (Int32.ofNat f1)), .val (.int (Int32.ofNat s1)), .val (.int (Int32.ofNat f2)), .val (.int (Int32.ofNat s2)), .val (.int (Int32.ofNat n1)), .val (.int (Int32.ofNat n2)), .val (.int (Int32.ofNat n3)), .val (.int (Int32.ofNat a1)), .val (.int (Int32.ofNat a2)), .val (.int (Int32.ofNat q)), .val (.int (Int32.ofNat o)), .val (.int (Int32.ofNat mm)), .val (.int v18), .val (.ref tb), .val (.int got), .val (.long (Int64.ofNat (a1 + a2))), .second, .val (.long (Int64.ofNat (1 + n1))), .second, .val (.long (Int64.ofNat (a1 + 1 + n2))), .second, .val (.int v27), .unset, .unset] [(.long (Int64.ofNat (a1 + 1 + n2)))])) _
        refine XS.lload X.here hx rfl (hb hby at_283) rfl ?_
        show Steps p.tables e below (T49.setTop (mkF m 285 #[.val (.int y0), .val (.int y1), .val (.int y2), .val (.int y3), .val (.int y4), .val (.int y5), .val (.int (Int32.ofNat f1)), .val (.int (Int32.ofNat s1)), .val (.int (Int32.ofNat f2)), .val (.int (Int32.ofNat s2)), .val (.int (Int32.ofNat n1)), .val (.int (Int32.ofNat n2)), .val (.int (Int32.ofNat n3)), .val (.int (Int32.ofNat a1)), .val (.int (Int32.ofNat a2)), .val (.int (Int32.ofNat q)), .val (.int (Int32.ofNat o)), .val (.int (Int32.ofNat mm)), .val (.int v18), .val (.ref tb), .val (.int got), .val (.long (Int64.ofNat (a1 + a2))), .second, .val (.long (Int64.ofNat (1 + n1))), .second, .val (.long (Int64.ofNat (a1 + 1 + n2))), .second, .val (.int v27), .unset, .unset] [(.long (Int64.ofNat (a1 + a2))), (.long (Int64.ofNat (a1 + 1 + n2)))])) _
        refine XS.lcmp X.here hx rfl (hb hby at_285) rfl ?_
        show Steps p.tables e below (T49.setTop (mkF m 286 #[.val (.int y0), .val (.int y1), .val (.int y2), .val (.int y3), .val (.int y4), .val (.int y5), .val (.int (Int32.ofNat f1)), .val (.int (Int32.ofNat s1)), .val (.int (Int32.ofNat f2)), .val (.int (Int32.ofNat s2)), .val (.int (Int32.ofNat n1)), .val (.int (Int32.ofNat n2)), .val (.int (Int32.ofNat n3)), .val (.int (Int32.ofNat a1)), .val (.int (Int32.ofNat a2)), .val (.int (Int32.ofNat q)), .val (.int (Int32.ofNat o)), .val (.int (Int32.ofNat mm)), .val (.int v18), .val (.ref tb), .val (.int got), .val (.long (Int64.ofNat (a1 + a2))), .second, .val (.long (Int64.ofNat (1 + n1))), .second, .val (.long (Int64.ofNat (a1 + 1 + n2))), .second, .val (.int v27), .unset, .unset] [(.int (lcmpW (Int64.ofNat (a1 + 1 + n2)) (Int64.ofNat (a1 + a2))))])) _
        refine XS.ifYes X.here hx rfl (pc0 := 286) (pc' := 293) rfl (hb hby at_286) rfl ((if0 _ _).trans (flt (fun q => hj2 ((lw_gt (Int64.ofNat (a1 + 1 + n2)) (Int64.ofNat (a1 + a2))).mp q))).2.2.2) (by decide) (by decide) ?_
        show Steps p.tables e below (T49.setTop (mkF m 293 #[.val (.int y0), .val (.int y1), .val (.int y2), .val (.int y3), .val (.int y4), .val (.int y5), .val (.int (Int32.ofNat f1)), .val (.int (Int32.ofNat s1)), .val (.int (Int32.ofNat f2)), .val (.int (Int32.ofNat s2)), .val (.int (Int32.ofNat n1)), .val (.int (Int32.ofNat n2)), .val (.int (Int32.ofNat n3)), .val (.int (Int32.ofNat a1)), .val (.int (Int32.ofNat a2)), .val (.int (Int32.ofNat q)), .val (.int (Int32.ofNat o)), .val (.int (Int32.ofNat mm)), .val (.int v18), .val (.ref tb), .val (.int got), .val (.long (Int64.ofNat (a1 + a2))), .second, .val (.long (Int64.ofNat (1 + n1))), .second, .val (.long (Int64.ofNat (a1 + 1 + n2))), .second, .val (.int v27), .unset, .unset] [])) _
        refine XS.iconst X.here hx rfl (hb hby at_293) ?_
        exact k
    · by_cases hj3 : (Int32.ofNat q) = (Int32.ofNat s2)
      · by_cases hj4 : (Int64.ofNat (a1 + a2)) < (Int64.ofNat (a1 + 1 + n2))
        · refine ⟨(1 : Int32), by rw [if_neg hj1, if_pos hj3, if_pos hj4], fun t k => ?_⟩
          show Steps p.tables e below (T49.setTop (mkF m 267 #[.val (.int y0), .val (.int y1), .val (.int y2), .val (.int y3), .val (.int y4), .val (.int y5), .val (.int (Int32.ofNat f1)), .val (.int (Int32.ofNat s1)), .val (.int (Int32.ofNat f2)), .val (.int (Int32.ofNat s2)), .val (.int (Int32.ofNat n1)), .val (.int (Int32.ofNat n2)), .val (.int (Int32.ofNat n3)), .val (.int (Int32.ofNat a1)), .val (.int (Int32.ofNat a2)), .val (.int (Int32.ofNat q)), .val (.int (Int32.ofNat o)), .val (.int (Int32.ofNat mm)), .val (.int v18), .val (.ref tb), .val (.int got), .val (.long (Int64.ofNat (a1 + a2))), .second, .val (.long (Int64.ofNat (1 + n1))), .second, .val (.long (Int64.ofNat (a1 + 1 + n2))), .second, .val (.int v27), .unset, .unset] [])) _
          refine XS.iload X.here hx rfl (hb hby at_267) rfl ?_
          show Steps p.tables e below (T49.setTop (mkF m 269 #[.val (.int y0), .val (.int y1), .val (.int y2), .val (.int y3), .val (.int y4), .val (.int y5), .val (.int (Int32.ofNat f1)), .val (.int (Int32.ofNat s1)), .val (.int (Int32.ofNat f2)), .val (.int (Int32.ofNat s2)), .val (.int (Int32.ofNat n1)), .val (.int (Int32.ofNat n2)), .val (.int (Int32.ofNat n3)), .val (.int (Int32.ofNat a1)), .val (.int (Int32.ofNat a2)), .val (.int (Int32.ofNat q)), .val (.int (Int32.ofNat o)), .val (.int (Int32.ofNat mm)), .val (.int v18), .val (.ref tb), .val (.int got), .val (.long (Int64.ofNat (a1 + a2))), .second, .val (.long (Int64.ofNat (1 + n1))), .second, .val (.long (Int64.ofNat (a1 + 1 + n2))), .second, .val (.int v27), .unset, .unset] [(.int (Int32.ofNat q))])) _
          refine XS.iload X.here hx rfl (hb hby at_269) rfl ?_
          show Steps p.tables e below (T49.setTop (mkF m 271 #[.val (.int y0), .val (.int y1), .val (.int y2), .val (.int y3), .val (.int y4), .val (.int y5), .val (.int (Int32.ofNat f1)), .val (.int (Int32.ofNat s1)), .val (.int (Int32.ofNat f2)), .val (.int (Int32.ofNat s2)), .val (.int (Int32.ofNat n1)), .val (.int (Int32.ofNat n2)), .val (.int (Int32.ofNat n3)), .val (.int (Int32.ofNat a1)), .val (.int (Int32.ofNat a2)), .val (.int (Int32.ofNat q)), .val (.int (Int32.ofNat o)), .val (.int (Int32.ofNat mm)), .val (.int v18), .val (.ref tb), .val (.int got), .val (.long (Int64.ofNat (a1 + a2))), .second, .val (.long (Int64.ofNat (1 + n1))), .second, .val (.long (Int64.ofNat (a1 + 1 + n2))), .second, .val (.int v27), .unset, .unset] [(.int (Int32.ofNat f2)), (.int (Int32.ofNat q))])) _
          refine XS.icmpNo X.here hx rfl (hb hby at_271) rfl (feq hj1).1 ?_
          show Steps p.tables e below (T49.setTop (mkF m 274 #[.val (.int y0), .val (.int y1), .val (.int y2), .val (.int y3), .val (.int y4), .val (.int y5), .val (.int (Int32.ofNat f1)), .val (.int (Int32.ofNat s1)), .val (.int (Int32.ofNat f2)), .val (.int (Int32.ofNat s2)), .val (.int (Int32.ofNat n1)), .val (.int (Int32.ofNat n2)), .val (.int (Int32.ofNat n3)), .val (.int (Int32.ofNat a1)), .val (.int (Int32.ofNat a2)), .val (.int (Int32.ofNat q)), .val (.int (Int32.ofNat o)), .val (.int (Int32.ofNat mm)), .val (.int v18), .val (.ref tb), .val (.int got), .val (.long (Int64.ofNat (a1 + a2))), .second, .val (.long (Int64.ofNat (1 + n1))), .second, .val (.long (Int64.ofNat (a1 + 1 + n2))), .second, .val (.int v27), .unset, .unset] [])) _
          refine XS.iload X.here hx rfl (hb hby at_274) rfl ?_
          show Steps p.tables e below (T49.setTop (mkF m 276 #[.val (.int y0), .val (.int y1), .val (.int y2), .val (.int y3), .val (.int y4), .val (.int y5), .val (.int (Int32.ofNat f1)), .val (.int (Int32.ofNat s1)), .val (.int (Int32.ofNat f2)), .val (.int (Int32.ofNat s2)), .val (.int (Int32.ofNat n1)), .val (.int (Int32.ofNat n2)), .val (.int (Int32.ofNat n3)), .val (.int (Int32.ofNat a1)), .val (.int (Int32.ofNat a2)), .val (.int (Int32.ofNat q)), .val (.int (Int32.ofNat o)), .val (.int (Int32.ofNat mm)), .val (.int v18), .val (.ref tb), .val (.int got), .val (.long (Int64.ofNat (a1 + a2))), .second, .val (.long (Int64.ofNat (1 + n1))), .second, .val (.long (Int64.ofNat (a1 + 1 + n2))), .second, .val (.int v27), .unset, .unset] [(.int (Int32.ofNat q))])) _
          refine XS.iload X.here hx rfl (hb hby at_276) rfl ?_
          show Steps p.tables e below (T49.setTop (mkF m 278 #[.val (.int y0), .val (.int y1), .val (.int y2), .val (.int y3), .val (.int y4), .val (.int y5), .val (.int (Int32.ofNat f1)), .val (.int (Int32.ofNat s1)), .val (.int (Int32.ofNat f2)), .val (.int (Int32.ofNat s2)), .val (.int (Int32.ofNat n1)), .val (.int (Int32.ofNat n2)), .val (.int (Int32.ofNat n3)), .val (.int (Int32.ofNat a1)), .val (.int (Int32.ofNat a2)), .val (.int (Int32.ofNat q)), .val (.int (Int32.ofNat o)), .val (.int (Int32.ofNat mm)), .val (.int v18), .val (.ref tb), .val (.int got), .val (.long (Int64.ofNat (a1 + a2))), .second, .val (.long (Int64.ofNat (1 + n1))), .second, .val (.long (Int64.ofNat (a1 + 1 + n2))), .second, .val (.int v27), .unset, .unset] [(.int (Int32.ofNat s2)), (.int (Int32.ofNat q))])) _
          refine XS.icmpNo X.here hx rfl (hb hby at_278) rfl (teq hj3).2 ?_
          show Steps p.tables e below (T49.setTop (mkF m 281 #[.val (.int y0), .val (.int y1), .val (.int y2), .val (.int y3), .val (.int y4), .val (.int y5), .val (.int (Int32.ofNat f1)), .val (.int (Int32.ofNat s1)), .val (.int (Int32.ofNat f2)), .val (.int (Int32.ofNat s2)), .val (.int (Int32.ofNat n1)), .val (.int (Int32.ofNat n2)), .val (.int (Int32.ofNat n3)), .val (.int (Int32.ofNat a1)), .val (.int (Int32.ofNat a2)), .val (.int (Int32.ofNat q)), .val (.int (Int32.ofNat o)), .val (.int (Int32.ofNat mm)), .val (.int v18), .val (.ref tb), .val (.int got), .val (.long (Int64.ofNat (a1 + a2))), .second, .val (.long (Int64.ofNat (1 + n1))), .second, .val (.long (Int64.ofNat (a1 + 1 + n2))), .second, .val (.int v27), .unset, .unset] [])) _
          refine XS.lload X.here hx rfl (hb hby at_281) rfl ?_
          show Steps p.tables e below (T49.setTop (mkF m 283 #[.val (.int y0), .val (.int y1), .val (.int y2), .val (.int y3), .val (.int y4), .val (.int y5), .val (.int (Int32.ofNat f1)), .val (.int (Int32.ofNat s1)), .val (.int (Int32.ofNat f2)), .val (.int (Int32.ofNat s2)), .val (.int (Int32.ofNat n1)), .val (.int (Int32.ofNat n2)), .val (.int (Int32.ofNat n3)), .val (.int (Int32.ofNat a1)), .val (.int (Int32.ofNat a2)), .val (.int (Int32.ofNat q)), .val (.int (Int32.ofNat o)), .val (.int (Int32.ofNat mm)), .val (.int v18), .val (.ref tb), .val (.int got), .val (.long (Int64.ofNat (a1 + a2))), .second, .val (.long (Int64.ofNat (1 + n1))), .second, .val (.long (Int64.ofNat (a1 + 1 + n2))), .second, .val (.int v27), .unset, .unset] [(.long (Int64.ofNat (a1 + 1 + n2)))])) _
          refine XS.lload X.here hx rfl (hb hby at_283) rfl ?_
          show Steps p.tables e below (T49.setTop (mkF m 285 #[.val (.int y0), .val (.int y1), .val (.int y2), .val (.int y3), .val (.int y4), .val (.int y5), .val (.int (Int32.ofNat f1)), .val (.int (Int32.ofNat s1)), .val (.int (Int32.ofNat f2)), .val (.int (Int32.ofNat s2)), .val (.int (Int32.ofNat n1)), .val (.int (Int32.ofNat n2)), .val (.int (Int32.ofNat n3)), .val (.int (Int32.ofNat a1)), .val (.int (Int32.ofNat a2)), .val (.int (Int32.ofNat q)), .val (.int (Int32.ofNat o)), .val (.int (Int32.ofNat mm)), .val (.int v18), .val (.ref tb), .val (.int got), .val (.long (Int64.ofNat (a1 + a2))), .second, .val (.long (Int64.ofNat (1 + n1))), .second, .val (.long (Int64.ofNat (a1 + 1 + n2))), .second, .val (.int v27), .unset, .unset] [(.long (Int64.ofNat (a1 + a2))), (.long (Int64.ofNat (a1 + 1 + n2)))])) _
          refine XS.lcmp X.here hx rfl (hb hby at_285) rfl ?_
          show Steps p.tables e below (T49.setTop (mkF m 286 #[.val (.int y0), .val (.int y1), .val (.int y2), .val (.int y3), .val (.int y4), .val (.int y5), .val (.int (Int32.ofNat f1)), .val (.int (Int32.ofNat s1)), .val (.int (Int32.ofNat f2)), .val (.int (Int32.ofNat s2)), .val (.int (Int32.ofNat n1)), .val (.int (Int32.ofNat n2)), .val (.int (Int32.ofNat n3)), .val (.int (Int32.ofNat a1)), .val (.int (Int32.ofNat a2)), .val (.int (Int32.ofNat q)), .val (.int (Int32.ofNat o)), .val (.int (Int32.ofNat mm)), .val (.int v18), .val (.ref tb), .val (.int got), .val (.long (Int64.ofNat (a1 + a2))), .second, .val (.long (Int64.ofNat (1 + n1))), .second, .val (.long (Int64.ofNat (a1 + 1 + n2))), .second, .val (.int v27), .unset, .unset] [(.int (lcmpW (Int64.ofNat (a1 + 1 + n2)) (Int64.ofNat (a1 + a2))))])) _
          refine XS.ifNo X.here hx rfl (hb hby at_286) rfl ((if0 _ _).trans (tlt ((lw_gt (Int64.ofNat (a1 + 1 + n2)) (Int64.ofNat (a1 + a2))).mpr hj4)).2.2.2) ?_
          show Steps p.tables e below (T49.setTop (mkF m 289 #[.val (.int y0), .val (.int y1), .val (.int y2), .val (.int y3), .val (.int y4), .val (.int y5), .val (.int (Int32.ofNat f1)), .val (.int (Int32.ofNat s1)), .val (.int (Int32.ofNat f2)), .val (.int (Int32.ofNat s2)), .val (.int (Int32.ofNat n1)), .val (.int (Int32.ofNat n2)), .val (.int (Int32.ofNat n3)), .val (.int (Int32.ofNat a1)), .val (.int (Int32.ofNat a2)), .val (.int (Int32.ofNat q)), .val (.int (Int32.ofNat o)), .val (.int (Int32.ofNat mm)), .val (.int v18), .val (.ref tb), .val (.int got), .val (.long (Int64.ofNat (a1 + a2))), .second, .val (.long (Int64.ofNat (1 + n1))), .second, .val (.long (Int64.ofNat (a1 + 1 + n2))), .second, .val (.int v27), .unset, .unset] [])) _
          refine XS.iconst X.here hx rfl (hb hby at_289) ?_
          show Steps p.tables e below (T49.setTop (mkF m 290 #[.val (.int y0), .val (.int y1), .val (.int y2), .val (.int y3), .val (.int y4), .val (.int y5), .val (.int (Int32.ofNat f1)), .val (.int (Int32.ofNat s1)), .val (.int (Int32.ofNat f2)), .val (.int (Int32.ofNat s2)), .val (.int (Int32.ofNat n1)), .val (.int (Int32.ofNat n2)), .val (.int (Int32.ofNat n3)), .val (.int (Int32.ofNat a1)), .val (.int (Int32.ofNat a2)), .val (.int (Int32.ofNat q)), .val (.int (Int32.ofNat o)), .val (.int (Int32.ofNat mm)), .val (.int v18), .val (.ref tb), .val (.int got), .val (.long (Int64.ofNat (a1 + a2))), .second, .val (.long (Int64.ofNat (1 + n1))), .second, .val (.long (Int64.ofNat (a1 + 1 + n2))), .second, .val (.int v27), .unset, .unset] [(.int (1 : Int32))])) _
          refine XS.goto X.here hx rfl (pc0 := 290) (pc' := 294) rfl (hb hby at_290) (by decide) (by decide) ?_
          exact k
        · refine ⟨(0 : Int32), by rw [if_neg hj1, if_pos hj3, if_neg hj4], fun t k => ?_⟩
          show Steps p.tables e below (T49.setTop (mkF m 267 #[.val (.int y0), .val (.int y1), .val (.int y2), .val (.int y3), .val (.int y4), .val (.int y5), .val (.int (Int32.ofNat f1)), .val (.int (Int32.ofNat s1)), .val (.int (Int32.ofNat f2)), .val (.int (Int32.ofNat s2)), .val (.int (Int32.ofNat n1)), .val (.int (Int32.ofNat n2)), .val (.int (Int32.ofNat n3)), .val (.int (Int32.ofNat a1)), .val (.int (Int32.ofNat a2)), .val (.int (Int32.ofNat q)), .val (.int (Int32.ofNat o)), .val (.int (Int32.ofNat mm)), .val (.int v18), .val (.ref tb), .val (.int got), .val (.long (Int64.ofNat (a1 + a2))), .second, .val (.long (Int64.ofNat (1 + n1))), .second, .val (.long (Int64.ofNat (a1 + 1 + n2))), .second, .val (.int v27), .unset, .unset] [])) _
          refine XS.iload X.here hx rfl (hb hby at_267) rfl ?_
          show Steps p.tables e below (T49.setTop (mkF m 269 #[.val (.int y0), .val (.int y1), .val (.int y2), .val (.int y3), .val (.int y4), .val (.int y5), .val (.int (Int32.ofNat f1)), .val (.int (Int32.ofNat s1)), .val (.int (Int32.ofNat f2)), .val (.int (Int32.ofNat s2)), .val (.int (Int32.ofNat n1)), .val (.int (Int32.ofNat n2)), .val (.int (Int32.ofNat n3)), .val (.int (Int32.ofNat a1)), .val (.int (Int32.ofNat a2)), .val (.int (Int32.ofNat q)), .val (.int (Int32.ofNat o)), .val (.int (Int32.ofNat mm)), .val (.int v18), .val (.ref tb), .val (.int got), .val (.long (Int64.ofNat (a1 + a2))), .second, .val (.long (Int64.ofNat (1 + n1))), .second, .val (.long (Int64.ofNat (a1 + 1 + n2))), .second, .val (.int v27), .unset, .unset] [(.int (Int32.ofNat q))])) _
          refine XS.iload X.here hx rfl (hb hby at_269) rfl ?_
          show Steps p.tables e below (T49.setTop (mkF m 271 #[.val (.int y0), .val (.int y1), .val (.int y2), .val (.int y3), .val (.int y4), .val (.int y5), .val (.int (Int32.ofNat f1)), .val (.int (Int32.ofNat s1)), .val (.int (Int32.ofNat f2)), .val (.int (Int32.ofNat s2)), .val (.int (Int32.ofNat n1)), .val (.int (Int32.ofNat n2)), .val (.int (Int32.ofNat n3)), .val (.int (Int32.ofNat a1)), .val (.int (Int32.ofNat a2)), .val (.int (Int32.ofNat q)), .val (.int (Int32.ofNat o)), .val (.int (Int32.ofNat mm)), .val (.int v18), .val (.ref tb), .val (.int got), .val (.long (Int64.ofNat (a1 + a2))), .second, .val (.long (Int64.ofNat (1 + n1))), .second, .val (.long (Int64.ofNat (a1 + 1 + n2))), .second, .val (.int v27), .unset, .unset] [(.int (Int32.ofNat f2)), (.int (Int32.ofNat q))])) _
          refine XS.icmpNo X.here hx rfl (hb hby at_271) rfl (feq hj1).1 ?_
          show Steps p.tables e below (T49.setTop (mkF m 274 #[.val (.int y0), .val (.int y1), .val (.int y2), .val (.int y3), .val (.int y4), .val (.int y5), .val (.int (Int32.ofNat f1)), .val (.int (Int32.ofNat s1)), .val (.int (Int32.ofNat f2)), .val (.int (Int32.ofNat s2)), .val (.int (Int32.ofNat n1)), .val (.int (Int32.ofNat n2)), .val (.int (Int32.ofNat n3)), .val (.int (Int32.ofNat a1)), .val (.int (Int32.ofNat a2)), .val (.int (Int32.ofNat q)), .val (.int (Int32.ofNat o)), .val (.int (Int32.ofNat mm)), .val (.int v18), .val (.ref tb), .val (.int got), .val (.long (Int64.ofNat (a1 + a2))), .second, .val (.long (Int64.ofNat (1 + n1))), .second, .val (.long (Int64.ofNat (a1 + 1 + n2))), .second, .val (.int v27), .unset, .unset] [])) _
          refine XS.iload X.here hx rfl (hb hby at_274) rfl ?_
          show Steps p.tables e below (T49.setTop (mkF m 276 #[.val (.int y0), .val (.int y1), .val (.int y2), .val (.int y3), .val (.int y4), .val (.int y5), .val (.int (Int32.ofNat f1)), .val (.int (Int32.ofNat s1)), .val (.int (Int32.ofNat f2)), .val (.int (Int32.ofNat s2)), .val (.int (Int32.ofNat n1)), .val (.int (Int32.ofNat n2)), .val (.int (Int32.ofNat n3)), .val (.int (Int32.ofNat a1)), .val (.int (Int32.ofNat a2)), .val (.int (Int32.ofNat q)), .val (.int (Int32.ofNat o)), .val (.int (Int32.ofNat mm)), .val (.int v18), .val (.ref tb), .val (.int got), .val (.long (Int64.ofNat (a1 + a2))), .second, .val (.long (Int64.ofNat (1 + n1))), .second, .val (.long (Int64.ofNat (a1 + 1 + n2))), .second, .val (.int v27), .unset, .unset] [(.int (Int32.ofNat q))])) _
          refine XS.iload X.here hx rfl (hb hby at_276) rfl ?_
          show Steps p.tables e below (T49.setTop (mkF m 278 #[.val (.int y0), .val (.int y1), .val (.int y2), .val (.int y3), .val (.int y4), .val (.int y5), .val (.int (Int32.ofNat f1)), .val (.int (Int32.ofNat s1)), .val (.int (Int32.ofNat f2)), .val (.int (Int32.ofNat s2)), .val (.int (Int32.ofNat n1)), .val (.int (Int32.ofNat n2)), .val (.int (Int32.ofNat n3)), .val (.int (Int32.ofNat a1)), .val (.int (Int32.ofNat a2)), .val (.int (Int32.ofNat q)), .val (.int (Int32.ofNat o)), .val (.int (Int32.ofNat mm)), .val (.int v18), .val (.ref tb), .val (.int got), .val (.long (Int64.ofNat (a1 + a2))), .second, .val (.long (Int64.ofNat (1 + n1))), .second, .val (.long (Int64.ofNat (a1 + 1 + n2))), .second, .val (.int v27), .unset, .unset] [(.int (Int32.ofNat s2)), (.int (Int32.ofNat q))])) _
          refine XS.icmpNo X.here hx rfl (hb hby at_278) rfl (teq hj3).2 ?_
          show Steps p.tables e below (T49.setTop (mkF m 281 #[.val (.int y0), .val (.int y1), .val (.int y2), .val (.int y3), .val (.int y4), .val (.int y5), .val (.int (Int32.ofNat f1)), .val (.int (Int32.ofNat s1)), .val (.int (Int32.ofNat f2)), .val (.int (Int32.ofNat s2)), .val (.int (Int32.ofNat n1)), .val (.int (Int32.ofNat n2)), .val (.int (Int32.ofNat n3)), .val (.int (Int32.ofNat a1)), .val (.int (Int32.ofNat a2)), .val (.int (Int32.ofNat q)), .val (.int (Int32.ofNat o)), .val (.int (Int32.ofNat mm)), .val (.int v18), .val (.ref tb), .val (.int got), .val (.long (Int64.ofNat (a1 + a2))), .second, .val (.long (Int64.ofNat (1 + n1))), .second, .val (.long (Int64.ofNat (a1 + 1 + n2))), .second, .val (.int v27), .unset, .unset] [])) _
          refine XS.lload X.here hx rfl (hb hby at_281) rfl ?_
          show Steps p.tables e below (T49.setTop (mkF m 283 #[.val (.int y0), .val (.int y1), .val (.int y2), .val (.int y3), .val (.int y4), .val (.int y5), .val (.int (Int32.ofNat f1)), .val (.int (Int32.ofNat s1)), .val (.int (Int32.ofNat f2)), .val (.int (Int32.ofNat s2)), .val (.int (Int32.ofNat n1)), .val (.int (Int32.ofNat n2)), .val (.int (Int32.ofNat n3)), .val (.int (Int32.ofNat a1)), .val (.int (Int32.ofNat a2)), .val (.int (Int32.ofNat q)), .val (.int (Int32.ofNat o)), .val (.int (Int32.ofNat mm)), .val (.int v18), .val (.ref tb), .val (.int got), .val (.long (Int64.ofNat (a1 + a2))), .second, .val (.long (Int64.ofNat (1 + n1))), .second, .val (.long (Int64.ofNat (a1 + 1 + n2))), .second, .val (.int v27), .unset, .unset] [(.long (Int64.ofNat (a1 + 1 + n2)))])) _
          refine XS.lload X.here hx rfl (hb hby at_283) rfl ?_
          show Steps p.tables e below (T49.setTop (mkF m 285 #[.val (.int y0), .val (.int y1), .val (.int y2), .val (.int y3), .val (.int y4), .val (.int y5), .val (.int (Int32.ofNat f1)), .val (.int (Int32.ofNat s1)), .val (.int (Int32.ofNat f2)), .val (.int (Int32.ofNat s2)), .val (.int (Int32.ofNat n1)), .val (.int (Int32.ofNat n2)), .val (.int (Int32.ofNat n3)), .val (.int (Int32.ofNat a1)), .val (.int (Int32.ofNat a2)), .val (.int (Int32.ofNat q)), .val (.int (Int32.ofNat o)), .val (.int (Int32.ofNat mm)), .val (.int v18), .val (.ref tb), .val (.int got), .val (.long (Int64.ofNat (a1 + a2))), .second, .val (.long (Int64.ofNat (1 + n1))), .second, .val (.long (Int64.ofNat (a1 + 1 + n2))), .second, .val (.int v27), .unset, .unset] [(.long (Int64.ofNat (a1 + a2))), (.long (Int64.ofNat (a1 + 1 + n2)))])) _
          refine XS.lcmp X.here hx rfl (hb hby at_285) rfl ?_
          show Steps p.tables e below (T49.setTop (mkF m 286 #[.val (.int y0), .val (.int y1), .val (.int y2), .val (.int y3), .val (.int y4), .val (.int y5), .val (.int (Int32.ofNat f1)), .val (.int (Int32.ofNat s1)), .val (.int (Int32.ofNat f2)), .val (.int (Int32.ofNat s2)), .val (.int (Int32.ofNat n1)), .val (.int (Int32.ofNat n2)), .val (.int (Int32.ofNat n3)), .val (.int (Int32.ofNat a1)), .val (.int (Int32.ofNat a2)), .val (.int (Int32.ofNat q)), .val (.int (Int32.ofNat o)), .val (.int (Int32.ofNat mm)), .val (.int v18), .val (.ref tb), .val (.int got), .val (.long (Int64.ofNat (a1 + a2))), .second, .val (.long (Int64.ofNat (1 + n1))), .second, .val (.long (Int64.ofNat (a1 + 1 + n2))), .second, .val (.int v27), .unset, .unset] [(.int (lcmpW (Int64.ofNat (a1 + 1 + n2)) (Int64.ofNat (a1 + a2))))])) _
          refine XS.ifYes X.here hx rfl (pc0 := 286) (pc' := 293) rfl (hb hby at_286) rfl ((if0 _ _).trans (flt (fun q => hj4 ((lw_gt (Int64.ofNat (a1 + 1 + n2)) (Int64.ofNat (a1 + a2))).mp q))).2.2.2) (by decide) (by decide) ?_
          show Steps p.tables e below (T49.setTop (mkF m 293 #[.val (.int y0), .val (.int y1), .val (.int y2), .val (.int y3), .val (.int y4), .val (.int y5), .val (.int (Int32.ofNat f1)), .val (.int (Int32.ofNat s1)), .val (.int (Int32.ofNat f2)), .val (.int (Int32.ofNat s2)), .val (.int (Int32.ofNat n1)), .val (.int (Int32.ofNat n2)), .val (.int (Int32.ofNat n3)), .val (.int (Int32.ofNat a1)), .val (.int (Int32.ofNat a2)), .val (.int (Int32.ofNat q)), .val (.int (Int32.ofNat o)), .val (.int (Int32.ofNat mm)), .val (.int v18), .val (.ref tb), .val (.int got), .val (.long (Int64.ofNat (a1 + a2))), .second, .val (.long (Int64.ofNat (1 + n1))), .second, .val (.long (Int64.ofNat (a1 + 1 + n2))), .second, .val (.int v27), .unset, .unset] [])) _
          refine XS.iconst X.here hx rfl (hb hby at_293) ?_
          exact k
      · refine ⟨(0 : Int32), by rw [if_neg hj1, if_neg hj3], fun t k => ?_⟩
        show Steps p.tables e below (T49.setTop (mkF m 267 #[.val (.int y0), .val (.int y1), .val (.int y2), .val (.int y3), .val (.int y4), .val (.int y5), .val (.int (Int32.ofNat f1)), .val (.int (Int32.ofNat s1)), .val (.int (Int32.ofNat f2)), .val (.int (Int32.ofNat s2)), .val (.int (Int32.ofNat n1)), .val (.int (Int32.ofNat n2)), .val (.int (Int32.ofNat n3)), .val (.int (Int32.ofNat a1)), .val (.int (Int32.ofNat a2)), .val (.int (Int32.ofNat q)), .val (.int (Int32.ofNat o)), .val (.int (Int32.ofNat mm)), .val (.int v18), .val (.ref tb), .val (.int got), .val (.long (Int64.ofNat (a1 + a2))), .second, .val (.long (Int64.ofNat (1 + n1))), .second, .val (.long (Int64.ofNat (a1 + 1 + n2))), .second, .val (.int v27), .unset, .unset] [])) _
        refine XS.iload X.here hx rfl (hb hby at_267) rfl ?_
        show Steps p.tables e below (T49.setTop (mkF m 269 #[.val (.int y0), .val (.int y1), .val (.int y2), .val (.int y3), .val (.int y4), .val (.int y5), .val (.int (Int32.ofNat f1)), .val (.int (Int32.ofNat s1)), .val (.int (Int32.ofNat f2)), .val (.int (Int32.ofNat s2)), .val (.int (Int32.ofNat n1)), .val (.int (Int32.ofNat n2)), .val (.int (Int32.ofNat n3)), .val (.int (Int32.ofNat a1)), .val (.int (Int32.ofNat a2)), .val (.int (Int32.ofNat q)), .val (.int (Int32.ofNat o)), .val (.int (Int32.ofNat mm)), .val (.int v18), .val (.ref tb), .val (.int got), .val (.long (Int64.ofNat (a1 + a2))), .second, .val (.long (Int64.ofNat (1 + n1))), .second, .val (.long (Int64.ofNat (a1 + 1 + n2))), .second, .val (.int v27), .unset, .unset] [(.int (Int32.ofNat q))])) _
        refine XS.iload X.here hx rfl (hb hby at_269) rfl ?_
        show Steps p.tables e below (T49.setTop (mkF m 271 #[.val (.int y0), .val (.int y1), .val (.int y2), .val (.int y3), .val (.int y4), .val (.int y5), .val (.int (Int32.ofNat f1)), .val (.int (Int32.ofNat s1)), .val (.int (Int32.ofNat f2)), .val (.int (Int32.ofNat s2)), .val (.int (Int32.ofNat n1)), .val (.int (Int32.ofNat n2)), .val (.int (Int32.ofNat n3)), .val (.int (Int32.ofNat a1)), .val (.int (Int32.ofNat a2)), .val (.int (Int32.ofNat q)), .val (.int (Int32.ofNat o)), .val (.int (Int32.ofNat mm)), .val (.int v18), .val (.ref tb), .val (.int got), .val (.long (Int64.ofNat (a1 + a2))), .second, .val (.long (Int64.ofNat (1 + n1))), .second, .val (.long (Int64.ofNat (a1 + 1 + n2))), .second, .val (.int v27), .unset, .unset] [(.int (Int32.ofNat f2)), (.int (Int32.ofNat q))])) _
        refine XS.icmpNo X.here hx rfl (hb hby at_271) rfl (feq hj1).1 ?_
        show Steps p.tables e below (T49.setTop (mkF m 274 #[.val (.int y0), .val (.int y1), .val (.int y2), .val (.int y3), .val (.int y4), .val (.int y5), .val (.int (Int32.ofNat f1)), .val (.int (Int32.ofNat s1)), .val (.int (Int32.ofNat f2)), .val (.int (Int32.ofNat s2)), .val (.int (Int32.ofNat n1)), .val (.int (Int32.ofNat n2)), .val (.int (Int32.ofNat n3)), .val (.int (Int32.ofNat a1)), .val (.int (Int32.ofNat a2)), .val (.int (Int32.ofNat q)), .val (.int (Int32.ofNat o)), .val (.int (Int32.ofNat mm)), .val (.int v18), .val (.ref tb), .val (.int got), .val (.long (Int64.ofNat (a1 + a2))), .second, .val (.long (Int64.ofNat (1 + n1))), .second, .val (.long (Int64.ofNat (a1 + 1 + n2))), .second, .val (.int v27), .unset, .unset] [])) _
        refine XS.iload X.here hx rfl (hb hby at_274) rfl ?_
        show Steps p.tables e below (T49.setTop (mkF m 276 #[.val (.int y0), .val (.int y1), .val (.int y2), .val (.int y3), .val (.int y4), .val (.int y5), .val (.int (Int32.ofNat f1)), .val (.int (Int32.ofNat s1)), .val (.int (Int32.ofNat f2)), .val (.int (Int32.ofNat s2)), .val (.int (Int32.ofNat n1)), .val (.int (Int32.ofNat n2)), .val (.int (Int32.ofNat n3)), .val (.int (Int32.ofNat a1)), .val (.int (Int32.ofNat a2)), .val (.int (Int32.ofNat q)), .val (.int (Int32.ofNat o)), .val (.int (Int32.ofNat mm)), .val (.int v18), .val (.ref tb), .val (.int got), .val (.long (Int64.ofNat (a1 + a2))), .second, .val (.long (Int64.ofNat (1 + n1))), .second, .val (.long (Int64.ofNat (a1 + 1 + n2))), .second, .val (.int v27), .unset, .unset] [(.int (Int32.ofNat q))])) _
        refine XS.iload X.here hx rfl (hb hby at_276) rfl ?_
        show Steps p.tables e below (T49.setTop (mkF m 278 #[.val (.int y0), .val (.int y1), .val (.int y2), .val (.int y3), .val (.int y4), .val (.int y5), .val (.int (Int32.ofNat f1)), .val (.int (Int32.ofNat s1)), .val (.int (Int32.ofNat f2)), .val (.int (Int32.ofNat s2)), .val (.int (Int32.ofNat n1)), .val (.int (Int32.ofNat n2)), .val (.int (Int32.ofNat n3)), .val (.int (Int32.ofNat a1)), .val (.int (Int32.ofNat a2)), .val (.int (Int32.ofNat q)), .val (.int (Int32.ofNat o)), .val (.int (Int32.ofNat mm)), .val (.int v18), .val (.ref tb), .val (.int got), .val (.long (Int64.ofNat (a1 + a2))), .second, .val (.long (Int64.ofNat (1 + n1))), .second, .val (.long (Int64.ofNat (a1 + 1 + n2))), .second, .val (.int v27), .unset, .unset] [(.int (Int32.ofNat s2)), (.int (Int32.ofNat q))])) _
        refine XS.icmpYes X.here hx rfl (pc0 := 278) (pc' := 293) rfl (hb hby at_278) rfl (feq hj3).2 (by decide) (by decide) ?_
        show Steps p.tables e below (T49.setTop (mkF m 293 #[.val (.int y0), .val (.int y1), .val (.int y2), .val (.int y3), .val (.int y4), .val (.int y5), .val (.int (Int32.ofNat f1)), .val (.int (Int32.ofNat s1)), .val (.int (Int32.ofNat f2)), .val (.int (Int32.ofNat s2)), .val (.int (Int32.ofNat n1)), .val (.int (Int32.ofNat n2)), .val (.int (Int32.ofNat n3)), .val (.int (Int32.ofNat a1)), .val (.int (Int32.ofNat a2)), .val (.int (Int32.ofNat q)), .val (.int (Int32.ofNat o)), .val (.int (Int32.ofNat mm)), .val (.int v18), .val (.ref tb), .val (.int got), .val (.long (Int64.ofNat (a1 + a2))), .second, .val (.long (Int64.ofNat (1 + n1))), .second, .val (.long (Int64.ofNat (a1 + 1 + n2))), .second, .val (.int v27), .unset, .unset] [])) _
        refine XS.iconst X.here hx rfl (hb hby at_293) ?_
        exact k
  have st : ∀ t, Steps p.tables e below (T49.setTop (mkF m 294 #[.val (.int y0), .val (.int y1), .val (.int y2), .val (.int y3), .val (.int y4), .val (.int y5), .val (.int (Int32.ofNat f1)), .val (.int (Int32.ofNat s1)), .val (.int (Int32.ofNat f2)), .val (.int (Int32.ofNat s2)), .val (.int (Int32.ofNat n1)), .val (.int (Int32.ofNat n2)), .val (.int (Int32.ofNat n3)), .val (.int (Int32.ofNat a1)), .val (.int (Int32.ofNat a2)), .val (.int (Int32.ofNat q)), .val (.int (Int32.ofNat o)), .val (.int (Int32.ofNat mm)), .val (.int v18), .val (.ref tb), .val (.int got), .val (.long (Int64.ofNat (a1 + a2))), .second, .val (.long (Int64.ofNat (1 + n1))), .second, .val (.long (Int64.ofNat (a1 + 1 + n2))), .second, .val (.int v27), .unset, .unset] [(.int v28)])) t → Steps p.tables e below (s₁.setTop (mkF m 0 #[.val (.int y0), .val (.int y1), .val (.int y2), .val (.int y3), .val (.int y4), .val (.int y5), .unset, .unset, .unset, .unset, .unset, .unset, .unset, .unset, .unset, .unset, .unset, .unset, .unset, .unset, .unset, .unset, .unset, .unset, .unset, .unset, .unset, .unset, .unset, .unset] [])) t := fun t k => st t (sx t k)
  have st : ∀ t, Steps p.tables e below (T49.setTop (mkF m 296 #[.val (.int y0), .val (.int y1), .val (.int y2), .val (.int y3), .val (.int y4), .val (.int y5), .val (.int (Int32.ofNat f1)), .val (.int (Int32.ofNat s1)), .val (.int (Int32.ofNat f2)), .val (.int (Int32.ofNat s2)), .val (.int (Int32.ofNat n1)), .val (.int (Int32.ofNat n2)), .val (.int (Int32.ofNat n3)), .val (.int (Int32.ofNat a1)), .val (.int (Int32.ofNat a2)), .val (.int (Int32.ofNat q)), .val (.int (Int32.ofNat o)), .val (.int (Int32.ofNat mm)), .val (.int v18), .val (.ref tb), .val (.int got), .val (.long (Int64.ofNat (a1 + a2))), .second, .val (.long (Int64.ofNat (1 + n1))), .second, .val (.long (Int64.ofNat (a1 + 1 + n2))), .second, .val (.int v27), .val (.int v28), .unset] [])) t → Steps p.tables e below (s₁.setTop (mkF m 0 #[.val (.int y0), .val (.int y1), .val (.int y2), .val (.int y3), .val (.int y4), .val (.int y5), .unset, .unset, .unset, .unset, .unset, .unset, .unset, .unset, .unset, .unset, .unset, .unset, .unset, .unset, .unset, .unset, .unset, .unset, .unset, .unset, .unset, .unset, .unset, .unset] [])) t := fun t k => st t (by
      show Steps p.tables e below (T49.setTop (mkF m 294 #[.val (.int y0), .val (.int y1), .val (.int y2), .val (.int y3), .val (.int y4), .val (.int y5), .val (.int (Int32.ofNat f1)), .val (.int (Int32.ofNat s1)), .val (.int (Int32.ofNat f2)), .val (.int (Int32.ofNat s2)), .val (.int (Int32.ofNat n1)), .val (.int (Int32.ofNat n2)), .val (.int (Int32.ofNat n3)), .val (.int (Int32.ofNat a1)), .val (.int (Int32.ofNat a2)), .val (.int (Int32.ofNat q)), .val (.int (Int32.ofNat o)), .val (.int (Int32.ofNat mm)), .val (.int v18), .val (.ref tb), .val (.int got), .val (.long (Int64.ofNat (a1 + a2))), .second, .val (.long (Int64.ofNat (1 + n1))), .second, .val (.long (Int64.ofNat (a1 + 1 + n2))), .second, .val (.int v27), .unset, .unset] [(.int v28)])) _
      refine XS.istore X.here hx rfl (hb hby at_294) rfl (l' := #[.val (.int y0), .val (.int y1), .val (.int y2), .val (.int y3), .val (.int y4), .val (.int y5), .val (.int (Int32.ofNat f1)), .val (.int (Int32.ofNat s1)), .val (.int (Int32.ofNat f2)), .val (.int (Int32.ofNat s2)), .val (.int (Int32.ofNat n1)), .val (.int (Int32.ofNat n2)), .val (.int (Int32.ofNat n3)), .val (.int (Int32.ofNat a1)), .val (.int (Int32.ofNat a2)), .val (.int (Int32.ofNat q)), .val (.int (Int32.ofNat o)), .val (.int (Int32.ofNat mm)), .val (.int v18), .val (.ref tb), .val (.int got), .val (.long (Int64.ofNat (a1 + a2))), .second, .val (.long (Int64.ofNat (1 + n1))), .second, .val (.long (Int64.ofNat (a1 + 1 + n2))), .second, .val (.int v27), .val (.int v28), .unset]) rfl ?_
      exact k)
  obtain ⟨v29, hv_v29, sx⟩ : ∃ (v29 : Int32), v29 = (if v27 = (0 : Int32) then (if v28 = (0 : Int32) then (0 : Int32) else (1 : Int32)) else (1 : Int32)) ∧ ∀ t, Steps p.tables e below (T49.setTop (mkF m 311 #[.val (.int y0), .val (.int y1), .val (.int y2), .val (.int y3), .val (.int y4), .val (.int y5), .val (.int (Int32.ofNat f1)), .val (.int (Int32.ofNat s1)), .val (.int (Int32.ofNat f2)), .val (.int (Int32.ofNat s2)), .val (.int (Int32.ofNat n1)), .val (.int (Int32.ofNat n2)), .val (.int (Int32.ofNat n3)), .val (.int (Int32.ofNat a1)), .val (.int (Int32.ofNat a2)), .val (.int (Int32.ofNat q)), .val (.int (Int32.ofNat o)), .val (.int (Int32.ofNat mm)), .val (.int v18), .val (.ref tb), .val (.int got), .val (.long (Int64.ofNat (a1 + a2))), .second, .val (.long (Int64.ofNat (1 + n1))), .second, .val (.long (Int64.ofNat (a1 + 1 + n2))), .second, .val (.int v27), .val (.int v28), .unset] [(.int v29)])) t → Steps p.tables e below (T49.setTop (mkF m 296 #[.val (.int y0), .val (.int y1), .val (.int y2), .val (.int y3), .val (.int y4), .val (.int y5), .val (.int (Int32.ofNat f1)), .val (.int (Int32.ofNat s1)), .val (.int (Int32.ofNat f2)), .val (.int (Int32.ofNat s2)), .val (.int (Int32.ofNat n1)), .val (.int (Int32.ofNat n2)), .val (.int (Int32.ofNat n3)), .val (.int (Int32.ofNat a1)), .val (.int (Int32.ofNat a2)), .val (.int (Int32.ofNat q)), .val (.int (Int32.ofNat o)), .val (.int (Int32.ofNat mm)), .val (.int v18), .val (.ref tb), .val (.int got), .val (.long (Int64.ofNat (a1 + a2))), .second, .val (.long (Int64.ofNat (1 + n1))), .second, .val (.long (Int64.ofNat (a1 + 1 + n2))), .second, .val (.int v27), .val (.int v28), .unset] [])) t := by
    by_cases hj1 : v27 = (0 : Int32)
    · by_cases hj2 : v28 = (0 : Int32)
      · refine ⟨(0 : Int32), by rw [if_pos hj1, if_pos hj2], fun t k => ?_⟩
        show Steps p.tables e below (T49.setTop (mkF m 296 #[.val (.int y0), .val (.int y1), .val (.int y2), .val (.int y3), .val (.int y4), .val (.int y5), .val (.int (Int32.ofNat f1)), .val (.int (Int32.ofNat s1)), .val (.int (Int32.ofNat f2)), .val (.int (Int32.ofNat s2)), .val (.int (Int32.ofNat n1)), .val (.int (Int32.ofNat n2)), .val (.int (Int32.ofNat n3)), .val (.int (Int32.ofNat a1)), .val (.int (Int32.ofNat a2)), .val (.int (Int32.ofNat q)), .val (.int (Int32.ofNat o)), .val (.int (Int32.ofNat mm)), .val (.int v18), .val (.ref tb), .val (.int got), .val (.long (Int64.ofNat (a1 + a2))), .second, .val (.long (Int64.ofNat (1 + n1))), .second, .val (.long (Int64.ofNat (a1 + 1 + n2))), .second, .val (.int v27), .val (.int v28), .unset] [])) _
        refine XS.iload X.here hx rfl (hb hby at_296) rfl ?_
        show Steps p.tables e below (T49.setTop (mkF m 298 #[.val (.int y0), .val (.int y1), .val (.int y2), .val (.int y3), .val (.int y4), .val (.int y5), .val (.int (Int32.ofNat f1)), .val (.int (Int32.ofNat s1)), .val (.int (Int32.ofNat f2)), .val (.int (Int32.ofNat s2)), .val (.int (Int32.ofNat n1)), .val (.int (Int32.ofNat n2)), .val (.int (Int32.ofNat n3)), .val (.int (Int32.ofNat a1)), .val (.int (Int32.ofNat a2)), .val (.int (Int32.ofNat q)), .val (.int (Int32.ofNat o)), .val (.int (Int32.ofNat mm)), .val (.int v18), .val (.ref tb), .val (.int got), .val (.long (Int64.ofNat (a1 + a2))), .second, .val (.long (Int64.ofNat (1 + n1))), .second, .val (.long (Int64.ofNat (a1 + 1 + n2))), .second, .val (.int v27), .val (.int v28), .unset] [(.int v27)])) _
        refine XS.ifNo X.here hx rfl (hb hby at_298) rfl ((if0 _ _).trans (teq hj1).2) ?_
        show Steps p.tables e below (T49.setTop (mkF m 301 #[.val (.int y0), .val (.int y1), .val (.int y2), .val (.int y3), .val (.int y4), .val (.int y5), .val (.int (Int32.ofNat f1)), .val (.int (Int32.ofNat s1)), .val (.int (Int32.ofNat f2)), .val (.int (Int32.ofNat s2)), .val (.int (Int32.ofNat n1)), .val (.int (Int32.ofNat n2)), .val (.int (Int32.ofNat n3)), .val (.int (Int32.ofNat a1)), .val (.int (Int32.ofNat a2)), .val (.int (Int32.ofNat q)), .val (.int (Int32.ofNat o)), .val (.int (Int32.ofNat mm)), .val (.int v18), .val (.ref tb), .val (.int got), .val (.long (Int64.ofNat (a1 + a2))), .second, .val (.long (Int64.ofNat (1 + n1))), .second, .val (.long (Int64.ofNat (a1 + 1 + n2))), .second, .val (.int v27), .val (.int v28), .unset] [])) _
        refine XS.iload X.here hx rfl (hb hby at_301) rfl ?_
        show Steps p.tables e below (T49.setTop (mkF m 303 #[.val (.int y0), .val (.int y1), .val (.int y2), .val (.int y3), .val (.int y4), .val (.int y5), .val (.int (Int32.ofNat f1)), .val (.int (Int32.ofNat s1)), .val (.int (Int32.ofNat f2)), .val (.int (Int32.ofNat s2)), .val (.int (Int32.ofNat n1)), .val (.int (Int32.ofNat n2)), .val (.int (Int32.ofNat n3)), .val (.int (Int32.ofNat a1)), .val (.int (Int32.ofNat a2)), .val (.int (Int32.ofNat q)), .val (.int (Int32.ofNat o)), .val (.int (Int32.ofNat mm)), .val (.int v18), .val (.ref tb), .val (.int got), .val (.long (Int64.ofNat (a1 + a2))), .second, .val (.long (Int64.ofNat (1 + n1))), .second, .val (.long (Int64.ofNat (a1 + 1 + n2))), .second, .val (.int v27), .val (.int v28), .unset] [(.int v28)])) _
        refine XS.ifYes X.here hx rfl (pc0 := 303) (pc' := 310) rfl (hb hby at_303) rfl ((if0 _ _).trans (teq hj2).1) (by decide) (by decide) ?_
        show Steps p.tables e below (T49.setTop (mkF m 310 #[.val (.int y0), .val (.int y1), .val (.int y2), .val (.int y3), .val (.int y4), .val (.int y5), .val (.int (Int32.ofNat f1)), .val (.int (Int32.ofNat s1)), .val (.int (Int32.ofNat f2)), .val (.int (Int32.ofNat s2)), .val (.int (Int32.ofNat n1)), .val (.int (Int32.ofNat n2)), .val (.int (Int32.ofNat n3)), .val (.int (Int32.ofNat a1)), .val (.int (Int32.ofNat a2)), .val (.int (Int32.ofNat q)), .val (.int (Int32.ofNat o)), .val (.int (Int32.ofNat mm)), .val (.int v18), .val (.ref tb), .val (.int got), .val (.long (Int64.ofNat (a1 + a2))), .second, .val (.long (Int64.ofNat (1 + n1))), .second, .val (.long (Int64.ofNat (a1 + 1 + n2))), .second, .val (.int v27), .val (.int v28), .unset] [])) _
        refine XS.iconst X.here hx rfl (hb hby at_310) ?_
        exact k
      · refine ⟨(1 : Int32), by rw [if_pos hj1, if_neg hj2], fun t k => ?_⟩
        show Steps p.tables e below (T49.setTop (mkF m 296 #[.val (.int y0), .val (.int y1), .val (.int y2), .val (.int y3), .val (.int y4), .val (.int y5), .val (.int (Int32.ofNat f1)), .val (.int (Int32.ofNat s1)), .val (.int (Int32.ofNat f2)), .val (.int (Int32.ofNat s2)), .val (.int (Int32.ofNat n1)), .val (.int (Int32.ofNat n2)), .val (.int (Int32.ofNat n3)), .val (.int (Int32.ofNat a1)), .val (.int (Int32.ofNat a2)), .val (.int (Int32.ofNat q)), .val (.int (Int32.ofNat o)), .val (.int (Int32.ofNat mm)), .val (.int v18), .val (.ref tb), .val (.int got), .val (.long (Int64.ofNat (a1 + a2))), .second, .val (.long (Int64.ofNat (1 + n1))), .second, .val (.long (Int64.ofNat (a1 + 1 + n2))), .second, .val (.int v27), .val (.int v28), .unset] [])) _
        refine XS.iload X.here hx rfl (hb hby at_296) rfl ?_
        show Steps p.tables e below (T49.setTop (mkF m 298 #[.val (.int y0), .val (.int y1), .val (.int y2), .val (.int y3), .val (.int y4), .val (.int y5), .val (.int (Int32.ofNat f1)), .val (.int (Int32.ofNat s1)), .val (.int (Int32.ofNat f2)), .val (.int (Int32.ofNat s2)), .val (.int (Int32.ofNat n1)), .val (.int (Int32.ofNat n2)), .val (.int (Int32.ofNat n3)), .val (.int (Int32.ofNat a1)), .val (.int (Int32.ofNat a2)), .val (.int (Int32.ofNat q)), .val (.int (Int32.ofNat o)), .val (.int (Int32.ofNat mm)), .val (.int v18), .val (.ref tb), .val (.int got), .val (.long (Int64.ofNat (a1 + a2))), .second, .val (.long (Int64.ofNat (1 + n1))), .second, .val (.long (Int64.ofNat (a1 + 1 + n2))), .second, .val (.int v27), .val (.int v28), .unset] [(.int v27)])) _
        refine XS.ifNo X.here hx rfl (hb hby at_298) rfl ((if0 _ _).trans (teq hj1).2) ?_
        show Steps p.tables e below (T49.setTop (mkF m 301 #[.val (.int y0), .val (.int y1), .val (.int y2), .val (.int y3), .val (.int y4), .val (.int y5), .val (.int (Int32.ofNat f1)), .val (.int (Int32.ofNat s1)), .val (.int (Int32.ofNat f2)), .val (.int (Int32.ofNat s2)), .val (.int (Int32.ofNat n1)), .val (.int (Int32.ofNat n2)), .val (.int (Int32.ofNat n3)), .val (.int (Int32.ofNat a1)), .val (.int (Int32.ofNat a2)), .val (.int (Int32.ofNat q)), .val (.int (Int32.ofNat o)), .val (.int (Int32.ofNat mm)), .val (.int v18), .val (.ref tb), .val (.int got), .val (.long (Int64.ofNat (a1 + a2))), .second, .val (.long (Int64.ofNat (1 + n1))), .second, .val (.long (Int64.ofNat (a1 + 1 + n2))), .second, .val (.int v27), .val (.int v28), .unset] [])) _
        refine XS.iload X.here hx rfl (hb hby at_301) rfl ?_
        show Steps p.tables e below (T49.setTop (mkF m 303 #[.val (.int y0), .val (.int y1), .val (.int y2), .val (.int y3), .val (.int y4), .val (.int y5), .val (.int (Int32.ofNat f1)), .val (.int (Int32.ofNat s1)), .val (.int (Int32.ofNat f2)), .val (.int (Int32.ofNat s2)), .val (.int (Int32.ofNat n1)), .val (.int (Int32.ofNat n2)), .val (.int (Int32.ofNat n3)), .val (.int (Int32.ofNat a1)), .val (.int (Int32.ofNat a2)), .val (.int (Int32.ofNat q)), .val (.int (Int32.ofNat o)), .val (.int (Int32.ofNat mm)), .val (.int v18), .val (.ref tb), .val (.int got), .val (.long (Int64.ofNat (a1 + a2))), .second, .val (.long (Int64.ofNat (1 + n1))), .second, .val (.long (Int64.ofNat (a1 + 1 + n2))), .second, .val (.int v27), .val (.int v28), .unset] [(.int v28)])) _
        refine XS.ifNo X.here hx rfl (hb hby at_303) rfl ((if0 _ _).trans (feq hj2).1) ?_
        show Steps p.tables e below (T49.setTop (mkF m 306 #[.val (.int y0), .val (.int y1), .val (.int y2), .val (.int y3), .val (.int y4), .val (.int y5), .val (.int (Int32.ofNat f1)), .val (.int (Int32.ofNat s1)), .val (.int (Int32.ofNat f2)), .val (.int (Int32.ofNat s2)), .val (.int (Int32.ofNat n1)), .val (.int (Int32.ofNat n2)), .val (.int (Int32.ofNat n3)), .val (.int (Int32.ofNat a1)), .val (.int (Int32.ofNat a2)), .val (.int (Int32.ofNat q)), .val (.int (Int32.ofNat o)), .val (.int (Int32.ofNat mm)), .val (.int v18), .val (.ref tb), .val (.int got), .val (.long (Int64.ofNat (a1 + a2))), .second, .val (.long (Int64.ofNat (1 + n1))), .second, .val (.long (Int64.ofNat (a1 + 1 + n2))), .second, .val (.int v27), .val (.int v28), .unset] [])) _
        refine XS.iconst X.here hx rfl (hb hby at_306) ?_
        show Steps p.tables e below (T49.setTop (mkF m 307 #[.val (.int y0), .val (.int y1), .val (.int y2), .val (.int y3), .val (.int y4), .val (.int y5), .val (.int (Int32.ofNat f1)), .val (.int (Int32.ofNat s1)), .val (.int (Int32.ofNat f2)), .val (.int (Int32.ofNat s2)), .val (.int (Int32.ofNat n1)), .val (.int (Int32.ofNat n2)), .val (.int (Int32.ofNat n3)), .val (.int (Int32.ofNat a1)), .val (.int (Int32.ofNat a2)), .val (.int (Int32.ofNat q)), .val (.int (Int32.ofNat o)), .val (.int (Int32.ofNat mm)), .val (.int v18), .val (.ref tb), .val (.int got), .val (.long (Int64.ofNat (a1 + a2))), .second, .val (.long (Int64.ofNat (1 + n1))), .second, .val (.long (Int64.ofNat (a1 + 1 + n2))), .second, .val (.int v27), .val (.int v28), .unset] [(.int (1 : Int32))])) _
        refine XS.goto X.here hx rfl (pc0 := 307) (pc' := 311) rfl (hb hby at_307) (by decide) (by decide) ?_
        exact k
    · refine ⟨(1 : Int32), by rw [if_neg hj1], fun t k => ?_⟩
      show Steps p.tables e below (T49.setTop (mkF m 296 #[.val (.int y0), .val (.int y1), .val (.int y2), .val (.int y3), .val (.int y4), .val (.int y5), .val (.int (Int32.ofNat f1)), .val (.int (Int32.ofNat s1)), .val (.int (Int32.ofNat f2)), .val (.int (Int32.ofNat s2)), .val (.int (Int32.ofNat n1)), .val (.int (Int32.ofNat n2)), .val (.int (Int32.ofNat n3)), .val (.int (Int32.ofNat a1)), .val (.int (Int32.ofNat a2)), .val (.int (Int32.ofNat q)), .val (.int (Int32.ofNat o)), .val (.int (Int32.ofNat mm)), .val (.int v18), .val (.ref tb), .val (.int got), .val (.long (Int64.ofNat (a1 + a2))), .second, .val (.long (Int64.ofNat (1 + n1))), .second, .val (.long (Int64.ofNat (a1 + 1 + n2))), .second, .val (.int v27), .val (.int v28), .unset] [])) _
      refine XS.iload X.here hx rfl (hb hby at_296) rfl ?_
      show Steps p.tables e below (T49.setTop (mkF m 298 #[.val (.int y0), .val (.int y1), .val (.int y2), .val (.int y3), .val (.int y4), .val (.int y5), .val (.int (Int32.ofNat f1)), .val (.int (Int32.ofNat s1)), .val (.int (Int32.ofNat f2)), .val (.int (Int32.ofNat s2)), .val (.int (Int32.ofNat n1)), .val (.int (Int32.ofNat n2)), .val (.int (Int32.ofNat n3)), .val (.int (Int32.ofNat a1)), .val (.int (Int32.ofNat a2)), .val (.int (Int32.ofNat q)), .val (.int (Int32.ofNat o)), .val (.int (Int32.ofNat mm)), .val (.int v18), .val (.ref tb), .val (.int got), .val (.long (Int64.ofNat (a1 + a2))), .second, .val (.long (Int64.ofNat (1 + n1))), .second, .val (.long (Int64.ofNat (a1 + 1 + n2))), .second, .val (.int v27), .val (.int v28), .unset] [(.int v27)])) _
      refine XS.ifYes X.here hx rfl (pc0 := 298) (pc' := 306) rfl (hb hby at_298) rfl ((if0 _ _).trans (feq hj1).2) (by decide) (by decide) ?_
      show Steps p.tables e below (T49.setTop (mkF m 306 #[.val (.int y0), .val (.int y1), .val (.int y2), .val (.int y3), .val (.int y4), .val (.int y5), .val (.int (Int32.ofNat f1)), .val (.int (Int32.ofNat s1)), .val (.int (Int32.ofNat f2)), .val (.int (Int32.ofNat s2)), .val (.int (Int32.ofNat n1)), .val (.int (Int32.ofNat n2)), .val (.int (Int32.ofNat n3)), .val (.int (Int32.ofNat a1)), .val (.int (Int32.ofNat a2)), .val (.int (Int32.ofNat q)), .val (.int (Int32.ofNat o)), .val (.int (Int32.ofNat mm)), .val (.int v18), .val (.ref tb), .val (.int got), .val (.long (Int64.ofNat (a1 + a2))), .second, .val (.long (Int64.ofNat (1 + n1))), .second, .val (.long (Int64.ofNat (a1 + 1 + n2))), .second, .val (.int v27), .val (.int v28), .unset] [])) _
      refine XS.iconst X.here hx rfl (hb hby at_306) ?_
      show Steps p.tables e below (T49.setTop (mkF m 307 #[.val (.int y0), .val (.int y1), .val (.int y2), .val (.int y3), .val (.int y4), .val (.int y5), .val (.int (Int32.ofNat f1)), .val (.int (Int32.ofNat s1)), .val (.int (Int32.ofNat f2)), .val (.int (Int32.ofNat s2)), .val (.int (Int32.ofNat n1)), .val (.int (Int32.ofNat n2)), .val (.int (Int32.ofNat n3)), .val (.int (Int32.ofNat a1)), .val (.int (Int32.ofNat a2)), .val (.int (Int32.ofNat q)), .val (.int (Int32.ofNat o)), .val (.int (Int32.ofNat mm)), .val (.int v18), .val (.ref tb), .val (.int got), .val (.long (Int64.ofNat (a1 + a2))), .second, .val (.long (Int64.ofNat (1 + n1))), .second, .val (.long (Int64.ofNat (a1 + 1 + n2))), .second, .val (.int v27), .val (.int v28), .unset] [(.int (1 : Int32))])) _
      refine XS.goto X.here hx rfl (pc0 := 307) (pc' := 311) rfl (hb hby at_307) (by decide) (by decide) ?_
      exact k
  have st : ∀ t, Steps p.tables e below (T49.setTop (mkF m 311 #[.val (.int y0), .val (.int y1), .val (.int y2), .val (.int y3), .val (.int y4), .val (.int y5), .val (.int (Int32.ofNat f1)), .val (.int (Int32.ofNat s1)), .val (.int (Int32.ofNat f2)), .val (.int (Int32.ofNat s2)), .val (.int (Int32.ofNat n1)), .val (.int (Int32.ofNat n2)), .val (.int (Int32.ofNat n3)), .val (.int (Int32.ofNat a1)), .val (.int (Int32.ofNat a2)), .val (.int (Int32.ofNat q)), .val (.int (Int32.ofNat o)), .val (.int (Int32.ofNat mm)), .val (.int v18), .val (.ref tb), .val (.int got), .val (.long (Int64.ofNat (a1 + a2))), .second, .val (.long (Int64.ofNat (1 + n1))), .second, .val (.long (Int64.ofNat (a1 + 1 + n2))), .second, .val (.int v27), .val (.int v28), .unset] [(.int v29)])) t → Steps p.tables e below (s₁.setTop (mkF m 0 #[.val (.int y0), .val (.int y1), .val (.int y2), .val (.int y3), .val (.int y4), .val (.int y5), .unset, .unset, .unset, .unset, .unset, .unset, .unset, .unset, .unset, .unset, .unset, .unset, .unset, .unset, .unset, .unset, .unset, .unset, .unset, .unset, .unset, .unset, .unset, .unset] [])) t := fun t k => st t (sx t k)
  have st : ∀ t, Steps p.tables e below (T49.setTop (mkF m 325 #[.val (.int y0), .val (.int y1), .val (.int y2), .val (.int y3), .val (.int y4), .val (.int y5), .val (.int (Int32.ofNat f1)), .val (.int (Int32.ofNat s1)), .val (.int (Int32.ofNat f2)), .val (.int (Int32.ofNat s2)), .val (.int (Int32.ofNat n1)), .val (.int (Int32.ofNat n2)), .val (.int (Int32.ofNat n3)), .val (.int (Int32.ofNat a1)), .val (.int (Int32.ofNat a2)), .val (.int (Int32.ofNat q)), .val (.int (Int32.ofNat o)), .val (.int (Int32.ofNat mm)), .val (.int v18), .val (.ref tb), .val (.int got), .val (.long (Int64.ofNat (a1 + a2))), .second, .val (.long (Int64.ofNat (1 + n1))), .second, .val (.long (Int64.ofNat (a1 + 1 + n2))), .second, .val (.int v27), .val (.int v28), .val (.int v29)] [(.int (1 : Int32))])) t → Steps p.tables e below (s₁.setTop (mkF m 0 #[.val (.int y0), .val (.int y1), .val (.int y2), .val (.int y3), .val (.int y4), .val (.int y5), .unset, .unset, .unset, .unset, .unset, .unset, .unset, .unset, .unset, .unset, .unset, .unset, .unset, .unset, .unset, .unset, .unset, .unset, .unset, .unset, .unset, .unset, .unset, .unset] [])) t := fun t k => st t (by
      show Steps p.tables e below (T49.setTop (mkF m 311 #[.val (.int y0), .val (.int y1), .val (.int y2), .val (.int y3), .val (.int y4), .val (.int y5), .val (.int (Int32.ofNat f1)), .val (.int (Int32.ofNat s1)), .val (.int (Int32.ofNat f2)), .val (.int (Int32.ofNat s2)), .val (.int (Int32.ofNat n1)), .val (.int (Int32.ofNat n2)), .val (.int (Int32.ofNat n3)), .val (.int (Int32.ofNat a1)), .val (.int (Int32.ofNat a2)), .val (.int (Int32.ofNat q)), .val (.int (Int32.ofNat o)), .val (.int (Int32.ofNat mm)), .val (.int v18), .val (.ref tb), .val (.int got), .val (.long (Int64.ofNat (a1 + a2))), .second, .val (.long (Int64.ofNat (1 + n1))), .second, .val (.long (Int64.ofNat (a1 + 1 + n2))), .second, .val (.int v27), .val (.int v28), .unset] [(.int v29)])) _
      refine XS.istore X.here hx rfl (hb hby at_311) rfl (l' := #[.val (.int y0), .val (.int y1), .val (.int y2), .val (.int y3), .val (.int y4), .val (.int y5), .val (.int (Int32.ofNat f1)), .val (.int (Int32.ofNat s1)), .val (.int (Int32.ofNat f2)), .val (.int (Int32.ofNat s2)), .val (.int (Int32.ofNat n1)), .val (.int (Int32.ofNat n2)), .val (.int (Int32.ofNat n3)), .val (.int (Int32.ofNat a1)), .val (.int (Int32.ofNat a2)), .val (.int (Int32.ofNat q)), .val (.int (Int32.ofNat o)), .val (.int (Int32.ofNat mm)), .val (.int v18), .val (.ref tb), .val (.int got), .val (.long (Int64.ofNat (a1 + a2))), .second, .val (.long (Int64.ofNat (1 + n1))), .second, .val (.long (Int64.ofNat (a1 + 1 + n2))), .second, .val (.int v27), .val (.int v28), .val (.int v29)]) rfl ?_
      show Steps p.tables e below (T49.setTop (mkF m 313 #[.val (.int y0), .val (.int y1), .val (.int y2), .val (.int y3), .val (.int y4), .val (.int y5), .val (.int (Int32.ofNat f1)), .val (.int (Int32.ofNat s1)), .val (.int (Int32.ofNat f2)), .val (.int (Int32.ofNat s2)), .val (.int (Int32.ofNat n1)), .val (.int (Int32.ofNat n2)), .val (.int (Int32.ofNat n3)), .val (.int (Int32.ofNat a1)), .val (.int (Int32.ofNat a2)), .val (.int (Int32.ofNat q)), .val (.int (Int32.ofNat o)), .val (.int (Int32.ofNat mm)), .val (.int v18), .val (.ref tb), .val (.int got), .val (.long (Int64.ofNat (a1 + a2))), .second, .val (.long (Int64.ofNat (1 + n1))), .second, .val (.long (Int64.ofNat (a1 + 1 + n2))), .second, .val (.int v27), .val (.int v28), .val (.int v29)] [])) _
      refine XS.iload X.here hx rfl (hb hby at_313) rfl ?_
      show Steps p.tables e below (T49.setTop (mkF m 315 #[.val (.int y0), .val (.int y1), .val (.int y2), .val (.int y3), .val (.int y4), .val (.int y5), .val (.int (Int32.ofNat f1)), .val (.int (Int32.ofNat s1)), .val (.int (Int32.ofNat f2)), .val (.int (Int32.ofNat s2)), .val (.int (Int32.ofNat n1)), .val (.int (Int32.ofNat n2)), .val (.int (Int32.ofNat n3)), .val (.int (Int32.ofNat a1)), .val (.int (Int32.ofNat a2)), .val (.int (Int32.ofNat q)), .val (.int (Int32.ofNat o)), .val (.int (Int32.ofNat mm)), .val (.int v18), .val (.ref tb), .val (.int got), .val (.long (Int64.ofNat (a1 + a2))), .second, .val (.long (Int64.ofNat (1 + n1))), .second, .val (.long (Int64.ofNat (a1 + 1 + n2))), .second, .val (.int v27), .val (.int v28), .val (.int v29)] [(.int got)])) _
      refine XS.iload X.here hx rfl (hb hby at_315) rfl ?_
      show Steps p.tables e below (T49.setTop (mkF m 317 #[.val (.int y0), .val (.int y1), .val (.int y2), .val (.int y3), .val (.int y4), .val (.int y5), .val (.int (Int32.ofNat f1)), .val (.int (Int32.ofNat s1)), .val (.int (Int32.ofNat f2)), .val (.int (Int32.ofNat s2)), .val (.int (Int32.ofNat n1)), .val (.int (Int32.ofNat n2)), .val (.int (Int32.ofNat n3)), .val (.int (Int32.ofNat a1)), .val (.int (Int32.ofNat a2)), .val (.int (Int32.ofNat q)), .val (.int (Int32.ofNat o)), .val (.int (Int32.ofNat mm)), .val (.int v18), .val (.ref tb), .val (.int got), .val (.long (Int64.ofNat (a1 + a2))), .second, .val (.long (Int64.ofNat (1 + n1))), .second, .val (.long (Int64.ofNat (a1 + 1 + n2))), .second, .val (.int v27), .val (.int v28), .val (.int v29)] [(.int v29), (.int got)])) _
      refine XS.icmpNo X.here hx rfl (hb hby at_317) rfl (teq (own_fin f1 s1 f2 s2 n1 n2 a1 a2 q sp1 sp4 fs1 ss1 fs2 ss2 got v27 v28 v29 hf1 hs1 hf2 hs2 hq hn1 hn2 ha1 ha2 hsp1 hsp4 hfs1 hss1 hfs2 hss2 hgot hv_v27 hv_v28 hv_v29)).2 ?_
      show Steps p.tables e below (T49.setTop (mkF m 320 #[.val (.int y0), .val (.int y1), .val (.int y2), .val (.int y3), .val (.int y4), .val (.int y5), .val (.int (Int32.ofNat f1)), .val (.int (Int32.ofNat s1)), .val (.int (Int32.ofNat f2)), .val (.int (Int32.ofNat s2)), .val (.int (Int32.ofNat n1)), .val (.int (Int32.ofNat n2)), .val (.int (Int32.ofNat n3)), .val (.int (Int32.ofNat a1)), .val (.int (Int32.ofNat a2)), .val (.int (Int32.ofNat q)), .val (.int (Int32.ofNat o)), .val (.int (Int32.ofNat mm)), .val (.int v18), .val (.ref tb), .val (.int got), .val (.long (Int64.ofNat (a1 + a2))), .second, .val (.long (Int64.ofNat (1 + n1))), .second, .val (.long (Int64.ofNat (a1 + 1 + n2))), .second, .val (.int v27), .val (.int v28), .val (.int v29)] [])) _
      refine XS.iconst X.here hx rfl (hb hby at_320) ?_
      show Steps p.tables e below (T49.setTop (mkF m 321 #[.val (.int y0), .val (.int y1), .val (.int y2), .val (.int y3), .val (.int y4), .val (.int y5), .val (.int (Int32.ofNat f1)), .val (.int (Int32.ofNat s1)), .val (.int (Int32.ofNat f2)), .val (.int (Int32.ofNat s2)), .val (.int (Int32.ofNat n1)), .val (.int (Int32.ofNat n2)), .val (.int (Int32.ofNat n3)), .val (.int (Int32.ofNat a1)), .val (.int (Int32.ofNat a2)), .val (.int (Int32.ofNat q)), .val (.int (Int32.ofNat o)), .val (.int (Int32.ofNat mm)), .val (.int v18), .val (.ref tb), .val (.int got), .val (.long (Int64.ofNat (a1 + a2))), .second, .val (.long (Int64.ofNat (1 + n1))), .second, .val (.long (Int64.ofNat (a1 + 1 + n2))), .second, .val (.int v27), .val (.int v28), .val (.int v29)] [(.int (1 : Int32))])) _
      refine XS.goto X.here hx rfl (pc0 := 321) (pc' := 325) rfl (hb hby at_321) (by decide) (by decide) ?_
      exact k)
  obtain ⟨fs_, hr, hrun, hended, hW, hsame⟩ := X.leave (v := some (.int (1 : Int32))) (fun h => by rw [Bd.returns] at h; cases h)
  refine ⟨_, _, pre0 _ (st _ ?_), hrun, hended, _, _, rfl, ?_, ⟨_, rfl⟩, hW, hsame.mono (by decide) (by decide)⟩
  · exact retN X hx (t := .boolean) Bd.returns (by simp) (hb hby at_325) hr
  · show Q_rm0 Z y0 y1 y2 y3 y4 y5 h0 n0 _ T49.heap _
    rw [eh]
    exact ⟨rfl, N⟩
set_option maxRecDepth 65536 in
set_option maxHeartbeats 40000000 in
theorem comes_1 {Post : Tables → Env → Array Value → State → Outcome → State → Prop} (hpost : ∀ tb e args s v u, (limb_1_1.after args s (.returned v) u = true ∧ limb_1_2.after args s (.returned v) u = true ∧ True) → FrameEnd s (.returned v) u (Jvm.fieldLocs frame_1_writes args s ++ Jvm.arrayLocs frame_1_arrays args s ++ Jvm.staticLocs frame_1_statics s) 24 192 → Post tb e args s (.returned v) u) :
    ArmFor flags0 classFile x code maxLocals ret World_1 tables_1 room_1 Calls_1 rest_1 Pre_1 Post := by
  intro l hfl _ _ p e ha hc hk s m args below hf hA hF happ hP
  obtain ⟨hcalls, hrest, hpre⟩ := hP
  obtain ⟨-, -, -, hnamed, -, -, -, hat⟩ := (Spec.applies_iff hf).mp happ
  obtain ⟨hg, hn⟩ := and_e (Cond.before_iff.mp (show (Jvm.Cond.and given_1 narrow_1).before args s = true from hpre))
  obtain ⟨g0, hg1⟩ := and_e hg
  obtain ⟨ha0, hg2⟩ := and_e hg1
  obtain ⟨ha1, hg3⟩ := and_e hg2
  obtain ⟨ha2, hg4⟩ := and_e hg3
  obtain ⟨ha3, hg5⟩ := and_e hg4
  obtain ⟨ha4, hg6⟩ := and_e hg5
  have ha5 := hg6
  obtain ⟨w0, w1, w2, w3, w4, w5, rfl⟩ : ∃ w0 w1 w2 w3 w4 w5 : Value, args = #[w0, w1, w2, w3, w4, w5] := by
    have hs : args.size = 6 := by simpa [Cond.value, given_1] using g0
    obtain ⟨L⟩ := args
    match L, hs with
    | [w0, w1, w2, w3, w4, w5], _ => exact ⟨w0, w1, w2, w3, w4, w5, rfl⟩
  have hw := fun d (hd : d ∈ tables_1) => atoms_spec (ws := Jvm.Cond.code x code maxLocals ret :: tables_1) hat d (List.mem_cons_of_mem _ hd)
  obtain ⟨i0, ei0⟩ := is_v ha0
  obtain rfl : w0 = (.int i0) := Option.some.inj ei0
  obtain ⟨i1, ei1⟩ := is_v ha1
  obtain rfl : w1 = (.int i1) := Option.some.inj ei1
  obtain ⟨i2, ei2⟩ := is_v ha2
  obtain rfl : w2 = (.int i2) := Option.some.inj ei2
  obtain ⟨i3, ei3⟩ := is_v ha3
  obtain rfl : w3 = (.int i3) := Option.some.inj ei3
  obtain ⟨i4, ei4⟩ := is_v ha4
  obtain rfl : w4 = (.int i4) := Option.some.inj ei4
  obtain ⟨i5, ei5⟩ := is_v ha5
  obtain rfl : w5 = (.int i5) := Option.some.inj ei5
  obtain ⟨n, o, h1, h2, h3, _, L, rfl, ⟨rfl, N⟩, hq⟩ := rm0 l s _ hw tables_1 i0 i1 i2 i3 i4 i5 s.heap s.heap.size (Nat.le_refl _) p e ha hc hk s m _ below hf ((Spec.applies_iff_loose hf).mp happ).1 ⟨rfl, State.Warmed39.refl s, rfl⟩ trivial
  refine ⟨n, _, h1, h2, h3, hpost _ _ _ _ _ _ ⟨Cond.after_iff.mpr rfl, Cond.after_iff.mpr (eq_i res_at (Term.int_eval (1)) rfl), trivial⟩ ⟨hq.1, hq.2.1, (hq.2.2.sift fun y hy => Or.inr (N y hy)).mono (by decide) (by decide)⟩⟩
theorem main_1_1 : Claimed_1_1 := comes_1 fun _ _ _ _ _ _ h hF => ⟨h.1, hF⟩
theorem main_1_2 : Claimed_1_2 := comes_1 fun _ _ _ _ _ _ h hF => ⟨h.2.1, hF⟩
end Jvm.Pilot.@@N@@
namespace Jvm.Pilot.@@N@@
open Jvm Jvm.ClassFile Sem Op Lib Jvm.Free Jvm.Stand Jvm.Pilot.@@N@@.Jvm.D
/-! MADE BY PROGRAM (witnessworld.py) out of the Statement's table words and the real class files: 13 classes; the members and pool entries that the words name. The judged class is class 1, her method 1. -/
namespace start1
open Jvm.ClassFile
def u (s : String) : CpInfo := .utf8 (stringToUtf16 s)
/-- a pool by its gaps: so many unusable entries, then the entry; so many at the end -/
def gap : Nat → List CpInfo → List CpInfo
  | 0, r => r
  | n + 1, r => .unusable :: gap n r
def poolList (es : List (Nat × CpInfo)) (last : Nat) : List CpInfo := es.foldr (fun e r => gap e.1 (e.2 :: r)) (gap last [])
def pool (es : List (Nat × CpInfo)) (last : Nat) : Array CpInfo := ⟨poolList es last⟩
def fileOf (pool : Array CpInfo) (this : Nat) (attrs : Array Attribute := #[]) (ms : Array MethodInfo := #[]) (fl : Nat := 33) (sup : Nat := 0) (ifs : Array Nat := #[]) (fds : Array FieldInfo := #[]) : ClassFile where
  minorVersion := 0
  majorVersion := 65
  constantPool := pool
  accessFlags := fl
  thisClass := this
  superClass := sup
  interfaces := ifs
  fields := fds
  methods := ms
  attributes := attrs
def plain (name : String) (sup : Option ClassId) : Class where
  name := name
  kind := .ordinary
  loader := none
  accessFlags := 33
  super := sup
  interfaces := #[]
  cf := none
  fields := #[]
  methods := #[]
  instanceTypes := #[]
  staticTypes := #[]
  resolved := #[]
  callSites := []
  init := .initialized
  statics := none
  mirror := none

def pool0 : Array CpInfo := pool [(5, u "<init>"), (0, u "()V"), (1, .class_ 10), (1, u "java/lang/Object")] 113

def k0c0 : Code := { maxStack := 0, maxLocals := 1, code := object_method_1_code, exceptionTable := #[], attributes := #[] }
def k0m0 : Method := { name := "<init>", desc := "()V", sig := { parameters := [], returnType := none }, accessFlags := 1, code := some k0c0 }
/-- java/lang/Object -/
def k0 : Class := { plain "java/lang/Object" none with
  accessFlags := 33
  interfaces := #[]
  cf := some (fileOf pool0 8 #[] #[{ accessFlags := 1, nameIndex := 5, descriptorIndex := 6, attributes := #[] }] 33 0 #[] #[])
  fields := #[]
  methods := #[k0m0]
  instanceTypes := #[]
  staticTypes := #[]
  resolved := Array.replicate 124 none
  statics := none }

def pool1 : Array CpInfo := pool [(2, .class_ 4), (1, u "java/lang/Object"), (0, u "<init>"), (0, u "()V"), (0, .integer 2147483647), (0, .class_ 9), (0, u "com/example/paretoloom/paretoloom/TabuList"), (0, .methodref 8 11), (0, .nameAndType 5 12), (0, u "(II)V"), (0, .methodref 8 14), (0, .nameAndType 15 16), (0, u "forbidBefore"), (0, u "(III)V"), (0, .methodref 8 18), (0, .nameAndType 19 6), (0, u "advance"), (0, .methodref 8 21), (0, .nameAndType 22 16), (0, u "forbidOn"), (0, .methodref 8 24), (0, .nameAndType 25 26), (0, u "inPairs"), (0, u "(I)Z"), (0, .class_ 28), (0, u "com/example/paretoloom/paretoloom/TabuListInPairsPinLaw"), (2, u "law"), (0, u "(IIIIII)Z")] 3

def k1m0 : Method := { name := "<init>", desc := "()V", sig := { parameters := [], returnType := none }, accessFlags := 1, code := none }
def k1c1 : Code := { maxStack := 4, maxLocals := 30, code := code, exceptionTable := #[], attributes := #[] }
def k1m1 : Method := { name := "law", desc := "(IIIIII)Z", sig := { parameters := [.int, .int, .int, .int, .int, .int], returnType := some .boolean }, accessFlags := 9, code := some k1c1 }
/-- com/example/paretoloom/paretoloom/TabuListInPairsPinLaw -/
def k1 : Class := { plain "com/example/paretoloom/paretoloom/TabuListInPairsPinLaw" (some 0) with
  accessFlags := 49
  interfaces := #[]
  cf := some (fileOf pool1 27 #[] #[{ accessFlags := 1, nameIndex := 5, descriptorIndex := 6, attributes := #[] }, { accessFlags := 9, nameIndex := 31, descriptorIndex := 32, attributes := #[] }] 49 2 #[] #[])
  fields := #[]
  methods := #[k1m0, k1m1]
  instanceTypes := #[]
  staticTypes := #[]
  resolved := Array.replicate 36 none
  statics := none }

def pool2 : Array CpInfo := pool [(1, .methodref 2 3), (0, .class_ 4), (0, .nameAndType 5 6), (0, u "java/lang/Object"), (0, u "<init>"), (0, u "()V"), (0, .class_ 8), (0, u "com/example/paretoloom/paretoloom/TabuList"), (0, .methodref 7 10), (0, .nameAndType 11 12), (0, u "emptySlots"), (0, u "(I)[J"), (0, .fieldref 7 14), (0, .nameAndType 15 16), (0, u "keys"), (0, u "[J"), (0, .fieldref 7 18), (0, .nameAndType 19 16), (0, u "until"), (0, .fieldref 7 21), (0, .nameAndType 22 23), (0, u "operations"), (0, u "I"), (0, .fieldref 7 25), (0, .nameAndType 26 23), (0, u "machines"), (0, .fieldref 7 28), (0, .nameAndType 29 16), (0, u "firstUntil"), (0, .fieldref 7 31), (0, .nameAndType 32 16), (0, u "secondUntil"), (0, .fieldref 7 34), (0, .nameAndType 35 16), (0, u "machineUntil"), (0, .fieldref 7 37), (0, .nameAndType 38 39), (0, u "step"), (0, u "J"), (0, .fieldref 7 41), (0, .nameAndType 42 23), (0, u "size"), (4, .methodref 7 48), (0, .nameAndType 49 50), (0, u "pairKey"), (0, u "(II)J"), (0, .methodref 7 52), (0, .nameAndType 53 54), (0, u "put"), (0, u "(JJ)V"), (0, .methodref 56 57), (0, .class_ 58), (0, .nameAndType 59 60), (0, u "java/lang/Math"), (0, u "max"), (0, u "(JJ)J"), (0, .methodref 7 62), (0, .nameAndType 63 50), (0, u "machineKey"), (4, .methodref 7 69), (0, .nameAndType 70 71), (0, u "slotOf"), (0, u "(J[J)I"), (0, .long 18446744073709551615), (1, .long 11400714819323198485), (1, .methodref 77 78), (0, .class_ 79), (0, .nameAndType 80 81), (0, u "java/util/Arrays"), (0, u "fill"), (0, u "([JJ)V"), (0, u "PRUNED_ABOVE"), (2, u "EMPTY"), (0, u "SPREAD"), (0, u "FEWEST_SLOTS"), (1, u "(II)V"), (2, u "advance"), (1, u "forbidBefore"), (0, u "(III)V"), (0, u "forbidOn"), (0, u "inPairs"), (0, u "(I)Z")] 6

def k2c0 : Code := { maxStack := 2, maxLocals := 3, code := prog_46_method_1_code, exceptionTable := #[], attributes := #[] }
def k2m0 : Method := { name := "<init>", desc := "(II)V", sig := { parameters := [.int, .int], returnType := none }, accessFlags := 0, code := some k2c0 }
def k2c1 : Code := { maxStack := 5, maxLocals := 1, code := prog_46_method_2_code, exceptionTable := #[], attributes := #[] }
def k2m1 : Method := { name := "advance", desc := "()V", sig := { parameters := [], returnType := none }, accessFlags := 0, code := some k2c1 }
def k2c2 : Code := { maxStack := 6, maxLocals := 6, code := prog_46_method_3_code, exceptionTable := #[], attributes := #[] }
def k2m2 : Method := { name := "forbidBefore", desc := "(III)V", sig := { parameters := [.int, .int, .int], returnType := none }, accessFlags := 0, code := some k2c2 }
def k2c3 : Code := { maxStack := 6, maxLocals := 6, code := prog_46_method_4_code, exceptionTable := #[], attributes := #[] }
def k2m3 : Method := { name := "forbidOn", desc := "(III)V", sig := { parameters := [.int, .int, .int], returnType := none }, accessFlags := 0, code := some k2c3 }
def k2c4 : Code := { maxStack := 4, maxLocals := 2, code := prog_46_method_5_code, exceptionTable := #[], attributes := #[] }
def k2m4 : Method := { name := "inPairs", desc := "(I)Z", sig := { parameters := [.int], returnType := some .boolean }, accessFlags := 0, code := some k2c4 }
def k2c5 : Code := { maxStack := 4, maxLocals := 6, code := prog_46_method_9_code, exceptionTable := #[], attributes := #[] }
def k2m5 : Method := { name := "put", desc := "(JJ)V", sig := { parameters := [.long, .long], returnType := none }, accessFlags := 2, code := some k2c5 }
def k2c6 : Code := { maxStack := 4, maxLocals := 5, code := prog_46_method_11_code, exceptionTable := #[], attributes := #[] }
def k2m6 : Method := { name := "slotOf", desc := "(J[J)I", sig := { parameters := [.long, (.array .long)], returnType := some .int }, accessFlags := 10, code := some k2c6 }
def k2c7 : Code := { maxStack := 3, maxLocals := 2, code := prog_46_method_12_code, exceptionTable := #[], attributes := #[] }
def k2m7 : Method := { name := "emptySlots", desc := "(I)[J", sig := { parameters := [.int], returnType := some (.array .long) }, accessFlags := 10, code := some k2c7 }
def k2c8 : Code := { maxStack := 4, maxLocals := 3, code := prog_46_method_13_code, exceptionTable := #[], attributes := #[] }
def k2m8 : Method := { name := "pairKey", desc := "(II)J", sig := { parameters := [.int, .int], returnType := some .long }, accessFlags := 2, code := some k2c8 }
def k2c9 : Code := { maxStack := 6, maxLocals := 3, code := prog_46_method_14_code, exceptionTable := #[], attributes := #[] }
def k2m9 : Method := { name := "machineKey", desc := "(II)J", sig := { parameters := [.int, .int], returnType := some .long }, accessFlags := 2, code := some k2c9 }
/-- com/example/paretoloom/paretoloom/TabuList -/
def k2 : Class := { plain "com/example/paretoloom/paretoloom/TabuList" (some 0) with
  accessFlags := 32
  interfaces := #[]
  cf := some (fileOf pool2 7 #[] #[{ accessFlags := 0, nameIndex := 5, descriptorIndex := 89, attributes := #[] }, { accessFlags := 0, nameIndex := 92, descriptorIndex := 6, attributes := #[] }, { accessFlags := 0, nameIndex := 94, descriptorIndex := 95, attributes := #[] }, { accessFlags := 0, nameIndex := 96, descriptorIndex := 95, attributes := #[] }, { accessFlags := 0, nameIndex := 97, descriptorIndex := 98, attributes := #[] }, { accessFlags := 2, nameIndex := 53, descriptorIndex := 54, attributes := #[] }, { accessFlags := 10, nameIndex := 70, descriptorIndex := 71, attributes := #[] }, { accessFlags := 10, nameIndex := 11, descriptorIndex := 12, attributes := #[] }, { accessFlags := 2, nameIndex := 49, descriptorIndex := 50, attributes := #[] }, { accessFlags := 2, nameIndex := 63, descriptorIndex := 50, attributes := #[] }] 32 2 #[] #[{ accessFlags := 26, nameIndex := 82, descriptorIndex := 23, attributes := #[] }, { accessFlags := 26, nameIndex := 85, descriptorIndex := 39, attributes := #[] }, { accessFlags := 26, nameIndex := 86, descriptorIndex := 39, attributes := #[] }, { accessFlags := 26, nameIndex := 87, descriptorIndex := 23, attributes := #[] }, { accessFlags := 18, nameIndex := 22, descriptorIndex := 23, attributes := #[] }, { accessFlags := 18, nameIndex := 26, descriptorIndex := 23, attributes := #[] }, { accessFlags := 18, nameIndex := 29, descriptorIndex := 16, attributes := #[] }, { accessFlags := 18, nameIndex := 32, descriptorIndex := 16, attributes := #[] }, { accessFlags := 18, nameIndex := 35, descriptorIndex := 16, attributes := #[] }, { accessFlags := 2, nameIndex := 15, descriptorIndex := 16, attributes := #[] }, { accessFlags := 2, nameIndex := 19, descriptorIndex := 16, attributes := #[] }, { accessFlags := 2, nameIndex := 42, descriptorIndex := 23, attributes := #[] }, { accessFlags := 2, nameIndex := 38, descriptorIndex := 39, attributes := #[] }])
  fields := #[{ name := "PRUNED_ABOVE", type := .int, accessFlags := 26, slot := 0, constantValue := 0 }, { name := "EMPTY", type := .long, accessFlags := 26, slot := 1, constantValue := 0 }, { name := "SPREAD", type := .long, accessFlags := 26, slot := 2, constantValue := 0 }, { name := "FEWEST_SLOTS", type := .int, accessFlags := 26, slot := 3, constantValue := 0 }, { name := "operations", type := .int, accessFlags := 18, slot := 0, constantValue := 0 }, { name := "machines", type := .int, accessFlags := 18, slot := 1, constantValue := 0 }, { name := "firstUntil", type := (.array .long), accessFlags := 18, slot := 2, constantValue := 0 }, { name := "secondUntil", type := (.array .long), accessFlags := 18, slot := 3, constantValue := 0 }, { name := "machineUntil", type := (.array .long), accessFlags := 18, slot := 4, constantValue := 0 }, { name := "keys", type := (.array .long), accessFlags := 2, slot := 5, constantValue := 0 }, { name := "until", type := (.array .long), accessFlags := 2, slot := 6, constantValue := 0 }, { name := "size", type := .int, accessFlags := 2, slot := 7, constantValue := 0 }, { name := "step", type := .long, accessFlags := 2, slot := 8, constantValue := 0 }]
  methods := #[k2m0, k2m1, k2m2, k2m3, k2m4, k2m5, k2m6, k2m7, k2m8, k2m9]
  instanceTypes := #[.int, .int, (.array .long), (.array .long), (.array .long), (.array .long), (.array .long), .int, .long]
  staticTypes := #[.int, .long, .long, .int]
  resolved := Array.replicate 105 none
  statics := none }

def pool3 : Array CpInfo := pool [(2, .class_ 4), (1, u "java/lang/Object"), (0, u "<init>"), (0, u "()V"), (7, .class_ 16), (1, u "java/util/Arrays"), (57, .class_ 76), (1, u "java/util/Arrays$NaturalOrder"), (36, .class_ 115), (1, u "java/util/Arrays$LegacyMergeSort"), (1, u "Z"), (257, .class_ 376), (0, u "java/util/Arrays$ArrayList"), (68, u "$assertionsDisabled"), (269, u "MIN_ARRAY_SORT_GRAN"), (0, u "I"), (2, u "INSERTIONSORT_THRESHOLD"), (120, u "fill"), (0, u "([JJ)V"), (133, .class_ 976), (0, u "java/util/Arrays$ArrayItr")] 52

def k3m0 : Method := { name := "<init>", desc := "()V", sig := { parameters := [], returnType := none }, accessFlags := 2, code := none }
def k3c1 : Code := { maxStack := 4, maxLocals := 5, code := jdk_65_method_101_code, exceptionTable := #[], attributes := #[] }
def k3m1 : Method := { name := "fill", desc := "([JJ)V", sig := { parameters := [(.array .long), .long], returnType := none }, accessFlags := 9, code := some k3c1 }
/-- java/util/Arrays -/
def k3 : Class := { plain "java/util/Arrays" (some 0) with
  accessFlags := 49
  interfaces := #[]
  cf := some (fileOf pool3 14 #[.nestMembers #[975, 375, 113, 74]] #[{ accessFlags := 2, nameIndex := 5, descriptorIndex := 6, attributes := #[] }, { accessFlags := 9, nameIndex := 840, descriptorIndex := 841, attributes := #[] }] 49 2 #[] #[{ accessFlags := 26, nameIndex := 715, descriptorIndex := 716, attributes := #[] }, { accessFlags := 26, nameIndex := 719, descriptorIndex := 716, attributes := #[] }, { accessFlags := 4120, nameIndex := 445, descriptorIndex := 117, attributes := #[] }])
  fields := #[{ name := "MIN_ARRAY_SORT_GRAN", type := .int, accessFlags := 26, slot := 0, constantValue := 0 }, { name := "INSERTIONSORT_THRESHOLD", type := .int, accessFlags := 26, slot := 1, constantValue := 0 }, { name := "$assertionsDisabled", type := .boolean, accessFlags := 4120, slot := 2, constantValue := 0 }]
  methods := #[k3m0, k3m1]
  instanceTypes := #[]
  staticTypes := #[.int, .int, .boolean]
  resolved := Array.replicate 1029 none
  statics := none }

def pool4 : Array CpInfo := pool [(1, .class_ 2), (0, u "java/lang/Math"), (1, .class_ 6), (1, u "java/lang/Object"), (0, u "<init>"), (0, u "()V"), (89, .class_ 100), (1, u "java/lang/Math$RandomNumberGeneratorHolder"), (20, u "(JJ)J"), (50, u "negativeZeroFloatBits"), (0, u "J"), (2, u "negativeZeroDoubleBits"), (21, u "max"), (46, u "$assertionsDisabled"), (0, u "Z"), (91, u "twoToTheDoubleScaleDown"), (0, u "D"), (4, u "twoToTheDoubleScaleUp"), (9, u "E"), (3, u "PI"), (2, u "TAU"), (2, u "DEGREES_TO_RADIANS"), (0, u "RADIANS_TO_DEGREES")] 94

def k4m0 : Method := { name := "<init>", desc := "()V", sig := { parameters := [], returnType := none }, accessFlags := 2, code := none }
def k4c1 : Code := { maxStack := 4, maxLocals := 4, code := jdk_29_method_66_code, exceptionTable := #[], attributes := #[] }
def k4m1 : Method := { name := "max", desc := "(JJ)J", sig := { parameters := [.long, .long], returnType := some .long }, accessFlags := 9, code := some k4c1 }
/-- java/lang/Math -/
def k4 : Class := { plain "java/lang/Math" (some 0) with
  accessFlags := 49
  interfaces := #[]
  cf := some (fileOf pool4 1 #[.nestMembers #[98]] #[{ accessFlags := 2, nameIndex := 7, descriptorIndex := 8, attributes := #[] }, { accessFlags := 9, nameIndex := 198, descriptorIndex := 121, attributes := #[] }] 49 4 #[] #[{ accessFlags := 25, nameIndex := 354, descriptorIndex := 339, attributes := #[] }, { accessFlags := 25, nameIndex := 358, descriptorIndex := 339, attributes := #[] }, { accessFlags := 25, nameIndex := 361, descriptorIndex := 339, attributes := #[] }, { accessFlags := 26, nameIndex := 364, descriptorIndex := 339, attributes := #[] }, { accessFlags := 26, nameIndex := 365, descriptorIndex := 339, attributes := #[] }, { accessFlags := 26, nameIndex := 172, descriptorIndex := 173, attributes := #[] }, { accessFlags := 26, nameIndex := 176, descriptorIndex := 173, attributes := #[] }, { accessFlags := 8, nameIndex := 344, descriptorIndex := 339, attributes := #[] }, { accessFlags := 8, nameIndex := 338, descriptorIndex := 339, attributes := #[] }, { accessFlags := 4120, nameIndex := 245, descriptorIndex := 246, attributes := #[] }])
  fields := #[{ name := "E", type := .double, accessFlags := 25, slot := 0, constantValue := 0 }, { name := "PI", type := .double, accessFlags := 25, slot := 1, constantValue := 0 }, { name := "TAU", type := .double, accessFlags := 25, slot := 2, constantValue := 0 }, { name := "DEGREES_TO_RADIANS", type := .double, accessFlags := 26, slot := 3, constantValue := 0 }, { name := "RADIANS_TO_DEGREES", type := .double, accessFlags := 26, slot := 4, constantValue := 0 }, { name := "negativeZeroFloatBits", type := .long, accessFlags := 26, slot := 5, constantValue := 0 }, { name := "negativeZeroDoubleBits", type := .long, accessFlags := 26, slot := 6, constantValue := 0 }, { name := "twoToTheDoubleScaleUp", type := .double, accessFlags := 8, slot := 7, constantValue := 0 }, { name := "twoToTheDoubleScaleDown", type := .double, accessFlags := 8, slot := 8, constantValue := 0 }, { name := "$assertionsDisabled", type := .boolean, accessFlags := 4120, slot := 9, constantValue := 0 }]
  methods := #[k4m0, k4m1]
  instanceTypes := #[]
  staticTypes := #[.double, .double, .double, .double, .double, .long, .long, .double, .double, .boolean]
  resolved := Array.replicate 460 none
  statics := none }

def pool5 : Array CpInfo := pool [(1, u "java/lang/Cloneable"), (0, .class_ 1), (0, u "java/lang/Object"), (0, .class_ 3)] 3

/-- java/lang/Cloneable -/
def k5 : Class := { plain "java/lang/Cloneable" (some 0) with
  accessFlags := 1537
  interfaces := #[]
  cf := some (fileOf pool5 2 #[] #[] 1537 4 #[] #[])
  fields := #[]
  methods := #[]
  instanceTypes := #[]
  staticTypes := #[]
  resolved := Array.replicate 8 none
  statics := none }

def pool6 : Array CpInfo := pool [(1, u "java/io/Serializable"), (0, .class_ 1), (0, u "java/lang/Object"), (0, .class_ 3)] 3

/-- java/io/Serializable -/
def k6 : Class := { plain "java/io/Serializable" (some 0) with
  accessFlags := 1537
  interfaces := #[]
  cf := some (fileOf pool6 2 #[] #[] 1537 4 #[] #[])
  fields := #[]
  methods := #[]
  instanceTypes := #[]
  staticTypes := #[]
  resolved := Array.replicate 8 none
  statics := none }

/-- the primitive byte -/
def k7 : Class := { plain "byte" none with kind := .primitive 'B', accessFlags := 0x411 }
/-- [B -/
def k8 : Class := { plain "[B" (some 0) with kind := .array 7 .byte, interfaces := #[5, 6], accessFlags := 1041 }

/-- the primitive int -/
def k9 : Class := { plain "int" none with kind := .primitive 'I', accessFlags := 0x411 }
/-- [I -/
def k10 : Class := { plain "[I" (some 0) with kind := .array 9 .int, interfaces := #[5, 6], accessFlags := 1041 }

/-- the primitive long -/
def k11 : Class := { plain "long" none with kind := .primitive 'J', accessFlags := 0x411 }
/-- [J -/
def k12 : Class := { plain "[J" (some 0) with kind := .array 11 .long, interfaces := #[5, 6], accessFlags := 1041 }

def heap : Heap := #[]
def classes : Array Class := #[k0, k1, k2, k3, k4, k5, k6, k7, k8, k9, k10, k11, k12]
def interned : List (Array UInt16 × Addr) := []
def slotsUsed : Nat := 0
def theMethod : MethodId := ⟨1, 1⟩
def args0 : Array Value := #[.int 1, .int 2, .int 3, .int 4, .int 5, .int 6]
def aboutOver (below : List Frame) : State where
  vm := { classes := classes, interned := interned.toArray }
  heap := heap
  slotsUsed := slotsUsed
  threads := #[{ frames := .invoking theMethod args0 :: below }]
def below0 : List Frame := [.native { method := ⟨0, 0⟩, args := #[] }]
def about1 : State := aboutOver below0
def p0 : Program := .bare "" "" ""
def e0 : Env := launch0.env 0 0 0
theorem w_frames : about1.frames = Frame.invoking theMethod args0 :: below0 := rfl
set_option maxRecDepth 65536 in
theorem w_args : argsFit about1.vm theMethod args0 = true := by decide +kernel
set_option maxRecDepth 65536 in
theorem w_heap : heapFits about1 = true := by decide +kernel
set_option maxRecDepth 65536 in
theorem w_runnable : about1.curStatus? = some .runnable := by decide +kernel
set_option maxRecDepth 65536 in
theorem w_alone : about1.alone = true := by decide +kernel
set_option maxRecDepth 65536 in
theorem w_named : about1.methodNamed? x = some theMethod := by decide +kernel
set_option maxRecDepth 65536 in
theorem w_hears : about1.hears theMethod below0 = true := by decide +kernel
set_option maxRecDepth 65536 in
theorem w_ripe : about1.ripe theMethod args0 below0 = true := by decide +kernel
theorem w_running : about1.status = .running := rfl
set_option maxRecDepth 65536 in
theorem w_room : about1.hasRoom e0.platform room_1 = true :=
  launch0.hasRoom_least _ room_1 (by decide +kernel) (by decide +kernel) (by decide +kernel) (by decide +kernel) (by decide +kernel) (by decide +kernel)
theorem allAtoms_all (ts : List Jvm.Cond) (a : Array Jvm.Value) (st : Jvm.State) : (allAtoms ts).before a st = ts.all (fun c => c.before a st) := by
  induction ts with
  | nil => rfl
  | cons c t ih =>
    show (Jvm.Cond.and c (allAtoms t)).before a st = _
    rw [Jvm.Cond.before_and, ih, List.all_cons]
def words1 : List Jvm.Cond := Jvm.Cond.code x code maxLocals ret :: tables_1
/-- a 'code' word, met by the world's own term for the bytes: nothing is compared byte by byte -/
theorem code_word {y : MethodName} {bytes : ByteArray} {mx : Nat} {rt : Option FieldType} {a : Array Value} {s : State} {m : MethodId} {meth : Method} {c : Code} (h1 : s.methodNamed? y = some m) (h2 : s.vm.method? m = some meth) (h3 : meth.code = some c) (h4 : c.code = bytes)
    (h5 : (c.maxLocals == mx && c.exceptionTable.isEmpty && decide (c.maxStack ≤ mostOperands) && decide (meth.sig.returnType = rt) && !meth.locks && decide (parseMethodDescriptor y.desc = some meth.sig)) = true) : (Jvm.Cond.code y bytes mx rt).before a s = true := by
  simp only [Bool.and_eq_true, beq_iff_eq, Bool.not_eq_true', decide_eq_true_eq] at h5
  obtain ⟨⟨⟨⟨⟨g1, g2⟩, g3⟩, g4⟩, g5⟩, g6⟩ := h5
  simp [Cond.before, Cond.holds, Cond.value, h1, h2, h3, h4, g1, g2, g3, g4, g5, g6]
def isCode : Jvm.Cond → Bool
  | .code _ _ _ _ => true
  | _ => false
theorem all_split {L : List Jvm.Cond} {P : Jvm.Cond → Bool} (h1 : L.all (fun c => isCode c || P c) = true) (h2 : ∀ c ∈ L.filter isCode, P c = true) : L.all P = true := by
  refine List.all_eq_true.mpr fun c hc => ?_
  have h := List.all_eq_true.mp h1 c hc
  rcases Bool.eq_false_or_eq_true (isCode c) with hi | hi
  · exact h2 c (List.mem_filter.mpr ⟨hc, hi⟩)
  · simpa [hi] using h
set_option maxRecDepth 65536 in
theorem w_c0 : (Jvm.Cond.code x code maxLocals ret).before args0 about1 = true := code_word (m := ⟨1, 1⟩) (meth := k1m1) (c := k1c1) (by decide +kernel) rfl rfl rfl (by decide +kernel)
set_option maxRecDepth 65536 in
theorem w_c1 : (Jvm.Cond.code ({ cls := "com/example/paretoloom/paretoloom/TabuList", name := "<init>", desc := "(II)V" } : Jvm.MethodName) prog_46_method_1_code (3 : Nat) (Option.none : Option Jvm.ClassFile.FieldType)).before args0 about1 = true := code_word (m := ⟨2, 0⟩) (meth := k2m0) (c := k2c0) (by decide +kernel) rfl rfl rfl (by decide +kernel)
set_option maxRecDepth 65536 in
theorem w_c2 : (Jvm.Cond.code ({ cls := "java/lang/Object", name := "<init>", desc := "()V" } : Jvm.MethodName) object_method_1_code (1 : Nat) (Option.none : Option Jvm.ClassFile.FieldType)).before args0 about1 = true := code_word (m := ⟨0, 0⟩) (meth := k0m0) (c := k0c0) (by decide +kernel) rfl rfl rfl (by decide +kernel)
set_option maxRecDepth 65536 in
theorem w_c3 : (Jvm.Cond.code ({ cls := "com/example/paretoloom/paretoloom/TabuList", name := "emptySlots", desc := "(I)[J" } : Jvm.MethodName) prog_46_method_12_code (2 : Nat) (Option.some (Jvm.ClassFile.FieldType.array Jvm.ClassFile.FieldType.long))).before args0 about1 = true := code_word (m := ⟨2, 7⟩) (meth := k2m7) (c := k2c7) (by decide +kernel) rfl rfl rfl (by decide +kernel)
set_option maxRecDepth 65536 in
theorem w_c4 : (Jvm.Cond.code ({ cls := "java/util/Arrays", name := "fill", desc := "([JJ)V" } : Jvm.MethodName) jdk_65_method_101_code (5 : Nat) (Option.none : Option Jvm.ClassFile.FieldType)).before args0 about1 = true := code_word (m := ⟨3, 1⟩) (meth := k3m1) (c := k3c1) (by decide +kernel) rfl rfl rfl (by decide +kernel)
set_option maxRecDepth 65536 in
theorem w_c5 : (Jvm.Cond.code ({ cls := "com/example/paretoloom/paretoloom/TabuList", name := "forbidBefore", desc := "(III)V" } : Jvm.MethodName) prog_46_method_3_code (6 : Nat) (Option.none : Option Jvm.ClassFile.FieldType)).before args0 about1 = true := code_word (m := ⟨2, 2⟩) (meth := k2m2) (c := k2c2) (by decide +kernel) rfl rfl rfl (by decide +kernel)
set_option maxRecDepth 65536 in
theorem w_c6 : (Jvm.Cond.code ({ cls := "com/example/paretoloom/paretoloom/TabuList", name := "pairKey", desc := "(II)J" } : Jvm.MethodName) prog_46_method_13_code (3 : Nat) (Option.some Jvm.ClassFile.FieldType.long)).before args0 about1 = true := code_word (m := ⟨2, 8⟩) (meth := k2m8) (c := k2c8) (by decide +kernel) rfl rfl rfl (by decide +kernel)
set_option maxRecDepth 65536 in
theorem w_c7 : (Jvm.Cond.code ({ cls := "com/example/paretoloom/paretoloom/TabuList", name := "put", desc := "(JJ)V" } : Jvm.MethodName) prog_46_method_9_code (6 : Nat) (Option.none : Option Jvm.ClassFile.FieldType)).before args0 about1 = true := code_word (m := ⟨2, 5⟩) (meth := k2m5) (c := k2c5) (by decide +kernel) rfl rfl rfl (by decide +kernel)
set_option maxRecDepth 65536 in
theorem w_c8 : (Jvm.Cond.code ({ cls := "com/example/paretoloom/paretoloom/TabuList", name := "slotOf", desc := "(J[J)I" } : Jvm.MethodName) prog_46_method_11_code (5 : Nat) (Option.some Jvm.ClassFile.FieldType.int)).before args0 about1 = true := code_word (m := ⟨2, 6⟩) (meth := k2m6) (c := k2c6) (by decide +kernel) rfl rfl rfl (by decide +kernel)
set_option maxRecDepth 65536 in
theorem w_c9 : (Jvm.Cond.code ({ cls := "java/lang/Math", name := "max", desc := "(JJ)J" } : Jvm.MethodName) jdk_29_method_66_code (4 : Nat) (Option.some Jvm.ClassFile.FieldType.long)).before args0 about1 = true := code_word (m := ⟨4, 1⟩) (meth := k4m1) (c := k4c1) (by decide +kernel) rfl rfl rfl (by decide +kernel)
set_option maxRecDepth 65536 in
theorem w_c10 : (Jvm.Cond.code ({ cls := "com/example/paretoloom/paretoloom/TabuList", name := "inPairs", desc := "(I)Z" } : Jvm.MethodName) prog_46_method_5_code (2 : Nat) (Option.some Jvm.ClassFile.FieldType.boolean)).before args0 about1 = true := code_word (m := ⟨2, 4⟩) (meth := k2m4) (c := k2c4) (by decide +kernel) rfl rfl rfl (by decide +kernel)
set_option maxRecDepth 65536 in
theorem w_c11 : (Jvm.Cond.code ({ cls := "com/example/paretoloom/paretoloom/TabuList", name := "forbidOn", desc := "(III)V" } : Jvm.MethodName) prog_46_method_4_code (6 : Nat) (Option.none : Option Jvm.ClassFile.FieldType)).before args0 about1 = true := code_word (m := ⟨2, 3⟩) (meth := k2m3) (c := k2c3) (by decide +kernel) rfl rfl rfl (by decide +kernel)
set_option maxRecDepth 65536 in
theorem w_c12 : (Jvm.Cond.code ({ cls := "com/example/paretoloom/paretoloom/TabuList", name := "machineKey", desc := "(II)J" } : Jvm.MethodName) prog_46_method_14_code (3 : Nat) (Option.some Jvm.ClassFile.FieldType.long)).before args0 about1 = true := code_word (m := ⟨2, 9⟩) (meth := k2m9) (c := k2c9) (by decide +kernel) rfl rfl rfl (by decide +kernel)
set_option maxRecDepth 65536 in
theorem w_c13 : (Jvm.Cond.code ({ cls := "com/example/paretoloom/paretoloom/TabuList", name := "advance", desc := "()V" } : Jvm.MethodName) prog_46_method_2_code (1 : Nat) (Option.none : Option Jvm.ClassFile.FieldType)).before args0 about1 = true := code_word (m := ⟨2, 1⟩) (meth := k2m1) (c := k2c1) (by decide +kernel) rfl rfl rfl (by decide +kernel)
def codes1 : List Jvm.Cond := [Jvm.Cond.code x code maxLocals ret, Jvm.Cond.code ({ cls := "com/example/paretoloom/paretoloom/TabuList", name := "<init>", desc := "(II)V" } : Jvm.MethodName) prog_46_method_1_code (3 : Nat) (Option.none : Option Jvm.ClassFile.FieldType), Jvm.Cond.code ({ cls := "java/lang/Object", name := "<init>", desc := "()V" } : Jvm.MethodName) object_method_1_code (1 : Nat) (Option.none : Option Jvm.ClassFile.FieldType), Jvm.Cond.code ({ cls := "com/example/paretoloom/paretoloom/TabuList", name := "emptySlots", desc := "(I)[J" } : Jvm.MethodName) prog_46_method_12_code (2 : Nat) (Option.some (Jvm.ClassFile.FieldType.array Jvm.ClassFile.FieldType.long)), Jvm.Cond.code ({ cls := "java/util/Arrays", name := "fill", desc := "([JJ)V" } : Jvm.MethodName) jdk_65_method_101_code (5 : Nat) (Option.none : Option Jvm.ClassFile.FieldType), Jvm.Cond.code ({ cls := "com/example/paretoloom/paretoloom/TabuList", name := "forbidBefore", desc := "(III)V" } : Jvm.MethodName) prog_46_method_3_code (6 : Nat) (Option.none : Option Jvm.ClassFile.FieldType), Jvm.Cond.code ({ cls := "com/example/paretoloom/paretoloom/TabuList", name := "pairKey", desc := "(II)J" } : Jvm.MethodName) prog_46_method_13_code (3 : Nat) (Option.some Jvm.ClassFile.FieldType.long), Jvm.Cond.code ({ cls := "com/example/paretoloom/paretoloom/TabuList", name := "put", desc := "(JJ)V" } : Jvm.MethodName) prog_46_method_9_code (6 : Nat) (Option.none : Option Jvm.ClassFile.FieldType), Jvm.Cond.code ({ cls := "com/example/paretoloom/paretoloom/TabuList", name := "slotOf", desc := "(J[J)I" } : Jvm.MethodName) prog_46_method_11_code (5 : Nat) (Option.some Jvm.ClassFile.FieldType.int), Jvm.Cond.code ({ cls := "java/lang/Math", name := "max", desc := "(JJ)J" } : Jvm.MethodName) jdk_29_method_66_code (4 : Nat) (Option.some Jvm.ClassFile.FieldType.long), Jvm.Cond.code ({ cls := "com/example/paretoloom/paretoloom/TabuList", name := "inPairs", desc := "(I)Z" } : Jvm.MethodName) prog_46_method_5_code (2 : Nat) (Option.some Jvm.ClassFile.FieldType.boolean), Jvm.Cond.code ({ cls := "com/example/paretoloom/paretoloom/TabuList", name := "forbidOn", desc := "(III)V" } : Jvm.MethodName) prog_46_method_4_code (6 : Nat) (Option.none : Option Jvm.ClassFile.FieldType), Jvm.Cond.code ({ cls := "com/example/paretoloom/paretoloom/TabuList", name := "machineKey", desc := "(II)J" } : Jvm.MethodName) prog_46_method_14_code (3 : Nat) (Option.some Jvm.ClassFile.FieldType.long), Jvm.Cond.code ({ cls := "com/example/paretoloom/paretoloom/TabuList", name := "advance", desc := "()V" } : Jvm.MethodName) prog_46_method_2_code (1 : Nat) (Option.none : Option Jvm.ClassFile.FieldType)]
set_option maxRecDepth 65536 in
theorem codes_eq : words1.filter isCode = codes1 := rfl
theorem w_codes : ∀ c ∈ words1.filter isCode, c.before args0 about1 = true := by
  rw [codes_eq]
  intro c hc
  simp only [codes1, List.mem_cons, List.not_mem_nil, or_false] at hc
  rcases hc with rfl | rfl | rfl | rfl | rfl | rfl | rfl | rfl | rfl | rfl | rfl | rfl | rfl | rfl
  · exact w_c0
  · exact w_c1
  · exact w_c2
  · exact w_c3
  · exact w_c4
  · exact w_c5
  · exact w_c6
  · exact w_c7
  · exact w_c8
  · exact w_c9
  · exact w_c10
  · exact w_c11
  · exact w_c12
  · exact w_c13
set_option maxRecDepth 65536 in
theorem w_t1 : (words1.take 24).all (fun c => isCode c || c.before args0 about1) = true := by decide +kernel
set_option maxRecDepth 65536 in
theorem w_t2 : ((words1.drop 24).take 24).all (fun c => isCode c || c.before args0 about1) = true := by decide +kernel
set_option maxRecDepth 65536 in
theorem w_t3 : (((words1.drop 24).drop 24).take 24).all (fun c => isCode c || c.before args0 about1) = true := by decide +kernel
set_option maxRecDepth 65536 in
theorem w_t4 : (((words1.drop 24).drop 24).drop 24).all (fun c => isCode c || c.before args0 about1) = true := by decide +kernel
theorem w_tables : (allAtoms (Jvm.Cond.code x code maxLocals ret :: tables_1)).before args0 about1 = true := by
  rw [allAtoms_all]
  show words1.all (fun c => c.before args0 about1) = true
  refine all_split ?_ w_codes
  rw [← List.take_append_drop 24 words1, List.all_append, w_t1, ← List.take_append_drop 24 (words1.drop 24), List.all_append, w_t2, ← List.take_append_drop 24 ((words1.drop 24).drop 24), List.all_append, w_t3, w_t4]
  rfl
set_option maxRecDepth 65536 in
theorem w_case : (Jvm.Cond.and given_1 narrow_1).before args0 about1 = true := by decide +kernel
theorem w_applies : (headSpec (Jvm.Cond.code x code maxLocals ret :: tables_1) room_1).applies x e0.platform about1 = true :=
  (Spec.applies_iff w_frames).mpr ⟨w_running, w_runnable, w_alone, w_named, w_hears, w_ripe, w_room, w_tables⟩
theorem atStart : AtStart classFile x code maxLocals ret World_1 tables_1 room_1 Calls_1 rest_1 Pre_1 launch0 p0 e0 about1 theMethod args0 below0 :=
  ⟨lists_1, trivial, launch0.admits_env _ _ _, launch0.least_env, fairChoices_fair.cas, fairChoices_fair.clock, w_frames, w_args, w_heap, w_applies, trivial, trivial, w_case⟩
end start1
theorem witness_1 : WitnessClaimed_1 := ⟨start1.p0, start1.e0, start1.about1, start1.theMethod, start1.args0, start1.below0, start1.atStart⟩
end Jvm.Pilot.@@N@@
