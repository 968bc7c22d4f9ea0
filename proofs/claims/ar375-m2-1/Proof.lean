import JvmDerived
import JvmDerived.Pilot.@@N@@Statement
import JvmDerived.Pilot.@@N@@Code
set_option linter.unusedVariables false
set_option linter.unusedSimpArgs false
namespace Jvm.RoadKit
open Sem ClassFile Op Lib Jvm.Stand Jvm.Free Jvm.LawKit
section New
variable {p : Program} {l : Launch} {e : Env} {R : Room} {s : State} {m : MethodId} {args : Array Value} {below : List Frame} {meth : Method} {c : Code} {T : State} {locs : List Loc} {cells slots : Nat}
theorem retI (X : Stand p l e R s m args below meth c T locs cells slots) (hx : p.tables.exec = Jvm.exec) {pc : Nat} {Ls : Array Slot} {z : Int32} {rest : List Value} (hret : meth.sig.returnType = some .int) (hd : decode c.code pc = .ok (.ireturn, 1)) {fs : List Frame}
    (hl : ∀ (f : JFrame) (acts : List Action), f.method = m → f.locked = none → f.entered = [] → (doReturn e (T.setTop f) acts (some (.int z))).1 = T.setFrames fs) : Steps p.tables e below (T.setTop (mkF m pc Ls (.int z :: rest))) (T.setFrames fs) := by
  have hm' : T.vm.method? m = some meth := X.method'
  have hn : narrow .int (.int z) = .int z := rfl
  show Steps p.tables e below (T.setTop { method := m, pc := pc, locals := Ls, stack := _ :: rest, locked := none }) _
  jvm_step X.here [X.here.top, hx, hd, hm', hret, hn]
  first | (intro acts; rw [hl _ acts rfl rfl rfl]) | rw [hl _ _ rfl rfl rfl]
  exact Steps.refl _
end New
end Jvm.RoadKit
namespace Jvm.Pilot.@@N@@
open Jvm Jvm.ClassFile Sem Op Lib Jvm.Free Jvm.Stand Jvm.LawKit Jvm.RoadKit Bundle Jvm.Pilot.@@N@@.Jvm.D
theorem own_refBack {p : Program} {l : Launch} {e : Env} {R : Room} {s : State} {m : MethodId} {args : Array Value} {below : List Frame} {meth : Method} {c : Code} {T : State} {locs : List Loc} {cells slots : Nat} {Z : State} {a0 : Array Value}
    (X : Stand p l e R s m args below meth c T locs cells slots) (hexec : p.tables.exec = Jvm.exec) {own : String} {index : Nat} {y : MethodName} (hy1 : y.name = "<init>")
    (hown : s.vm.findClass own = some m.cls) (hZ : Z.Warmed39 s.vm) (href : (Cond.methodRef own index y).before a0 Z = true) (hinst : (Cond.instanceMethod y).before args s = true)
    {bytes : ByteArray} {maxL : Nat} (hcode : (Cond.code y bytes maxL none).before args s = true)
    (hy : y.cls ≠ "java/lang/invoke/MethodHandle" ∧ y.cls ≠ "java/lang/invoke/VarHandle")
    {W : Nat} {Pre : Pt → Array Value → Prop} {Post : Pt → Array Value → Option Value → Pt → Prop} (hK : Back l R p e below s args y 3 W Pre Post)
    {g : JFrame} (hg : g.method = m) (hsize : g.locals.size = c.maxLocals) {s₀ : State} (hcome : Steps p.tables e below s₀ (T.setTop g)) {a : Addr} {argsL rest : List Value}
    (hlen : ∀ sig, parseMethodDescriptor y.desc = some sig → argsL.length = sig.parameters.length) (hstack : g.stack = argsL.reverse ++ .ref a :: rest) (hW : 2 * g.monitorRoom + (rest.map fun v => v.category).sum ≤ W)
    (hdg : decode c.code g.pc = .ok (.invokespecial index, 3)) (hpre : ∀ vm₁, s.WarmedH vm₁ → Pre ⟨T.setVm vm₁, locs, cells, slots⟩ (.ref a :: argsL).toArray) :
    ∃ (v : Option Value) (vm₁ : Vm) (B : Pt), s.WarmedH vm₁ ∧ Stand p l e R s m args below meth c B.U B.locs B.cells B.slots ∧ Post ⟨T.setVm vm₁, locs, cells, slots⟩ (.ref a :: argsL).toArray v B ∧
      Steps p.tables e below s₀ (B.U.setTop { g with pc := g.pc + 3, stack := v.toList ++ rest }) := by
  obtain ⟨mk, methM, hnamed, hmethM, hstM, habM⟩ := Cond.instanceMethod_spec hinst
  obtain ⟨methM', cM, hmethM', -, -, -, -, -, -, hsigM⟩ := Cond.code_spec hnamed hcode
  cases hmethM.symm.trans hmethM'
  have hWT := X.warmed
  have hZT : Z.Warmed39 T.vm := wtrans hZ hWT
  have hnT : (Z.setVm T.vm).methodNamed? y = some mk := by
    have q : (s.setVm T.vm).methodNamed? y = some mk := by rw [State.methodNamed?_setVm hWT.alike]; exact hnamed
    exact q
  have hnZ : Z.methodNamed? y = some mk := by
    have q := State.methodNamed?_setVm (s := Z) hZT.alike (x := y)
    rw [hnT] at q; exact q.symm
  have hr := Cond.methodRef_warmed39 hZT hnZ hy href
  have hownT : (Z.setVm T.vm).vm.findClass own = some m.cls := by
    show T.vm.findClass own = some m.cls
    rw [hWT.alike.findClass]; exact hown
  obtain ⟨m', c', hf, hready, hfind, hnr⟩ := Cond.methodRef_named e (s := Z.setVm T.vm) hownT hr
  have hf' := State.methodFound?_of_named hnT hy
  cases hf.symm.trans hf'
  have hc' := findClass_of_methodNamed hnT
  cases hfind.symm.trans hc'
  obtain ⟨kO, hkO, hnameO⟩ := className_of_methodNamed hnT
  obtain ⟨hnameMO, hdescO⟩ := name_of_methodNamed hnamed hmethM
  have hmT : T.vm.method? mk = some methM := by rw [hWT.alike.method?]; exact hmethM
  have hfound : lookupSpecial T.vm mk.cls "<init>" methM.desc = .method mk := by
    rw [hdescO, ← hy1]; exact lookupSpecial_of_named (s := Z.setVm T.vm) hnT hmT hstM
  obtain ⟨v, B, X', hpost, hsteps⟩ := hK m meth c ⟨T, locs, cells, slots⟩ { g with stack := rest } (.invokespecial index) mk (.ref a :: argsL).toArray X hg hsize hdg hW (X.named hnamed) (by have q := hpre T.vm hWT; rwa [State.setVm_self] at q)
  refine ⟨v, T.vm, B, hWT, X', by rw [State.setVm_self]; exact hpost, hcome.trans ?_⟩
  have hst : Steps p.tables e below (T.setTop g) (B.U.setTop { g with pc := g.pc + 3, stack := v.toList ++ rest }) := by
    subst hg
    jvm_step X.here [hexec, hdg, invokespecial.wp_init (e := e) (s := T) (k := kO) (meth := methM) (m := mk) (a := a) (args := argsL) (rest := rest) (f := g) X.here.top hnr hready hkO hmT (by rw [hnameMO]; exact hy1) hstM habM hfound (hlen _ hsigM) hstack]
    first | (intro acts; rw [doInvoke_state]; exact hsteps) | (rw [doInvoke_state]; exact hsteps)
  exact hst
theorem own_sel {Z : State} {a0 : Array Value} {n : Nat} {y : MethodName} (hy : y.cls ≠ "java/lang/invoke/MethodHandle" ∧ y.cls ≠ "java/lang/invoke/VarHandle") (h2 : (Cond.instanceMethod y).before a0 Z = true) (h3 : (Cond.privateMethod y).before a0 Z = true) (h4 : (Cond.instantiable y.cls n).before a0 Z = true) : (Cond.selects y.cls y y).before a0 Z = true := by
  obtain ⟨mk, meth, hn, hm, hst, hab⟩ := Cond.instanceMethod_spec h2
  obtain ⟨c, k, i1, i2, i3, i4, -⟩ := Cond.instantiable_spec h4
  have hc := findClass_of_methodNamed hn
  cases i1.symm.trans hc
  have hf := State.methodFound?_of_named hn hy
  have hp := Cond.privateMethod_at h3 mk meth hn hm
  have hi : k.isInterface = false := by
    cases q : k.isInterface
    · rfl
    · rw [q] at i4; simp at i4
  simp [Cond.before, Cond.holds, Cond.value, hc, hf, hn, selectMethod_private hm hp, i2, hi]
theorem own_toInt {i : Nat} (h : i ≤ 1000) : (Int32.ofNat i).toInt = i := Int32.toInt_ofNat_of_lt (by omega)
theorem own_n32 {i : Nat} (h : i ≤ 1000) : (Int32.ofNat i).toNatClampNeg = i := by rw [Int32.toNatClampNeg, own_toInt h]; rfl
theorem own_nn {i : Nat} (h : i ≤ 1000) : ¬ Int32.ofNat i < 0 := fun q => by
  rw [Int32.lt_iff_toInt_lt, own_toInt h, show (0 : Int32).toInt = 0 from rfl] at q; omega
theorem own_inj {i j : Nat} (hi : i ≤ 1000) (hj : j ≤ 1000) : Int32.ofNat i = Int32.ofNat j ↔ i = j :=
  ⟨fun q => by have q' := congrArg Int32.toInt q; rw [own_toInt hi, own_toInt hj] at q'; omega, fun q => by rw [q]⟩
theorem own_lt {i j : Nat} (hi : i ≤ 1000) (hj : j ≤ 1000) : Int32.ofNat i < Int32.ofNat j ↔ i < j := by
  rw [Int32.lt_iff_toInt_lt, own_toInt hi, own_toInt hj]; omega
theorem own_rd {Z : State} {h : Heap} {a : Addr} {k : ClassId} {n : Nat} {vs : List Value} {dv w : Value} (hn : n ≤ 1000) (F : Arv Z h a k .byte (Int32.ofNat n) vs dv) (i : Nat) (hi : i < n) (hv : vs.getD i dv = w) :
    ∃ cl : Cell, Arr Z h a cl .byte ∧ ¬ (Int32.ofNat i < 0 ∨ cl.slots.size ≤ (Int32.ofNat i).toNatClampNeg) ∧ cl.slots[(Int32.ofNat i).toNatClampNeg]? = some w := by
  obtain ⟨cl, A, -, S, -, H, -⟩ := F
  rw [own_n32 hn] at S
  refine ⟨cl, A, fun q => ?_, ?_⟩
  · rcases q with q | q
    · exact own_nn (by omega) q
    · rw [own_n32 (by omega)] at q; omega
  · rw [own_n32 (by omega), H i (by omega), hv]
theorem own_st {Z : State} {h h' : Heap} {a : Addr} {k : ClassId} {n : Nat} {vs : List Value} {dv : Value} (hn : n ≤ 1000) (F : Arv Z h a k .byte (Int32.ofNat n) vs dv) (i : Nat) (hi : i < n) (hl : i < vs.length) {x : Int32}
    (W : Wr h h' a (Int32.ofNat i).toNatClampNeg (.int (nar .byte x))) : Arv Z h' a k .byte (Int32.ofNat n) (vs.set i (.int (nar .byte x))) dv := by
  obtain ⟨cl, A, q, S, M, H, G⟩ := F
  exact Arv.set A q S M H G (fits_nar_byte _) W i (own_n32 (by omega)) hl
theorem own_lenOf {Z : State} {h : Heap} {a : Addr} {k : ClassId} {n : Int32} {vs : List Value} {dv : Value} (F : Arv Z h a k .byte n vs dv) :
    ∃ cl : Cell, Arr Z h a cl .byte ∧ cl.slots.size = n.toNatClampNeg ∧ ¬ n < 0 := by
  obtain ⟨cl, A, -, S, M, -⟩ := F
  exact ⟨cl, A, S, M⟩
def own_has (x y : Int32) : Int32 := if x < y then (1 : Int32) else (0 : Int32)
theorem own_hasN {i j : Nat} (hi : i ≤ 1000) (hj : j ≤ 1000) : own_has (Int32.ofNat i) (Int32.ofNat j) = if i < j then (1 : Int32) else (0 : Int32) := by
  unfold own_has
  by_cases q : i < j
  · rw [if_pos ((own_lt hi hj).mpr q), if_pos q]
  · rw [if_neg (fun z => q ((own_lt hi hj).mp z)), if_neg q]
theorem d8_0 : decode jdk_30_method_1_code 0 = .ok (.aload_n 0, 1) := by decide +kernel
theorem d8_1 : decode jdk_30_method_1_code 1 = .ok (.invokespecial 1, 3) := by decide +kernel
theorem d8_4 : decode jdk_30_method_1_code 4 = .ok (.return_, 1) := by decide +kernel
theorem own_pn8 : plainName "java/lang/Record" = true := by first | (simp [plainName, overriddenIn]; done) | decide +kernel
def Q_rm8 (Z : State) (a : Addr)  (h0 : Heap) (n0 : Nat) (v : Option Value) (h : Heap) (L : List Loc) : Prop := v = none ∧ Fr n0 L ∧ h = h0
theorem ef_rm8 (m : MethodId) (x0 : Addr) : entryFrame m #[(.ref x0)] 1 = mkF m 0 #[.val (.ref x0)] [] := by first | (simp [entryFrame, mkF, argsToLocals, Value.category]; done) | rfl
set_option maxRecDepth 65536 in
set_option maxHeartbeats 40000000 in
theorem rm8 (l : Launch) (Z : State) (a0 : Array Value) (hw : ∀ d ∈ tables_1, d.before a0 Z = true) (ws : List Jvm.Cond) (a : Addr)  (h0 : Heap) (n0 : Nat) (Z0 : n0 ≤ h0.size)  :
    MetFree l (⟨"java/lang/Record", "<init>", "()V"⟩ : MethodName) (head1 (Jvm.Cond.code (⟨"java/lang/Record", "<init>", "()V"⟩ : MethodName) jdk_30_method_1_code 1 none :: ws) ({ frames := 1, cells := 0, slots := 0, locals := 12 } : Room)) (fun a' U => a' = #[(.ref a)] ∧ Z.Warmed39 U.vm ∧ U.heap = h0) (fun _ _ _ _ _ => True) (fun _ U o U' => ∃ v L, o = .returned v ∧ Q_rm8 Z a h0 n0 v U'.heap L ∧ FrameEnd U o U' L ({ frames := 1, cells := 0, slots := 0, locals := 12 } : Room).cells ({ frames := 1, cells := 0, slots := 0, locals := 12 } : Room).slots) := by
  refine MetFree.of_bodySF (plainFor_of_name own_pn8) hisR ?_
  intro p e s m args below meth cd0 s₁ Bd hml0 hP hK
  obtain ⟨rfl, hZ, hh⟩ := hP
  have hx := Bd.exec
  have hby := Bd.bytes
  have hml : cd0.maxLocals = 1 := hml0
  have hown : s.vm.findClass "java/lang/Record" = some m.cls := findClass_of_methodNamed Bd.named
  have hnm := (name_of_methodNamed Bd.named Bd.method).1
  have X : Stand p l e ({ frames := 1, cells := 0, slots := 0, locals := 12 } : Room) s m #[(.ref a)] below meth cd0 s₁ [] 0 0 := Stand.of_body Bd
  have eh : s₁.heap = h0 := by rw [← hh, Bd.state]; rfl
  have N := Fr.nil n0
  have K : Keep h0 h0 [] := Keep.refl _ _
  have pre0 : ∀ t, Steps p.tables e below (s₁.setTop (mkF m 0 #[.val (.ref a)] [])) t → Steps p.tables e below (s₁.setTop (entryFrame m #[(.ref a)] 1)) t := fun t k => castTop (ef_rm8 m a) k
  have st : ∀ t, Steps p.tables e below (s₁.setTop (mkF m 0 #[.val (.ref a)] [])) t → Steps p.tables e below (s₁.setTop (mkF m 0 #[.val (.ref a)] [])) t := fun t k => k
  have st : ∀ t, Steps p.tables e below (s₁.setTop (mkF m 1 #[.val (.ref a)] [(.ref a)])) t → Steps p.tables e below (s₁.setTop (mkF m 0 #[.val (.ref a)] [])) t := fun t k => st t (by
      show Steps p.tables e below (s₁.setTop (mkF m 0 #[.val (.ref a)] [])) _
      refine XS.aloadN X.here hx rfl (hb hby d8_0) rfl rfl ?_
      exact k)
  obtain ⟨T1, X, eh, sx⟩ := initO X hx hZ hown (hw _ (List.mem_of_getElem? (i := 44) rfl)) (hw _ (List.mem_of_getElem? (i := 11) rfl)) (hw _ (List.mem_of_getElem? (i := 12) rfl)) eh (g := (mkF m 1 #[.val (.ref a)] [(.ref a)])) rfl (by rw [hml]; rfl) rfl (hb hby d8_1) (by decide) (W := 0) (by show 2 * 0 + _ ≤ _; exact Nat.le_of_eq rfl) (by decide)
  have st : ∀ t, Steps p.tables e below (T1.setTop (mkF m 4 #[.val (.ref a)] [])) t → Steps p.tables e below (s₁.setTop (mkF m 0 #[.val (.ref a)] [])) t := fun t k => st t (sx t k)
  obtain ⟨fs_, hr, hrun, hended, hW, hsame⟩ := X.leave (v := none) (fun _ => rfl)
  refine ⟨_, _, pre0 _ (st _ ?_), hrun, hended, _, _, rfl, ?_, ⟨_, rfl⟩, hW, hsame.mono (by decide) (by decide)⟩
  · exact X.returnOut hx Bd.returns (hb hby d8_4) hr
  · show Q_rm8 Z a h0 n0 _ T1.heap _
    rw [eh]
    exact ⟨rfl, N, rfl⟩
theorem d2_0 : decode prog_42_method_2_code 0 = .ok (.aload_n 0, 1) := by decide +kernel
theorem d2_1 : decode prog_42_method_2_code 1 = .ok (.invokespecial 7, 3) := by decide +kernel
theorem d2_4 : decode prog_42_method_2_code 4 = .ok (.aload_n 0, 1) := by decide +kernel
theorem d2_5 : decode prog_42_method_2_code 5 = .ok (.aload_n 1, 1) := by decide +kernel
theorem d2_6 : decode prog_42_method_2_code 6 = .ok (.putfield 12, 3) := by decide +kernel
theorem d2_9 : decode prog_42_method_2_code 9 = .ok (.aload_n 0, 1) := by decide +kernel
theorem d2_10 : decode prog_42_method_2_code 10 = .ok (.iload_n 2, 1) := by decide +kernel
theorem d2_11 : decode prog_42_method_2_code 11 = .ok (.putfield 16, 3) := by decide +kernel
theorem d2_14 : decode prog_42_method_2_code 14 = .ok (.aload_n 0, 1) := by decide +kernel
theorem d2_15 : decode prog_42_method_2_code 15 = .ok (.iload_n 3, 1) := by decide +kernel
theorem d2_16 : decode prog_42_method_2_code 16 = .ok (.putfield 20, 3) := by decide +kernel
theorem d2_19 : decode prog_42_method_2_code 19 = .ok (.return_, 1) := by decide +kernel
theorem own_pn2 : plainName "org/kartenwerk/Der" = true := by first | (simp [plainName, overriddenIn]; done) | decide +kernel
def Q_rm2 (Z : State) (a : Addr) (ba : Addr) (x1 : Int32) (x2 : Int32)  (h0 : Heap) (n0 : Nat) (v : Option Value) (h : Heap) (L : List Loc) : Prop := v = none ∧ Fr n0 L ∧ Keep h0 h [a] ∧ Fld Z h a "org/kartenwerk/Der" "bytes" "[B" (.ref ba) ∧ Fld Z h a "org/kartenwerk/Der" "position" "I" (.int x1) ∧ Fld Z h a "org/kartenwerk/Der" "end" "I" (.int x2)
theorem ef_rm2 (m : MethodId) (x0 : Addr) (x1 : Addr) (x2 : Int32) (x3 : Int32) : entryFrame m #[(.ref x0), (.ref x1), (.int x2), (.int x3)] 4 = mkF m 0 #[.val (.ref x0), .val (.ref x1), .val (.int x2), .val (.int x3)] [] := by first | (simp [entryFrame, mkF, argsToLocals, Value.category]; done) | rfl
set_option maxRecDepth 65536 in
set_option maxHeartbeats 40000000 in
theorem rm2 (l : Launch) (Z : State) (a0 : Array Value) (hw : ∀ d ∈ tables_1, d.before a0 Z = true) (ws : List Jvm.Cond) (a : Addr) (ba : Addr) (x1 : Int32) (x2 : Int32)  (h0 : Heap) (n0 : Nat) (Z0 : n0 ≤ h0.size) (E_a : Exa Z h0 a "org/kartenwerk/Der") (g_a : n0 ≤ a) (F_a_bytes : Fld Z h0 a "org/kartenwerk/Der" "bytes" "[B" .null) (F_a_position : Fld Z h0 a "org/kartenwerk/Der" "position" "I" (.int (0 : Int32))) (F_a_end : Fld Z h0 a "org/kartenwerk/Der" "end" "I" (.int (0 : Int32))) :
    MetFree l (⟨"org/kartenwerk/Der", "<init>", "([BII)V"⟩ : MethodName) (head1 (Jvm.Cond.code (⟨"org/kartenwerk/Der", "<init>", "([BII)V"⟩ : MethodName) prog_42_method_2_code 4 none :: ws) ({ frames := 1, cells := 0, slots := 0, locals := 12 } : Room)) (fun a' U => a' = #[(.ref a), (.ref ba), (.int x1), (.int x2)] ∧ Z.Warmed39 U.vm ∧ U.heap = h0) (fun _ _ _ _ _ => True) (fun _ U o U' => ∃ v L, o = .returned v ∧ Q_rm2 Z a ba x1 x2 h0 n0 v U'.heap L ∧ FrameEnd U o U' L ({ frames := 1, cells := 0, slots := 0, locals := 12 } : Room).cells ({ frames := 1, cells := 0, slots := 0, locals := 12 } : Room).slots) := by
  refine MetFree.of_bodySF (plainFor_of_name own_pn2) hisR ?_
  intro p e s m args below meth cd0 s₁ Bd hml0 hP hK
  obtain ⟨rfl, hZ, hh⟩ := hP
  have hx := Bd.exec
  have hby := Bd.bytes
  have hml : cd0.maxLocals = 4 := hml0
  have hown : s.vm.findClass "org/kartenwerk/Der" = some m.cls := findClass_of_methodNamed Bd.named
  have hnm := (name_of_methodNamed Bd.named Bd.method).1
  have X : Stand p l e ({ frames := 1, cells := 0, slots := 0, locals := 12 } : Room) s m #[(.ref a), (.ref ba), (.int x1), (.int x2)] below meth cd0 s₁ [] 0 0 := Stand.of_body Bd
  have eh : s₁.heap = h0 := by rw [← hh, Bd.state]; rfl
  have N := Fr.nil n0
  have K : Keep h0 h0 [a] := Keep.refl _ _
  have pre0 : ∀ t, Steps p.tables e below (s₁.setTop (mkF m 0 #[.val (.ref a), .val (.ref ba), .val (.int x1), .val (.int x2)] [])) t → Steps p.tables e below (s₁.setTop (entryFrame m #[(.ref a), (.ref ba), (.int x1), (.int x2)] 4)) t := fun t k => castTop (ef_rm2 m a ba x1 x2) k
  have st : ∀ t, Steps p.tables e below (s₁.setTop (mkF m 0 #[.val (.ref a), .val (.ref ba), .val (.int x1), .val (.int x2)] [])) t → Steps p.tables e below (s₁.setTop (mkF m 0 #[.val (.ref a), .val (.ref ba), .val (.int x1), .val (.int x2)] [])) t := fun t k => k
  have st : ∀ t, Steps p.tables e below (s₁.setTop (mkF m 1 #[.val (.ref a), .val (.ref ba), .val (.int x1), .val (.int x2)] [(.ref a)])) t → Steps p.tables e below (s₁.setTop (mkF m 0 #[.val (.ref a), .val (.ref ba), .val (.int x1), .val (.int x2)] [])) t := fun t k => st t (by
      show Steps p.tables e below (s₁.setTop (mkF m 0 #[.val (.ref a), .val (.ref ba), .val (.int x1), .val (.int x2)] [])) _
      refine XS.aloadN X.here hx rfl (hb hby d2_0) rfl rfl ?_
      exact k)
  obtain ⟨T1, X, eh, sx⟩ := initO X hx hZ hown (hw _ (List.mem_of_getElem? (i := 10) rfl)) (hw _ (List.mem_of_getElem? (i := 11) rfl)) (hw _ (List.mem_of_getElem? (i := 12) rfl)) eh (g := (mkF m 1 #[.val (.ref a), .val (.ref ba), .val (.int x1), .val (.int x2)] [(.ref a)])) rfl (by rw [hml]; rfl) rfl (hb hby d2_1) (by decide) (W := 0) (by show 2 * 0 + _ ≤ _; exact Nat.le_of_eq rfl) (by decide)
  have st : ∀ t, Steps p.tables e below (T1.setTop (mkF m 4 #[.val (.ref a), .val (.ref ba), .val (.int x1), .val (.int x2)] [])) t → Steps p.tables e below (s₁.setTop (mkF m 0 #[.val (.ref a), .val (.ref ba), .val (.int x1), .val (.int x2)] [])) t := fun t k => st t (sx t k)
  have st : ∀ t, Steps p.tables e below (T1.setTop (mkF m 6 #[.val (.ref a), .val (.ref ba), .val (.int x1), .val (.int x2)] [(.ref ba), (.ref a)])) t → Steps p.tables e below (s₁.setTop (mkF m 0 #[.val (.ref a), .val (.ref ba), .val (.int x1), .val (.int x2)] [])) t := fun t k => st t (by
      show Steps p.tables e below (T1.setTop (mkF m 4 #[.val (.ref a), .val (.ref ba), .val (.int x1), .val (.int x2)] [])) _
      refine XS.aloadN X.here hx rfl (hb hby d2_4) rfl rfl ?_
      show Steps p.tables e below (T1.setTop (mkF m 5 #[.val (.ref a), .val (.ref ba), .val (.int x1), .val (.int x2)] [(.ref a)])) _
      refine XS.aloadN X.here hx rfl (hb hby d2_5) rfl rfl ?_
      exact k)
  obtain ⟨T2, h3, X, eh, W4, sx⟩ := putF X hx hZ hown (host := "") (Or.inl (hw _ (List.mem_of_getElem? (i := 13) rfl))) Via.refl eh F_a_bytes E_a (Or.inr ⟨(hw _ (List.mem_of_getElem? (i := 14) rfl)), rfl, hnm⟩) (hw _ (List.mem_of_getElem? (i := 1) rfl)) (ty := (.array .byte)) (by decide) rfl rfl (g := (mkF m 6 #[.val (.ref a), .val (.ref ba), .val (.int x1), .val (.int x2)] [(.ref ba), (.ref a)])) rfl rfl (hb hby d2_6)
  have st : ∀ t, Steps p.tables e below (T2.setTop (mkF m 9 #[.val (.ref a), .val (.ref ba), .val (.int x1), .val (.int x2)] [])) t → Steps p.tables e below (s₁.setTop (mkF m 0 #[.val (.ref a), .val (.ref ba), .val (.int x1), .val (.int x2)] [])) t := fun t k => st t (sx t k)
  have F_a_bytes := F_a_bytes.same W4
  have F_a_position := F_a_position.other W4 (Or.inr (slot_ne (Or.inl (hw _ (List.mem_of_getElem? (i := 16) rfl))) (Or.inr (hw _ (List.mem_of_getElem? (i := 14) rfl))) (by decide) (t := .int) (t' := (.array .byte)) (by decide) (by decide)))
  have F_a_end := F_a_end.other W4 (Or.inr (slot_ne (Or.inr (hw _ (List.mem_of_getElem? (i := 18) rfl))) (Or.inr (hw _ (List.mem_of_getElem? (i := 14) rfl))) (by decide) (t := .int) (t' := (.array .byte)) (by decide) (by decide)))
  have E_a := E_a.wr W4
  have K := K.wr W4 (Or.inl (List.mem_of_getElem? (i := 0) rfl))
  have Z0 := Nat.le_trans Z0 (Keep.of_wr W4).1
  have N := Fr.snoc X N g_a
  have st : ∀ t, Steps p.tables e below (T2.setTop (mkF m 11 #[.val (.ref a), .val (.ref ba), .val (.int x1), .val (.int x2)] [(.int x1), (.ref a)])) t → Steps p.tables e below (s₁.setTop (mkF m 0 #[.val (.ref a), .val (.ref ba), .val (.int x1), .val (.int x2)] [])) t := fun t k => st t (by
      show Steps p.tables e below (T2.setTop (mkF m 9 #[.val (.ref a), .val (.ref ba), .val (.int x1), .val (.int x2)] [])) _
      refine XS.aloadN X.here hx rfl (hb hby d2_9) rfl rfl ?_
      show Steps p.tables e below (T2.setTop (mkF m 10 #[.val (.ref a), .val (.ref ba), .val (.int x1), .val (.int x2)] [(.ref a)])) _
      refine XS.iloadN X.here hx rfl (hb hby d2_10) rfl ?_
      exact k)
  obtain ⟨T5, h6, X, eh, W7, sx⟩ := putF X hx hZ hown (host := "") (Or.inl (hw _ (List.mem_of_getElem? (i := 15) rfl))) Via.refl eh F_a_position E_a (Or.inl (hw _ (List.mem_of_getElem? (i := 16) rfl))) (hw _ (List.mem_of_getElem? (i := 1) rfl)) (ty := .int) (by decide) rfl rfl (g := (mkF m 11 #[.val (.ref a), .val (.ref ba), .val (.int x1), .val (.int x2)] [(.int x1), (.ref a)])) rfl rfl (hb hby d2_11)
  have st : ∀ t, Steps p.tables e below (T5.setTop (mkF m 14 #[.val (.ref a), .val (.ref ba), .val (.int x1), .val (.int x2)] [])) t → Steps p.tables e below (s₁.setTop (mkF m 0 #[.val (.ref a), .val (.ref ba), .val (.int x1), .val (.int x2)] [])) t := fun t k => st t (sx t k)
  have F_a_bytes := F_a_bytes.other W7 (Or.inr (slot_ne (Or.inr (hw _ (List.mem_of_getElem? (i := 14) rfl))) (Or.inl (hw _ (List.mem_of_getElem? (i := 16) rfl))) (by decide) (t := (.array .byte)) (t' := .int) (by decide) (by decide)))
  have F_a_position := F_a_position.same W7
  have F_a_end := F_a_end.other W7 (Or.inr (slot_ne (Or.inr (hw _ (List.mem_of_getElem? (i := 18) rfl))) (Or.inl (hw _ (List.mem_of_getElem? (i := 16) rfl))) (by decide) (t := .int) (t' := .int) (by decide) (by decide)))
  have E_a := E_a.wr W7
  have K := K.wr W7 (Or.inl (List.mem_of_getElem? (i := 0) rfl))
  have Z0 := Nat.le_trans Z0 (Keep.of_wr W7).1
  have N := Fr.snoc X N g_a
  have st : ∀ t, Steps p.tables e below (T5.setTop (mkF m 16 #[.val (.ref a), .val (.ref ba), .val (.int x1), .val (.int x2)] [(.int x2), (.ref a)])) t → Steps p.tables e below (s₁.setTop (mkF m 0 #[.val (.ref a), .val (.ref ba), .val (.int x1), .val (.int x2)] [])) t := fun t k => st t (by
      show Steps p.tables e below (T5.setTop (mkF m 14 #[.val (.ref a), .val (.ref ba), .val (.int x1), .val (.int x2)] [])) _
      refine XS.aloadN X.here hx rfl (hb hby d2_14) rfl rfl ?_
      show Steps p.tables e below (T5.setTop (mkF m 15 #[.val (.ref a), .val (.ref ba), .val (.int x1), .val (.int x2)] [(.ref a)])) _
      refine XS.iloadN X.here hx rfl (hb hby d2_15) rfl ?_
      exact k)
  obtain ⟨T8, h9, X, eh, W10, sx⟩ := putF X hx hZ hown (host := "") (Or.inl (hw _ (List.mem_of_getElem? (i := 17) rfl))) Via.refl eh F_a_end E_a (Or.inr ⟨(hw _ (List.mem_of_getElem? (i := 18) rfl)), rfl, hnm⟩) (hw _ (List.mem_of_getElem? (i := 1) rfl)) (ty := .int) (by decide) rfl rfl (g := (mkF m 16 #[.val (.ref a), .val (.ref ba), .val (.int x1), .val (.int x2)] [(.int x2), (.ref a)])) rfl rfl (hb hby d2_16)
  have st : ∀ t, Steps p.tables e below (T8.setTop (mkF m 19 #[.val (.ref a), .val (.ref ba), .val (.int x1), .val (.int x2)] [])) t → Steps p.tables e below (s₁.setTop (mkF m 0 #[.val (.ref a), .val (.ref ba), .val (.int x1), .val (.int x2)] [])) t := fun t k => st t (sx t k)
  have F_a_bytes := F_a_bytes.other W10 (Or.inr (slot_ne (Or.inr (hw _ (List.mem_of_getElem? (i := 14) rfl))) (Or.inr (hw _ (List.mem_of_getElem? (i := 18) rfl))) (by decide) (t := (.array .byte)) (t' := .int) (by decide) (by decide)))
  have F_a_position := F_a_position.other W10 (Or.inr (slot_ne (Or.inl (hw _ (List.mem_of_getElem? (i := 16) rfl))) (Or.inr (hw _ (List.mem_of_getElem? (i := 18) rfl))) (by decide) (t := .int) (t' := .int) (by decide) (by decide)))
  have F_a_end := F_a_end.same W10
  have E_a := E_a.wr W10
  have K := K.wr W10 (Or.inl (List.mem_of_getElem? (i := 0) rfl))
  have Z0 := Nat.le_trans Z0 (Keep.of_wr W10).1
  have N := Fr.snoc X N g_a
  obtain ⟨fs_, hr, hrun, hended, hW, hsame⟩ := X.leave (v := none) (fun _ => rfl)
  refine ⟨_, _, pre0 _ (st _ ?_), hrun, hended, _, _, rfl, ?_, ⟨_, rfl⟩, hW, hsame.mono (by decide) (by decide)⟩
  · exact X.returnOut hx Bd.returns (hb hby d2_19) hr
  · show Q_rm2 Z a ba x1 x2 h0 n0 _ T8.heap _
    rw [eh]
    exact ⟨rfl, N, K, F_a_bytes, F_a_position, F_a_end⟩
theorem d1_0 : decode prog_42_method_1_code 0 = .ok (.aload_n 0, 1) := by decide +kernel
theorem d1_1 : decode prog_42_method_1_code 1 = .ok (.aload_n 1, 1) := by decide +kernel
theorem d1_2 : decode prog_42_method_1_code 2 = .ok (.iconst 0, 1) := by decide +kernel
theorem d1_3 : decode prog_42_method_1_code 3 = .ok (.aload_n 1, 1) := by decide +kernel
theorem d1_4 : decode prog_42_method_1_code 4 = .ok (.arraylength, 1) := by decide +kernel
theorem d1_5 : decode prog_42_method_1_code 5 = .ok (.invokespecial 1, 3) := by decide +kernel
theorem d1_8 : decode prog_42_method_1_code 8 = .ok (.return_, 1) := by decide +kernel
def Q_rm1 (Z : State) (a : Addr) (ba : Addr) (k_ba : ClassId) (z : Int32) (vs : List Value) (h0 : Heap) (n0 : Nat) (v : Option Value) (h : Heap) (L : List Loc) : Prop := v = none ∧ Fr n0 L ∧ Keep h0 h [a] ∧ Fld Z h a "org/kartenwerk/Der" "bytes" "[B" (.ref ba) ∧ Fld Z h a "org/kartenwerk/Der" "position" "I" (.int (0 : Int32)) ∧ Fld Z h a "org/kartenwerk/Der" "end" "I" (.int z)
theorem own_pd0 : parseMethodDescriptor "([BII)V" = some ⟨[(.array .byte), .int, .int], none⟩ := by decide +kernel
theorem ef_rm1 (m : MethodId) (x0 : Addr) (x1 : Addr) : entryFrame m #[(.ref x0), (.ref x1)] 2 = mkF m 0 #[.val (.ref x0), .val (.ref x1)] [] := by first | (simp [entryFrame, mkF, argsToLocals, Value.category]; done) | rfl
set_option maxRecDepth 65536 in
set_option maxHeartbeats 40000000 in
theorem rm1 (l : Launch) (Z : State) (a0 : Array Value) (hw : ∀ d ∈ tables_1, d.before a0 Z = true) (ws : List Jvm.Cond) (a : Addr) (ba : Addr) (k_ba : ClassId) (z : Int32) (vs : List Value) (h0 : Heap) (n0 : Nat) (Z0 : n0 ≤ h0.size) (E_a : Exa Z h0 a "org/kartenwerk/Der") (g_a : n0 ≤ a) (F_a_bytes : Fld Z h0 a "org/kartenwerk/Der" "bytes" "[B" .null) (F_a_position : Fld Z h0 a "org/kartenwerk/Der" "position" "I" (.int (0 : Int32))) (F_a_end : Fld Z h0 a "org/kartenwerk/Der" "end" "I" (.int (0 : Int32))) (V_ba : Arv Z h0 ba k_ba .byte z vs (.int (0 : Int32))) :
    MetFree l (⟨"org/kartenwerk/Der", "<init>", "([B)V"⟩ : MethodName) (head1 (Jvm.Cond.code (⟨"org/kartenwerk/Der", "<init>", "([B)V"⟩ : MethodName) prog_42_method_1_code 2 none :: ws) ({ frames := 2, cells := 0, slots := 0, locals := 27 } : Room)) (fun a' U => a' = #[(.ref a), (.ref ba)] ∧ Z.Warmed39 U.vm ∧ U.heap = h0) (fun _ _ _ _ _ => True) (fun _ U o U' => ∃ v L, o = .returned v ∧ Q_rm1 Z a ba k_ba z vs h0 n0 v U'.heap L ∧ FrameEnd U o U' L ({ frames := 2, cells := 0, slots := 0, locals := 27 } : Room).cells ({ frames := 2, cells := 0, slots := 0, locals := 27 } : Room).slots) := by
  refine MetFree.of_bodySF (plainFor_of_name own_pn2) hisR ?_
  intro p e s m args below meth cd0 s₁ Bd hml0 hP hK
  obtain ⟨rfl, hZ, hh⟩ := hP
  have hx := Bd.exec
  have hby := Bd.bytes
  have hml : cd0.maxLocals = 2 := hml0
  have hown : s.vm.findClass "org/kartenwerk/Der" = some m.cls := findClass_of_methodNamed Bd.named
  have hnm := (name_of_methodNamed Bd.named Bd.method).1
  have X : Stand p l e ({ frames := 2, cells := 0, slots := 0, locals := 27 } : Room) s m #[(.ref a), (.ref ba)] below meth cd0 s₁ [] 0 0 := Stand.of_body Bd
  have eh : s₁.heap = h0 := by rw [← hh, Bd.state]; rfl
  have N := Fr.nil n0
  have K : Keep h0 h0 [a] := Keep.refl _ _
  have pre0 : ∀ t, Steps p.tables e below (s₁.setTop (mkF m 0 #[.val (.ref a), .val (.ref ba)] [])) t → Steps p.tables e below (s₁.setTop (entryFrame m #[(.ref a), (.ref ba)] 2)) t := fun t k => castTop (ef_rm1 m a ba) k
  have st : ∀ t, Steps p.tables e below (s₁.setTop (mkF m 0 #[.val (.ref a), .val (.ref ba)] [])) t → Steps p.tables e below (s₁.setTop (mkF m 0 #[.val (.ref a), .val (.ref ba)] [])) t := fun t k => k
  have st : ∀ t, Steps p.tables e below (s₁.setTop (mkF m 4 #[.val (.ref a), .val (.ref ba)] [(.ref ba), (.int (0 : Int32)), (.ref ba), (.ref a)])) t → Steps p.tables e below (s₁.setTop (mkF m 0 #[.val (.ref a), .val (.ref ba)] [])) t := fun t k => st t (by
      show Steps p.tables e below (s₁.setTop (mkF m 0 #[.val (.ref a), .val (.ref ba)] [])) _
      refine XS.aloadN X.here hx rfl (hb hby d1_0) rfl rfl ?_
      show Steps p.tables e below (s₁.setTop (mkF m 1 #[.val (.ref a), .val (.ref ba)] [(.ref a)])) _
      refine XS.aloadN X.here hx rfl (hb hby d1_1) rfl rfl ?_
      show Steps p.tables e below (s₁.setTop (mkF m 2 #[.val (.ref a), .val (.ref ba)] [(.ref ba), (.ref a)])) _
      refine XS.iconst X.here hx rfl (hb hby d1_2) ?_
      show Steps p.tables e below (s₁.setTop (mkF m 3 #[.val (.ref a), .val (.ref ba)] [(.int (0 : Int32)), (.ref ba), (.ref a)])) _
      refine XS.aloadN X.here hx rfl (hb hby d1_3) rfl rfl ?_
      exact k)
  obtain ⟨cl1, Ar1, Sz1, Mz1⟩ := own_lenOf V_ba
  have st : ∀ t, Steps p.tables e below (s₁.setTop (mkF m 5 #[.val (.ref a), .val (.ref ba)] [(.int z), (.int (0 : Int32)), (.ref ba), (.ref a)])) t → Steps p.tables e below (s₁.setTop (mkF m 0 #[.val (.ref a), .val (.ref ba)] [])) t := fun t k => st t (by
      show Steps p.tables e below (s₁.setTop (mkF m 4 #[.val (.ref a), .val (.ref ba)] [(.ref ba), (.int (0 : Int32)), (.ref ba), (.ref a)])) _
      refine X.arraylength hx (cell := cl1) (by rw [eh]; exact Ar1.1) (State.isArrayOf_alike hZ.alike Ar1.2.1) (g := (mkF m 4 #[.val (.ref a), .val (.ref ba)] [(.ref ba), (.int (0 : Int32)), (.ref ba), (.ref a)])) rfl (rest := [(.int (0 : Int32)), (.ref ba), (.ref a)]) rfl (hb hby d1_4) _ ?_
      rw [len_of Sz1 Mz1]
      exact k)
  obtain ⟨_, _, ⟨T3, L2, k2, n2⟩, -, X, ⟨Lc2, hQ, l2, y2, z2⟩, sx⟩ := X.specialBack hx (y := (⟨"org/kartenwerk/Der", "<init>", "([BII)V"⟩ : MethodName)) rfl hown (mvT hZ (hw _ (List.mem_of_getElem? (i := 7) rfl))) (mvT hZ (hw _ (List.mem_of_getElem? (i := 8) rfl))) (mvT hZ (hw _ (List.mem_of_getElem? (i := 9) rfl))) (by decide) (backOf (W := 0) (rm2 l Z a0 hw [] a ba (0 : Int32) z  h0 n0 Z0 E_a g_a F_a_bytes F_a_position F_a_end) hZ (hw _ (List.mem_of_getElem? (i := 9) rfl)) (hw _ (List.mem_of_getElem? (i := 2) rfl)) (by decide) (by decide)) (g := (mkF m 5 #[.val (.ref a), .val (.ref ba)] [(.int z), (.int (0 : Int32)), (.ref ba), (.ref a)])) rfl (by rw [hml]; rfl) (Steps.refl _) (a := a) (argsL := [(.ref ba), (.int (0 : Int32)), (.int z)]) (rest := []) (lenOf own_pd0 rfl) rfl (by show 2 * 0 + _ ≤ _; exact Nat.le_of_eq rfl) (hb hby d1_5) (fun _ _ => ⟨rfl, eh, (by decide : 0 + 0 ≤ _), (by decide : 0 + 0 ≤ _)⟩)
  dsimp only [Pt.U, Pt.locs, Pt.cells, Pt.slots] at X l2 y2 z2 sx hQ
  subst l2 y2 z2
  obtain ⟨rfl, Nc, K1, F_a_bytes, F_a_position, F_a_end⟩ := hQ
  have st : ∀ t, Steps p.tables e below (T3.setTop (mkF m 8 #[.val (.ref a), .val (.ref ba)] [])) t → Steps p.tables e below (s₁.setTop (mkF m 0 #[.val (.ref a), .val (.ref ba)] [])) t := fun t k => st t (sx.trans k)
  have N := Fr.app N Nc
  obtain ⟨h4, eH⟩ : ∃ z, z = T3.heap := ⟨_, rfl⟩
  rw [← eH] at K1 F_a_bytes F_a_position F_a_end
  have eh : T3.heap = h4 := eH.symm
  have E_a := E_a.keep K1
  have K := K.trans K1 (allS (Or.inl (List.mem_of_getElem? (i := 0) rfl)) all0)
  have Z0 := Nat.le_trans Z0 K1.1
  obtain ⟨fs_, hr, hrun, hended, hW, hsame⟩ := X.leave (v := none) (fun _ => rfl)
  refine ⟨_, _, pre0 _ (st _ ?_), hrun, hended, _, _, rfl, ?_, ⟨_, rfl⟩, hW, hsame.mono (by decide) (by decide)⟩
  · exact X.returnOut hx Bd.returns (hb hby d1_8) hr
  · show Q_rm1 Z a ba k_ba z vs h0 n0 _ T3.heap _
    rw [eh]
    exact ⟨rfl, N, K, F_a_bytes, F_a_position, F_a_end⟩
theorem d4_0 : decode prog_42_method_3_code 0 = .ok (.aload_n 0, 1) := by decide +kernel
theorem d4_1 : decode prog_42_method_3_code 1 = .ok (.getfield 16, 3) := by decide +kernel
theorem d4_4 : decode prog_42_method_3_code 4 = .ok (.aload_n 0, 1) := by decide +kernel
theorem d4_5 : decode prog_42_method_3_code 5 = .ok (.getfield 20, 3) := by decide +kernel
theorem d4_8 : decode prog_42_method_3_code 8 = .ok (.if_icmp .ge 7, 3) := by decide +kernel
theorem d4_11 : decode prog_42_method_3_code 11 = .ok (.iconst 1, 1) := by decide +kernel
theorem d4_12 : decode prog_42_method_3_code 12 = .ok (.goto 4, 3) := by decide +kernel
theorem d4_15 : decode prog_42_method_3_code 15 = .ok (.iconst 0, 1) := by decide +kernel
theorem d4_16 : decode prog_42_method_3_code 16 = .ok (.ireturn, 1) := by decide +kernel
def Q_rm4 (Z : State) (a : Addr) (x1 x2 : Int32) (h0 : Heap) (n0 : Nat) (v : Option Value) (h : Heap) (L : List Loc) : Prop := v = some (.int (own_has x1 x2)) ∧ Fr n0 L ∧ h = h0
theorem ef_rm4 (m : MethodId) (x0 : Addr) : entryFrame m #[(.ref x0)] 1 = mkF m 0 #[.val (.ref x0)] [] := by first | (simp [entryFrame, mkF, argsToLocals, Value.category]; done) | rfl
set_option maxRecDepth 65536 in
set_option maxHeartbeats 40000000 in
theorem rm4 (l : Launch) (Z : State) (a0 : Array Value) (hw : ∀ d ∈ tables_1, d.before a0 Z = true) (ws : List Jvm.Cond) (a : Addr) (x1 x2 : Int32) (h0 : Heap) (n0 : Nat) (Z0 : n0 ≤ h0.size) (F_a_position : Fld Z h0 a "org/kartenwerk/Der" "position" "I" (.int x1)) (F_a_end : Fld Z h0 a "org/kartenwerk/Der" "end" "I" (.int x2)) :
    MetFree l (⟨"org/kartenwerk/Der", "hasNext", "()Z"⟩ : MethodName) (head1 (Jvm.Cond.code (⟨"org/kartenwerk/Der", "hasNext", "()Z"⟩ : MethodName) prog_42_method_3_code 1 (some .boolean) :: ws) ({ frames := 0, cells := 0, slots := 0, locals := 0 } : Room)) (fun a' U => a' = #[(.ref a)] ∧ Z.Warmed39 U.vm ∧ U.heap = h0) (fun _ _ _ _ _ => True) (fun _ U o U' => ∃ v L, o = .returned v ∧ Q_rm4 Z a x1 x2 h0 n0 v U'.heap L ∧ FrameEnd U o U' L ({ frames := 0, cells := 0, slots := 0, locals := 0 } : Room).cells ({ frames := 0, cells := 0, slots := 0, locals := 0 } : Room).slots) := by
  refine MetFree.of_bodySF (plainFor_of_name own_pn2) hisR ?_
  intro p e s m args below meth cd0 s₁ Bd hml0 hP hK
  obtain ⟨rfl, hZ, hh⟩ := hP
  have hx := Bd.exec
  have hby := Bd.bytes
  have hml : cd0.maxLocals = 1 := hml0
  have hown : s.vm.findClass "org/kartenwerk/Der" = some m.cls := findClass_of_methodNamed Bd.named
  have hnm := (name_of_methodNamed Bd.named Bd.method).1
  have X : Stand p l e ({ frames := 0, cells := 0, slots := 0, locals := 0 } : Room) s m #[(.ref a)] below meth cd0 s₁ [] 0 0 := Stand.of_body Bd
  have eh : s₁.heap = h0 := by rw [← hh, Bd.state]; rfl
  have N := Fr.nil n0
  have K : Keep h0 h0 [] := Keep.refl _ _
  have pre0 : ∀ t, Steps p.tables e below (s₁.setTop (mkF m 0 #[.val (.ref a)] [])) t → Steps p.tables e below (s₁.setTop (entryFrame m #[(.ref a)] 1)) t := fun t k => castTop (ef_rm4 m a) k
  have st : ∀ t, Steps p.tables e below (s₁.setTop (mkF m 0 #[.val (.ref a)] [])) t → Steps p.tables e below (s₁.setTop (mkF m 0 #[.val (.ref a)] [])) t := fun t k => k
  have st : ∀ t, Steps p.tables e below (s₁.setTop (mkF m 1 #[.val (.ref a)] [(.ref a)])) t → Steps p.tables e below (s₁.setTop (mkF m 0 #[.val (.ref a)] [])) t := fun t k => st t (by
      show Steps p.tables e below (s₁.setTop (mkF m 0 #[.val (.ref a)] [])) _
      refine XS.aloadN X.here hx rfl (hb hby d4_0) rfl rfl ?_
      exact k)
  obtain ⟨T1, X, eh, sx⟩ := getF X hx hZ hown (host := "") (Or.inl (hw _ (List.mem_of_getElem? (i := 15) rfl))) Via.refl eh F_a_position (g := (mkF m 1 #[.val (.ref a)] [(.ref a)])) rfl rfl (hb hby d4_1)
  have st : ∀ t, Steps p.tables e below (T1.setTop (mkF m 4 #[.val (.ref a)] [(.int x1)])) t → Steps p.tables e below (s₁.setTop (mkF m 0 #[.val (.ref a)] [])) t := fun t k => st t (sx t k)
  have st : ∀ t, Steps p.tables e below (T1.setTop (mkF m 5 #[.val (.ref a)] [(.ref a), (.int x1)])) t → Steps p.tables e below (s₁.setTop (mkF m 0 #[.val (.ref a)] [])) t := fun t k => st t (by
      show Steps p.tables e below (T1.setTop (mkF m 4 #[.val (.ref a)] [(.int x1)])) _
      refine XS.aloadN X.here hx rfl (hb hby d4_4) rfl rfl ?_
      exact k)
  obtain ⟨T2, X, eh, sx⟩ := getF X hx hZ hown (host := "") (Or.inl (hw _ (List.mem_of_getElem? (i := 17) rfl))) Via.refl eh F_a_end (g := (mkF m 5 #[.val (.ref a)] [(.ref a), (.int x1)])) rfl rfl (hb hby d4_5)
  have st : ∀ t, Steps p.tables e below (T2.setTop (mkF m 8 #[.val (.ref a)] [(.int x2), (.int x1)])) t → Steps p.tables e below (s₁.setTop (mkF m 0 #[.val (.ref a)] [])) t := fun t k => st t (sx t k)
  by_cases ht8 : x1 < x2
  · have st : ∀ t, Steps p.tables e below (T2.setTop (mkF m 16 #[.val (.ref a)] [(.int (1 : Int32))])) t → Steps p.tables e below (s₁.setTop (mkF m 0 #[.val (.ref a)] [])) t := fun t k => st t (by
        show Steps p.tables e below (T2.setTop (mkF m 8 #[.val (.ref a)] [(.int x2), (.int x1)])) _
        refine XS.icmpNo X.here hx rfl (hb hby d4_8) rfl (tlt ht8).2.1 ?_
        show Steps p.tables e below (T2.setTop (mkF m 11 #[.val (.ref a)] [])) _
        refine XS.iconst X.here hx rfl (hb hby d4_11) ?_
        show Steps p.tables e below (T2.setTop (mkF m 12 #[.val (.ref a)] [(.int (1 : Int32))])) _
        refine XS.goto X.here hx rfl (pc0 := 12) (pc' := 16) rfl (hb hby d4_12) (by decide) (by decide) ?_
        exact k)
    obtain ⟨fs_, hr, hrun, hended, hW, hsame⟩ := X.leave (v := some (.int (1 : Int32))) (fun h => by rw [Bd.returns] at h; cases h)
    refine ⟨_, _, pre0 _ (st _ ?_), hrun, hended, _, _, rfl, ?_, ⟨_, rfl⟩, hW, hsame.mono (by decide) (by decide)⟩
    · exact retN X hx (t := .boolean) Bd.returns (by simp) (hb hby d4_16) hr
    · show Q_rm4 Z a x1 x2 h0 n0 _ T2.heap _
      rw [eh]
      exact ⟨by rw [own_has, if_pos ht8], N, rfl⟩
  · have st : ∀ t, Steps p.tables e below (T2.setTop (mkF m 16 #[.val (.ref a)] [(.int (0 : Int32))])) t → Steps p.tables e below (s₁.setTop (mkF m 0 #[.val (.ref a)] [])) t := fun t k => st t (by
        show Steps p.tables e below (T2.setTop (mkF m 8 #[.val (.ref a)] [(.int x2), (.int x1)])) _
        refine XS.icmpYes X.here hx rfl (pc0 := 8) (pc' := 15) rfl (hb hby d4_8) rfl (flt ht8).2.1 (by decide) (by decide) ?_
        show Steps p.tables e below (T2.setTop (mkF m 15 #[.val (.ref a)] [])) _
        refine XS.iconst X.here hx rfl (hb hby d4_15) ?_
        exact k)
    obtain ⟨fs_, hr, hrun, hended, hW, hsame⟩ := X.leave (v := some (.int (0 : Int32))) (fun h => by rw [Bd.returns] at h; cases h)
    refine ⟨_, _, pre0 _ (st _ ?_), hrun, hended, _, _, rfl, ?_, ⟨_, rfl⟩, hW, hsame.mono (by decide) (by decide)⟩
    · exact retN X hx (t := .boolean) Bd.returns (by simp) (hb hby d4_16) hr
    · show Q_rm4 Z a x1 x2 h0 n0 _ T2.heap _
      rw [eh]
      exact ⟨by rw [own_has, if_neg ht8], N, rfl⟩
theorem d7_0 : decode prog_43_method_1_code 0 = .ok (.aload_n 0, 1) := by decide +kernel
theorem d7_1 : decode prog_43_method_1_code 1 = .ok (.invokespecial 1, 3) := by decide +kernel
theorem d7_4 : decode prog_43_method_1_code 4 = .ok (.aload_n 0, 1) := by decide +kernel
theorem d7_5 : decode prog_43_method_1_code 5 = .ok (.iload_n 1, 1) := by decide +kernel
theorem d7_6 : decode prog_43_method_1_code 6 = .ok (.putfield 7, 3) := by decide +kernel
theorem d7_9 : decode prog_43_method_1_code 9 = .ok (.aload_n 0, 1) := by decide +kernel
theorem d7_10 : decode prog_43_method_1_code 10 = .ok (.iload_n 2, 1) := by decide +kernel
theorem d7_11 : decode prog_43_method_1_code 11 = .ok (.putfield 13, 3) := by decide +kernel
theorem d7_14 : decode prog_43_method_1_code 14 = .ok (.aload_n 0, 1) := by decide +kernel
theorem d7_15 : decode prog_43_method_1_code 15 = .ok (.iload_n 3, 1) := by decide +kernel
theorem d7_16 : decode prog_43_method_1_code 16 = .ok (.putfield 16, 3) := by decide +kernel
theorem d7_19 : decode prog_43_method_1_code 19 = .ok (.aload_n 0, 1) := by decide +kernel
theorem d7_20 : decode prog_43_method_1_code 20 = .ok (.iload 4, 2) := by decide +kernel
theorem d7_22 : decode prog_43_method_1_code 22 = .ok (.putfield 19, 3) := by decide +kernel
theorem d7_25 : decode prog_43_method_1_code 25 = .ok (.return_, 1) := by decide +kernel
theorem own_pn7 : plainName "org/kartenwerk/Der$Value" = true := by first | (simp [plainName, overriddenIn]; done) | decide +kernel
def Q_rm7 (Z : State) (a : Addr) (x1 : Int32) (x2 : Int32) (x3 : Int32) (x4 : Int32)  (h0 : Heap) (n0 : Nat) (v : Option Value) (h : Heap) (L : List Loc) : Prop := v = none ∧ Fr n0 L ∧ Keep h0 h [a] ∧ Fld Z h a "org/kartenwerk/Der$Value" "tag" "I" (.int x1) ∧ Fld Z h a "org/kartenwerk/Der$Value" "start" "I" (.int x2) ∧ Fld Z h a "org/kartenwerk/Der$Value" "end" "I" (.int x3) ∧ Fld Z h a "org/kartenwerk/Der$Value" "next" "I" (.int x4)
theorem own_pd1 : parseMethodDescriptor "()V" = some ⟨[], none⟩ := by decide +kernel
theorem ef_rm7 (m : MethodId) (x0 : Addr) (x1 : Int32) (x2 : Int32) (x3 : Int32) (x4 : Int32) : entryFrame m #[(.ref x0), (.int x1), (.int x2), (.int x3), (.int x4)] 5 = mkF m 0 #[.val (.ref x0), .val (.int x1), .val (.int x2), .val (.int x3), .val (.int x4)] [] := by first | (simp [entryFrame, mkF, argsToLocals, Value.category]; done) | rfl
set_option maxRecDepth 65536 in
set_option maxHeartbeats 40000000 in
theorem rm7 (l : Launch) (Z : State) (a0 : Array Value) (hw : ∀ d ∈ tables_1, d.before a0 Z = true) (ws : List Jvm.Cond) (a : Addr) (x1 : Int32) (x2 : Int32) (x3 : Int32) (x4 : Int32)  (h0 : Heap) (n0 : Nat) (Z0 : n0 ≤ h0.size) (E_a : Exa Z h0 a "org/kartenwerk/Der$Value") (g_a : n0 ≤ a) (F_a_tag : Fld Z h0 a "org/kartenwerk/Der$Value" "tag" "I" (.int (0 : Int32))) (F_a_start : Fld Z h0 a "org/kartenwerk/Der$Value" "start" "I" (.int (0 : Int32))) (F_a_end : Fld Z h0 a "org/kartenwerk/Der$Value" "end" "I" (.int (0 : Int32))) (F_a_next : Fld Z h0 a "org/kartenwerk/Der$Value" "next" "I" (.int (0 : Int32))) :
    MetFree l (⟨"org/kartenwerk/Der$Value", "<init>", "(IIII)V"⟩ : MethodName) (head1 (Jvm.Cond.code (⟨"org/kartenwerk/Der$Value", "<init>", "(IIII)V"⟩ : MethodName) prog_43_method_1_code 5 none :: ws) ({ frames := 2, cells := 0, slots := 0, locals := 24 } : Room)) (fun a' U => a' = #[(.ref a), (.int x1), (.int x2), (.int x3), (.int x4)] ∧ Z.Warmed39 U.vm ∧ U.heap = h0) (fun _ _ _ _ _ => True) (fun _ U o U' => ∃ v L, o = .returned v ∧ Q_rm7 Z a x1 x2 x3 x4 h0 n0 v U'.heap L ∧ FrameEnd U o U' L ({ frames := 2, cells := 0, slots := 0, locals := 24 } : Room).cells ({ frames := 2, cells := 0, slots := 0, locals := 24 } : Room).slots) := by
  refine MetFree.of_bodySF (plainFor_of_name own_pn7) hisR ?_
  intro p e s m args below meth cd0 s₁ Bd hml0 hP hK
  obtain ⟨rfl, hZ, hh⟩ := hP
  have hx := Bd.exec
  have hby := Bd.bytes
  have hml : cd0.maxLocals = 5 := hml0
  have hown : s.vm.findClass "org/kartenwerk/Der$Value" = some m.cls := findClass_of_methodNamed Bd.named
  have hnm := (name_of_methodNamed Bd.named Bd.method).1
  have X : Stand p l e ({ frames := 2, cells := 0, slots := 0, locals := 24 } : Room) s m #[(.ref a), (.int x1), (.int x2), (.int x3), (.int x4)] below meth cd0 s₁ [] 0 0 := Stand.of_body Bd
  have eh : s₁.heap = h0 := by rw [← hh, Bd.state]; rfl
  have N := Fr.nil n0
  have K : Keep h0 h0 [a] := Keep.refl _ _
  have pre0 : ∀ t, Steps p.tables e below (s₁.setTop (mkF m 0 #[.val (.ref a), .val (.int x1), .val (.int x2), .val (.int x3), .val (.int x4)] [])) t → Steps p.tables e below (s₁.setTop (entryFrame m #[(.ref a), (.int x1), (.int x2), (.int x3), (.int x4)] 5)) t := fun t k => castTop (ef_rm7 m a x1 x2 x3 x4) k
  have st : ∀ t, Steps p.tables e below (s₁.setTop (mkF m 0 #[.val (.ref a), .val (.int x1), .val (.int x2), .val (.int x3), .val (.int x4)] [])) t → Steps p.tables e below (s₁.setTop (mkF m 0 #[.val (.ref a), .val (.int x1), .val (.int x2), .val (.int x3), .val (.int x4)] [])) t := fun t k => k
  have st : ∀ t, Steps p.tables e below (s₁.setTop (mkF m 1 #[.val (.ref a), .val (.int x1), .val (.int x2), .val (.int x3), .val (.int x4)] [(.ref a)])) t → Steps p.tables e below (s₁.setTop (mkF m 0 #[.val (.ref a), .val (.int x1), .val (.int x2), .val (.int x3), .val (.int x4)] [])) t := fun t k => st t (by
      show Steps p.tables e below (s₁.setTop (mkF m 0 #[.val (.ref a), .val (.int x1), .val (.int x2), .val (.int x3), .val (.int x4)] [])) _
      refine XS.aloadN X.here hx rfl (hb hby d7_0) rfl rfl ?_
      exact k)
  obtain ⟨_, _, ⟨T2, L1, k1, n1⟩, -, X, ⟨Lc1, hQ, l1, y1, z1⟩, sx⟩ := X.specialBack hx (y := (⟨"java/lang/Record", "<init>", "()V"⟩ : MethodName)) rfl hown (mvT hZ (hw _ (List.mem_of_getElem? (i := 39) rfl))) (mvT hZ (hw _ (List.mem_of_getElem? (i := 40) rfl))) (mvT hZ (hw _ (List.mem_of_getElem? (i := 43) rfl))) (by decide) (backOf (W := 0) (rm8 l Z a0 hw [] a  h0 n0 Z0 ) hZ (hw _ (List.mem_of_getElem? (i := 43) rfl)) (hw _ (List.mem_of_getElem? (i := 42) rfl)) (by decide) (by decide)) (g := (mkF m 1 #[.val (.ref a), .val (.int x1), .val (.int x2), .val (.int x3), .val (.int x4)] [(.ref a)])) rfl (by rw [hml]; rfl) (Steps.refl _) (a := a) (argsL := []) (rest := []) (lenOf own_pd1 rfl) rfl (by show 2 * 0 + _ ≤ _; exact Nat.le_of_eq rfl) (hb hby d7_1) (fun _ _ => ⟨rfl, eh, (by decide : 0 + 0 ≤ _), (by decide : 0 + 0 ≤ _)⟩)
  dsimp only [Pt.U, Pt.locs, Pt.cells, Pt.slots] at X l1 y1 z1 sx hQ
  subst l1 y1 z1
  obtain ⟨rfl, Nc, hsame_⟩ := hQ
  have st : ∀ t, Steps p.tables e below (T2.setTop (mkF m 4 #[.val (.ref a), .val (.int x1), .val (.int x2), .val (.int x3), .val (.int x4)] [])) t → Steps p.tables e below (s₁.setTop (mkF m 0 #[.val (.ref a), .val (.int x1), .val (.int x2), .val (.int x3), .val (.int x4)] [])) t := fun t k => st t (sx.trans k)
  have N := Fr.app N Nc
  have eh : T2.heap = h0 := hsame_
  have st : ∀ t, Steps p.tables e below (T2.setTop (mkF m 6 #[.val (.ref a), .val (.int x1), .val (.int x2), .val (.int x3), .val (.int x4)] [(.int x1), (.ref a)])) t → Steps p.tables e below (s₁.setTop (mkF m 0 #[.val (.ref a), .val (.int x1), .val (.int x2), .val (.int x3), .val (.int x4)] [])) t := fun t k => st t (by
      show Steps p.tables e below (T2.setTop (mkF m 4 #[.val (.ref a), .val (.int x1), .val (.int x2), .val (.int x3), .val (.int x4)] [])) _
      refine XS.aloadN X.here hx rfl (hb hby d7_4) rfl rfl ?_
      show Steps p.tables e below (T2.setTop (mkF m 5 #[.val (.ref a), .val (.int x1), .val (.int x2), .val (.int x3), .val (.int x4)] [(.ref a)])) _
      refine XS.iloadN X.here hx rfl (hb hby d7_5) rfl ?_
      exact k)
  obtain ⟨T3, h4, X, eh, W5, sx⟩ := putF X hx hZ hown (host := "") (Or.inl (hw _ (List.mem_of_getElem? (i := 45) rfl))) Via.refl eh F_a_tag E_a (Or.inr ⟨(hw _ (List.mem_of_getElem? (i := 46) rfl)), rfl, hnm⟩) (hw _ (List.mem_of_getElem? (i := 34) rfl)) (ty := .int) (by decide) rfl rfl (g := (mkF m 6 #[.val (.ref a), .val (.int x1), .val (.int x2), .val (.int x3), .val (.int x4)] [(.int x1), (.ref a)])) rfl rfl (hb hby d7_6)
  have st : ∀ t, Steps p.tables e below (T3.setTop (mkF m 9 #[.val (.ref a), .val (.int x1), .val (.int x2), .val (.int x3), .val (.int x4)] [])) t → Steps p.tables e below (s₁.setTop (mkF m 0 #[.val (.ref a), .val (.int x1), .val (.int x2), .val (.int x3), .val (.int x4)] [])) t := fun t k => st t (sx t k)
  have F_a_tag := F_a_tag.same W5
  have F_a_start := F_a_start.other W5 (Or.inr (slot_ne (Or.inr (hw _ (List.mem_of_getElem? (i := 48) rfl))) (Or.inr (hw _ (List.mem_of_getElem? (i := 46) rfl))) (by decide) (t := .int) (t' := .int) (by decide) (by decide)))
  have F_a_end := F_a_end.other W5 (Or.inr (slot_ne (Or.inr (hw _ (List.mem_of_getElem? (i := 50) rfl))) (Or.inr (hw _ (List.mem_of_getElem? (i := 46) rfl))) (by decide) (t := .int) (t' := .int) (by decide) (by decide)))
  have F_a_next := F_a_next.other W5 (Or.inr (slot_ne (Or.inr (hw _ (List.mem_of_getElem? (i := 52) rfl))) (Or.inr (hw _ (List.mem_of_getElem? (i := 46) rfl))) (by decide) (t := .int) (t' := .int) (by decide) (by decide)))
  have E_a := E_a.wr W5
  have K := K.wr W5 (Or.inl (List.mem_of_getElem? (i := 0) rfl))
  have Z0 := Nat.le_trans Z0 (Keep.of_wr W5).1
  have N := Fr.snoc X N g_a
  have st : ∀ t, Steps p.tables e below (T3.setTop (mkF m 11 #[.val (.ref a), .val (.int x1), .val (.int x2), .val (.int x3), .val (.int x4)] [(.int x2), (.ref a)])) t → Steps p.tables e below (s₁.setTop (mkF m 0 #[.val (.ref a), .val (.int x1), .val (.int x2), .val (.int x3), .val (.int x4)] [])) t := fun t k => st t (by
      show Steps p.tables e below (T3.setTop (mkF m 9 #[.val (.ref a), .val (.int x1), .val (.int x2), .val (.int x3), .val (.int x4)] [])) _
      refine XS.aloadN X.here hx rfl (hb hby d7_9) rfl rfl ?_
      show Steps p.tables e below (T3.setTop (mkF m 10 #[.val (.ref a), .val (.int x1), .val (.int x2), .val (.int x3), .val (.int x4)] [(.ref a)])) _
      refine XS.iloadN X.here hx rfl (hb hby d7_10) rfl ?_
      exact k)
  obtain ⟨T6, h7, X, eh, W8, sx⟩ := putF X hx hZ hown (host := "") (Or.inl (hw _ (List.mem_of_getElem? (i := 47) rfl))) Via.refl eh F_a_start E_a (Or.inr ⟨(hw _ (List.mem_of_getElem? (i := 48) rfl)), rfl, hnm⟩) (hw _ (List.mem_of_getElem? (i := 34) rfl)) (ty := .int) (by decide) rfl rfl (g := (mkF m 11 #[.val (.ref a), .val (.int x1), .val (.int x2), .val (.int x3), .val (.int x4)] [(.int x2), (.ref a)])) rfl rfl (hb hby d7_11)
  have st : ∀ t, Steps p.tables e below (T6.setTop (mkF m 14 #[.val (.ref a), .val (.int x1), .val (.int x2), .val (.int x3), .val (.int x4)] [])) t → Steps p.tables e below (s₁.setTop (mkF m 0 #[.val (.ref a), .val (.int x1), .val (.int x2), .val (.int x3), .val (.int x4)] [])) t := fun t k => st t (sx t k)
  have F_a_tag := F_a_tag.other W8 (Or.inr (slot_ne (Or.inr (hw _ (List.mem_of_getElem? (i := 46) rfl))) (Or.inr (hw _ (List.mem_of_getElem? (i := 48) rfl))) (by decide) (t := .int) (t' := .int) (by decide) (by decide)))
  have F_a_start := F_a_start.same W8
  have F_a_end := F_a_end.other W8 (Or.inr (slot_ne (Or.inr (hw _ (List.mem_of_getElem? (i := 50) rfl))) (Or.inr (hw _ (List.mem_of_getElem? (i := 48) rfl))) (by decide) (t := .int) (t' := .int) (by decide) (by decide)))
  have F_a_next := F_a_next.other W8 (Or.inr (slot_ne (Or.inr (hw _ (List.mem_of_getElem? (i := 52) rfl))) (Or.inr (hw _ (List.mem_of_getElem? (i := 48) rfl))) (by decide) (t := .int) (t' := .int) (by decide) (by decide)))
  have E_a := E_a.wr W8
  have K := K.wr W8 (Or.inl (List.mem_of_getElem? (i := 0) rfl))
  have Z0 := Nat.le_trans Z0 (Keep.of_wr W8).1
  have N := Fr.snoc X N g_a
  have st : ∀ t, Steps p.tables e below (T6.setTop (mkF m 16 #[.val (.ref a), .val (.int x1), .val (.int x2), .val (.int x3), .val (.int x4)] [(.int x3), (.ref a)])) t → Steps p.tables e below (s₁.setTop (mkF m 0 #[.val (.ref a), .val (.int x1), .val (.int x2), .val (.int x3), .val (.int x4)] [])) t := fun t k => st t (by
      show Steps p.tables e below (T6.setTop (mkF m 14 #[.val (.ref a), .val (.int x1), .val (.int x2), .val (.int x3), .val (.int x4)] [])) _
      refine XS.aloadN X.here hx rfl (hb hby d7_14) rfl rfl ?_
      show Steps p.tables e below (T6.setTop (mkF m 15 #[.val (.ref a), .val (.int x1), .val (.int x2), .val (.int x3), .val (.int x4)] [(.ref a)])) _
      refine XS.iloadN X.here hx rfl (hb hby d7_15) rfl ?_
      exact k)
  obtain ⟨T9, h10, X, eh, W11, sx⟩ := putF X hx hZ hown (host := "") (Or.inl (hw _ (List.mem_of_getElem? (i := 49) rfl))) Via.refl eh F_a_end E_a (Or.inr ⟨(hw _ (List.mem_of_getElem? (i := 50) rfl)), rfl, hnm⟩) (hw _ (List.mem_of_getElem? (i := 34) rfl)) (ty := .int) (by decide) rfl rfl (g := (mkF m 16 #[.val (.ref a), .val (.int x1), .val (.int x2), .val (.int x3), .val (.int x4)] [(.int x3), (.ref a)])) rfl rfl (hb hby d7_16)
  have st : ∀ t, Steps p.tables e below (T9.setTop (mkF m 19 #[.val (.ref a), .val (.int x1), .val (.int x2), .val (.int x3), .val (.int x4)] [])) t → Steps p.tables e below (s₁.setTop (mkF m 0 #[.val (.ref a), .val (.int x1), .val (.int x2), .val (.int x3), .val (.int x4)] [])) t := fun t k => st t (sx t k)
  have F_a_tag := F_a_tag.other W11 (Or.inr (slot_ne (Or.inr (hw _ (List.mem_of_getElem? (i := 46) rfl))) (Or.inr (hw _ (List.mem_of_getElem? (i := 50) rfl))) (by decide) (t := .int) (t' := .int) (by decide) (by decide)))
  have F_a_start := F_a_start.other W11 (Or.inr (slot_ne (Or.inr (hw _ (List.mem_of_getElem? (i := 48) rfl))) (Or.inr (hw _ (List.mem_of_getElem? (i := 50) rfl))) (by decide) (t := .int) (t' := .int) (by decide) (by decide)))
  have F_a_end := F_a_end.same W11
  have F_a_next := F_a_next.other W11 (Or.inr (slot_ne (Or.inr (hw _ (List.mem_of_getElem? (i := 52) rfl))) (Or.inr (hw _ (List.mem_of_getElem? (i := 50) rfl))) (by decide) (t := .int) (t' := .int) (by decide) (by decide)))
  have E_a := E_a.wr W11
  have K := K.wr W11 (Or.inl (List.mem_of_getElem? (i := 0) rfl))
  have Z0 := Nat.le_trans Z0 (Keep.of_wr W11).1
  have N := Fr.snoc X N g_a
  have st : ∀ t, Steps p.tables e below (T9.setTop (mkF m 22 #[.val (.ref a), .val (.int x1), .val (.int x2), .val (.int x3), .val (.int x4)] [(.int x4), (.ref a)])) t → Steps p.tables e below (s₁.setTop (mkF m 0 #[.val (.ref a), .val (.int x1), .val (.int x2), .val (.int x3), .val (.int x4)] [])) t := fun t k => st t (by
      show Steps p.tables e below (T9.setTop (mkF m 19 #[.val (.ref a), .val (.int x1), .val (.int x2), .val (.int x3), .val (.int x4)] [])) _
      refine XS.aloadN X.here hx rfl (hb hby d7_19) rfl rfl ?_
      show Steps p.tables e below (T9.setTop (mkF m 20 #[.val (.ref a), .val (.int x1), .val (.int x2), .val (.int x3), .val (.int x4)] [(.ref a)])) _
      refine XS.iload X.here hx rfl (hb hby d7_20) rfl ?_
      exact k)
  obtain ⟨T12, h13, X, eh, W14, sx⟩ := putF X hx hZ hown (host := "") (Or.inl (hw _ (List.mem_of_getElem? (i := 51) rfl))) Via.refl eh F_a_next E_a (Or.inr ⟨(hw _ (List.mem_of_getElem? (i := 52) rfl)), rfl, hnm⟩) (hw _ (List.mem_of_getElem? (i := 34) rfl)) (ty := .int) (by decide) rfl rfl (g := (mkF m 22 #[.val (.ref a), .val (.int x1), .val (.int x2), .val (.int x3), .val (.int x4)] [(.int x4), (.ref a)])) rfl rfl (hb hby d7_22)
  have st : ∀ t, Steps p.tables e below (T12.setTop (mkF m 25 #[.val (.ref a), .val (.int x1), .val (.int x2), .val (.int x3), .val (.int x4)] [])) t → Steps p.tables e below (s₁.setTop (mkF m 0 #[.val (.ref a), .val (.int x1), .val (.int x2), .val (.int x3), .val (.int x4)] [])) t := fun t k => st t (sx t k)
  have F_a_tag := F_a_tag.other W14 (Or.inr (slot_ne (Or.inr (hw _ (List.mem_of_getElem? (i := 46) rfl))) (Or.inr (hw _ (List.mem_of_getElem? (i := 52) rfl))) (by decide) (t := .int) (t' := .int) (by decide) (by decide)))
  have F_a_start := F_a_start.other W14 (Or.inr (slot_ne (Or.inr (hw _ (List.mem_of_getElem? (i := 48) rfl))) (Or.inr (hw _ (List.mem_of_getElem? (i := 52) rfl))) (by decide) (t := .int) (t' := .int) (by decide) (by decide)))
  have F_a_end := F_a_end.other W14 (Or.inr (slot_ne (Or.inr (hw _ (List.mem_of_getElem? (i := 50) rfl))) (Or.inr (hw _ (List.mem_of_getElem? (i := 52) rfl))) (by decide) (t := .int) (t' := .int) (by decide) (by decide)))
  have F_a_next := F_a_next.same W14
  have E_a := E_a.wr W14
  have K := K.wr W14 (Or.inl (List.mem_of_getElem? (i := 0) rfl))
  have Z0 := Nat.le_trans Z0 (Keep.of_wr W14).1
  have N := Fr.snoc X N g_a
  obtain ⟨fs_, hr, hrun, hended, hW, hsame⟩ := X.leave (v := none) (fun _ => rfl)
  refine ⟨_, _, pre0 _ (st _ ?_), hrun, hended, _, _, rfl, ?_, ⟨_, rfl⟩, hW, hsame.mono (by decide) (by decide)⟩
  · exact X.returnOut hx Bd.returns (hb hby d7_25) hr
  · show Q_rm7 Z a x1 x2 x3 x4 h0 n0 _ T12.heap _
    rw [eh]
    exact ⟨rfl, N, K, F_a_tag, F_a_start, F_a_end, F_a_next⟩
theorem d9_0 : decode prog_43_method_8_code 0 = .ok (.aload_n 0, 1) := by decide +kernel
theorem d9_1 : decode prog_43_method_8_code 1 = .ok (.getfield 19, 3) := by decide +kernel
theorem d9_4 : decode prog_43_method_8_code 4 = .ok (.ireturn, 1) := by decide +kernel
def Q_rm9 (Z : State) (a : Addr) (x1 : Int32) (h0 : Heap) (n0 : Nat) (v : Option Value) (h : Heap) (L : List Loc) : Prop := v = some (.int x1) ∧ Fr n0 L ∧ h = h0
theorem ef_rm9 (m : MethodId) (x0 : Addr) : entryFrame m #[(.ref x0)] 1 = mkF m 0 #[.val (.ref x0)] [] := by first | (simp [entryFrame, mkF, argsToLocals, Value.category]; done) | rfl
set_option maxRecDepth 65536 in
set_option maxHeartbeats 40000000 in
theorem rm9 (l : Launch) (Z : State) (a0 : Array Value) (hw : ∀ d ∈ tables_1, d.before a0 Z = true) (ws : List Jvm.Cond) (a : Addr) (x1 : Int32) (h0 : Heap) (n0 : Nat) (Z0 : n0 ≤ h0.size) (F_a_next : Fld Z h0 a "org/kartenwerk/Der$Value" "next" "I" (.int x1)) :
    MetFree l (⟨"org/kartenwerk/Der$Value", "next", "()I"⟩ : MethodName) (head1 (Jvm.Cond.code (⟨"org/kartenwerk/Der$Value", "next", "()I"⟩ : MethodName) prog_43_method_8_code 1 (some .int) :: ws) ({ frames := 0, cells := 0, slots := 0, locals := 0 } : Room)) (fun a' U => a' = #[(.ref a)] ∧ Z.Warmed39 U.vm ∧ U.heap = h0) (fun _ _ _ _ _ => True) (fun _ U o U' => ∃ v L, o = .returned v ∧ Q_rm9 Z a x1 h0 n0 v U'.heap L ∧ FrameEnd U o U' L ({ frames := 0, cells := 0, slots := 0, locals := 0 } : Room).cells ({ frames := 0, cells := 0, slots := 0, locals := 0 } : Room).slots) := by
  refine MetFree.of_bodySF (plainFor_of_name own_pn7) hisR ?_
  intro p e s m args below meth cd0 s₁ Bd hml0 hP hK
  obtain ⟨rfl, hZ, hh⟩ := hP
  have hx := Bd.exec
  have hby := Bd.bytes
  have hml : cd0.maxLocals = 1 := hml0
  have hown : s.vm.findClass "org/kartenwerk/Der$Value" = some m.cls := findClass_of_methodNamed Bd.named
  have hnm := (name_of_methodNamed Bd.named Bd.method).1
  have X : Stand p l e ({ frames := 0, cells := 0, slots := 0, locals := 0 } : Room) s m #[(.ref a)] below meth cd0 s₁ [] 0 0 := Stand.of_body Bd
  have eh : s₁.heap = h0 := by rw [← hh, Bd.state]; rfl
  have N := Fr.nil n0
  have K : Keep h0 h0 [] := Keep.refl _ _
  have pre0 : ∀ t, Steps p.tables e below (s₁.setTop (mkF m 0 #[.val (.ref a)] [])) t → Steps p.tables e below (s₁.setTop (entryFrame m #[(.ref a)] 1)) t := fun t k => castTop (ef_rm9 m a) k
  have st : ∀ t, Steps p.tables e below (s₁.setTop (mkF m 0 #[.val (.ref a)] [])) t → Steps p.tables e below (s₁.setTop (mkF m 0 #[.val (.ref a)] [])) t := fun t k => k
  have st : ∀ t, Steps p.tables e below (s₁.setTop (mkF m 1 #[.val (.ref a)] [(.ref a)])) t → Steps p.tables e below (s₁.setTop (mkF m 0 #[.val (.ref a)] [])) t := fun t k => st t (by
      show Steps p.tables e below (s₁.setTop (mkF m 0 #[.val (.ref a)] [])) _
      refine XS.aloadN X.here hx rfl (hb hby d9_0) rfl rfl ?_
      exact k)
  obtain ⟨T1, X, eh, sx⟩ := getF X hx hZ hown (host := "") (Or.inl (hw _ (List.mem_of_getElem? (i := 51) rfl))) Via.refl eh F_a_next (g := (mkF m 1 #[.val (.ref a)] [(.ref a)])) rfl rfl (hb hby d9_1)
  have st : ∀ t, Steps p.tables e below (T1.setTop (mkF m 4 #[.val (.ref a)] [(.int x1)])) t → Steps p.tables e below (s₁.setTop (mkF m 0 #[.val (.ref a)] [])) t := fun t k => st t (sx t k)
  obtain ⟨fs_, hr, hrun, hended, hW, hsame⟩ := X.leave (v := some (.int x1)) (fun h => by rw [Bd.returns] at h; cases h)
  refine ⟨_, _, pre0 _ (st _ ?_), hrun, hended, _, _, rfl, ?_, ⟨_, rfl⟩, hW, hsame.mono (by decide) (by decide)⟩
  · exact retI X hx Bd.returns (hb hby d9_4) hr
  · show Q_rm9 Z a x1 h0 n0 _ T1.heap _
    rw [eh]
    exact ⟨rfl, N, rfl⟩
theorem d14_0 : decode prog_43_method_6_code 0 = .ok (.aload_n 0, 1) := by decide +kernel
theorem d14_1 : decode prog_43_method_6_code 1 = .ok (.getfield 13, 3) := by decide +kernel
theorem d14_4 : decode prog_43_method_6_code 4 = .ok (.ireturn, 1) := by decide +kernel
def Q_rm14 (Z : State) (a : Addr) (x1 : Int32) (h0 : Heap) (n0 : Nat) (v : Option Value) (h : Heap) (L : List Loc) : Prop := v = some (.int x1) ∧ Fr n0 L ∧ h = h0
theorem ef_rm14 (m : MethodId) (x0 : Addr) : entryFrame m #[(.ref x0)] 1 = mkF m 0 #[.val (.ref x0)] [] := by first | (simp [entryFrame, mkF, argsToLocals, Value.category]; done) | rfl
set_option maxRecDepth 65536 in
set_option maxHeartbeats 40000000 in
theorem rm14 (l : Launch) (Z : State) (a0 : Array Value) (hw : ∀ d ∈ tables_1, d.before a0 Z = true) (ws : List Jvm.Cond) (a : Addr) (x1 : Int32) (h0 : Heap) (n0 : Nat) (Z0 : n0 ≤ h0.size) (F_a_start : Fld Z h0 a "org/kartenwerk/Der$Value" "start" "I" (.int x1)) :
    MetFree l (⟨"org/kartenwerk/Der$Value", "start", "()I"⟩ : MethodName) (head1 (Jvm.Cond.code (⟨"org/kartenwerk/Der$Value", "start", "()I"⟩ : MethodName) prog_43_method_6_code 1 (some .int) :: ws) ({ frames := 0, cells := 0, slots := 0, locals := 0 } : Room)) (fun a' U => a' = #[(.ref a)] ∧ Z.Warmed39 U.vm ∧ U.heap = h0) (fun _ _ _ _ _ => True) (fun _ U o U' => ∃ v L, o = .returned v ∧ Q_rm14 Z a x1 h0 n0 v U'.heap L ∧ FrameEnd U o U' L ({ frames := 0, cells := 0, slots := 0, locals := 0 } : Room).cells ({ frames := 0, cells := 0, slots := 0, locals := 0 } : Room).slots) := by
  refine MetFree.of_bodySF (plainFor_of_name own_pn7) hisR ?_
  intro p e s m args below meth cd0 s₁ Bd hml0 hP hK
  obtain ⟨rfl, hZ, hh⟩ := hP
  have hx := Bd.exec
  have hby := Bd.bytes
  have hml : cd0.maxLocals = 1 := hml0
  have hown : s.vm.findClass "org/kartenwerk/Der$Value" = some m.cls := findClass_of_methodNamed Bd.named
  have hnm := (name_of_methodNamed Bd.named Bd.method).1
  have X : Stand p l e ({ frames := 0, cells := 0, slots := 0, locals := 0 } : Room) s m #[(.ref a)] below meth cd0 s₁ [] 0 0 := Stand.of_body Bd
  have eh : s₁.heap = h0 := by rw [← hh, Bd.state]; rfl
  have N := Fr.nil n0
  have K : Keep h0 h0 [] := Keep.refl _ _
  have pre0 : ∀ t, Steps p.tables e below (s₁.setTop (mkF m 0 #[.val (.ref a)] [])) t → Steps p.tables e below (s₁.setTop (entryFrame m #[(.ref a)] 1)) t := fun t k => castTop (ef_rm14 m a) k
  have st : ∀ t, Steps p.tables e below (s₁.setTop (mkF m 0 #[.val (.ref a)] [])) t → Steps p.tables e below (s₁.setTop (mkF m 0 #[.val (.ref a)] [])) t := fun t k => k
  have st : ∀ t, Steps p.tables e below (s₁.setTop (mkF m 1 #[.val (.ref a)] [(.ref a)])) t → Steps p.tables e below (s₁.setTop (mkF m 0 #[.val (.ref a)] [])) t := fun t k => st t (by
      show Steps p.tables e below (s₁.setTop (mkF m 0 #[.val (.ref a)] [])) _
      refine XS.aloadN X.here hx rfl (hb hby d14_0) rfl rfl ?_
      exact k)
  obtain ⟨T1, X, eh, sx⟩ := getF X hx hZ hown (host := "") (Or.inl (hw _ (List.mem_of_getElem? (i := 47) rfl))) Via.refl eh F_a_start (g := (mkF m 1 #[.val (.ref a)] [(.ref a)])) rfl rfl (hb hby d14_1)
  have st : ∀ t, Steps p.tables e below (T1.setTop (mkF m 4 #[.val (.ref a)] [(.int x1)])) t → Steps p.tables e below (s₁.setTop (mkF m 0 #[.val (.ref a)] [])) t := fun t k => st t (sx t k)
  obtain ⟨fs_, hr, hrun, hended, hW, hsame⟩ := X.leave (v := some (.int x1)) (fun h => by rw [Bd.returns] at h; cases h)
  refine ⟨_, _, pre0 _ (st _ ?_), hrun, hended, _, _, rfl, ?_, ⟨_, rfl⟩, hW, hsame.mono (by decide) (by decide)⟩
  · exact retI X hx Bd.returns (hb hby d14_4) hr
  · show Q_rm14 Z a x1 h0 n0 _ T1.heap _
    rw [eh]
    exact ⟨rfl, N, rfl⟩
theorem d15_0 : decode prog_43_method_7_code 0 = .ok (.aload_n 0, 1) := by decide +kernel
theorem d15_1 : decode prog_43_method_7_code 1 = .ok (.getfield 16, 3) := by decide +kernel
theorem d15_4 : decode prog_43_method_7_code 4 = .ok (.ireturn, 1) := by decide +kernel
def Q_rm15 (Z : State) (a : Addr) (x1 : Int32) (h0 : Heap) (n0 : Nat) (v : Option Value) (h : Heap) (L : List Loc) : Prop := v = some (.int x1) ∧ Fr n0 L ∧ h = h0
theorem ef_rm15 (m : MethodId) (x0 : Addr) : entryFrame m #[(.ref x0)] 1 = mkF m 0 #[.val (.ref x0)] [] := by first | (simp [entryFrame, mkF, argsToLocals, Value.category]; done) | rfl
set_option maxRecDepth 65536 in
set_option maxHeartbeats 40000000 in
theorem rm15 (l : Launch) (Z : State) (a0 : Array Value) (hw : ∀ d ∈ tables_1, d.before a0 Z = true) (ws : List Jvm.Cond) (a : Addr) (x1 : Int32) (h0 : Heap) (n0 : Nat) (Z0 : n0 ≤ h0.size) (F_a_end : Fld Z h0 a "org/kartenwerk/Der$Value" "end" "I" (.int x1)) :
    MetFree l (⟨"org/kartenwerk/Der$Value", "end", "()I"⟩ : MethodName) (head1 (Jvm.Cond.code (⟨"org/kartenwerk/Der$Value", "end", "()I"⟩ : MethodName) prog_43_method_7_code 1 (some .int) :: ws) ({ frames := 0, cells := 0, slots := 0, locals := 0 } : Room)) (fun a' U => a' = #[(.ref a)] ∧ Z.Warmed39 U.vm ∧ U.heap = h0) (fun _ _ _ _ _ => True) (fun _ U o U' => ∃ v L, o = .returned v ∧ Q_rm15 Z a x1 h0 n0 v U'.heap L ∧ FrameEnd U o U' L ({ frames := 0, cells := 0, slots := 0, locals := 0 } : Room).cells ({ frames := 0, cells := 0, slots := 0, locals := 0 } : Room).slots) := by
  refine MetFree.of_bodySF (plainFor_of_name own_pn7) hisR ?_
  intro p e s m args below meth cd0 s₁ Bd hml0 hP hK
  obtain ⟨rfl, hZ, hh⟩ := hP
  have hx := Bd.exec
  have hby := Bd.bytes
  have hml : cd0.maxLocals = 1 := hml0
  have hown : s.vm.findClass "org/kartenwerk/Der$Value" = some m.cls := findClass_of_methodNamed Bd.named
  have hnm := (name_of_methodNamed Bd.named Bd.method).1
  have X : Stand p l e ({ frames := 0, cells := 0, slots := 0, locals := 0 } : Room) s m #[(.ref a)] below meth cd0 s₁ [] 0 0 := Stand.of_body Bd
  have eh : s₁.heap = h0 := by rw [← hh, Bd.state]; rfl
  have N := Fr.nil n0
  have K : Keep h0 h0 [] := Keep.refl _ _
  have pre0 : ∀ t, Steps p.tables e below (s₁.setTop (mkF m 0 #[.val (.ref a)] [])) t → Steps p.tables e below (s₁.setTop (entryFrame m #[(.ref a)] 1)) t := fun t k => castTop (ef_rm15 m a) k
  have st : ∀ t, Steps p.tables e below (s₁.setTop (mkF m 0 #[.val (.ref a)] [])) t → Steps p.tables e below (s₁.setTop (mkF m 0 #[.val (.ref a)] [])) t := fun t k => k
  have st : ∀ t, Steps p.tables e below (s₁.setTop (mkF m 1 #[.val (.ref a)] [(.ref a)])) t → Steps p.tables e below (s₁.setTop (mkF m 0 #[.val (.ref a)] [])) t := fun t k => st t (by
      show Steps p.tables e below (s₁.setTop (mkF m 0 #[.val (.ref a)] [])) _
      refine XS.aloadN X.here hx rfl (hb hby d15_0) rfl rfl ?_
      exact k)
  obtain ⟨T1, X, eh, sx⟩ := getF X hx hZ hown (host := "") (Or.inl (hw _ (List.mem_of_getElem? (i := 49) rfl))) Via.refl eh F_a_end (g := (mkF m 1 #[.val (.ref a)] [(.ref a)])) rfl rfl (hb hby d15_1)
  have st : ∀ t, Steps p.tables e below (T1.setTop (mkF m 4 #[.val (.ref a)] [(.int x1)])) t → Steps p.tables e below (s₁.setTop (mkF m 0 #[.val (.ref a)] [])) t := fun t k => st t (sx t k)
  obtain ⟨fs_, hr, hrun, hended, hW, hsame⟩ := X.leave (v := some (.int x1)) (fun h => by rw [Bd.returns] at h; cases h)
  refine ⟨_, _, pre0 _ (st _ ?_), hrun, hended, _, _, rfl, ?_, ⟨_, rfl⟩, hW, hsame.mono (by decide) (by decide)⟩
  · exact retI X hx Bd.returns (hb hby d15_4) hr
  · show Q_rm15 Z a x1 h0 n0 _ T1.heap _
    rw [eh]
    exact ⟨rfl, N, rfl⟩
theorem d6_0 : decode prog_42_method_18_code 0 = .ok (.iload_n 3, 1) := by decide +kernel
theorem d6_1 : decode prog_42_method_18_code 1 = .ok (.bipush 64, 2) := by decide +kernel
theorem d6_3 : decode prog_42_method_18_code 3 = .ok (.if_icmp .le 13, 3) := by decide +kernel
theorem d6_16 : decode prog_42_method_18_code 16 = .ok (.iload_n 2, 1) := by decide +kernel
theorem d6_17 : decode prog_42_method_18_code 17 = .ok (.iload_n 1, 1) := by decide +kernel
theorem d6_18 : decode prog_42_method_18_code 18 = .ok (.isub, 1) := by decide +kernel
theorem d6_19 : decode prog_42_method_18_code 19 = .ok (.iconst 2, 1) := by decide +kernel
theorem d6_20 : decode prog_42_method_18_code 20 = .ok (.if_icmp .ge 13, 3) := by decide +kernel
theorem d6_33 : decode prog_42_method_18_code 33 = .ok (.aload_n 0, 1) := by decide +kernel
theorem d6_34 : decode prog_42_method_18_code 34 = .ok (.getfield 12, 3) := by decide +kernel
theorem d6_37 : decode prog_42_method_18_code 37 = .ok (.iload_n 1, 1) := by decide +kernel
theorem d6_38 : decode prog_42_method_18_code 38 = .ok (.baload, 1) := by decide +kernel
theorem d6_39 : decode prog_42_method_18_code 39 = .ok (.sipush 255, 3) := by decide +kernel
theorem d6_42 : decode prog_42_method_18_code 42 = .ok (.iand, 1) := by decide +kernel
theorem d6_43 : decode prog_42_method_18_code 43 = .ok (.istore 4, 2) := by decide +kernel
theorem d6_45 : decode prog_42_method_18_code 45 = .ok (.iload 4, 2) := by decide +kernel
theorem d6_47 : decode prog_42_method_18_code 47 = .ok (.bipush 31, 2) := by decide +kernel
theorem d6_49 : decode prog_42_method_18_code 49 = .ok (.iand, 1) := by decide +kernel
theorem d6_50 : decode prog_42_method_18_code 50 = .ok (.bipush 31, 2) := by decide +kernel
theorem d6_52 : decode prog_42_method_18_code 52 = .ok (.if_icmp .ne 13, 3) := by decide +kernel
theorem d6_65 : decode prog_42_method_18_code 65 = .ok (.aload_n 0, 1) := by decide +kernel
theorem d6_66 : decode prog_42_method_18_code 66 = .ok (.getfield 12, 3) := by decide +kernel
theorem d6_69 : decode prog_42_method_18_code 69 = .ok (.iload_n 1, 1) := by decide +kernel
theorem d6_70 : decode prog_42_method_18_code 70 = .ok (.iconst 1, 1) := by decide +kernel
theorem d6_71 : decode prog_42_method_18_code 71 = .ok (.iadd, 1) := by decide +kernel
theorem d6_72 : decode prog_42_method_18_code 72 = .ok (.baload, 1) := by decide +kernel
theorem d6_73 : decode prog_42_method_18_code 73 = .ok (.sipush 255, 3) := by decide +kernel
theorem d6_76 : decode prog_42_method_18_code 76 = .ok (.iand, 1) := by decide +kernel
theorem d6_77 : decode prog_42_method_18_code 77 = .ok (.istore 5, 2) := by decide +kernel
theorem d6_79 : decode prog_42_method_18_code 79 = .ok (.iload_n 1, 1) := by decide +kernel
theorem d6_80 : decode prog_42_method_18_code 80 = .ok (.iconst 2, 1) := by decide +kernel
theorem d6_81 : decode prog_42_method_18_code 81 = .ok (.iadd, 1) := by decide +kernel
theorem d6_82 : decode prog_42_method_18_code 82 = .ok (.istore 6, 2) := by decide +kernel
theorem d6_84 : decode prog_42_method_18_code 84 = .ok (.iload 5, 2) := by decide +kernel
theorem d6_86 : decode prog_42_method_18_code 86 = .ok (.sipush 128, 3) := by decide +kernel
theorem d6_89 : decode prog_42_method_18_code 89 = .ok (.if_icmp .ne 75, 3) := by decide +kernel
theorem d6_164 : decode prog_42_method_18_code 164 = .ok (.iload 5, 2) := by decide +kernel
theorem d6_166 : decode prog_42_method_18_code 166 = .ok (.i2l, 1) := by decide +kernel
theorem d6_167 : decode prog_42_method_18_code 167 = .ok (.lstore 8, 2) := by decide +kernel
theorem d6_169 : decode prog_42_method_18_code 169 = .ok (.iload 5, 2) := by decide +kernel
theorem d6_171 : decode prog_42_method_18_code 171 = .ok (.sipush 128, 3) := by decide +kernel
theorem d6_174 : decode prog_42_method_18_code 174 = .ok (.if_icmp .le 84, 3) := by decide +kernel
theorem d6_258 : decode prog_42_method_18_code 258 = .ok (.lload 8, 2) := by decide +kernel
theorem d6_260 : decode prog_42_method_18_code 260 = .ok (.iload_n 2, 1) := by decide +kernel
theorem d6_261 : decode prog_42_method_18_code 261 = .ok (.iload 6, 2) := by decide +kernel
theorem d6_263 : decode prog_42_method_18_code 263 = .ok (.isub, 1) := by decide +kernel
theorem d6_264 : decode prog_42_method_18_code 264 = .ok (.i2l, 1) := by decide +kernel
theorem d6_265 : decode prog_42_method_18_code 265 = .ok (.lcmp, 1) := by decide +kernel
theorem d6_266 : decode prog_42_method_18_code 266 = .ok (.ifCond .le 13, 3) := by decide +kernel
theorem d6_279 : decode prog_42_method_18_code 279 = .ok (.new 43, 3) := by decide +kernel
theorem d6_282 : decode prog_42_method_18_code 282 = .ok (.dup, 1) := by decide +kernel
theorem d6_283 : decode prog_42_method_18_code 283 = .ok (.iload 4, 2) := by decide +kernel
theorem d6_285 : decode prog_42_method_18_code 285 = .ok (.iload 6, 2) := by decide +kernel
theorem d6_287 : decode prog_42_method_18_code 287 = .ok (.iload 6, 2) := by decide +kernel
theorem d6_289 : decode prog_42_method_18_code 289 = .ok (.lload 8, 2) := by decide +kernel
theorem d6_291 : decode prog_42_method_18_code 291 = .ok (.l2i, 1) := by decide +kernel
theorem d6_292 : decode prog_42_method_18_code 292 = .ok (.iadd, 1) := by decide +kernel
theorem d6_293 : decode prog_42_method_18_code 293 = .ok (.iload 6, 2) := by decide +kernel
theorem d6_295 : decode prog_42_method_18_code 295 = .ok (.lload 8, 2) := by decide +kernel
theorem d6_297 : decode prog_42_method_18_code 297 = .ok (.l2i, 1) := by decide +kernel
theorem d6_298 : decode prog_42_method_18_code 298 = .ok (.iadd, 1) := by decide +kernel
theorem d6_299 : decode prog_42_method_18_code 299 = .ok (.invokespecial 166, 3) := by decide +kernel
theorem d6_302 : decode prog_42_method_18_code 302 = .ok (.astore 7, 2) := by decide +kernel
theorem d6_304 : decode prog_42_method_18_code 304 = .ok (.aload 7, 2) := by decide +kernel
theorem d6_306 : decode prog_42_method_18_code 306 = .ok (.areturn, 1) := by decide +kernel
def Q_rm6 (Z : State) (a : Addr) (ba : Addr) (k_ba : ClassId) (vs : List Value) (tg lg : Int32) (n ll : Nat) (h0 : Heap) (n0 : Nat) (v : Option Value) (h : Heap) (L : List Loc) : Prop := ∃ vv : Addr, v = some (.ref vv) ∧ Fr n0 L ∧ Keep h0 h [] ∧ h0.size ≤ vv ∧ n0 ≤ vv ∧ Exa Z h vv "org/kartenwerk/Der$Value" ∧ Fld Z h vv "org/kartenwerk/Der$Value" "start" "I" (.int (2 : Int32)) ∧ Fld Z h vv "org/kartenwerk/Der$Value" "end" "I" (.int (Int32.ofNat (2 + ll))) ∧ Fld Z h vv "org/kartenwerk/Der$Value" "next" "I" (.int (Int32.ofNat (2 + ll)))
theorem own_sub2 {n : Nat} (h : 2 ≤ n) (h8 : n ≤ 8) : ¬ (Int32.ofNat n - (0 : Int32)) < (2 : Int32) := fun q => by
  rw [Int32.sub_zero] at q
  have := (own_lt (i := n) (j := 2) (by omega) (by decide)).mp q
  omega
theorem own_n128 {k : Nat} (h : k ≤ 3) : ¬ Int32.ofNat k = (128 : Int32) := fun q => by have := (own_inj (i := k) (j := 128) (by omega) (by decide)).mp q; omega
theorem own_l128 {k : Nat} (h : k ≤ 3) : ¬ (128 : Int32) < Int32.ofNat k := fun q => by have := (own_lt (i := 128) (j := k) (by decide) (by omega)).mp q; omega
theorem own_subN {n : Nat} (h : 2 ≤ n) (h8 : n ≤ 8) : Int32.ofNat n - (2 : Int32) = Int32.ofNat (n - 2) := by
  have all : ∀ k : Fin 7, Int32.ofNat (2 + k.val) - (2 : Int32) = Int32.ofNat k.val := by decide +kernel
  have := all ⟨n - 2, by omega⟩
  simp only at this
  rw [show 2 + (n - 2) = n from by omega] at this
  exact this
theorem own_fit {ll n : Nat} (h : ll ≤ 3) (h2 : 2 + ll ≤ n) (h8 : n ≤ 8) : ¬ (Int32.ofNat n - (2 : Int32)).toInt64 < (Int32.ofNat ll).toInt64 := fun q => by
  rw [own_subN (by omega) h8, Int64.lt_iff_toInt_lt, Int32.toInt_toInt64, Int32.toInt_toInt64, own_toInt (by omega), own_toInt (by omega)] at q
  omega
theorem own_back {k : Nat} (h : k ≤ 3) : (2 : Int32) + (Int32.ofNat k).toInt64.toInt32 = Int32.ofNat (2 + k) := by
  have all : ∀ j : Fin 4, (2 : Int32) + (Int32.ofNat j.val).toInt64.toInt32 = Int32.ofNat (2 + j.val) := by decide +kernel
  exact all ⟨k, by omega⟩
theorem own_pd2 : parseMethodDescriptor "(IIII)V" = some ⟨[.int, .int, .int, .int], none⟩ := by decide +kernel
theorem ef_rm6 (m : MethodId) (x0 : Addr) (x1 : Int32) (x2 : Int32) (x3 : Int32) : entryFrame m #[(.ref x0), (.int x1), (.int x2), (.int x3)] 12 = mkF m 0 #[.val (.ref x0), .val (.int x1), .val (.int x2), .val (.int x3), .unset, .unset, .unset, .unset, .unset, .unset, .unset, .unset] [] := by first | (simp [entryFrame, mkF, argsToLocals, Value.category]; done) | rfl
set_option maxRecDepth 65536 in
set_option maxHeartbeats 40000000 in
theorem rm6 (l : Launch) (Z : State) (a0 : Array Value) (hw : ∀ d ∈ tables_1, d.before a0 Z = true) (ws : List Jvm.Cond) (a : Addr) (ba : Addr) (k_ba : ClassId) (vs : List Value) (tg lg : Int32) (n ll : Nat) (h0 : Heap) (n0 : Nat) (Z0 : n0 ≤ h0.size) (F_a_bytes : Fld Z h0 a "org/kartenwerk/Der" "bytes" "[B" (.ref ba)) (F_a_position : Fld Z h0 a "org/kartenwerk/Der" "position" "I" (.int (0 : Int32))) (F_a_end : Fld Z h0 a "org/kartenwerk/Der" "end" "I" (.int (Int32.ofNat n))) (V_ba : Arv Z h0 ba k_ba .byte (Int32.ofNat n) vs (.int (0 : Int32))) (hn : n ≤ 8) (h2n : 2 + ll ≤ n) (hll : ll ≤ 3) (hv0 : vs.getD 0 (.int (0 : Int32)) = .int tg) (hv1 : vs.getD 1 (.int (0 : Int32)) = .int lg) (htg : ¬ ((tg &&& (255 : Int32)) &&& (31 : Int32)) = (31 : Int32)) (hlg : (lg &&& (255 : Int32)) = Int32.ofNat ll) :
    MetFree l (⟨"org/kartenwerk/Der", "next", "(III)Lorg/kartenwerk/Der$Value;"⟩ : MethodName) (head1 (Jvm.Cond.code (⟨"org/kartenwerk/Der", "next", "(III)Lorg/kartenwerk/Der$Value;"⟩ : MethodName) prog_42_method_18_code 12 (some (.object "org/kartenwerk/Der$Value")) :: ws) ({ frames := 3, cells := 1, slots := 4, locals := 41 } : Room)) (fun a' U => a' = #[(.ref a), (.int (0 : Int32)), (.int (Int32.ofNat n)), (.int (0 : Int32))] ∧ Z.Warmed39 U.vm ∧ U.heap = h0) (fun _ _ _ _ _ => True) (fun _ U o U' => ∃ v L, o = .returned v ∧ Q_rm6 Z a ba k_ba vs tg lg n ll h0 n0 v U'.heap L ∧ FrameEnd U o U' L ({ frames := 3, cells := 1, slots := 4, locals := 41 } : Room).cells ({ frames := 3, cells := 1, slots := 4, locals := 41 } : Room).slots) := by
  refine MetFree.of_bodySF (plainFor_of_name own_pn2) hisR ?_
  intro p e s m args below meth cd0 s₁ Bd hml0 hP hK
  obtain ⟨rfl, hZ, hh⟩ := hP
  have hx := Bd.exec
  have hby := Bd.bytes
  have hml : cd0.maxLocals = 12 := hml0
  have hown : s.vm.findClass "org/kartenwerk/Der" = some m.cls := findClass_of_methodNamed Bd.named
  have hnm := (name_of_methodNamed Bd.named Bd.method).1
  have X : Stand p l e ({ frames := 3, cells := 1, slots := 4, locals := 41 } : Room) s m #[(.ref a), (.int (0 : Int32)), (.int (Int32.ofNat n)), (.int (0 : Int32))] below meth cd0 s₁ [] 0 0 := Stand.of_body Bd
  have eh : s₁.heap = h0 := by rw [← hh, Bd.state]; rfl
  have N := Fr.nil n0
  have K : Keep h0 h0 [] := Keep.refl _ _
  have pre0 : ∀ t, Steps p.tables e below (s₁.setTop (mkF m 0 #[.val (.ref a), .val (.int (0 : Int32)), .val (.int (Int32.ofNat n)), .val (.int (0 : Int32)), .unset, .unset, .unset, .unset, .unset, .unset, .unset, .unset] [])) t → Steps p.tables e below (s₁.setTop (entryFrame m #[(.ref a), (.int (0 : Int32)), (.int (Int32.ofNat n)), (.int (0 : Int32))] 12)) t := fun t k => castTop (ef_rm6 m a (0 : Int32) (Int32.ofNat n) (0 : Int32)) k
  have st : ∀ t, Steps p.tables e below (s₁.setTop (mkF m 0 #[.val (.ref a), .val (.int (0 : Int32)), .val (.int (Int32.ofNat n)), .val (.int (0 : Int32)), .unset, .unset, .unset, .unset, .unset, .unset, .unset, .unset] [])) t → Steps p.tables e below (s₁.setTop (mkF m 0 #[.val (.ref a), .val (.int (0 : Int32)), .val (.int (Int32.ofNat n)), .val (.int (0 : Int32)), .unset, .unset, .unset, .unset, .unset, .unset, .unset, .unset] [])) t := fun t k => k
  have st : ∀ t, Steps p.tables e below (s₁.setTop (mkF m 34 #[.val (.ref a), .val (.int (0 : Int32)), .val (.int (Int32.ofNat n)), .val (.int (0 : Int32)), .unset, .unset, .unset, .unset, .unset, .unset, .unset, .unset] [(.ref a)])) t → Steps p.tables e below (s₁.setTop (mkF m 0 #[.val (.ref a), .val (.int (0 : Int32)), .val (.int (Int32.ofNat n)), .val (.int (0 : Int32)), .unset, .unset, .unset, .unset, .unset, .unset, .unset, .unset] [])) t := fun t k => st t (by
      show Steps p.tables e below (s₁.setTop (mkF m 0 #[.val (.ref a), .val (.int (0 : Int32)), .val (.int (Int32.ofNat n)), .val (.int (0 : Int32)), .unset, .unset, .unset, .unset, .unset, .unset, .unset, .unset] [])) _
      refine XS.iloadN X.here hx rfl (hb hby d6_0) rfl ?_
      show Steps p.tables e below (s₁.setTop (mkF m 1 #[.val (.ref a), .val (.int (0 : Int32)), .val (.int (Int32.ofNat n)), .val (.int (0 : Int32)), .unset, .unset, .unset, .unset, .unset, .unset, .unset, .unset] [(.int (0 : Int32))])) _
      refine XS.bipush X.here hx rfl (hb hby d6_1) ?_
      show Steps p.tables e below (s₁.setTop (mkF m 3 #[.val (.ref a), .val (.int (0 : Int32)), .val (.int (Int32.ofNat n)), .val (.int (0 : Int32)), .unset, .unset, .unset, .unset, .unset, .unset, .unset, .unset] [(.int (64 : Int32)), (.int (0 : Int32))])) _
      refine XS.icmpYes X.here hx rfl (pc0 := 3) (pc' := 16) rfl (hb hby d6_3) rfl (flt (by decide)).2.2.2 (by decide) (by decide) ?_
      show Steps p.tables e below (s₁.setTop (mkF m 16 #[.val (.ref a), .val (.int (0 : Int32)), .val (.int (Int32.ofNat n)), .val (.int (0 : Int32)), .unset, .unset, .unset, .unset, .unset, .unset, .unset, .unset] [])) _
      refine XS.iloadN X.here hx rfl (hb hby d6_16) rfl ?_
      show Steps p.tables e below (s₁.setTop (mkF m 17 #[.val (.ref a), .val (.int (0 : Int32)), .val (.int (Int32.ofNat n)), .val (.int (0 : Int32)), .unset, .unset, .unset, .unset, .unset, .unset, .unset, .unset] [(.int (Int32.ofNat n))])) _
      refine XS.iloadN X.here hx rfl (hb hby d6_17) rfl ?_
      show Steps p.tables e below (s₁.setTop (mkF m 18 #[.val (.ref a), .val (.int (0 : Int32)), .val (.int (Int32.ofNat n)), .val (.int (0 : Int32)), .unset, .unset, .unset, .unset, .unset, .unset, .unset, .unset] [(.int (0 : Int32)), (.int (Int32.ofNat n))])) _
      refine XS.isub X.here hx rfl (hb hby d6_18) rfl ?_
      show Steps p.tables e below (s₁.setTop (mkF m 19 #[.val (.ref a), .val (.int (0 : Int32)), .val (.int (Int32.ofNat n)), .val (.int (0 : Int32)), .unset, .unset, .unset, .unset, .unset, .unset, .unset, .unset] [(.int ((Int32.ofNat n) - (0 : Int32)))])) _
      refine XS.iconst X.here hx rfl (hb hby d6_19) ?_
      show Steps p.tables e below (s₁.setTop (mkF m 20 #[.val (.ref a), .val (.int (0 : Int32)), .val (.int (Int32.ofNat n)), .val (.int (0 : Int32)), .unset, .unset, .unset, .unset, .unset, .unset, .unset, .unset] [(.int (2 : Int32)), (.int ((Int32.ofNat n) - (0 : Int32)))])) _
      refine XS.icmpYes X.here hx rfl (pc0 := 20) (pc' := 33) rfl (hb hby d6_20) rfl (flt (own_sub2 (by omega) (by omega))).2.1 (by decide) (by decide) ?_
      show Steps p.tables e below (s₁.setTop (mkF m 33 #[.val (.ref a), .val (.int (0 : Int32)), .val (.int (Int32.ofNat n)), .val (.int (0 : Int32)), .unset, .unset, .unset, .unset, .unset, .unset, .unset, .unset] [])) _
      refine XS.aloadN X.here hx rfl (hb hby d6_33) rfl rfl ?_
      exact k)
  obtain ⟨T1, X, eh, sx⟩ := getF X hx hZ hown (host := "") (Or.inl (hw _ (List.mem_of_getElem? (i := 13) rfl))) Via.refl eh F_a_bytes (g := (mkF m 34 #[.val (.ref a), .val (.int (0 : Int32)), .val (.int (Int32.ofNat n)), .val (.int (0 : Int32)), .unset, .unset, .unset, .unset, .unset, .unset, .unset, .unset] [(.ref a)])) rfl rfl (hb hby d6_34)
  have st : ∀ t, Steps p.tables e below (T1.setTop (mkF m 37 #[.val (.ref a), .val (.int (0 : Int32)), .val (.int (Int32.ofNat n)), .val (.int (0 : Int32)), .unset, .unset, .unset, .unset, .unset, .unset, .unset, .unset] [(.ref ba)])) t → Steps p.tables e below (s₁.setTop (mkF m 0 #[.val (.ref a), .val (.int (0 : Int32)), .val (.int (Int32.ofNat n)), .val (.int (0 : Int32)), .unset, .unset, .unset, .unset, .unset, .unset, .unset, .unset] [])) t := fun t k => st t (sx t k)
  have st : ∀ t, Steps p.tables e below (T1.setTop (mkF m 38 #[.val (.ref a), .val (.int (0 : Int32)), .val (.int (Int32.ofNat n)), .val (.int (0 : Int32)), .unset, .unset, .unset, .unset, .unset, .unset, .unset, .unset] [(.int (0 : Int32)), (.ref ba)])) t → Steps p.tables e below (s₁.setTop (mkF m 0 #[.val (.ref a), .val (.int (0 : Int32)), .val (.int (Int32.ofNat n)), .val (.int (0 : Int32)), .unset, .unset, .unset, .unset, .unset, .unset, .unset, .unset] [])) t := fun t k => st t (by
      show Steps p.tables e below (T1.setTop (mkF m 37 #[.val (.ref a), .val (.int (0 : Int32)), .val (.int (Int32.ofNat n)), .val (.int (0 : Int32)), .unset, .unset, .unset, .unset, .unset, .unset, .unset, .unset] [(.ref ba)])) _
      refine XS.iloadN X.here hx rfl (hb hby d6_37) rfl ?_
      exact k)
  obtain ⟨cl2, Ar2, hin2, hat2⟩ := own_rd (by omega) V_ba 0 (by omega) hv0
  have st : ∀ t, Steps p.tables e below (T1.setTop (mkF m 66 #[.val (.ref a), .val (.int (0 : Int32)), .val (.int (Int32.ofNat n)), .val (.int (0 : Int32)), .val (.int (tg &&& (255 : Int32))), .unset, .unset, .unset, .unset, .unset, .unset, .unset] [(.ref a)])) t → Steps p.tables e below (s₁.setTop (mkF m 0 #[.val (.ref a), .val (.int (0 : Int32)), .val (.int (Int32.ofNat n)), .val (.int (0 : Int32)), .unset, .unset, .unset, .unset, .unset, .unset, .unset, .unset] [])) t := fun t k => st t (by
      show Steps p.tables e below (T1.setTop (mkF m 38 #[.val (.ref a), .val (.int (0 : Int32)), .val (.int (Int32.ofNat n)), .val (.int (0 : Int32)), .unset, .unset, .unset, .unset, .unset, .unset, .unset, .unset] [(.int (0 : Int32)), (.ref ba)])) _
      refine X.baloadBytes hx (j := Int32.ofNat 0) (v := (.int tg)) (by rw [eh]; exact Ar2.1) (State.isArrayOf_alike hZ.alike Ar2.2.1) Ar2.2.2 hin2 hat2 (g := (mkF m 38 #[.val (.ref a), .val (.int (0 : Int32)), .val (.int (Int32.ofNat n)), .val (.int (0 : Int32)), .unset, .unset, .unset, .unset, .unset, .unset, .unset, .unset] [(.int (0 : Int32)), (.ref ba)])) rfl rfl (hb hby d6_38) _ ?_
      show Steps p.tables e below (T1.setTop (mkF m 39 #[.val (.ref a), .val (.int (0 : Int32)), .val (.int (Int32.ofNat n)), .val (.int (0 : Int32)), .unset, .unset, .unset, .unset, .unset, .unset, .unset, .unset] [(.int tg)])) _
      refine XS.sipush X.here hx rfl (hb hby d6_39) ?_
      show Steps p.tables e below (T1.setTop (mkF m 42 #[.val (.ref a), .val (.int (0 : Int32)), .val (.int (Int32.ofNat n)), .val (.int (0 : Int32)), .unset, .unset, .unset, .unset, .unset, .unset, .unset, .unset] [(.int (255 : Int32)), (.int tg)])) _
      refine XS.iand X.here hx rfl (hb hby d6_42) rfl ?_
      show Steps p.tables e below (T1.setTop (mkF m 43 #[.val (.ref a), .val (.int (0 : Int32)), .val (.int (Int32.ofNat n)), .val (.int (0 : Int32)), .unset, .unset, .unset, .unset, .unset, .unset, .unset, .unset] [(.int (tg &&& (255 : Int32)))])) _
      refine XS.istore X.here hx rfl (hb hby d6_43) rfl (l' := #[.val (.ref a), .val (.int (0 : Int32)), .val (.int (Int32.ofNat n)), .val (.int (0 : Int32)), .val (.int (tg &&& (255 : Int32))), .unset, .unset, .unset, .unset, .unset, .unset, .unset]) rfl ?_
      show Steps p.tables e below (T1.setTop (mkF m 45 #[.val (.ref a), .val (.int (0 : Int32)), .val (.int (Int32.ofNat n)), .val (.int (0 : Int32)), .val (.int (tg &&& (255 : Int32))), .unset, .unset, .unset, .unset, .unset, .unset, .unset] [])) _
      refine XS.iload X.here hx rfl (hb hby d6_45) rfl ?_
      show Steps p.tables e below (T1.setTop (mkF m 47 #[.val (.ref a), .val (.int (0 : Int32)), .val (.int (Int32.ofNat n)), .val (.int (0 : Int32)), .val (.int (tg &&& (255 : Int32))), .unset, .unset, .unset, .unset, .unset, .unset, .unset] [(.int (tg &&& (255 : Int32)))])) _
      refine XS.bipush X.here hx rfl (hb hby d6_47) ?_
      show Steps p.tables e below (T1.setTop (mkF m 49 #[.val (.ref a), .val (.int (0 : Int32)), .val (.int (Int32.ofNat n)), .val (.int (0 : Int32)), .val (.int (tg &&& (255 : Int32))), .unset, .unset, .unset, .unset, .unset, .unset, .unset] [(.int (31 : Int32)), (.int (tg &&& (255 : Int32)))])) _
      refine XS.iand X.here hx rfl (hb hby d6_49) rfl ?_
      show Steps p.tables e below (T1.setTop (mkF m 50 #[.val (.ref a), .val (.int (0 : Int32)), .val (.int (Int32.ofNat n)), .val (.int (0 : Int32)), .val (.int (tg &&& (255 : Int32))), .unset, .unset, .unset, .unset, .unset, .unset, .unset] [(.int ((tg &&& (255 : Int32)) &&& (31 : Int32)))])) _
      refine XS.bipush X.here hx rfl (hb hby d6_50) ?_
      show Steps p.tables e below (T1.setTop (mkF m 52 #[.val (.ref a), .val (.int (0 : Int32)), .val (.int (Int32.ofNat n)), .val (.int (0 : Int32)), .val (.int (tg &&& (255 : Int32))), .unset, .unset, .unset, .unset, .unset, .unset, .unset] [(.int (31 : Int32)), (.int ((tg &&& (255 : Int32)) &&& (31 : Int32)))])) _
      refine XS.icmpYes X.here hx rfl (pc0 := 52) (pc' := 65) rfl (hb hby d6_52) rfl (feq htg).2 (by decide) (by decide) ?_
      show Steps p.tables e below (T1.setTop (mkF m 65 #[.val (.ref a), .val (.int (0 : Int32)), .val (.int (Int32.ofNat n)), .val (.int (0 : Int32)), .val (.int (tg &&& (255 : Int32))), .unset, .unset, .unset, .unset, .unset, .unset, .unset] [])) _
      refine XS.aloadN X.here hx rfl (hb hby d6_65) rfl rfl ?_
      exact k)
  obtain ⟨T3, X, eh, sx⟩ := getF X hx hZ hown (host := "") (Or.inl (hw _ (List.mem_of_getElem? (i := 13) rfl))) Via.refl eh F_a_bytes (g := (mkF m 66 #[.val (.ref a), .val (.int (0 : Int32)), .val (.int (Int32.ofNat n)), .val (.int (0 : Int32)), .val (.int (tg &&& (255 : Int32))), .unset, .unset, .unset, .unset, .unset, .unset, .unset] [(.ref a)])) rfl rfl (hb hby d6_66)
  have st : ∀ t, Steps p.tables e below (T3.setTop (mkF m 69 #[.val (.ref a), .val (.int (0 : Int32)), .val (.int (Int32.ofNat n)), .val (.int (0 : Int32)), .val (.int (tg &&& (255 : Int32))), .unset, .unset, .unset, .unset, .unset, .unset, .unset] [(.ref ba)])) t → Steps p.tables e below (s₁.setTop (mkF m 0 #[.val (.ref a), .val (.int (0 : Int32)), .val (.int (Int32.ofNat n)), .val (.int (0 : Int32)), .unset, .unset, .unset, .unset, .unset, .unset, .unset, .unset] [])) t := fun t k => st t (sx t k)
  have st : ∀ t, Steps p.tables e below (T3.setTop (mkF m 72 #[.val (.ref a), .val (.int (0 : Int32)), .val (.int (Int32.ofNat n)), .val (.int (0 : Int32)), .val (.int (tg &&& (255 : Int32))), .unset, .unset, .unset, .unset, .unset, .unset, .unset] [(.int ((0 : Int32) + (1 : Int32))), (.ref ba)])) t → Steps p.tables e below (s₁.setTop (mkF m 0 #[.val (.ref a), .val (.int (0 : Int32)), .val (.int (Int32.ofNat n)), .val (.int (0 : Int32)), .unset, .unset, .unset, .unset, .unset, .unset, .unset, .unset] [])) t := fun t k => st t (by
      show Steps p.tables e below (T3.setTop (mkF m 69 #[.val (.ref a), .val (.int (0 : Int32)), .val (.int (Int32.ofNat n)), .val (.int (0 : Int32)), .val (.int (tg &&& (255 : Int32))), .unset, .unset, .unset, .unset, .unset, .unset, .unset] [(.ref ba)])) _
      refine XS.iloadN X.here hx rfl (hb hby d6_69) rfl ?_
      show Steps p.tables e below (T3.setTop (mkF m 70 #[.val (.ref a), .val (.int (0 : Int32)), .val (.int (Int32.ofNat n)), .val (.int (0 : Int32)), .val (.int (tg &&& (255 : Int32))), .unset, .unset, .unset, .unset, .unset, .unset, .unset] [(.int (0 : Int32)), (.ref ba)])) _
      refine XS.iconst X.here hx rfl (hb hby d6_70) ?_
      show Steps p.tables e below (T3.setTop (mkF m 71 #[.val (.ref a), .val (.int (0 : Int32)), .val (.int (Int32.ofNat n)), .val (.int (0 : Int32)), .val (.int (tg &&& (255 : Int32))), .unset, .unset, .unset, .unset, .unset, .unset, .unset] [(.int (1 : Int32)), (.int (0 : Int32)), (.ref ba)])) _
      refine XS.iadd X.here hx rfl (hb hby d6_71) rfl ?_
      exact k)
  have st : ∀ t, Steps p.tables e below (T3.setTop (mkF m 72 #[.val (.ref a), .val (.int (0 : Int32)), .val (.int (Int32.ofNat n)), .val (.int (0 : Int32)), .val (.int (tg &&& (255 : Int32))), .unset, .unset, .unset, .unset, .unset, .unset, .unset] [(.int (1 : Int32)), (.ref ba)])) t → Steps p.tables e below (s₁.setTop (mkF m 0 #[.val (.ref a), .val (.int (0 : Int32)), .val (.int (Int32.ofNat n)), .val (.int (0 : Int32)), .unset, .unset, .unset, .unset, .unset, .unset, .unset, .unset] [])) t := by exact st
  obtain ⟨cl4, Ar4, hin4, hat4⟩ := own_rd (by omega) V_ba 1 (by omega) hv1
  have st : ∀ t, Steps p.tables e below (T3.setTop (mkF m 77 #[.val (.ref a), .val (.int (0 : Int32)), .val (.int (Int32.ofNat n)), .val (.int (0 : Int32)), .val (.int (tg &&& (255 : Int32))), .unset, .unset, .unset, .unset, .unset, .unset, .unset] [(.int (lg &&& (255 : Int32)))])) t → Steps p.tables e below (s₁.setTop (mkF m 0 #[.val (.ref a), .val (.int (0 : Int32)), .val (.int (Int32.ofNat n)), .val (.int (0 : Int32)), .unset, .unset, .unset, .unset, .unset, .unset, .unset, .unset] [])) t := fun t k => st t (by
      show Steps p.tables e below (T3.setTop (mkF m 72 #[.val (.ref a), .val (.int (0 : Int32)), .val (.int (Int32.ofNat n)), .val (.int (0 : Int32)), .val (.int (tg &&& (255 : Int32))), .unset, .unset, .unset, .unset, .unset, .unset, .unset] [(.int (1 : Int32)), (.ref ba)])) _
      refine X.baloadBytes hx (j := Int32.ofNat 1) (v := (.int lg)) (by rw [eh]; exact Ar4.1) (State.isArrayOf_alike hZ.alike Ar4.2.1) Ar4.2.2 hin4 hat4 (g := (mkF m 72 #[.val (.ref a), .val (.int (0 : Int32)), .val (.int (Int32.ofNat n)), .val (.int (0 : Int32)), .val (.int (tg &&& (255 : Int32))), .unset, .unset, .unset, .unset, .unset, .unset, .unset] [(.int (1 : Int32)), (.ref ba)])) rfl rfl (hb hby d6_72) _ ?_
      show Steps p.tables e below (T3.setTop (mkF m 73 #[.val (.ref a), .val (.int (0 : Int32)), .val (.int (Int32.ofNat n)), .val (.int (0 : Int32)), .val (.int (tg &&& (255 : Int32))), .unset, .unset, .unset, .unset, .unset, .unset, .unset] [(.int lg)])) _
      refine XS.sipush X.here hx rfl (hb hby d6_73) ?_
      show Steps p.tables e below (T3.setTop (mkF m 76 #[.val (.ref a), .val (.int (0 : Int32)), .val (.int (Int32.ofNat n)), .val (.int (0 : Int32)), .val (.int (tg &&& (255 : Int32))), .unset, .unset, .unset, .unset, .unset, .unset, .unset] [(.int (255 : Int32)), (.int lg)])) _
      refine XS.iand X.here hx rfl (hb hby d6_76) rfl ?_
      exact k)
  have st : ∀ t, Steps p.tables e below (T3.setTop (mkF m 77 #[.val (.ref a), .val (.int (0 : Int32)), .val (.int (Int32.ofNat n)), .val (.int (0 : Int32)), .val (.int (tg &&& (255 : Int32))), .unset, .unset, .unset, .unset, .unset, .unset, .unset] [(.int (Int32.ofNat ll))])) t → Steps p.tables e below (s₁.setTop (mkF m 0 #[.val (.ref a), .val (.int (0 : Int32)), .val (.int (Int32.ofNat n)), .val (.int (0 : Int32)), .unset, .unset, .unset, .unset, .unset, .unset, .unset, .unset] [])) t := by rw [← hlg]; exact st
  have st : ∀ t, Steps p.tables e below (T3.setTop (mkF m 82 #[.val (.ref a), .val (.int (0 : Int32)), .val (.int (Int32.ofNat n)), .val (.int (0 : Int32)), .val (.int (tg &&& (255 : Int32))), .val (.int (Int32.ofNat ll)), .unset, .unset, .unset, .unset, .unset, .unset] [(.int ((0 : Int32) + (2 : Int32)))])) t → Steps p.tables e below (s₁.setTop (mkF m 0 #[.val (.ref a), .val (.int (0 : Int32)), .val (.int (Int32.ofNat n)), .val (.int (0 : Int32)), .unset, .unset, .unset, .unset, .unset, .unset, .unset, .unset] [])) t := fun t k => st t (by
      show Steps p.tables e below (T3.setTop (mkF m 77 #[.val (.ref a), .val (.int (0 : Int32)), .val (.int (Int32.ofNat n)), .val (.int (0 : Int32)), .val (.int (tg &&& (255 : Int32))), .unset, .unset, .unset, .unset, .unset, .unset, .unset] [(.int (Int32.ofNat ll))])) _
      refine XS.istore X.here hx rfl (hb hby d6_77) rfl (l' := #[.val (.ref a), .val (.int (0 : Int32)), .val (.int (Int32.ofNat n)), .val (.int (0 : Int32)), .val (.int (tg &&& (255 : Int32))), .val (.int (Int32.ofNat ll)), .unset, .unset, .unset, .unset, .unset, .unset]) rfl ?_
      show Steps p.tables e below (T3.setTop (mkF m 79 #[.val (.ref a), .val (.int (0 : Int32)), .val (.int (Int32.ofNat n)), .val (.int (0 : Int32)), .val (.int (tg &&& (255 : Int32))), .val (.int (Int32.ofNat ll)), .unset, .unset, .unset, .unset, .unset, .unset] [])) _
      refine XS.iloadN X.here hx rfl (hb hby d6_79) rfl ?_
      show Steps p.tables e below (T3.setTop (mkF m 80 #[.val (.ref a), .val (.int (0 : Int32)), .val (.int (Int32.ofNat n)), .val (.int (0 : Int32)), .val (.int (tg &&& (255 : Int32))), .val (.int (Int32.ofNat ll)), .unset, .unset, .unset, .unset, .unset, .unset] [(.int (0 : Int32))])) _
      refine XS.iconst X.here hx rfl (hb hby d6_80) ?_
      show Steps p.tables e below (T3.setTop (mkF m 81 #[.val (.ref a), .val (.int (0 : Int32)), .val (.int (Int32.ofNat n)), .val (.int (0 : Int32)), .val (.int (tg &&& (255 : Int32))), .val (.int (Int32.ofNat ll)), .unset, .unset, .unset, .unset, .unset, .unset] [(.int (2 : Int32)), (.int (0 : Int32))])) _
      refine XS.iadd X.here hx rfl (hb hby d6_81) rfl ?_
      exact k)
  have st : ∀ t, Steps p.tables e below (T3.setTop (mkF m 82 #[.val (.ref a), .val (.int (0 : Int32)), .val (.int (Int32.ofNat n)), .val (.int (0 : Int32)), .val (.int (tg &&& (255 : Int32))), .val (.int (Int32.ofNat ll)), .unset, .unset, .unset, .unset, .unset, .unset] [(.int (2 : Int32))])) t → Steps p.tables e below (s₁.setTop (mkF m 0 #[.val (.ref a), .val (.int (0 : Int32)), .val (.int (Int32.ofNat n)), .val (.int (0 : Int32)), .unset, .unset, .unset, .unset, .unset, .unset, .unset, .unset] [])) t := by exact st
  have st : ∀ t, Steps p.tables e below (T3.setTop (mkF m 279 #[.val (.ref a), .val (.int (0 : Int32)), .val (.int (Int32.ofNat n)), .val (.int (0 : Int32)), .val (.int (tg &&& (255 : Int32))), .val (.int (Int32.ofNat ll)), .val (.int (2 : Int32)), .unset, .val (.long ((Int32.ofNat ll).toInt64)), .second, .unset, .unset] [])) t → Steps p.tables e below (s₁.setTop (mkF m 0 #[.val (.ref a), .val (.int (0 : Int32)), .val (.int (Int32.ofNat n)), .val (.int (0 : Int32)), .unset, .unset, .unset, .unset, .unset, .unset, .unset, .unset] [])) t := fun t k => st t (by
      show Steps p.tables e below (T3.setTop (mkF m 82 #[.val (.ref a), .val (.int (0 : Int32)), .val (.int (Int32.ofNat n)), .val (.int (0 : Int32)), .val (.int (tg &&& (255 : Int32))), .val (.int (Int32.ofNat ll)), .unset, .unset, .unset, .unset, .unset, .unset] [(.int (2 : Int32))])) _
      refine XS.istore X.here hx rfl (hb hby d6_82) rfl (l' := #[.val (.ref a), .val (.int (0 : Int32)), .val (.int (Int32.ofNat n)), .val (.int (0 : Int32)), .val (.int (tg &&& (255 : Int32))), .val (.int (Int32.ofNat ll)), .val (.int (2 : Int32)), .unset, .unset, .unset, .unset, .unset]) rfl ?_
      show Steps p.tables e below (T3.setTop (mkF m 84 #[.val (.ref a), .val (.int (0 : Int32)), .val (.int (Int32.ofNat n)), .val (.int (0 : Int32)), .val (.int (tg &&& (255 : Int32))), .val (.int (Int32.ofNat ll)), .val (.int (2 : Int32)), .unset, .unset, .unset, .unset, .unset] [])) _
      refine XS.iload X.here hx rfl (hb hby d6_84) rfl ?_
      show Steps p.tables e below (T3.setTop (mkF m 86 #[.val (.ref a), .val (.int (0 : Int32)), .val (.int (Int32.ofNat n)), .val (.int (0 : Int32)), .val (.int (tg &&& (255 : Int32))), .val (.int (Int32.ofNat ll)), .val (.int (2 : Int32)), .unset, .unset, .unset, .unset, .unset] [(.int (Int32.ofNat ll))])) _
      refine XS.sipush X.here hx rfl (hb hby d6_86) ?_
      show Steps p.tables e below (T3.setTop (mkF m 89 #[.val (.ref a), .val (.int (0 : Int32)), .val (.int (Int32.ofNat n)), .val (.int (0 : Int32)), .val (.int (tg &&& (255 : Int32))), .val (.int (Int32.ofNat ll)), .val (.int (2 : Int32)), .unset, .unset, .unset, .unset, .unset] [(.int (128 : Int32)), (.int (Int32.ofNat ll))])) _
      refine XS.icmpYes X.here hx rfl (pc0 := 89) (pc' := 164) rfl (hb hby d6_89) rfl (feq (own_n128 hll)).2 (by decide) (by decide) ?_
      show Steps p.tables e below (T3.setTop (mkF m 164 #[.val (.ref a), .val (.int (0 : Int32)), .val (.int (Int32.ofNat n)), .val (.int (0 : Int32)), .val (.int (tg &&& (255 : Int32))), .val (.int (Int32.ofNat ll)), .val (.int (2 : Int32)), .unset, .unset, .unset, .unset, .unset] [])) _
      refine XS.iload X.here hx rfl (hb hby d6_164) rfl ?_
      show Steps p.tables e below (T3.setTop (mkF m 166 #[.val (.ref a), .val (.int (0 : Int32)), .val (.int (Int32.ofNat n)), .val (.int (0 : Int32)), .val (.int (tg &&& (255 : Int32))), .val (.int (Int32.ofNat ll)), .val (.int (2 : Int32)), .unset, .unset, .unset, .unset, .unset] [(.int (Int32.ofNat ll))])) _
      refine XS.i2l X.here hx rfl (hb hby d6_166) rfl ?_
      show Steps p.tables e below (T3.setTop (mkF m 167 #[.val (.ref a), .val (.int (0 : Int32)), .val (.int (Int32.ofNat n)), .val (.int (0 : Int32)), .val (.int (tg &&& (255 : Int32))), .val (.int (Int32.ofNat ll)), .val (.int (2 : Int32)), .unset, .unset, .unset, .unset, .unset] [(.long ((Int32.ofNat ll).toInt64))])) _
      refine XS.lstore X.here hx rfl (hb hby d6_167) rfl (l' := #[.val (.ref a), .val (.int (0 : Int32)), .val (.int (Int32.ofNat n)), .val (.int (0 : Int32)), .val (.int (tg &&& (255 : Int32))), .val (.int (Int32.ofNat ll)), .val (.int (2 : Int32)), .unset, .val (.long ((Int32.ofNat ll).toInt64)), .second, .unset, .unset]) rfl ?_
      show Steps p.tables e below (T3.setTop (mkF m 169 #[.val (.ref a), .val (.int (0 : Int32)), .val (.int (Int32.ofNat n)), .val (.int (0 : Int32)), .val (.int (tg &&& (255 : Int32))), .val (.int (Int32.ofNat ll)), .val (.int (2 : Int32)), .unset, .val (.long ((Int32.ofNat ll).toInt64)), .second, .unset, .unset] [])) _
      refine XS.iload X.here hx rfl (hb hby d6_169) rfl ?_
      show Steps p.tables e below (T3.setTop (mkF m 171 #[.val (.ref a), .val (.int (0 : Int32)), .val (.int (Int32.ofNat n)), .val (.int (0 : Int32)), .val (.int (tg &&& (255 : Int32))), .val (.int (Int32.ofNat ll)), .val (.int (2 : Int32)), .unset, .val (.long ((Int32.ofNat ll).toInt64)), .second, .unset, .unset] [(.int (Int32.ofNat ll))])) _
      refine XS.sipush X.here hx rfl (hb hby d6_171) ?_
      show Steps p.tables e below (T3.setTop (mkF m 174 #[.val (.ref a), .val (.int (0 : Int32)), .val (.int (Int32.ofNat n)), .val (.int (0 : Int32)), .val (.int (tg &&& (255 : Int32))), .val (.int (Int32.ofNat ll)), .val (.int (2 : Int32)), .unset, .val (.long ((Int32.ofNat ll).toInt64)), .second, .unset, .unset] [(.int (128 : Int32)), (.int (Int32.ofNat ll))])) _
      refine XS.icmpYes X.here hx rfl (pc0 := 174) (pc' := 258) rfl (hb hby d6_174) rfl (flt (own_l128 hll)).2.2.2 (by decide) (by decide) ?_
      show Steps p.tables e below (T3.setTop (mkF m 258 #[.val (.ref a), .val (.int (0 : Int32)), .val (.int (Int32.ofNat n)), .val (.int (0 : Int32)), .val (.int (tg &&& (255 : Int32))), .val (.int (Int32.ofNat ll)), .val (.int (2 : Int32)), .unset, .val (.long ((Int32.ofNat ll).toInt64)), .second, .unset, .unset] [])) _
      refine XS.lload X.here hx rfl (hb hby d6_258) rfl ?_
      show Steps p.tables e below (T3.setTop (mkF m 260 #[.val (.ref a), .val (.int (0 : Int32)), .val (.int (Int32.ofNat n)), .val (.int (0 : Int32)), .val (.int (tg &&& (255 : Int32))), .val (.int (Int32.ofNat ll)), .val (.int (2 : Int32)), .unset, .val (.long ((Int32.ofNat ll).toInt64)), .second, .unset, .unset] [(.long ((Int32.ofNat ll).toInt64))])) _
      refine XS.iloadN X.here hx rfl (hb hby d6_260) rfl ?_
      show Steps p.tables e below (T3.setTop (mkF m 261 #[.val (.ref a), .val (.int (0 : Int32)), .val (.int (Int32.ofNat n)), .val (.int (0 : Int32)), .val (.int (tg &&& (255 : Int32))), .val (.int (Int32.ofNat ll)), .val (.int (2 : Int32)), .unset, .val (.long ((Int32.ofNat ll).toInt64)), .second, .unset, .unset] [(.int (Int32.ofNat n)), (.long ((Int32.ofNat ll).toInt64))])) _
      refine XS.iload X.here hx rfl (hb hby d6_261) rfl ?_
      show Steps p.tables e below (T3.setTop (mkF m 263 #[.val (.ref a), .val (.int (0 : Int32)), .val (.int (Int32.ofNat n)), .val (.int (0 : Int32)), .val (.int (tg &&& (255 : Int32))), .val (.int (Int32.ofNat ll)), .val (.int (2 : Int32)), .unset, .val (.long ((Int32.ofNat ll).toInt64)), .second, .unset, .unset] [(.int (2 : Int32)), (.int (Int32.ofNat n)), (.long ((Int32.ofNat ll).toInt64))])) _
      refine XS.isub X.here hx rfl (hb hby d6_263) rfl ?_
      show Steps p.tables e below (T3.setTop (mkF m 264 #[.val (.ref a), .val (.int (0 : Int32)), .val (.int (Int32.ofNat n)), .val (.int (0 : Int32)), .val (.int (tg &&& (255 : Int32))), .val (.int (Int32.ofNat ll)), .val (.int (2 : Int32)), .unset, .val (.long ((Int32.ofNat ll).toInt64)), .second, .unset, .unset] [(.int ((Int32.ofNat n) - (2 : Int32))), (.long ((Int32.ofNat ll).toInt64))])) _
      refine XS.i2l X.here hx rfl (hb hby d6_264) rfl ?_
      show Steps p.tables e below (T3.setTop (mkF m 265 #[.val (.ref a), .val (.int (0 : Int32)), .val (.int (Int32.ofNat n)), .val (.int (0 : Int32)), .val (.int (tg &&& (255 : Int32))), .val (.int (Int32.ofNat ll)), .val (.int (2 : Int32)), .unset, .val (.long ((Int32.ofNat ll).toInt64)), .second, .unset, .unset] [(.long (((Int32.ofNat n) - (2 : Int32)).toInt64)), (.long ((Int32.ofNat ll).toInt64))])) _
      refine XS.lcmp X.here hx rfl (hb hby d6_265) rfl ?_
      show Steps p.tables e below (T3.setTop (mkF m 266 #[.val (.ref a), .val (.int (0 : Int32)), .val (.int (Int32.ofNat n)), .val (.int (0 : Int32)), .val (.int (tg &&& (255 : Int32))), .val (.int (Int32.ofNat ll)), .val (.int (2 : Int32)), .unset, .val (.long ((Int32.ofNat ll).toInt64)), .second, .unset, .unset] [(.int (lcmpW ((Int32.ofNat ll).toInt64) (((Int32.ofNat n) - (2 : Int32)).toInt64)))])) _
      refine XS.ifYes X.here hx rfl (pc0 := 266) (pc' := 279) rfl (hb hby d6_266) rfl ((if0 _ _).trans (flt (fun q => (own_fit hll h2n hn) ((lw_gt ((Int32.ofNat ll).toInt64) (((Int32.ofNat n) - (2 : Int32)).toInt64)).mp q))).2.2.2) (by decide) (by decide) ?_
      exact k)
  obtain ⟨T5, h6, X, eh, E7, E_vv, D7, -, sx⟩ := newO X hx hZ hown (hw _ (List.mem_of_getElem? (i := 33) rfl)) (hw _ (List.mem_of_getElem? (i := 34) rfl)) (hw _ (List.mem_of_getElem? (i := 35) rfl)) eh (g := (mkF m 279 #[.val (.ref a), .val (.int (0 : Int32)), .val (.int (Int32.ofNat n)), .val (.int (0 : Int32)), .val (.int (tg &&& (255 : Int32))), .val (.int (Int32.ofNat ll)), .val (.int (2 : Int32)), .unset, .val (.long ((Int32.ofNat ll).toInt64)), .second, .unset, .unset] [])) rfl (hb hby d6_279) (by decide) (by decide)
  obtain ⟨vv, g7⟩ : ∃ z, z = h0.size := ⟨_, rfl⟩
  have ne_a_vv : a ≠ vv := fun q => absurd F_a_bytes.lt (by rw [q, g7]; exact Nat.lt_irrefl _)
  have ne_ba_vv : ba ≠ vv := fun q => absurd V_ba.lt (by rw [q, g7]; exact Nat.lt_irrefl _)
  have g_vv : n0 ≤ vv := Nat.le_trans Z0 (Nat.le_of_eq g7.symm)
  have sz_vv : h0.size ≤ vv := Nat.le_trans K.1 (Nat.le_of_eq g7.symm)
  rw [← g7] at E_vv D7 sx
  have st : ∀ t, Steps p.tables e below (T5.setTop (mkF m 282 #[.val (.ref a), .val (.int (0 : Int32)), .val (.int (Int32.ofNat n)), .val (.int (0 : Int32)), .val (.int (tg &&& (255 : Int32))), .val (.int (Int32.ofNat ll)), .val (.int (2 : Int32)), .unset, .val (.long ((Int32.ofNat ll).toInt64)), .second, .unset, .unset] [(.ref vv)])) t → Steps p.tables e below (s₁.setTop (mkF m 0 #[.val (.ref a), .val (.int (0 : Int32)), .val (.int (Int32.ofNat n)), .val (.int (0 : Int32)), .unset, .unset, .unset, .unset, .unset, .unset, .unset, .unset] [])) t := fun t k => st t (sx t k)
  have F_a_bytes := F_a_bytes.ext E7
  have F_a_position := F_a_position.ext E7
  have F_a_end := F_a_end.ext E7
  have V_ba := V_ba.ext E7
  have K := K.ext E7
  have Z0 := Nat.le_trans Z0 E7.1
  have F_vv_tag : Fld Z h6 vv "org/kartenwerk/Der$Value" "tag" "I" (.int (0 : Int32)) := D7 (Or.inr (hw _ (List.mem_of_getElem? (i := 46) rfl))) (ty := .int) (by decide)
  have F_vv_start : Fld Z h6 vv "org/kartenwerk/Der$Value" "start" "I" (.int (0 : Int32)) := D7 (Or.inr (hw _ (List.mem_of_getElem? (i := 48) rfl))) (ty := .int) (by decide)
  have F_vv_end : Fld Z h6 vv "org/kartenwerk/Der$Value" "end" "I" (.int (0 : Int32)) := D7 (Or.inr (hw _ (List.mem_of_getElem? (i := 50) rfl))) (ty := .int) (by decide)
  have F_vv_next : Fld Z h6 vv "org/kartenwerk/Der$Value" "next" "I" (.int (0 : Int32)) := D7 (Or.inr (hw _ (List.mem_of_getElem? (i := 52) rfl))) (ty := .int) (by decide)
  have st : ∀ t, Steps p.tables e below (T5.setTop (mkF m 299 #[.val (.ref a), .val (.int (0 : Int32)), .val (.int (Int32.ofNat n)), .val (.int (0 : Int32)), .val (.int (tg &&& (255 : Int32))), .val (.int (Int32.ofNat ll)), .val (.int (2 : Int32)), .unset, .val (.long ((Int32.ofNat ll).toInt64)), .second, .unset, .unset] [(.int ((2 : Int32) + (((Int32.ofNat ll).toInt64).toInt32))), (.int ((2 : Int32) + (((Int32.ofNat ll).toInt64).toInt32))), (.int (2 : Int32)), (.int (tg &&& (255 : Int32))), (.ref vv), (.ref vv)])) t → Steps p.tables e below (s₁.setTop (mkF m 0 #[.val (.ref a), .val (.int (0 : Int32)), .val (.int (Int32.ofNat n)), .val (.int (0 : Int32)), .unset, .unset, .unset, .unset, .unset, .unset, .unset, .unset] [])) t := fun t k => st t (by
      show Steps p.tables e below (T5.setTop (mkF m 282 #[.val (.ref a), .val (.int (0 : Int32)), .val (.int (Int32.ofNat n)), .val (.int (0 : Int32)), .val (.int (tg &&& (255 : Int32))), .val (.int (Int32.ofNat ll)), .val (.int (2 : Int32)), .unset, .val (.long ((Int32.ofNat ll).toInt64)), .second, .unset, .unset] [(.ref vv)])) _
      refine XS.dup X.here hx rfl (hb hby d6_282) rfl rfl ?_
      show Steps p.tables e below (T5.setTop (mkF m 283 #[.val (.ref a), .val (.int (0 : Int32)), .val (.int (Int32.ofNat n)), .val (.int (0 : Int32)), .val (.int (tg &&& (255 : Int32))), .val (.int (Int32.ofNat ll)), .val (.int (2 : Int32)), .unset, .val (.long ((Int32.ofNat ll).toInt64)), .second, .unset, .unset] [(.ref vv), (.ref vv)])) _
      refine XS.iload X.here hx rfl (hb hby d6_283) rfl ?_
      show Steps p.tables e below (T5.setTop (mkF m 285 #[.val (.ref a), .val (.int (0 : Int32)), .val (.int (Int32.ofNat n)), .val (.int (0 : Int32)), .val (.int (tg &&& (255 : Int32))), .val (.int (Int32.ofNat ll)), .val (.int (2 : Int32)), .unset, .val (.long ((Int32.ofNat ll).toInt64)), .second, .unset, .unset] [(.int (tg &&& (255 : Int32))), (.ref vv), (.ref vv)])) _
      refine XS.iload X.here hx rfl (hb hby d6_285) rfl ?_
      show Steps p.tables e below (T5.setTop (mkF m 287 #[.val (.ref a), .val (.int (0 : Int32)), .val (.int (Int32.ofNat n)), .val (.int (0 : Int32)), .val (.int (tg &&& (255 : Int32))), .val (.int (Int32.ofNat ll)), .val (.int (2 : Int32)), .unset, .val (.long ((Int32.ofNat ll).toInt64)), .second, .unset, .unset] [(.int (2 : Int32)), (.int (tg &&& (255 : Int32))), (.ref vv), (.ref vv)])) _
      refine XS.iload X.here hx rfl (hb hby d6_287) rfl ?_
      show Steps p.tables e below (T5.setTop (mkF m 289 #[.val (.ref a), .val (.int (0 : Int32)), .val (.int (Int32.ofNat n)), .val (.int (0 : Int32)), .val (.int (tg &&& (255 : Int32))), .val (.int (Int32.ofNat ll)), .val (.int (2 : Int32)), .unset, .val (.long ((Int32.ofNat ll).toInt64)), .second, .unset, .unset] [(.int (2 : Int32)), (.int (2 : Int32)), (.int (tg &&& (255 : Int32))), (.ref vv), (.ref vv)])) _
      refine XS.lload X.here hx rfl (hb hby d6_289) rfl ?_
      show Steps p.tables e below (T5.setTop (mkF m 291 #[.val (.ref a), .val (.int (0 : Int32)), .val (.int (Int32.ofNat n)), .val (.int (0 : Int32)), .val (.int (tg &&& (255 : Int32))), .val (.int (Int32.ofNat ll)), .val (.int (2 : Int32)), .unset, .val (.long ((Int32.ofNat ll).toInt64)), .second, .unset, .unset] [(.long ((Int32.ofNat ll).toInt64)), (.int (2 : Int32)), (.int (2 : Int32)), (.int (tg &&& (255 : Int32))), (.ref vv), (.ref vv)])) _
      refine XS.l2i X.here hx rfl (hb hby d6_291) rfl ?_
      show Steps p.tables e below (T5.setTop (mkF m 292 #[.val (.ref a), .val (.int (0 : Int32)), .val (.int (Int32.ofNat n)), .val (.int (0 : Int32)), .val (.int (tg &&& (255 : Int32))), .val (.int (Int32.ofNat ll)), .val (.int (2 : Int32)), .unset, .val (.long ((Int32.ofNat ll).toInt64)), .second, .unset, .unset] [(.int (((Int32.ofNat ll).toInt64).toInt32)), (.int (2 : Int32)), (.int (2 : Int32)), (.int (tg &&& (255 : Int32))), (.ref vv), (.ref vv)])) _
      refine XS.iadd X.here hx rfl (hb hby d6_292) rfl ?_
      show Steps p.tables e below (T5.setTop (mkF m 293 #[.val (.ref a), .val (.int (0 : Int32)), .val (.int (Int32.ofNat n)), .val (.int (0 : Int32)), .val (.int (tg &&& (255 : Int32))), .val (.int (Int32.ofNat ll)), .val (.int (2 : Int32)), .unset, .val (.long ((Int32.ofNat ll).toInt64)), .second, .unset, .unset] [(.int ((2 : Int32) + (((Int32.ofNat ll).toInt64).toInt32))), (.int (2 : Int32)), (.int (tg &&& (255 : Int32))), (.ref vv), (.ref vv)])) _
      refine XS.iload X.here hx rfl (hb hby d6_293) rfl ?_
      show Steps p.tables e below (T5.setTop (mkF m 295 #[.val (.ref a), .val (.int (0 : Int32)), .val (.int (Int32.ofNat n)), .val (.int (0 : Int32)), .val (.int (tg &&& (255 : Int32))), .val (.int (Int32.ofNat ll)), .val (.int (2 : Int32)), .unset, .val (.long ((Int32.ofNat ll).toInt64)), .second, .unset, .unset] [(.int (2 : Int32)), (.int ((2 : Int32) + (((Int32.ofNat ll).toInt64).toInt32))), (.int (2 : Int32)), (.int (tg &&& (255 : Int32))), (.ref vv), (.ref vv)])) _
      refine XS.lload X.here hx rfl (hb hby d6_295) rfl ?_
      show Steps p.tables e below (T5.setTop (mkF m 297 #[.val (.ref a), .val (.int (0 : Int32)), .val (.int (Int32.ofNat n)), .val (.int (0 : Int32)), .val (.int (tg &&& (255 : Int32))), .val (.int (Int32.ofNat ll)), .val (.int (2 : Int32)), .unset, .val (.long ((Int32.ofNat ll).toInt64)), .second, .unset, .unset] [(.long ((Int32.ofNat ll).toInt64)), (.int (2 : Int32)), (.int ((2 : Int32) + (((Int32.ofNat ll).toInt64).toInt32))), (.int (2 : Int32)), (.int (tg &&& (255 : Int32))), (.ref vv), (.ref vv)])) _
      refine XS.l2i X.here hx rfl (hb hby d6_297) rfl ?_
      show Steps p.tables e below (T5.setTop (mkF m 298 #[.val (.ref a), .val (.int (0 : Int32)), .val (.int (Int32.ofNat n)), .val (.int (0 : Int32)), .val (.int (tg &&& (255 : Int32))), .val (.int (Int32.ofNat ll)), .val (.int (2 : Int32)), .unset, .val (.long ((Int32.ofNat ll).toInt64)), .second, .unset, .unset] [(.int (((Int32.ofNat ll).toInt64).toInt32)), (.int (2 : Int32)), (.int ((2 : Int32) + (((Int32.ofNat ll).toInt64).toInt32))), (.int (2 : Int32)), (.int (tg &&& (255 : Int32))), (.ref vv), (.ref vv)])) _
      refine XS.iadd X.here hx rfl (hb hby d6_298) rfl ?_
      exact k)
  have st : ∀ t, Steps p.tables e below (T5.setTop (mkF m 299 #[.val (.ref a), .val (.int (0 : Int32)), .val (.int (Int32.ofNat n)), .val (.int (0 : Int32)), .val (.int (tg &&& (255 : Int32))), .val (.int (Int32.ofNat ll)), .val (.int (2 : Int32)), .unset, .val (.long ((Int32.ofNat ll).toInt64)), .second, .unset, .unset] [(.int (Int32.ofNat (2 + ll))), (.int (Int32.ofNat (2 + ll))), (.int (2 : Int32)), (.int (tg &&& (255 : Int32))), (.ref vv), (.ref vv)])) t → Steps p.tables e below (s₁.setTop (mkF m 0 #[.val (.ref a), .val (.int (0 : Int32)), .val (.int (Int32.ofNat n)), .val (.int (0 : Int32)), .unset, .unset, .unset, .unset, .unset, .unset, .unset, .unset] [])) t := by rw [← own_back hll]; exact st
  obtain ⟨_, _, ⟨T9, L8, k8, n8⟩, -, X, ⟨Lc8, hQ, l8, y8, z8⟩, sx⟩ := own_refBack X hx (y := (⟨"org/kartenwerk/Der$Value", "<init>", "(IIII)V"⟩ : MethodName)) rfl hown hZ (hw _ (List.mem_of_getElem? (i := 36) rfl)) (mvT hZ (hw _ (List.mem_of_getElem? (i := 37) rfl))) (mvT hZ (hw _ (List.mem_of_getElem? (i := 38) rfl))) (by decide) (backOf (W := 1) (rm7 l Z a0 hw [] vv (tg &&& (255 : Int32)) (2 : Int32) (Int32.ofNat (2 + ll)) (Int32.ofNat (2 + ll))  h6 n0 Z0 E_vv g_vv F_vv_tag F_vv_start F_vv_end F_vv_next) hZ (hw _ (List.mem_of_getElem? (i := 38) rfl)) (hw _ (List.mem_of_getElem? (i := 35) rfl)) (by decide) (by decide)) (g := (mkF m 299 #[.val (.ref a), .val (.int (0 : Int32)), .val (.int (Int32.ofNat n)), .val (.int (0 : Int32)), .val (.int (tg &&& (255 : Int32))), .val (.int (Int32.ofNat ll)), .val (.int (2 : Int32)), .unset, .val (.long ((Int32.ofNat ll).toInt64)), .second, .unset, .unset] [(.int (Int32.ofNat (2 + ll))), (.int (Int32.ofNat (2 + ll))), (.int (2 : Int32)), (.int (tg &&& (255 : Int32))), (.ref vv), (.ref vv)])) rfl (by rw [hml]; rfl) (Steps.refl _) (a := vv) (argsL := [(.int (tg &&& (255 : Int32))), (.int (2 : Int32)), (.int (Int32.ofNat (2 + ll))), (.int (Int32.ofNat (2 + ll)))]) (rest := [(.ref vv)]) (lenOf own_pd2 rfl) rfl (by show 2 * 0 + _ ≤ _; exact Nat.le_of_eq rfl) (hb hby d6_299) (fun _ _ => ⟨rfl, eh, (by decide : 1 + 0 ≤ _), (by decide : 4 + 0 ≤ _)⟩)
  dsimp only [Pt.U, Pt.locs, Pt.cells, Pt.slots] at X l8 y8 z8 sx hQ
  subst l8 y8 z8
  obtain ⟨rfl, Nc, K1, F_vv_tag, F_vv_start, F_vv_end, F_vv_next⟩ := hQ
  have st : ∀ t, Steps p.tables e below (T9.setTop (mkF m 302 #[.val (.ref a), .val (.int (0 : Int32)), .val (.int (Int32.ofNat n)), .val (.int (0 : Int32)), .val (.int (tg &&& (255 : Int32))), .val (.int (Int32.ofNat ll)), .val (.int (2 : Int32)), .unset, .val (.long ((Int32.ofNat ll).toInt64)), .second, .unset, .unset] [(.ref vv)])) t → Steps p.tables e below (s₁.setTop (mkF m 0 #[.val (.ref a), .val (.int (0 : Int32)), .val (.int (Int32.ofNat n)), .val (.int (0 : Int32)), .unset, .unset, .unset, .unset, .unset, .unset, .unset, .unset] [])) t := fun t k => st t (sx.trans k)
  have N := Fr.app N Nc
  obtain ⟨h10, eH⟩ : ∃ z, z = T9.heap := ⟨_, rfl⟩
  rw [← eH] at K1 F_vv_tag F_vv_start F_vv_end F_vv_next
  have eh : T9.heap = h10 := eH.symm
  have F_a_bytes := F_a_bytes.keep K1 (ninS ne_a_vv nin0)
  have F_a_position := F_a_position.keep K1 (ninS ne_a_vv nin0)
  have F_a_end := F_a_end.keep K1 (ninS ne_a_vv nin0)
  have E_vv := E_vv.keep K1
  have V_ba := V_ba.keep K1 (ninS ne_ba_vv nin0)
  have K := K.trans K1 (allS (Or.inr sz_vv) all0)
  have Z0 := Nat.le_trans Z0 K1.1
  have st : ∀ t, Steps p.tables e below (T9.setTop (mkF m 306 #[.val (.ref a), .val (.int (0 : Int32)), .val (.int (Int32.ofNat n)), .val (.int (0 : Int32)), .val (.int (tg &&& (255 : Int32))), .val (.int (Int32.ofNat ll)), .val (.int (2 : Int32)), .val (.ref vv), .val (.long ((Int32.ofNat ll).toInt64)), .second, .unset, .unset] [(.ref vv)])) t → Steps p.tables e below (s₁.setTop (mkF m 0 #[.val (.ref a), .val (.int (0 : Int32)), .val (.int (Int32.ofNat n)), .val (.int (0 : Int32)), .unset, .unset, .unset, .unset, .unset, .unset, .unset, .unset] [])) t := fun t k => st t (by
      show Steps p.tables e below (T9.setTop (mkF m 302 #[.val (.ref a), .val (.int (0 : Int32)), .val (.int (Int32.ofNat n)), .val (.int (0 : Int32)), .val (.int (tg &&& (255 : Int32))), .val (.int (Int32.ofNat ll)), .val (.int (2 : Int32)), .unset, .val (.long ((Int32.ofNat ll).toInt64)), .second, .unset, .unset] [(.ref vv)])) _
      refine XS.astore X.here hx rfl (hb hby d6_302) rfl rfl (l' := #[.val (.ref a), .val (.int (0 : Int32)), .val (.int (Int32.ofNat n)), .val (.int (0 : Int32)), .val (.int (tg &&& (255 : Int32))), .val (.int (Int32.ofNat ll)), .val (.int (2 : Int32)), .val (.ref vv), .val (.long ((Int32.ofNat ll).toInt64)), .second, .unset, .unset]) rfl ?_
      show Steps p.tables e below (T9.setTop (mkF m 304 #[.val (.ref a), .val (.int (0 : Int32)), .val (.int (Int32.ofNat n)), .val (.int (0 : Int32)), .val (.int (tg &&& (255 : Int32))), .val (.int (Int32.ofNat ll)), .val (.int (2 : Int32)), .val (.ref vv), .val (.long ((Int32.ofNat ll).toInt64)), .second, .unset, .unset] [])) _
      refine XS.aload X.here hx rfl (hb hby d6_304) rfl rfl ?_
      exact k)
  obtain ⟨fs_, hr, hrun, hended, hW, hsame⟩ := X.leave (v := some (.ref vv)) (fun h => by rw [Bd.returns] at h; cases h)
  refine ⟨_, _, pre0 _ (st _ ?_), hrun, hended, _, _, rfl, ?_, ⟨_, rfl⟩, hW, hsame.mono (by decide) (by decide)⟩
  · exact retOut X hx Bd.returns rfl (Or.inr (Or.inr (Or.inr (Or.inr ⟨rfl, rfl, rfl⟩)))) (hb hby d6_306) hr
  · show Q_rm6 Z a ba k_ba vs tg lg n ll h0 n0 _ T9.heap _
    rw [eh]
    exact ⟨vv, rfl, N, K, sz_vv, g_vv, E_vv, F_vv_start, F_vv_end, F_vv_next⟩
theorem d5_0 : decode prog_42_method_13_code 0 = .ok (.aload_n 0, 1) := by decide +kernel
theorem d5_1 : decode prog_42_method_13_code 1 = .ok (.aload_n 0, 1) := by decide +kernel
theorem d5_2 : decode prog_42_method_13_code 2 = .ok (.aload_n 0, 1) := by decide +kernel
theorem d5_3 : decode prog_42_method_13_code 3 = .ok (.getfield 16, 3) := by decide +kernel
theorem d5_6 : decode prog_42_method_13_code 6 = .ok (.aload_n 0, 1) := by decide +kernel
theorem d5_7 : decode prog_42_method_13_code 7 = .ok (.getfield 20, 3) := by decide +kernel
theorem d5_10 : decode prog_42_method_13_code 10 = .ok (.iconst 0, 1) := by decide +kernel
theorem d5_11 : decode prog_42_method_13_code 11 = .ok (.invokevirtual 121, 3) := by decide +kernel
theorem d5_14 : decode prog_42_method_13_code 14 = .ok (.invokevirtual 124, 3) := by decide +kernel
theorem d5_17 : decode prog_42_method_13_code 17 = .ok (.putfield 16, 3) := by decide +kernel
theorem d5_20 : decode prog_42_method_13_code 20 = .ok (.return_, 1) := by decide +kernel
def Q_rm5 (Z : State) (a : Addr) (ba : Addr) (k_ba : ClassId) (vs : List Value) (tg lg : Int32) (n ll : Nat) (h0 : Heap) (n0 : Nat) (v : Option Value) (h : Heap) (L : List Loc) : Prop := v = none ∧ Fr n0 L ∧ Keep h0 h [a] ∧ Fld Z h a "org/kartenwerk/Der" "bytes" "[B" (.ref ba) ∧ Fld Z h a "org/kartenwerk/Der" "position" "I" (.int (Int32.ofNat (2 + ll))) ∧ Fld Z h a "org/kartenwerk/Der" "end" "I" (.int (Int32.ofNat n))
theorem own_pd3 : parseMethodDescriptor "(III)Lorg/kartenwerk/Der$Value;" = some ⟨[.int, .int, .int], some (.object "org/kartenwerk/Der$Value")⟩ := by decide +kernel
theorem own_pd4 : parseMethodDescriptor "()I" = some ⟨[], some .int⟩ := by decide +kernel
theorem ef_rm5 (m : MethodId) (x0 : Addr) : entryFrame m #[(.ref x0)] 1 = mkF m 0 #[.val (.ref x0)] [] := by first | (simp [entryFrame, mkF, argsToLocals, Value.category]; done) | rfl
set_option maxRecDepth 65536 in
set_option maxHeartbeats 40000000 in
theorem rm5 (l : Launch) (Z : State) (a0 : Array Value) (hw : ∀ d ∈ tables_1, d.before a0 Z = true) (ws : List Jvm.Cond) (a : Addr) (ba : Addr) (k_ba : ClassId) (vs : List Value) (tg lg : Int32) (n ll : Nat) (h0 : Heap) (n0 : Nat) (Z0 : n0 ≤ h0.size) (F_a_bytes : Fld Z h0 a "org/kartenwerk/Der" "bytes" "[B" (.ref ba)) (F_a_position : Fld Z h0 a "org/kartenwerk/Der" "position" "I" (.int (0 : Int32))) (F_a_end : Fld Z h0 a "org/kartenwerk/Der" "end" "I" (.int (Int32.ofNat n))) (V_ba : Arv Z h0 ba k_ba .byte (Int32.ofNat n) vs (.int (0 : Int32))) (hn : n ≤ 8) (h2n : 2 + ll ≤ n) (hll : ll ≤ 3) (hv0 : vs.getD 0 (.int (0 : Int32)) = .int tg) (hv1 : vs.getD 1 (.int (0 : Int32)) = .int lg) (htg : ¬ ((tg &&& (255 : Int32)) &&& (31 : Int32)) = (31 : Int32)) (hlg : (lg &&& (255 : Int32)) = Int32.ofNat ll) (E_a : Exa Z h0 a "org/kartenwerk/Der") (g_a : n0 ≤ a) (ne_a_ba : a ≠ ba) :
    MetFree l (⟨"org/kartenwerk/Der", "skip", "()V"⟩ : MethodName) (head1 (Jvm.Cond.code (⟨"org/kartenwerk/Der", "skip", "()V"⟩ : MethodName) prog_42_method_13_code 1 none :: ws) ({ frames := 4, cells := 1, slots := 4, locals := 65 } : Room)) (fun a' U => a' = #[(.ref a)] ∧ Z.Warmed39 U.vm ∧ U.heap = h0) (fun _ _ _ _ _ => True) (fun _ U o U' => ∃ v L, o = .returned v ∧ Q_rm5 Z a ba k_ba vs tg lg n ll h0 n0 v U'.heap L ∧ FrameEnd U o U' L ({ frames := 4, cells := 1, slots := 4, locals := 65 } : Room).cells ({ frames := 4, cells := 1, slots := 4, locals := 65 } : Room).slots) := by
  refine MetFree.of_bodySF (plainFor_of_name own_pn2) hisR ?_
  intro p e s m args below meth cd0 s₁ Bd hml0 hP hK
  obtain ⟨rfl, hZ, hh⟩ := hP
  have hx := Bd.exec
  have hby := Bd.bytes
  have hml : cd0.maxLocals = 1 := hml0
  have hown : s.vm.findClass "org/kartenwerk/Der" = some m.cls := findClass_of_methodNamed Bd.named
  have hnm := (name_of_methodNamed Bd.named Bd.method).1
  have X : Stand p l e ({ frames := 4, cells := 1, slots := 4, locals := 65 } : Room) s m #[(.ref a)] below meth cd0 s₁ [] 0 0 := Stand.of_body Bd
  have eh : s₁.heap = h0 := by rw [← hh, Bd.state]; rfl
  have N := Fr.nil n0
  have K : Keep h0 h0 [a] := Keep.refl _ _
  have pre0 : ∀ t, Steps p.tables e below (s₁.setTop (mkF m 0 #[.val (.ref a)] [])) t → Steps p.tables e below (s₁.setTop (entryFrame m #[(.ref a)] 1)) t := fun t k => castTop (ef_rm5 m a) k
  have st : ∀ t, Steps p.tables e below (s₁.setTop (mkF m 0 #[.val (.ref a)] [])) t → Steps p.tables e below (s₁.setTop (mkF m 0 #[.val (.ref a)] [])) t := fun t k => k
  have st : ∀ t, Steps p.tables e below (s₁.setTop (mkF m 3 #[.val (.ref a)] [(.ref a), (.ref a), (.ref a)])) t → Steps p.tables e below (s₁.setTop (mkF m 0 #[.val (.ref a)] [])) t := fun t k => st t (by
      show Steps p.tables e below (s₁.setTop (mkF m 0 #[.val (.ref a)] [])) _
      refine XS.aloadN X.here hx rfl (hb hby d5_0) rfl rfl ?_
      show Steps p.tables e below (s₁.setTop (mkF m 1 #[.val (.ref a)] [(.ref a)])) _
      refine XS.aloadN X.here hx rfl (hb hby d5_1) rfl rfl ?_
      show Steps p.tables e below (s₁.setTop (mkF m 2 #[.val (.ref a)] [(.ref a), (.ref a)])) _
      refine XS.aloadN X.here hx rfl (hb hby d5_2) rfl rfl ?_
      exact k)
  obtain ⟨T1, X, eh, sx⟩ := getF X hx hZ hown (host := "") (Or.inl (hw _ (List.mem_of_getElem? (i := 15) rfl))) Via.refl eh F_a_position (g := (mkF m 3 #[.val (.ref a)] [(.ref a), (.ref a), (.ref a)])) rfl rfl (hb hby d5_3)
  have st : ∀ t, Steps p.tables e below (T1.setTop (mkF m 6 #[.val (.ref a)] [(.int (0 : Int32)), (.ref a), (.ref a)])) t → Steps p.tables e below (s₁.setTop (mkF m 0 #[.val (.ref a)] [])) t := fun t k => st t (sx t k)
  have st : ∀ t, Steps p.tables e below (T1.setTop (mkF m 7 #[.val (.ref a)] [(.ref a), (.int (0 : Int32)), (.ref a), (.ref a)])) t → Steps p.tables e below (s₁.setTop (mkF m 0 #[.val (.ref a)] [])) t := fun t k => st t (by
      show Steps p.tables e below (T1.setTop (mkF m 6 #[.val (.ref a)] [(.int (0 : Int32)), (.ref a), (.ref a)])) _
      refine XS.aloadN X.here hx rfl (hb hby d5_6) rfl rfl ?_
      exact k)
  obtain ⟨T2, X, eh, sx⟩ := getF X hx hZ hown (host := "") (Or.inl (hw _ (List.mem_of_getElem? (i := 17) rfl))) Via.refl eh F_a_end (g := (mkF m 7 #[.val (.ref a)] [(.ref a), (.int (0 : Int32)), (.ref a), (.ref a)])) rfl rfl (hb hby d5_7)
  have st : ∀ t, Steps p.tables e below (T2.setTop (mkF m 10 #[.val (.ref a)] [(.int (Int32.ofNat n)), (.int (0 : Int32)), (.ref a), (.ref a)])) t → Steps p.tables e below (s₁.setTop (mkF m 0 #[.val (.ref a)] [])) t := fun t k => st t (sx t k)
  have st : ∀ t, Steps p.tables e below (T2.setTop (mkF m 11 #[.val (.ref a)] [(.int (0 : Int32)), (.int (Int32.ofNat n)), (.int (0 : Int32)), (.ref a), (.ref a)])) t → Steps p.tables e below (s₁.setTop (mkF m 0 #[.val (.ref a)] [])) t := fun t k => st t (by
      show Steps p.tables e below (T2.setTop (mkF m 10 #[.val (.ref a)] [(.int (Int32.ofNat n)), (.int (0 : Int32)), (.ref a), (.ref a)])) _
      refine XS.iconst X.here hx rfl (hb hby d5_10) ?_
      exact k)
  have K00 := K
  have lt_a := E_a.lt
  obtain ⟨cq3, q3, q3'⟩ := E_a.cell
  obtain ⟨_, _, ⟨T4, L3, k3, n3⟩, -, X, ⟨Lc3, hQ, l3, y3, z3⟩, sx⟩ := X.privateBack hx (y := (⟨"org/kartenwerk/Der", "next", "(III)Lorg/kartenwerk/Der$Value;"⟩ : MethodName)) hown (mvT hZ (hw _ (List.mem_of_getElem? (i := 29) rfl))) (mvT hZ (hw _ (List.mem_of_getElem? (i := 30) rfl))) (mvT hZ (own_sel (y := (⟨"org/kartenwerk/Der", "next", "(III)Lorg/kartenwerk/Der$Value;"⟩ : MethodName)) (by decide) (hw _ (List.mem_of_getElem? (i := 30) rfl)) (hw _ (List.mem_of_getElem? (i := 31) rfl)) (hw _ (List.mem_of_getElem? (i := 1) rfl)))) (Cond.privateMethod_at (mvP hZ (hw _ (List.mem_of_getElem? (i := 31) rfl)) (args := #[]))) (mvT hZ (hw _ (List.mem_of_getElem? (i := 32) rfl))) (by decide) (backOf (W := 1) (rm6 l Z a0 hw [] a ba k_ba vs tg lg n ll h0 n0 Z0 F_a_bytes F_a_position F_a_end V_ba hn h2n hll hv0 hv1 htg hlg) hZ (hw _ (List.mem_of_getElem? (i := 32) rfl)) (hw _ (List.mem_of_getElem? (i := 2) rfl)) (by decide) (by decide)) (g := (mkF m 11 #[.val (.ref a)] [(.int (0 : Int32)), (.int (Int32.ofNat n)), (.int (0 : Int32)), (.ref a), (.ref a)])) rfl (by rw [hml]; rfl) (Steps.refl _) (a := a) (by rw [eh]; exact q3) q3' (argsL := [(.int (0 : Int32)), (.int (Int32.ofNat n)), (.int (0 : Int32))]) (rest := [(.ref a)]) (lenOf own_pd3 rfl) rfl (by show 2 * 0 + _ ≤ _; exact Nat.le_of_eq rfl) (hb hby d5_11) (fun _ _ => ⟨rfl, eh, (by decide : 0 + 1 ≤ _), (by decide : 0 + 4 ≤ _)⟩)
  dsimp only [Pt.U, Pt.locs, Pt.cells, Pt.slots] at X l3 y3 z3 sx hQ
  subst l3 y3 z3
  obtain ⟨vv, rfl, Nc, K1, szp, g_vv, E_vv, F_vv_start, F_vv_end, F_vv_next⟩ := hQ
  have st : ∀ t, Steps p.tables e below (T4.setTop (mkF m 14 #[.val (.ref a)] [(.ref vv), (.ref a)])) t → Steps p.tables e below (s₁.setTop (mkF m 0 #[.val (.ref a)] [])) t := fun t k => st t (sx.trans k)
  have N := Fr.app N Nc
  obtain ⟨h5, eH⟩ : ∃ z, z = T4.heap := ⟨_, rfl⟩
  rw [← eH] at K1 E_vv F_vv_start F_vv_end F_vv_next
  have eh : T4.heap = h5 := eH.symm
  have F_a_bytes := F_a_bytes.keep K1 nin0
  have F_a_position := F_a_position.keep K1 nin0
  have F_a_end := F_a_end.keep K1 nin0
  have E_a := E_a.keep K1
  have V_ba := V_ba.keep K1 nin0
  have K := K.trans K1 all0
  have Z0 := Nat.le_trans Z0 K1.1
  have sz_vv : h0.size ≤ vv := Nat.le_trans K00.1 szp
  have ne_a_vv : a ≠ vv := Nat.ne_of_lt (Nat.lt_of_lt_of_le lt_a szp)
  obtain ⟨cq6, kq6, qa6, qb6, qc6⟩ := isOf hZ eh E_vv
  obtain ⟨_, _, ⟨T7, L6, k6, n6⟩, -, X, ⟨Lc6, hQ, l6, y6, z6⟩, sx⟩ := X.virtualBack hx (y := (⟨"org/kartenwerk/Der$Value", "next", "()I"⟩ : MethodName)) (z := (⟨"org/kartenwerk/Der$Value", "next", "()I"⟩ : MethodName)) hown (mvT hZ (hw _ (List.mem_of_getElem? (i := 53) rfl))) (mvT hZ (hw _ (List.mem_of_getElem? (i := 54) rfl))) (notFace_of_selects (args := #[]) (mvT hZ (hw _ (List.mem_of_getElem? (i := 56) rfl)))) (mvT hZ (hw _ (List.mem_of_getElem? (i := 56) rfl))) (mvT hZ (hw _ (List.mem_of_getElem? (i := 55) rfl))) (by decide) (backOf (W := 1) (rm9 l Z a0 hw [] vv (Int32.ofNat (2 + ll)) h5 n0 Z0 F_vv_next) hZ (hw _ (List.mem_of_getElem? (i := 57) rfl)) (hw _ (List.mem_of_getElem? (i := 35) rfl)) (by decide) (by decide)) qa6 qc6 (g := (mkF m 14 #[.val (.ref a)] [(.ref vv), (.ref a)])) rfl (by rw [hml]; rfl) (Steps.refl _) (argsL := []) (rest := [(.ref a)]) (lenOf own_pd4 rfl) rfl (by show 2 * 0 + _ ≤ _; exact Nat.le_of_eq rfl) (hb hby d5_14) (fun _ _ => ⟨rfl, eh, (by decide : 1 + 0 ≤ _), (by decide : 4 + 0 ≤ _)⟩)
  dsimp only [Pt.U, Pt.locs, Pt.cells, Pt.slots] at X l6 y6 z6 sx hQ
  subst l6 y6 z6
  obtain ⟨rfl, Nc, hsame_⟩ := hQ
  have st : ∀ t, Steps p.tables e below (T7.setTop (mkF m 17 #[.val (.ref a)] [(.int (Int32.ofNat (2 + ll))), (.ref a)])) t → Steps p.tables e below (s₁.setTop (mkF m 0 #[.val (.ref a)] [])) t := fun t k => st t (sx.trans k)
  have N := Fr.app N Nc
  have eh : T7.heap = h5 := hsame_
  obtain ⟨T8, h9, X, eh, W10, sx⟩ := putF X hx hZ hown (host := "") (Or.inl (hw _ (List.mem_of_getElem? (i := 15) rfl))) Via.refl eh F_a_position E_a (Or.inl (hw _ (List.mem_of_getElem? (i := 16) rfl))) (hw _ (List.mem_of_getElem? (i := 1) rfl)) (ty := .int) (by decide) rfl rfl (g := (mkF m 17 #[.val (.ref a)] [(.int (Int32.ofNat (2 + ll))), (.ref a)])) rfl rfl (hb hby d5_17)
  have st : ∀ t, Steps p.tables e below (T8.setTop (mkF m 20 #[.val (.ref a)] [])) t → Steps p.tables e below (s₁.setTop (mkF m 0 #[.val (.ref a)] [])) t := fun t k => st t (sx t k)
  have F_a_bytes := F_a_bytes.other W10 (Or.inr (slot_ne (Or.inr (hw _ (List.mem_of_getElem? (i := 14) rfl))) (Or.inl (hw _ (List.mem_of_getElem? (i := 16) rfl))) (by decide) (t := (.array .byte)) (t' := .int) (by decide) (by decide)))
  have F_a_position := F_a_position.same W10
  have F_a_end := F_a_end.other W10 (Or.inr (slot_ne (Or.inr (hw _ (List.mem_of_getElem? (i := 18) rfl))) (Or.inl (hw _ (List.mem_of_getElem? (i := 16) rfl))) (by decide) (t := .int) (t' := .int) (by decide) (by decide)))
  have F_vv_start := F_vv_start.other W10 (Or.inl (Ne.symm ne_a_vv))
  have F_vv_end := F_vv_end.other W10 (Or.inl (Ne.symm ne_a_vv))
  have F_vv_next := F_vv_next.other W10 (Or.inl (Ne.symm ne_a_vv))
  have E_a := E_a.wr W10
  have E_vv := E_vv.wr W10
  have V_ba := V_ba.other W10 (Ne.symm ne_a_ba)
  have K := K.wr W10 (Or.inl (List.mem_of_getElem? (i := 0) rfl))
  have Z0 := Nat.le_trans Z0 (Keep.of_wr W10).1
  have N := Fr.snoc X N g_a
  obtain ⟨fs_, hr, hrun, hended, hW, hsame⟩ := X.leave (v := none) (fun _ => rfl)
  refine ⟨_, _, pre0 _ (st _ ?_), hrun, hended, _, _, rfl, ?_, ⟨_, rfl⟩, hW, hsame.mono (by decide) (by decide)⟩
  · exact X.returnOut hx Bd.returns (hb hby d5_20) hr
  · show Q_rm5 Z a ba k_ba vs tg lg n ll h0 n0 _ T8.heap _
    rw [eh]
    exact ⟨rfl, N, K, F_a_bytes, F_a_position, F_a_end⟩
theorem d13_0 : decode prog_42_method_4_code 0 = .ok (.aload_n 0, 1) := by decide +kernel
theorem d13_1 : decode prog_42_method_4_code 1 = .ok (.invokevirtual 23, 3) := by decide +kernel
theorem d13_4 : decode prog_42_method_4_code 4 = .ok (.ifCond .ne 13, 3) := by decide +kernel
theorem d13_17 : decode prog_42_method_4_code 17 = .ok (.aload_n 0, 1) := by decide +kernel
theorem d13_18 : decode prog_42_method_4_code 18 = .ok (.getfield 12, 3) := by decide +kernel
theorem d13_21 : decode prog_42_method_4_code 21 = .ok (.aload_n 0, 1) := by decide +kernel
theorem d13_22 : decode prog_42_method_4_code 22 = .ok (.getfield 16, 3) := by decide +kernel
theorem d13_25 : decode prog_42_method_4_code 25 = .ok (.baload, 1) := by decide +kernel
theorem d13_26 : decode prog_42_method_4_code 26 = .ok (.sipush 255, 3) := by decide +kernel
theorem d13_29 : decode prog_42_method_4_code 29 = .ok (.iand, 1) := by decide +kernel
theorem d13_30 : decode prog_42_method_4_code 30 = .ok (.ireturn, 1) := by decide +kernel
def Q_rm13 (Z : State) (a : Addr) (ba : Addr) (k_ba : ClassId) (vs : List Value) (tg lg : Int32) (n ll : Nat) (h0 : Heap) (n0 : Nat) (v : Option Value) (h : Heap) (L : List Loc) : Prop := v = some (.int (tg &&& (255 : Int32))) ∧ Fr n0 L ∧ h = h0
theorem own_pd5 : parseMethodDescriptor "()Z" = some ⟨[], some .boolean⟩ := by decide +kernel
theorem own_has1 {n : Nat} (h : 2 ≤ n) (h8 : n ≤ 8) : own_has (0 : Int32) (Int32.ofNat n) = (1 : Int32) := by
  have := own_hasN (i := 0) (j := n) (by decide) (by omega)
  rw [if_pos (by omega)] at this
  exact this
theorem ef_rm13 (m : MethodId) (x0 : Addr) : entryFrame m #[(.ref x0)] 1 = mkF m 0 #[.val (.ref x0)] [] := by first | (simp [entryFrame, mkF, argsToLocals, Value.category]; done) | rfl
set_option maxRecDepth 65536 in
set_option maxHeartbeats 40000000 in
theorem rm13 (l : Launch) (Z : State) (a0 : Array Value) (hw : ∀ d ∈ tables_1, d.before a0 Z = true) (ws : List Jvm.Cond) (a : Addr) (ba : Addr) (k_ba : ClassId) (vs : List Value) (tg lg : Int32) (n ll : Nat) (h0 : Heap) (n0 : Nat) (Z0 : n0 ≤ h0.size) (F_a_bytes : Fld Z h0 a "org/kartenwerk/Der" "bytes" "[B" (.ref ba)) (F_a_position : Fld Z h0 a "org/kartenwerk/Der" "position" "I" (.int (0 : Int32))) (F_a_end : Fld Z h0 a "org/kartenwerk/Der" "end" "I" (.int (Int32.ofNat n))) (V_ba : Arv Z h0 ba k_ba .byte (Int32.ofNat n) vs (.int (0 : Int32))) (hn : n ≤ 8) (h2n : 2 + ll ≤ n) (hll : ll ≤ 3) (hv0 : vs.getD 0 (.int (0 : Int32)) = .int tg) (hv1 : vs.getD 1 (.int (0 : Int32)) = .int lg) (htg : ¬ ((tg &&& (255 : Int32)) &&& (31 : Int32)) = (31 : Int32)) (hlg : (lg &&& (255 : Int32)) = Int32.ofNat ll) (E_a : Exa Z h0 a "org/kartenwerk/Der") (g_a : n0 ≤ a) (ne_a_ba : a ≠ ba) :
    MetFree l (⟨"org/kartenwerk/Der", "peek", "()I"⟩ : MethodName) (head1 (Jvm.Cond.code (⟨"org/kartenwerk/Der", "peek", "()I"⟩ : MethodName) prog_42_method_4_code 1 (some .int) :: ws) ({ frames := 1, cells := 0, slots := 0, locals := 12 } : Room)) (fun a' U => a' = #[(.ref a)] ∧ Z.Warmed39 U.vm ∧ U.heap = h0) (fun _ _ _ _ _ => True) (fun _ U o U' => ∃ v L, o = .returned v ∧ Q_rm13 Z a ba k_ba vs tg lg n ll h0 n0 v U'.heap L ∧ FrameEnd U o U' L ({ frames := 1, cells := 0, slots := 0, locals := 12 } : Room).cells ({ frames := 1, cells := 0, slots := 0, locals := 12 } : Room).slots) := by
  refine MetFree.of_bodySF (plainFor_of_name own_pn2) hisR ?_
  intro p e s m args below meth cd0 s₁ Bd hml0 hP hK
  obtain ⟨rfl, hZ, hh⟩ := hP
  have hx := Bd.exec
  have hby := Bd.bytes
  have hml : cd0.maxLocals = 1 := hml0
  have hown : s.vm.findClass "org/kartenwerk/Der" = some m.cls := findClass_of_methodNamed Bd.named
  have hnm := (name_of_methodNamed Bd.named Bd.method).1
  have X : Stand p l e ({ frames := 1, cells := 0, slots := 0, locals := 12 } : Room) s m #[(.ref a)] below meth cd0 s₁ [] 0 0 := Stand.of_body Bd
  have eh : s₁.heap = h0 := by rw [← hh, Bd.state]; rfl
  have N := Fr.nil n0
  have K : Keep h0 h0 [] := Keep.refl _ _
  have pre0 : ∀ t, Steps p.tables e below (s₁.setTop (mkF m 0 #[.val (.ref a)] [])) t → Steps p.tables e below (s₁.setTop (entryFrame m #[(.ref a)] 1)) t := fun t k => castTop (ef_rm13 m a) k
  have st : ∀ t, Steps p.tables e below (s₁.setTop (mkF m 0 #[.val (.ref a)] [])) t → Steps p.tables e below (s₁.setTop (mkF m 0 #[.val (.ref a)] [])) t := fun t k => k
  have st : ∀ t, Steps p.tables e below (s₁.setTop (mkF m 1 #[.val (.ref a)] [(.ref a)])) t → Steps p.tables e below (s₁.setTop (mkF m 0 #[.val (.ref a)] [])) t := fun t k => st t (by
      show Steps p.tables e below (s₁.setTop (mkF m 0 #[.val (.ref a)] [])) _
      refine XS.aloadN X.here hx rfl (hb hby d13_0) rfl rfl ?_
      exact k)
  obtain ⟨cq1, kq1, qa1, qb1, qc1⟩ := isOf hZ eh E_a
  obtain ⟨_, _, ⟨T2, L1, k1, n1⟩, -, X, ⟨Lc1, hQ, l1, y1, z1⟩, sx⟩ := X.virtualBack hx (y := (⟨"org/kartenwerk/Der", "hasNext", "()Z"⟩ : MethodName)) (z := (⟨"org/kartenwerk/Der", "hasNext", "()Z"⟩ : MethodName)) hown (mvT hZ (hw _ (List.mem_of_getElem? (i := 76) rfl))) (mvT hZ (hw _ (List.mem_of_getElem? (i := 20) rfl))) (notFace_of_selects (args := #[]) (mvT hZ (hw _ (List.mem_of_getElem? (i := 22) rfl)))) (mvT hZ (hw _ (List.mem_of_getElem? (i := 22) rfl))) (mvT hZ (hw _ (List.mem_of_getElem? (i := 21) rfl))) (by decide) (backOf (W := 0) (rm4 l Z a0 hw [] a (0 : Int32) (Int32.ofNat n) h0 n0 Z0 F_a_position F_a_end) hZ (hw _ (List.mem_of_getElem? (i := 23) rfl)) (hw _ (List.mem_of_getElem? (i := 2) rfl)) (by decide) (by decide)) qa1 qc1 (g := (mkF m 1 #[.val (.ref a)] [(.ref a)])) rfl (by rw [hml]; rfl) (Steps.refl _) (argsL := []) (rest := []) (lenOf own_pd5 rfl) rfl (by show 2 * 0 + _ ≤ _; exact Nat.le_of_eq rfl) (hb hby d13_1) (fun _ _ => ⟨rfl, eh, (by decide : 0 + 0 ≤ _), (by decide : 0 + 0 ≤ _)⟩)
  dsimp only [Pt.U, Pt.locs, Pt.cells, Pt.slots] at X l1 y1 z1 sx hQ
  subst l1 y1 z1
  obtain ⟨rfl, Nc, hsame_⟩ := hQ
  have st : ∀ t, Steps p.tables e below (T2.setTop (mkF m 4 #[.val (.ref a)] [(.int (own_has (0 : Int32) (Int32.ofNat n)))])) t → Steps p.tables e below (s₁.setTop (mkF m 0 #[.val (.ref a)] [])) t := fun t k => st t (sx.trans k)
  have N := Fr.app N Nc
  have eh : T2.heap = h0 := hsame_
  have st : ∀ t, Steps p.tables e below (T2.setTop (mkF m 4 #[.val (.ref a)] [(.int (1 : Int32))])) t → Steps p.tables e below (s₁.setTop (mkF m 0 #[.val (.ref a)] [])) t := by rw [← own_has1 (n := n) (by omega) hn]; exact st
  have st : ∀ t, Steps p.tables e below (T2.setTop (mkF m 18 #[.val (.ref a)] [(.ref a)])) t → Steps p.tables e below (s₁.setTop (mkF m 0 #[.val (.ref a)] [])) t := fun t k => st t (by
      show Steps p.tables e below (T2.setTop (mkF m 4 #[.val (.ref a)] [(.int (1 : Int32))])) _
      refine XS.ifYes X.here hx rfl (pc0 := 4) (pc' := 17) rfl (hb hby d13_4) rfl ((if0 _ _).trans (feq (by decide)).2) (by decide) (by decide) ?_
      show Steps p.tables e below (T2.setTop (mkF m 17 #[.val (.ref a)] [])) _
      refine XS.aloadN X.here hx rfl (hb hby d13_17) rfl rfl ?_
      exact k)
  obtain ⟨T3, X, eh, sx⟩ := getF X hx hZ hown (host := "") (Or.inl (hw _ (List.mem_of_getElem? (i := 13) rfl))) Via.refl eh F_a_bytes (g := (mkF m 18 #[.val (.ref a)] [(.ref a)])) rfl rfl (hb hby d13_18)
  have st : ∀ t, Steps p.tables e below (T3.setTop (mkF m 21 #[.val (.ref a)] [(.ref ba)])) t → Steps p.tables e below (s₁.setTop (mkF m 0 #[.val (.ref a)] [])) t := fun t k => st t (sx t k)
  have st : ∀ t, Steps p.tables e below (T3.setTop (mkF m 22 #[.val (.ref a)] [(.ref a), (.ref ba)])) t → Steps p.tables e below (s₁.setTop (mkF m 0 #[.val (.ref a)] [])) t := fun t k => st t (by
      show Steps p.tables e below (T3.setTop (mkF m 21 #[.val (.ref a)] [(.ref ba)])) _
      refine XS.aloadN X.here hx rfl (hb hby d13_21) rfl rfl ?_
      exact k)
  obtain ⟨T4, X, eh, sx⟩ := getF X hx hZ hown (host := "") (Or.inl (hw _ (List.mem_of_getElem? (i := 15) rfl))) Via.refl eh F_a_position (g := (mkF m 22 #[.val (.ref a)] [(.ref a), (.ref ba)])) rfl rfl (hb hby d13_22)
  have st : ∀ t, Steps p.tables e below (T4.setTop (mkF m 25 #[.val (.ref a)] [(.int (0 : Int32)), (.ref ba)])) t → Steps p.tables e below (s₁.setTop (mkF m 0 #[.val (.ref a)] [])) t := fun t k => st t (sx t k)
  obtain ⟨cl5, Ar5, hin5, hat5⟩ := own_rd (by omega) V_ba 0 (by omega) hv0
  have st : ∀ t, Steps p.tables e below (T4.setTop (mkF m 30 #[.val (.ref a)] [(.int (tg &&& (255 : Int32)))])) t → Steps p.tables e below (s₁.setTop (mkF m 0 #[.val (.ref a)] [])) t := fun t k => st t (by
      show Steps p.tables e below (T4.setTop (mkF m 25 #[.val (.ref a)] [(.int (0 : Int32)), (.ref ba)])) _
      refine X.baloadBytes hx (j := Int32.ofNat 0) (v := (.int tg)) (by rw [eh]; exact Ar5.1) (State.isArrayOf_alike hZ.alike Ar5.2.1) Ar5.2.2 hin5 hat5 (g := (mkF m 25 #[.val (.ref a)] [(.int (0 : Int32)), (.ref ba)])) rfl rfl (hb hby d13_25) _ ?_
      show Steps p.tables e below (T4.setTop (mkF m 26 #[.val (.ref a)] [(.int tg)])) _
      refine XS.sipush X.here hx rfl (hb hby d13_26) ?_
      show Steps p.tables e below (T4.setTop (mkF m 29 #[.val (.ref a)] [(.int (255 : Int32)), (.int tg)])) _
      refine XS.iand X.here hx rfl (hb hby d13_29) rfl ?_
      exact k)
  obtain ⟨fs_, hr, hrun, hended, hW, hsame⟩ := X.leave (v := some (.int (tg &&& (255 : Int32)))) (fun h => by rw [Bd.returns] at h; cases h)
  refine ⟨_, _, pre0 _ (st _ ?_), hrun, hended, _, _, rfl, ?_, ⟨_, rfl⟩, hW, hsame.mono (by decide) (by decide)⟩
  · exact retI X hx Bd.returns (hb hby d13_30) hr
  · show Q_rm13 Z a ba k_ba vs tg lg n ll h0 n0 _ T4.heap _
    rw [eh]
    exact ⟨rfl, N, rfl⟩
theorem d12_0 : decode prog_42_method_17_code 0 = .ok (.aload_n 0, 1) := by decide +kernel
theorem d12_1 : decode prog_42_method_17_code 1 = .ok (.invokevirtual 126, 3) := by decide +kernel
theorem d12_4 : decode prog_42_method_17_code 4 = .ok (.istore_n 2, 1) := by decide +kernel
theorem d12_5 : decode prog_42_method_17_code 5 = .ok (.iload_n 2, 1) := by decide +kernel
theorem d12_6 : decode prog_42_method_17_code 6 = .ok (.iload_n 1, 1) := by decide +kernel
theorem d12_7 : decode prog_42_method_17_code 7 = .ok (.if_icmp .eq 9, 3) := by decide +kernel
theorem d12_16 : decode prog_42_method_17_code 16 = .ok (.aload_n 0, 1) := by decide +kernel
theorem d12_17 : decode prog_42_method_17_code 17 = .ok (.aload_n 0, 1) := by decide +kernel
theorem d12_18 : decode prog_42_method_17_code 18 = .ok (.getfield 16, 3) := by decide +kernel
theorem d12_21 : decode prog_42_method_17_code 21 = .ok (.aload_n 0, 1) := by decide +kernel
theorem d12_22 : decode prog_42_method_17_code 22 = .ok (.getfield 20, 3) := by decide +kernel
theorem d12_25 : decode prog_42_method_17_code 25 = .ok (.iconst 0, 1) := by decide +kernel
theorem d12_26 : decode prog_42_method_17_code 26 = .ok (.invokevirtual 121, 3) := by decide +kernel
theorem d12_29 : decode prog_42_method_17_code 29 = .ok (.astore_n 3, 1) := by decide +kernel
theorem d12_30 : decode prog_42_method_17_code 30 = .ok (.aload_n 0, 1) := by decide +kernel
theorem d12_31 : decode prog_42_method_17_code 31 = .ok (.aload_n 3, 1) := by decide +kernel
theorem d12_32 : decode prog_42_method_17_code 32 = .ok (.invokevirtual 124, 3) := by decide +kernel
theorem d12_35 : decode prog_42_method_17_code 35 = .ok (.putfield 16, 3) := by decide +kernel
theorem d12_38 : decode prog_42_method_17_code 38 = .ok (.aload_n 3, 1) := by decide +kernel
theorem d12_39 : decode prog_42_method_17_code 39 = .ok (.areturn, 1) := by decide +kernel
def Q_rm12 (Z : State) (a : Addr) (ba : Addr) (k_ba : ClassId) (vs : List Value) (tg lg : Int32) (n ll : Nat) (h0 : Heap) (n0 : Nat) (v : Option Value) (h : Heap) (L : List Loc) : Prop := ∃ vv : Addr, v = some (.ref vv) ∧ Fr n0 L ∧ Keep h0 h [a] ∧ Fld Z h a "org/kartenwerk/Der" "bytes" "[B" (.ref ba) ∧ Fld Z h a "org/kartenwerk/Der" "position" "I" (.int (Int32.ofNat (2 + ll))) ∧ Fld Z h a "org/kartenwerk/Der" "end" "I" (.int (Int32.ofNat n)) ∧ h0.size ≤ vv ∧ n0 ≤ vv ∧ Exa Z h vv "org/kartenwerk/Der$Value" ∧ Fld Z h vv "org/kartenwerk/Der$Value" "start" "I" (.int (2 : Int32)) ∧ Fld Z h vv "org/kartenwerk/Der$Value" "end" "I" (.int (Int32.ofNat (2 + ll))) ∧ Fld Z h vv "org/kartenwerk/Der$Value" "next" "I" (.int (Int32.ofNat (2 + ll)))
theorem ef_rm12 (m : MethodId) (x0 : Addr) (x1 : Int32) : entryFrame m #[(.ref x0), (.int x1)] 4 = mkF m 0 #[.val (.ref x0), .val (.int x1), .unset, .unset] [] := by first | (simp [entryFrame, mkF, argsToLocals, Value.category]; done) | rfl
set_option maxRecDepth 65536 in
set_option maxHeartbeats 40000000 in
theorem rm12 (l : Launch) (Z : State) (a0 : Array Value) (hw : ∀ d ∈ tables_1, d.before a0 Z = true) (ws : List Jvm.Cond) (a : Addr) (ba : Addr) (k_ba : ClassId) (vs : List Value) (tg lg : Int32) (n ll : Nat) (h0 : Heap) (n0 : Nat) (Z0 : n0 ≤ h0.size) (F_a_bytes : Fld Z h0 a "org/kartenwerk/Der" "bytes" "[B" (.ref ba)) (F_a_position : Fld Z h0 a "org/kartenwerk/Der" "position" "I" (.int (0 : Int32))) (F_a_end : Fld Z h0 a "org/kartenwerk/Der" "end" "I" (.int (Int32.ofNat n))) (V_ba : Arv Z h0 ba k_ba .byte (Int32.ofNat n) vs (.int (0 : Int32))) (hn : n ≤ 8) (h2n : 2 + ll ≤ n) (hll : ll ≤ 3) (hv0 : vs.getD 0 (.int (0 : Int32)) = .int tg) (hv1 : vs.getD 1 (.int (0 : Int32)) = .int lg) (htg : ¬ ((tg &&& (255 : Int32)) &&& (31 : Int32)) = (31 : Int32)) (hlg : (lg &&& (255 : Int32)) = Int32.ofNat ll) (E_a : Exa Z h0 a "org/kartenwerk/Der") (g_a : n0 ≤ a) (ne_a_ba : a ≠ ba) (h48 : (tg &&& (255 : Int32)) = (48 : Int32)) :
    MetFree l (⟨"org/kartenwerk/Der", "next", "(I)Lorg/kartenwerk/Der$Value;"⟩ : MethodName) (head1 (Jvm.Cond.code (⟨"org/kartenwerk/Der", "next", "(I)Lorg/kartenwerk/Der$Value;"⟩ : MethodName) prog_42_method_17_code 4 (some (.object "org/kartenwerk/Der$Value")) :: ws) ({ frames := 4, cells := 1, slots := 4, locals := 64 } : Room)) (fun a' U => a' = #[(.ref a), (.int (48 : Int32))] ∧ Z.Warmed39 U.vm ∧ U.heap = h0) (fun _ _ _ _ _ => True) (fun _ U o U' => ∃ v L, o = .returned v ∧ Q_rm12 Z a ba k_ba vs tg lg n ll h0 n0 v U'.heap L ∧ FrameEnd U o U' L ({ frames := 4, cells := 1, slots := 4, locals := 64 } : Room).cells ({ frames := 4, cells := 1, slots := 4, locals := 64 } : Room).slots) := by
  refine MetFree.of_bodySF (plainFor_of_name own_pn2) hisR ?_
  intro p e s m args below meth cd0 s₁ Bd hml0 hP hK
  obtain ⟨rfl, hZ, hh⟩ := hP
  have hx := Bd.exec
  have hby := Bd.bytes
  have hml : cd0.maxLocals = 4 := hml0
  have hown : s.vm.findClass "org/kartenwerk/Der" = some m.cls := findClass_of_methodNamed Bd.named
  have hnm := (name_of_methodNamed Bd.named Bd.method).1
  have X : Stand p l e ({ frames := 4, cells := 1, slots := 4, locals := 64 } : Room) s m #[(.ref a), (.int (48 : Int32))] below meth cd0 s₁ [] 0 0 := Stand.of_body Bd
  have eh : s₁.heap = h0 := by rw [← hh, Bd.state]; rfl
  have N := Fr.nil n0
  have K : Keep h0 h0 [a] := Keep.refl _ _
  have pre0 : ∀ t, Steps p.tables e below (s₁.setTop (mkF m 0 #[.val (.ref a), .val (.int (48 : Int32)), .unset, .unset] [])) t → Steps p.tables e below (s₁.setTop (entryFrame m #[(.ref a), (.int (48 : Int32))] 4)) t := fun t k => castTop (ef_rm12 m a (48 : Int32)) k
  have st : ∀ t, Steps p.tables e below (s₁.setTop (mkF m 0 #[.val (.ref a), .val (.int (48 : Int32)), .unset, .unset] [])) t → Steps p.tables e below (s₁.setTop (mkF m 0 #[.val (.ref a), .val (.int (48 : Int32)), .unset, .unset] [])) t := fun t k => k
  have st : ∀ t, Steps p.tables e below (s₁.setTop (mkF m 1 #[.val (.ref a), .val (.int (48 : Int32)), .unset, .unset] [(.ref a)])) t → Steps p.tables e below (s₁.setTop (mkF m 0 #[.val (.ref a), .val (.int (48 : Int32)), .unset, .unset] [])) t := fun t k => st t (by
      show Steps p.tables e below (s₁.setTop (mkF m 0 #[.val (.ref a), .val (.int (48 : Int32)), .unset, .unset] [])) _
      refine XS.aloadN X.here hx rfl (hb hby d12_0) rfl rfl ?_
      exact k)
  obtain ⟨cq1, kq1, qa1, qb1, qc1⟩ := isOf hZ eh E_a
  obtain ⟨_, _, ⟨T2, L1, k1, n1⟩, -, X, ⟨Lc1, hQ, l1, y1, z1⟩, sx⟩ := X.virtualBack hx (y := (⟨"org/kartenwerk/Der", "peek", "()I"⟩ : MethodName)) (z := (⟨"org/kartenwerk/Der", "peek", "()I"⟩ : MethodName)) hown (mvT hZ (hw _ (List.mem_of_getElem? (i := 71) rfl))) (mvT hZ (hw _ (List.mem_of_getElem? (i := 72) rfl))) (notFace_of_selects (args := #[]) (mvT hZ (hw _ (List.mem_of_getElem? (i := 74) rfl)))) (mvT hZ (hw _ (List.mem_of_getElem? (i := 74) rfl))) (mvT hZ (hw _ (List.mem_of_getElem? (i := 73) rfl))) (by decide) (backOf (W := 0) (rm13 l Z a0 hw [] a ba k_ba vs tg lg n ll h0 n0 Z0 F_a_bytes F_a_position F_a_end V_ba hn h2n hll hv0 hv1 htg hlg E_a g_a ne_a_ba) hZ (hw _ (List.mem_of_getElem? (i := 75) rfl)) (hw _ (List.mem_of_getElem? (i := 2) rfl)) (by decide) (by decide)) qa1 qc1 (g := (mkF m 1 #[.val (.ref a), .val (.int (48 : Int32)), .unset, .unset] [(.ref a)])) rfl (by rw [hml]; rfl) (Steps.refl _) (argsL := []) (rest := []) (lenOf own_pd4 rfl) rfl (by show 2 * 0 + _ ≤ _; exact Nat.le_of_eq rfl) (hb hby d12_1) (fun _ _ => ⟨rfl, eh, (by decide : 0 + 0 ≤ _), (by decide : 0 + 0 ≤ _)⟩)
  dsimp only [Pt.U, Pt.locs, Pt.cells, Pt.slots] at X l1 y1 z1 sx hQ
  subst l1 y1 z1
  obtain ⟨rfl, Nc, hsame_⟩ := hQ
  have st : ∀ t, Steps p.tables e below (T2.setTop (mkF m 4 #[.val (.ref a), .val (.int (48 : Int32)), .unset, .unset] [(.int (tg &&& (255 : Int32)))])) t → Steps p.tables e below (s₁.setTop (mkF m 0 #[.val (.ref a), .val (.int (48 : Int32)), .unset, .unset] [])) t := fun t k => st t (sx.trans k)
  have N := Fr.app N Nc
  have eh : T2.heap = h0 := hsame_
  have st : ∀ t, Steps p.tables e below (T2.setTop (mkF m 18 #[.val (.ref a), .val (.int (48 : Int32)), .val (.int (tg &&& (255 : Int32))), .unset] [(.ref a), (.ref a)])) t → Steps p.tables e below (s₁.setTop (mkF m 0 #[.val (.ref a), .val (.int (48 : Int32)), .unset, .unset] [])) t := fun t k => st t (by
      show Steps p.tables e below (T2.setTop (mkF m 4 #[.val (.ref a), .val (.int (48 : Int32)), .unset, .unset] [(.int (tg &&& (255 : Int32)))])) _
      refine XS.istoreN X.here hx rfl (hb hby d12_4) rfl (l' := #[.val (.ref a), .val (.int (48 : Int32)), .val (.int (tg &&& (255 : Int32))), .unset]) rfl ?_
      show Steps p.tables e below (T2.setTop (mkF m 5 #[.val (.ref a), .val (.int (48 : Int32)), .val (.int (tg &&& (255 : Int32))), .unset] [])) _
      refine XS.iloadN X.here hx rfl (hb hby d12_5) rfl ?_
      show Steps p.tables e below (T2.setTop (mkF m 6 #[.val (.ref a), .val (.int (48 : Int32)), .val (.int (tg &&& (255 : Int32))), .unset] [(.int (tg &&& (255 : Int32)))])) _
      refine XS.iloadN X.here hx rfl (hb hby d12_6) rfl ?_
      show Steps p.tables e below (T2.setTop (mkF m 7 #[.val (.ref a), .val (.int (48 : Int32)), .val (.int (tg &&& (255 : Int32))), .unset] [(.int (48 : Int32)), (.int (tg &&& (255 : Int32)))])) _
      refine XS.icmpYes X.here hx rfl (pc0 := 7) (pc' := 16) rfl (hb hby d12_7) rfl (teq h48).1 (by decide) (by decide) ?_
      show Steps p.tables e below (T2.setTop (mkF m 16 #[.val (.ref a), .val (.int (48 : Int32)), .val (.int (tg &&& (255 : Int32))), .unset] [])) _
      refine XS.aloadN X.here hx rfl (hb hby d12_16) rfl rfl ?_
      show Steps p.tables e below (T2.setTop (mkF m 17 #[.val (.ref a), .val (.int (48 : Int32)), .val (.int (tg &&& (255 : Int32))), .unset] [(.ref a)])) _
      refine XS.aloadN X.here hx rfl (hb hby d12_17) rfl rfl ?_
      exact k)
  obtain ⟨T3, X, eh, sx⟩ := getF X hx hZ hown (host := "") (Or.inl (hw _ (List.mem_of_getElem? (i := 15) rfl))) Via.refl eh F_a_position (g := (mkF m 18 #[.val (.ref a), .val (.int (48 : Int32)), .val (.int (tg &&& (255 : Int32))), .unset] [(.ref a), (.ref a)])) rfl rfl (hb hby d12_18)
  have st : ∀ t, Steps p.tables e below (T3.setTop (mkF m 21 #[.val (.ref a), .val (.int (48 : Int32)), .val (.int (tg &&& (255 : Int32))), .unset] [(.int (0 : Int32)), (.ref a)])) t → Steps p.tables e below (s₁.setTop (mkF m 0 #[.val (.ref a), .val (.int (48 : Int32)), .unset, .unset] [])) t := fun t k => st t (sx t k)
  have st : ∀ t, Steps p.tables e below (T3.setTop (mkF m 22 #[.val (.ref a), .val (.int (48 : Int32)), .val (.int (tg &&& (255 : Int32))), .unset] [(.ref a), (.int (0 : Int32)), (.ref a)])) t → Steps p.tables e below (s₁.setTop (mkF m 0 #[.val (.ref a), .val (.int (48 : Int32)), .unset, .unset] [])) t := fun t k => st t (by
      show Steps p.tables e below (T3.setTop (mkF m 21 #[.val (.ref a), .val (.int (48 : Int32)), .val (.int (tg &&& (255 : Int32))), .unset] [(.int (0 : Int32)), (.ref a)])) _
      refine XS.aloadN X.here hx rfl (hb hby d12_21) rfl rfl ?_
      exact k)
  obtain ⟨T4, X, eh, sx⟩ := getF X hx hZ hown (host := "") (Or.inl (hw _ (List.mem_of_getElem? (i := 17) rfl))) Via.refl eh F_a_end (g := (mkF m 22 #[.val (.ref a), .val (.int (48 : Int32)), .val (.int (tg &&& (255 : Int32))), .unset] [(.ref a), (.int (0 : Int32)), (.ref a)])) rfl rfl (hb hby d12_22)
  have st : ∀ t, Steps p.tables e below (T4.setTop (mkF m 25 #[.val (.ref a), .val (.int (48 : Int32)), .val (.int (tg &&& (255 : Int32))), .unset] [(.int (Int32.ofNat n)), (.int (0 : Int32)), (.ref a)])) t → Steps p.tables e below (s₁.setTop (mkF m 0 #[.val (.ref a), .val (.int (48 : Int32)), .unset, .unset] [])) t := fun t k => st t (sx t k)
  have st : ∀ t, Steps p.tables e below (T4.setTop (mkF m 26 #[.val (.ref a), .val (.int (48 : Int32)), .val (.int (tg &&& (255 : Int32))), .unset] [(.int (0 : Int32)), (.int (Int32.ofNat n)), (.int (0 : Int32)), (.ref a)])) t → Steps p.tables e below (s₁.setTop (mkF m 0 #[.val (.ref a), .val (.int (48 : Int32)), .unset, .unset] [])) t := fun t k => st t (by
      show Steps p.tables e below (T4.setTop (mkF m 25 #[.val (.ref a), .val (.int (48 : Int32)), .val (.int (tg &&& (255 : Int32))), .unset] [(.int (Int32.ofNat n)), (.int (0 : Int32)), (.ref a)])) _
      refine XS.iconst X.here hx rfl (hb hby d12_25) ?_
      exact k)
  have K00 := K
  have lt_a := E_a.lt
  obtain ⟨cq5, q5, q5'⟩ := E_a.cell
  obtain ⟨_, _, ⟨T6, L5, k5, n5⟩, -, X, ⟨Lc5, hQ, l5, y5, z5⟩, sx⟩ := X.privateBack hx (y := (⟨"org/kartenwerk/Der", "next", "(III)Lorg/kartenwerk/Der$Value;"⟩ : MethodName)) hown (mvT hZ (hw _ (List.mem_of_getElem? (i := 29) rfl))) (mvT hZ (hw _ (List.mem_of_getElem? (i := 30) rfl))) (mvT hZ (own_sel (y := (⟨"org/kartenwerk/Der", "next", "(III)Lorg/kartenwerk/Der$Value;"⟩ : MethodName)) (by decide) (hw _ (List.mem_of_getElem? (i := 30) rfl)) (hw _ (List.mem_of_getElem? (i := 31) rfl)) (hw _ (List.mem_of_getElem? (i := 1) rfl)))) (Cond.privateMethod_at (mvP hZ (hw _ (List.mem_of_getElem? (i := 31) rfl)) (args := #[]))) (mvT hZ (hw _ (List.mem_of_getElem? (i := 32) rfl))) (by decide) (backOf (W := 0) (rm6 l Z a0 hw [] a ba k_ba vs tg lg n ll h0 n0 Z0 F_a_bytes F_a_position F_a_end V_ba hn h2n hll hv0 hv1 htg hlg) hZ (hw _ (List.mem_of_getElem? (i := 32) rfl)) (hw _ (List.mem_of_getElem? (i := 2) rfl)) (by decide) (by decide)) (g := (mkF m 26 #[.val (.ref a), .val (.int (48 : Int32)), .val (.int (tg &&& (255 : Int32))), .unset] [(.int (0 : Int32)), (.int (Int32.ofNat n)), (.int (0 : Int32)), (.ref a)])) rfl (by rw [hml]; rfl) (Steps.refl _) (a := a) (by rw [eh]; exact q5) q5' (argsL := [(.int (0 : Int32)), (.int (Int32.ofNat n)), (.int (0 : Int32))]) (rest := []) (lenOf own_pd3 rfl) rfl (by show 2 * 0 + _ ≤ _; exact Nat.le_of_eq rfl) (hb hby d12_26) (fun _ _ => ⟨rfl, eh, (by decide : 0 + 1 ≤ _), (by decide : 0 + 4 ≤ _)⟩)
  dsimp only [Pt.U, Pt.locs, Pt.cells, Pt.slots] at X l5 y5 z5 sx hQ
  subst l5 y5 z5
  obtain ⟨vv, rfl, Nc, K1, szp, g_vv, E_vv, F_vv_start, F_vv_end, F_vv_next⟩ := hQ
  have st : ∀ t, Steps p.tables e below (T6.setTop (mkF m 29 #[.val (.ref a), .val (.int (48 : Int32)), .val (.int (tg &&& (255 : Int32))), .unset] [(.ref vv)])) t → Steps p.tables e below (s₁.setTop (mkF m 0 #[.val (.ref a), .val (.int (48 : Int32)), .unset, .unset] [])) t := fun t k => st t (sx.trans k)
  have N := Fr.app N Nc
  obtain ⟨h7, eH⟩ : ∃ z, z = T6.heap := ⟨_, rfl⟩
  rw [← eH] at K1 E_vv F_vv_start F_vv_end F_vv_next
  have eh : T6.heap = h7 := eH.symm
  have F_a_bytes := F_a_bytes.keep K1 nin0
  have F_a_position := F_a_position.keep K1 nin0
  have F_a_end := F_a_end.keep K1 nin0
  have E_a := E_a.keep K1
  have V_ba := V_ba.keep K1 nin0
  have K := K.trans K1 all0
  have Z0 := Nat.le_trans Z0 K1.1
  have sz_vv : h0.size ≤ vv := Nat.le_trans K00.1 szp
  have ne_a_vv : a ≠ vv := Nat.ne_of_lt (Nat.lt_of_lt_of_le lt_a szp)
  have st : ∀ t, Steps p.tables e below (T6.setTop (mkF m 32 #[.val (.ref a), .val (.int (48 : Int32)), .val (.int (tg &&& (255 : Int32))), .val (.ref vv)] [(.ref vv), (.ref a)])) t → Steps p.tables e below (s₁.setTop (mkF m 0 #[.val (.ref a), .val (.int (48 : Int32)), .unset, .unset] [])) t := fun t k => st t (by
      show Steps p.tables e below (T6.setTop (mkF m 29 #[.val (.ref a), .val (.int (48 : Int32)), .val (.int (tg &&& (255 : Int32))), .unset] [(.ref vv)])) _
      refine XS.astoreN X.here hx rfl (hb hby d12_29) rfl rfl (l' := #[.val (.ref a), .val (.int (48 : Int32)), .val (.int (tg &&& (255 : Int32))), .val (.ref vv)]) rfl ?_
      show Steps p.tables e below (T6.setTop (mkF m 30 #[.val (.ref a), .val (.int (48 : Int32)), .val (.int (tg &&& (255 : Int32))), .val (.ref vv)] [])) _
      refine XS.aloadN X.here hx rfl (hb hby d12_30) rfl rfl ?_
      show Steps p.tables e below (T6.setTop (mkF m 31 #[.val (.ref a), .val (.int (48 : Int32)), .val (.int (tg &&& (255 : Int32))), .val (.ref vv)] [(.ref a)])) _
      refine XS.aloadN X.here hx rfl (hb hby d12_31) rfl rfl ?_
      exact k)
  obtain ⟨cq8, kq8, qa8, qb8, qc8⟩ := isOf hZ eh E_vv
  obtain ⟨_, _, ⟨T9, L8, k8, n8⟩, -, X, ⟨Lc8, hQ, l8, y8, z8⟩, sx⟩ := X.virtualBack hx (y := (⟨"org/kartenwerk/Der$Value", "next", "()I"⟩ : MethodName)) (z := (⟨"org/kartenwerk/Der$Value", "next", "()I"⟩ : MethodName)) hown (mvT hZ (hw _ (List.mem_of_getElem? (i := 53) rfl))) (mvT hZ (hw _ (List.mem_of_getElem? (i := 54) rfl))) (notFace_of_selects (args := #[]) (mvT hZ (hw _ (List.mem_of_getElem? (i := 56) rfl)))) (mvT hZ (hw _ (List.mem_of_getElem? (i := 56) rfl))) (mvT hZ (hw _ (List.mem_of_getElem? (i := 55) rfl))) (by decide) (backOf (W := 1) (rm9 l Z a0 hw [] vv (Int32.ofNat (2 + ll)) h7 n0 Z0 F_vv_next) hZ (hw _ (List.mem_of_getElem? (i := 57) rfl)) (hw _ (List.mem_of_getElem? (i := 35) rfl)) (by decide) (by decide)) qa8 qc8 (g := (mkF m 32 #[.val (.ref a), .val (.int (48 : Int32)), .val (.int (tg &&& (255 : Int32))), .val (.ref vv)] [(.ref vv), (.ref a)])) rfl (by rw [hml]; rfl) (Steps.refl _) (argsL := []) (rest := [(.ref a)]) (lenOf own_pd4 rfl) rfl (by show 2 * 0 + _ ≤ _; exact Nat.le_of_eq rfl) (hb hby d12_32) (fun _ _ => ⟨rfl, eh, (by decide : 1 + 0 ≤ _), (by decide : 4 + 0 ≤ _)⟩)
  dsimp only [Pt.U, Pt.locs, Pt.cells, Pt.slots] at X l8 y8 z8 sx hQ
  subst l8 y8 z8
  obtain ⟨rfl, Nc, hsame_⟩ := hQ
  have st : ∀ t, Steps p.tables e below (T9.setTop (mkF m 35 #[.val (.ref a), .val (.int (48 : Int32)), .val (.int (tg &&& (255 : Int32))), .val (.ref vv)] [(.int (Int32.ofNat (2 + ll))), (.ref a)])) t → Steps p.tables e below (s₁.setTop (mkF m 0 #[.val (.ref a), .val (.int (48 : Int32)), .unset, .unset] [])) t := fun t k => st t (sx.trans k)
  have N := Fr.app N Nc
  have eh : T9.heap = h7 := hsame_
  obtain ⟨T10, h11, X, eh, W12, sx⟩ := putF X hx hZ hown (host := "") (Or.inl (hw _ (List.mem_of_getElem? (i := 15) rfl))) Via.refl eh F_a_position E_a (Or.inl (hw _ (List.mem_of_getElem? (i := 16) rfl))) (hw _ (List.mem_of_getElem? (i := 1) rfl)) (ty := .int) (by decide) rfl rfl (g := (mkF m 35 #[.val (.ref a), .val (.int (48 : Int32)), .val (.int (tg &&& (255 : Int32))), .val (.ref vv)] [(.int (Int32.ofNat (2 + ll))), (.ref a)])) rfl rfl (hb hby d12_35)
  have st : ∀ t, Steps p.tables e below (T10.setTop (mkF m 38 #[.val (.ref a), .val (.int (48 : Int32)), .val (.int (tg &&& (255 : Int32))), .val (.ref vv)] [])) t → Steps p.tables e below (s₁.setTop (mkF m 0 #[.val (.ref a), .val (.int (48 : Int32)), .unset, .unset] [])) t := fun t k => st t (sx t k)
  have F_a_bytes := F_a_bytes.other W12 (Or.inr (slot_ne (Or.inr (hw _ (List.mem_of_getElem? (i := 14) rfl))) (Or.inl (hw _ (List.mem_of_getElem? (i := 16) rfl))) (by decide) (t := (.array .byte)) (t' := .int) (by decide) (by decide)))
  have F_a_position := F_a_position.same W12
  have F_a_end := F_a_end.other W12 (Or.inr (slot_ne (Or.inr (hw _ (List.mem_of_getElem? (i := 18) rfl))) (Or.inl (hw _ (List.mem_of_getElem? (i := 16) rfl))) (by decide) (t := .int) (t' := .int) (by decide) (by decide)))
  have F_vv_start := F_vv_start.other W12 (Or.inl (Ne.symm ne_a_vv))
  have F_vv_end := F_vv_end.other W12 (Or.inl (Ne.symm ne_a_vv))
  have F_vv_next := F_vv_next.other W12 (Or.inl (Ne.symm ne_a_vv))
  have E_a := E_a.wr W12
  have E_vv := E_vv.wr W12
  have V_ba := V_ba.other W12 (Ne.symm ne_a_ba)
  have K := K.wr W12 (Or.inl (List.mem_of_getElem? (i := 0) rfl))
  have Z0 := Nat.le_trans Z0 (Keep.of_wr W12).1
  have N := Fr.snoc X N g_a
  have st : ∀ t, Steps p.tables e below (T10.setTop (mkF m 39 #[.val (.ref a), .val (.int (48 : Int32)), .val (.int (tg &&& (255 : Int32))), .val (.ref vv)] [(.ref vv)])) t → Steps p.tables e below (s₁.setTop (mkF m 0 #[.val (.ref a), .val (.int (48 : Int32)), .unset, .unset] [])) t := fun t k => st t (by
      show Steps p.tables e below (T10.setTop (mkF m 38 #[.val (.ref a), .val (.int (48 : Int32)), .val (.int (tg &&& (255 : Int32))), .val (.ref vv)] [])) _
      refine XS.aloadN X.here hx rfl (hb hby d12_38) rfl rfl ?_
      exact k)
  obtain ⟨fs_, hr, hrun, hended, hW, hsame⟩ := X.leave (v := some (.ref vv)) (fun h => by rw [Bd.returns] at h; cases h)
  refine ⟨_, _, pre0 _ (st _ ?_), hrun, hended, _, _, rfl, ?_, ⟨_, rfl⟩, hW, hsame.mono (by decide) (by decide)⟩
  · exact retOut X hx Bd.returns rfl (Or.inr (Or.inr (Or.inr (Or.inr ⟨rfl, rfl, rfl⟩)))) (hb hby d12_39) hr
  · show Q_rm12 Z a ba k_ba vs tg lg n ll h0 n0 _ T10.heap _
    rw [eh]
    exact ⟨vv, rfl, N, K, F_a_bytes, F_a_position, F_a_end, sz_vv, g_vv, E_vv, F_vv_start, F_vv_end, F_vv_next⟩
theorem d11_0 : decode prog_42_method_14_code 0 = .ok (.aload_n 0, 1) := by decide +kernel
theorem d11_1 : decode prog_42_method_14_code 1 = .ok (.iload_n 1, 1) := by decide +kernel
theorem d11_2 : decode prog_42_method_14_code 2 = .ok (.invokevirtual 38, 3) := by decide +kernel
theorem d11_5 : decode prog_42_method_14_code 5 = .ok (.astore_n 2, 1) := by decide +kernel
theorem d11_6 : decode prog_42_method_14_code 6 = .ok (.new 2, 3) := by decide +kernel
theorem d11_9 : decode prog_42_method_14_code 9 = .ok (.dup, 1) := by decide +kernel
theorem d11_10 : decode prog_42_method_14_code 10 = .ok (.aload_n 0, 1) := by decide +kernel
theorem d11_11 : decode prog_42_method_14_code 11 = .ok (.getfield 12, 3) := by decide +kernel
theorem d11_14 : decode prog_42_method_14_code 14 = .ok (.aload_n 2, 1) := by decide +kernel
theorem d11_15 : decode prog_42_method_14_code 15 = .ok (.invokevirtual 42, 3) := by decide +kernel
theorem d11_18 : decode prog_42_method_14_code 18 = .ok (.aload_n 2, 1) := by decide +kernel
theorem d11_19 : decode prog_42_method_14_code 19 = .ok (.invokevirtual 48, 3) := by decide +kernel
theorem d11_22 : decode prog_42_method_14_code 22 = .ok (.invokespecial 1, 3) := by decide +kernel
theorem d11_25 : decode prog_42_method_14_code 25 = .ok (.areturn, 1) := by decide +kernel
def Q_rm11 (Z : State) (a : Addr) (ba : Addr) (k_ba : ClassId) (vs : List Value) (tg lg : Int32) (n ll : Nat) (h0 : Heap) (n0 : Nat) (v : Option Value) (h : Heap) (L : List Loc) : Prop := ∃ dn : Addr, v = some (.ref dn) ∧ Fr n0 L ∧ Keep h0 h [a] ∧ Fld Z h a "org/kartenwerk/Der" "bytes" "[B" (.ref ba) ∧ Fld Z h a "org/kartenwerk/Der" "position" "I" (.int (Int32.ofNat (2 + ll))) ∧ Fld Z h a "org/kartenwerk/Der" "end" "I" (.int (Int32.ofNat n)) ∧ h0.size ≤ dn ∧ n0 ≤ dn ∧ Exa Z h dn "org/kartenwerk/Der" ∧ Fld Z h dn "org/kartenwerk/Der" "position" "I" (.int (2 : Int32)) ∧ Fld Z h dn "org/kartenwerk/Der" "end" "I" (.int (Int32.ofNat (2 + ll)))
theorem own_pd6 : parseMethodDescriptor "(I)Lorg/kartenwerk/Der$Value;" = some ⟨[.int], some (.object "org/kartenwerk/Der$Value")⟩ := by decide +kernel
theorem ef_rm11 (m : MethodId) (x0 : Addr) (x1 : Int32) : entryFrame m #[(.ref x0), (.int x1)] 3 = mkF m 0 #[.val (.ref x0), .val (.int x1), .unset] [] := by first | (simp [entryFrame, mkF, argsToLocals, Value.category]; done) | rfl
set_option maxRecDepth 65536 in
set_option maxHeartbeats 40000000 in
theorem rm11 (l : Launch) (Z : State) (a0 : Array Value) (hw : ∀ d ∈ tables_1, d.before a0 Z = true) (ws : List Jvm.Cond) (a : Addr) (ba : Addr) (k_ba : ClassId) (vs : List Value) (tg lg : Int32) (n ll : Nat) (h0 : Heap) (n0 : Nat) (Z0 : n0 ≤ h0.size) (F_a_bytes : Fld Z h0 a "org/kartenwerk/Der" "bytes" "[B" (.ref ba)) (F_a_position : Fld Z h0 a "org/kartenwerk/Der" "position" "I" (.int (0 : Int32))) (F_a_end : Fld Z h0 a "org/kartenwerk/Der" "end" "I" (.int (Int32.ofNat n))) (V_ba : Arv Z h0 ba k_ba .byte (Int32.ofNat n) vs (.int (0 : Int32))) (hn : n ≤ 8) (h2n : 2 + ll ≤ n) (hll : ll ≤ 3) (hv0 : vs.getD 0 (.int (0 : Int32)) = .int tg) (hv1 : vs.getD 1 (.int (0 : Int32)) = .int lg) (htg : ¬ ((tg &&& (255 : Int32)) &&& (31 : Int32)) = (31 : Int32)) (hlg : (lg &&& (255 : Int32)) = Int32.ofNat ll) (E_a : Exa Z h0 a "org/kartenwerk/Der") (g_a : n0 ≤ a) (ne_a_ba : a ≠ ba) (h48 : (tg &&& (255 : Int32)) = (48 : Int32)) :
    MetFree l (⟨"org/kartenwerk/Der", "constructed", "(I)Lorg/kartenwerk/Der;"⟩ : MethodName) (head1 (Jvm.Cond.code (⟨"org/kartenwerk/Der", "constructed", "(I)Lorg/kartenwerk/Der;"⟩ : MethodName) prog_42_method_14_code 3 (some (.object "org/kartenwerk/Der")) :: ws) ({ frames := 5, cells := 2, slots := 7, locals := 79 } : Room)) (fun a' U => a' = #[(.ref a), (.int (48 : Int32))] ∧ Z.Warmed39 U.vm ∧ U.heap = h0) (fun _ _ _ _ _ => True) (fun _ U o U' => ∃ v L, o = .returned v ∧ Q_rm11 Z a ba k_ba vs tg lg n ll h0 n0 v U'.heap L ∧ FrameEnd U o U' L ({ frames := 5, cells := 2, slots := 7, locals := 79 } : Room).cells ({ frames := 5, cells := 2, slots := 7, locals := 79 } : Room).slots) := by
  refine MetFree.of_bodySF (plainFor_of_name own_pn2) hisR ?_
  intro p e s m args below meth cd0 s₁ Bd hml0 hP hK
  obtain ⟨rfl, hZ, hh⟩ := hP
  have hx := Bd.exec
  have hby := Bd.bytes
  have hml : cd0.maxLocals = 3 := hml0
  have hown : s.vm.findClass "org/kartenwerk/Der" = some m.cls := findClass_of_methodNamed Bd.named
  have hnm := (name_of_methodNamed Bd.named Bd.method).1
  have X : Stand p l e ({ frames := 5, cells := 2, slots := 7, locals := 79 } : Room) s m #[(.ref a), (.int (48 : Int32))] below meth cd0 s₁ [] 0 0 := Stand.of_body Bd
  have eh : s₁.heap = h0 := by rw [← hh, Bd.state]; rfl
  have N := Fr.nil n0
  have K : Keep h0 h0 [a] := Keep.refl _ _
  have pre0 : ∀ t, Steps p.tables e below (s₁.setTop (mkF m 0 #[.val (.ref a), .val (.int (48 : Int32)), .unset] [])) t → Steps p.tables e below (s₁.setTop (entryFrame m #[(.ref a), (.int (48 : Int32))] 3)) t := fun t k => castTop (ef_rm11 m a (48 : Int32)) k
  have st : ∀ t, Steps p.tables e below (s₁.setTop (mkF m 0 #[.val (.ref a), .val (.int (48 : Int32)), .unset] [])) t → Steps p.tables e below (s₁.setTop (mkF m 0 #[.val (.ref a), .val (.int (48 : Int32)), .unset] [])) t := fun t k => k
  have st : ∀ t, Steps p.tables e below (s₁.setTop (mkF m 2 #[.val (.ref a), .val (.int (48 : Int32)), .unset] [(.int (48 : Int32)), (.ref a)])) t → Steps p.tables e below (s₁.setTop (mkF m 0 #[.val (.ref a), .val (.int (48 : Int32)), .unset] [])) t := fun t k => st t (by
      show Steps p.tables e below (s₁.setTop (mkF m 0 #[.val (.ref a), .val (.int (48 : Int32)), .unset] [])) _
      refine XS.aloadN X.here hx rfl (hb hby d11_0) rfl rfl ?_
      show Steps p.tables e below (s₁.setTop (mkF m 1 #[.val (.ref a), .val (.int (48 : Int32)), .unset] [(.ref a)])) _
      refine XS.iloadN X.here hx rfl (hb hby d11_1) rfl ?_
      exact k)
  have K00 := K
  have lt_a := E_a.lt
  obtain ⟨cq1, q1, q1'⟩ := E_a.cell
  obtain ⟨_, _, ⟨T2, L1, k1, n1⟩, -, X, ⟨Lc1, hQ, l1, y1, z1⟩, sx⟩ := X.privateBack hx (y := (⟨"org/kartenwerk/Der", "next", "(I)Lorg/kartenwerk/Der$Value;"⟩ : MethodName)) hown (mvT hZ (hw _ (List.mem_of_getElem? (i := 67) rfl))) (mvT hZ (hw _ (List.mem_of_getElem? (i := 68) rfl))) (mvT hZ (own_sel (y := (⟨"org/kartenwerk/Der", "next", "(I)Lorg/kartenwerk/Der$Value;"⟩ : MethodName)) (by decide) (hw _ (List.mem_of_getElem? (i := 68) rfl)) (hw _ (List.mem_of_getElem? (i := 69) rfl)) (hw _ (List.mem_of_getElem? (i := 1) rfl)))) (Cond.privateMethod_at (mvP hZ (hw _ (List.mem_of_getElem? (i := 69) rfl)) (args := #[]))) (mvT hZ (hw _ (List.mem_of_getElem? (i := 70) rfl))) (by decide) (backOf (W := 0) (rm12 l Z a0 hw [] a ba k_ba vs tg lg n ll h0 n0 Z0 F_a_bytes F_a_position F_a_end V_ba hn h2n hll hv0 hv1 htg hlg E_a g_a ne_a_ba h48) hZ (hw _ (List.mem_of_getElem? (i := 70) rfl)) (hw _ (List.mem_of_getElem? (i := 2) rfl)) (by decide) (by decide)) (g := (mkF m 2 #[.val (.ref a), .val (.int (48 : Int32)), .unset] [(.int (48 : Int32)), (.ref a)])) rfl (by rw [hml]; rfl) (Steps.refl _) (a := a) (by rw [eh]; exact q1) q1' (argsL := [(.int (48 : Int32))]) (rest := []) (lenOf own_pd6 rfl) rfl (by show 2 * 0 + _ ≤ _; exact Nat.le_of_eq rfl) (hb hby d11_2) (fun _ _ => ⟨rfl, eh, (by decide : 0 + 1 ≤ _), (by decide : 0 + 4 ≤ _)⟩)
  dsimp only [Pt.U, Pt.locs, Pt.cells, Pt.slots] at X l1 y1 z1 sx hQ
  subst l1 y1 z1
  obtain ⟨vv, rfl, Nc, K1, F_a_bytes, F_a_position, F_a_end, szp, g_vv, E_vv, F_vv_start, F_vv_end, F_vv_next⟩ := hQ
  have st : ∀ t, Steps p.tables e below (T2.setTop (mkF m 5 #[.val (.ref a), .val (.int (48 : Int32)), .unset] [(.ref vv)])) t → Steps p.tables e below (s₁.setTop (mkF m 0 #[.val (.ref a), .val (.int (48 : Int32)), .unset] [])) t := fun t k => st t (sx.trans k)
  have N := Fr.app N Nc
  obtain ⟨h3, eH⟩ : ∃ z, z = T2.heap := ⟨_, rfl⟩
  rw [← eH] at K1 F_a_bytes F_a_position F_a_end E_vv F_vv_start F_vv_end F_vv_next
  have eh : T2.heap = h3 := eH.symm
  have E_a := E_a.keep K1
  have V_ba := V_ba.keep K1 (ninS (Ne.symm ne_a_ba) nin0)
  have K := K.trans K1 (allS (Or.inl (List.mem_of_getElem? (i := 0) rfl)) all0)
  have Z0 := Nat.le_trans Z0 K1.1
  have sz_vv : h0.size ≤ vv := Nat.le_trans K00.1 szp
  have ne_a_vv : a ≠ vv := Nat.ne_of_lt (Nat.lt_of_lt_of_le lt_a szp)
  have st : ∀ t, Steps p.tables e below (T2.setTop (mkF m 6 #[.val (.ref a), .val (.int (48 : Int32)), .val (.ref vv)] [])) t → Steps p.tables e below (s₁.setTop (mkF m 0 #[.val (.ref a), .val (.int (48 : Int32)), .unset] [])) t := fun t k => st t (by
      show Steps p.tables e below (T2.setTop (mkF m 5 #[.val (.ref a), .val (.int (48 : Int32)), .unset] [(.ref vv)])) _
      refine XS.astoreN X.here hx rfl (hb hby d11_5) rfl rfl (l' := #[.val (.ref a), .val (.int (48 : Int32)), .val (.ref vv)]) rfl ?_
      exact k)
  obtain ⟨T4, h5, X, eh, E6, E_dn, D6, -, sx⟩ := newO X hx hZ hown (hw _ (List.mem_of_getElem? (i := 77) rfl)) (hw _ (List.mem_of_getElem? (i := 1) rfl)) (hw _ (List.mem_of_getElem? (i := 2) rfl)) eh (g := (mkF m 6 #[.val (.ref a), .val (.int (48 : Int32)), .val (.ref vv)] [])) rfl (hb hby d11_6) (by decide) (by decide)
  obtain ⟨dn, g6⟩ : ∃ z, z = h3.size := ⟨_, rfl⟩
  have ne_a_dn : a ≠ dn := fun q => absurd E_a.lt (by rw [q, g6]; exact Nat.lt_irrefl _)
  have ne_vv_dn : vv ≠ dn := fun q => absurd E_vv.lt (by rw [q, g6]; exact Nat.lt_irrefl _)
  have g_dn : n0 ≤ dn := Nat.le_trans Z0 (Nat.le_of_eq g6.symm)
  have sz_dn : h0.size ≤ dn := Nat.le_trans K.1 (Nat.le_of_eq g6.symm)
  rw [← g6] at E_dn D6 sx
  have st : ∀ t, Steps p.tables e below (T4.setTop (mkF m 9 #[.val (.ref a), .val (.int (48 : Int32)), .val (.ref vv)] [(.ref dn)])) t → Steps p.tables e below (s₁.setTop (mkF m 0 #[.val (.ref a), .val (.int (48 : Int32)), .unset] [])) t := fun t k => st t (sx t k)
  have F_a_bytes := F_a_bytes.ext E6
  have F_a_position := F_a_position.ext E6
  have F_a_end := F_a_end.ext E6
  have F_vv_start := F_vv_start.ext E6
  have F_vv_end := F_vv_end.ext E6
  have F_vv_next := F_vv_next.ext E6
  have E_a := E_a.ext E6
  have E_vv := E_vv.ext E6
  have K := K.ext E6
  have Z0 := Nat.le_trans Z0 E6.1
  have F_dn_bytes : Fld Z h5 dn "org/kartenwerk/Der" "bytes" "[B" .null := D6 (Or.inr (hw _ (List.mem_of_getElem? (i := 14) rfl))) (ty := (.array .byte)) (by decide)
  have F_dn_position : Fld Z h5 dn "org/kartenwerk/Der" "position" "I" (.int (0 : Int32)) := D6 (Or.inl (hw _ (List.mem_of_getElem? (i := 16) rfl))) (ty := .int) (by decide)
  have F_dn_end : Fld Z h5 dn "org/kartenwerk/Der" "end" "I" (.int (0 : Int32)) := D6 (Or.inr (hw _ (List.mem_of_getElem? (i := 18) rfl))) (ty := .int) (by decide)
  have st : ∀ t, Steps p.tables e below (T4.setTop (mkF m 11 #[.val (.ref a), .val (.int (48 : Int32)), .val (.ref vv)] [(.ref a), (.ref dn), (.ref dn)])) t → Steps p.tables e below (s₁.setTop (mkF m 0 #[.val (.ref a), .val (.int (48 : Int32)), .unset] [])) t := fun t k => st t (by
      show Steps p.tables e below (T4.setTop (mkF m 9 #[.val (.ref a), .val (.int (48 : Int32)), .val (.ref vv)] [(.ref dn)])) _
      refine XS.dup X.here hx rfl (hb hby d11_9) rfl rfl ?_
      show Steps p.tables e below (T4.setTop (mkF m 10 #[.val (.ref a), .val (.int (48 : Int32)), .val (.ref vv)] [(.ref dn), (.ref dn)])) _
      refine XS.aloadN X.here hx rfl (hb hby d11_10) rfl rfl ?_
      exact k)
  obtain ⟨T7, X, eh, sx⟩ := getF X hx hZ hown (host := "") (Or.inl (hw _ (List.mem_of_getElem? (i := 13) rfl))) Via.refl eh F_a_bytes (g := (mkF m 11 #[.val (.ref a), .val (.int (48 : Int32)), .val (.ref vv)] [(.ref a), (.ref dn), (.ref dn)])) rfl rfl (hb hby d11_11)
  have st : ∀ t, Steps p.tables e below (T7.setTop (mkF m 14 #[.val (.ref a), .val (.int (48 : Int32)), .val (.ref vv)] [(.ref ba), (.ref dn), (.ref dn)])) t → Steps p.tables e below (s₁.setTop (mkF m 0 #[.val (.ref a), .val (.int (48 : Int32)), .unset] [])) t := fun t k => st t (sx t k)
  have st : ∀ t, Steps p.tables e below (T7.setTop (mkF m 15 #[.val (.ref a), .val (.int (48 : Int32)), .val (.ref vv)] [(.ref vv), (.ref ba), (.ref dn), (.ref dn)])) t → Steps p.tables e below (s₁.setTop (mkF m 0 #[.val (.ref a), .val (.int (48 : Int32)), .unset] [])) t := fun t k => st t (by
      show Steps p.tables e below (T7.setTop (mkF m 14 #[.val (.ref a), .val (.int (48 : Int32)), .val (.ref vv)] [(.ref ba), (.ref dn), (.ref dn)])) _
      refine XS.aloadN X.here hx rfl (hb hby d11_14) rfl rfl ?_
      exact k)
  obtain ⟨cq8, kq8, qa8, qb8, qc8⟩ := isOf hZ eh E_vv
  obtain ⟨_, _, ⟨T9, L8, k8, n8⟩, -, X, ⟨Lc8, hQ, l8, y8, z8⟩, sx⟩ := X.virtualBack hx (y := (⟨"org/kartenwerk/Der$Value", "start", "()I"⟩ : MethodName)) (z := (⟨"org/kartenwerk/Der$Value", "start", "()I"⟩ : MethodName)) hown (mvT hZ (hw _ (List.mem_of_getElem? (i := 78) rfl))) (mvT hZ (hw _ (List.mem_of_getElem? (i := 79) rfl))) (notFace_of_selects (args := #[]) (mvT hZ (hw _ (List.mem_of_getElem? (i := 81) rfl)))) (mvT hZ (hw _ (List.mem_of_getElem? (i := 81) rfl))) (mvT hZ (hw _ (List.mem_of_getElem? (i := 80) rfl))) (by decide) (backOf (W := 3) (rm14 l Z a0 hw [] vv (2 : Int32) h5 n0 Z0 F_vv_start) hZ (hw _ (List.mem_of_getElem? (i := 82) rfl)) (hw _ (List.mem_of_getElem? (i := 35) rfl)) (by decide) (by decide)) qa8 qc8 (g := (mkF m 15 #[.val (.ref a), .val (.int (48 : Int32)), .val (.ref vv)] [(.ref vv), (.ref ba), (.ref dn), (.ref dn)])) rfl (by rw [hml]; rfl) (Steps.refl _) (argsL := []) (rest := [(.ref ba), (.ref dn), (.ref dn)]) (lenOf own_pd4 rfl) rfl (by show 2 * 0 + _ ≤ _; exact Nat.le_of_eq rfl) (hb hby d11_15) (fun _ _ => ⟨rfl, eh, (by decide : 2 + 0 ≤ _), (by decide : 7 + 0 ≤ _)⟩)
  dsimp only [Pt.U, Pt.locs, Pt.cells, Pt.slots] at X l8 y8 z8 sx hQ
  subst l8 y8 z8
  obtain ⟨rfl, Nc, hsame_⟩ := hQ
  have st : ∀ t, Steps p.tables e below (T9.setTop (mkF m 18 #[.val (.ref a), .val (.int (48 : Int32)), .val (.ref vv)] [(.int (2 : Int32)), (.ref ba), (.ref dn), (.ref dn)])) t → Steps p.tables e below (s₁.setTop (mkF m 0 #[.val (.ref a), .val (.int (48 : Int32)), .unset] [])) t := fun t k => st t (sx.trans k)
  have N := Fr.app N Nc
  have eh : T9.heap = h5 := hsame_
  have st : ∀ t, Steps p.tables e below (T9.setTop (mkF m 19 #[.val (.ref a), .val (.int (48 : Int32)), .val (.ref vv)] [(.ref vv), (.int (2 : Int32)), (.ref ba), (.ref dn), (.ref dn)])) t → Steps p.tables e below (s₁.setTop (mkF m 0 #[.val (.ref a), .val (.int (48 : Int32)), .unset] [])) t := fun t k => st t (by
      show Steps p.tables e below (T9.setTop (mkF m 18 #[.val (.ref a), .val (.int (48 : Int32)), .val (.ref vv)] [(.int (2 : Int32)), (.ref ba), (.ref dn), (.ref dn)])) _
      refine XS.aloadN X.here hx rfl (hb hby d11_18) rfl rfl ?_
      exact k)
  obtain ⟨cq10, kq10, qa10, qb10, qc10⟩ := isOf hZ eh E_vv
  obtain ⟨_, _, ⟨T11, L10, k10, n10⟩, -, X, ⟨Lc10, hQ, l10, y10, z10⟩, sx⟩ := X.virtualBack hx (y := (⟨"org/kartenwerk/Der$Value", "end", "()I"⟩ : MethodName)) (z := (⟨"org/kartenwerk/Der$Value", "end", "()I"⟩ : MethodName)) hown (mvT hZ (hw _ (List.mem_of_getElem? (i := 83) rfl))) (mvT hZ (hw _ (List.mem_of_getElem? (i := 84) rfl))) (notFace_of_selects (args := #[]) (mvT hZ (hw _ (List.mem_of_getElem? (i := 86) rfl)))) (mvT hZ (hw _ (List.mem_of_getElem? (i := 86) rfl))) (mvT hZ (hw _ (List.mem_of_getElem? (i := 85) rfl))) (by decide) (backOf (W := 4) (rm15 l Z a0 hw [] vv (Int32.ofNat (2 + ll)) h5 n0 Z0 F_vv_end) hZ (hw _ (List.mem_of_getElem? (i := 87) rfl)) (hw _ (List.mem_of_getElem? (i := 35) rfl)) (by decide) (by decide)) qa10 qc10 (g := (mkF m 19 #[.val (.ref a), .val (.int (48 : Int32)), .val (.ref vv)] [(.ref vv), (.int (2 : Int32)), (.ref ba), (.ref dn), (.ref dn)])) rfl (by rw [hml]; rfl) (Steps.refl _) (argsL := []) (rest := [(.int (2 : Int32)), (.ref ba), (.ref dn), (.ref dn)]) (lenOf own_pd4 rfl) rfl (by show 2 * 0 + _ ≤ _; exact Nat.le_of_eq rfl) (hb hby d11_19) (fun _ _ => ⟨rfl, eh, (by decide : 2 + 0 ≤ _), (by decide : 7 + 0 ≤ _)⟩)
  dsimp only [Pt.U, Pt.locs, Pt.cells, Pt.slots] at X l10 y10 z10 sx hQ
  subst l10 y10 z10
  obtain ⟨rfl, Nc, hsame_⟩ := hQ
  have st : ∀ t, Steps p.tables e below (T11.setTop (mkF m 22 #[.val (.ref a), .val (.int (48 : Int32)), .val (.ref vv)] [(.int (Int32.ofNat (2 + ll))), (.int (2 : Int32)), (.ref ba), (.ref dn), (.ref dn)])) t → Steps p.tables e below (s₁.setTop (mkF m 0 #[.val (.ref a), .val (.int (48 : Int32)), .unset] [])) t := fun t k => st t (sx.trans k)
  have N := Fr.app N Nc
  have eh : T11.heap = h5 := hsame_
  obtain ⟨_, _, ⟨T13, L12, k12, n12⟩, -, X, ⟨Lc12, hQ, l12, y12, z12⟩, sx⟩ := X.specialBack hx (y := (⟨"org/kartenwerk/Der", "<init>", "([BII)V"⟩ : MethodName)) rfl hown (mvT hZ (hw _ (List.mem_of_getElem? (i := 7) rfl))) (mvT hZ (hw _ (List.mem_of_getElem? (i := 8) rfl))) (mvT hZ (hw _ (List.mem_of_getElem? (i := 9) rfl))) (by decide) (backOf (W := 1) (rm2 l Z a0 hw [] dn ba (2 : Int32) (Int32.ofNat (2 + ll))  h5 n0 Z0 E_dn g_dn F_dn_bytes F_dn_position F_dn_end) hZ (hw _ (List.mem_of_getElem? (i := 9) rfl)) (hw _ (List.mem_of_getElem? (i := 2) rfl)) (by decide) (by decide)) (g := (mkF m 22 #[.val (.ref a), .val (.int (48 : Int32)), .val (.ref vv)] [(.int (Int32.ofNat (2 + ll))), (.int (2 : Int32)), (.ref ba), (.ref dn), (.ref dn)])) rfl (by rw [hml]; rfl) (Steps.refl _) (a := dn) (argsL := [(.ref ba), (.int (2 : Int32)), (.int (Int32.ofNat (2 + ll)))]) (rest := [(.ref dn)]) (lenOf own_pd0 rfl) rfl (by show 2 * 0 + _ ≤ _; exact Nat.le_of_eq rfl) (hb hby d11_22) (fun _ _ => ⟨rfl, eh, (by decide : 2 + 0 ≤ _), (by decide : 7 + 0 ≤ _)⟩)
  dsimp only [Pt.U, Pt.locs, Pt.cells, Pt.slots] at X l12 y12 z12 sx hQ
  subst l12 y12 z12
  obtain ⟨rfl, Nc, K1, F_dn_bytes, F_dn_position, F_dn_end⟩ := hQ
  have st : ∀ t, Steps p.tables e below (T13.setTop (mkF m 25 #[.val (.ref a), .val (.int (48 : Int32)), .val (.ref vv)] [(.ref dn)])) t → Steps p.tables e below (s₁.setTop (mkF m 0 #[.val (.ref a), .val (.int (48 : Int32)), .unset] [])) t := fun t k => st t (sx.trans k)
  have N := Fr.app N Nc
  obtain ⟨h14, eH⟩ : ∃ z, z = T13.heap := ⟨_, rfl⟩
  rw [← eH] at K1 F_dn_bytes F_dn_position F_dn_end
  have eh : T13.heap = h14 := eH.symm
  have F_a_bytes := F_a_bytes.keep K1 (ninS ne_a_dn nin0)
  have F_a_position := F_a_position.keep K1 (ninS ne_a_dn nin0)
  have F_a_end := F_a_end.keep K1 (ninS ne_a_dn nin0)
  have F_vv_start := F_vv_start.keep K1 (ninS ne_vv_dn nin0)
  have F_vv_end := F_vv_end.keep K1 (ninS ne_vv_dn nin0)
  have F_vv_next := F_vv_next.keep K1 (ninS ne_vv_dn nin0)
  have E_a := E_a.keep K1
  have E_vv := E_vv.keep K1
  have E_dn := E_dn.keep K1
  have K := K.trans K1 (allS (Or.inr sz_dn) all0)
  have Z0 := Nat.le_trans Z0 K1.1
  obtain ⟨fs_, hr, hrun, hended, hW, hsame⟩ := X.leave (v := some (.ref dn)) (fun h => by rw [Bd.returns] at h; cases h)
  refine ⟨_, _, pre0 _ (st _ ?_), hrun, hended, _, _, rfl, ?_, ⟨_, rfl⟩, hW, hsame.mono (by decide) (by decide)⟩
  · exact retOut X hx Bd.returns rfl (Or.inr (Or.inr (Or.inr (Or.inr ⟨rfl, rfl, rfl⟩)))) (hb hby d11_25) hr
  · show Q_rm11 Z a ba k_ba vs tg lg n ll h0 n0 _ T13.heap _
    rw [eh]
    exact ⟨dn, rfl, N, K, F_a_bytes, F_a_position, F_a_end, sz_dn, g_dn, E_dn, F_dn_position, F_dn_end⟩
theorem d10_0 : decode prog_42_method_5_code 0 = .ok (.aload_n 0, 1) := by decide +kernel
theorem d10_1 : decode prog_42_method_5_code 1 = .ok (.bipush 48, 2) := by decide +kernel
theorem d10_3 : decode prog_42_method_5_code 3 = .ok (.invokevirtual 34, 3) := by decide +kernel
theorem d10_6 : decode prog_42_method_5_code 6 = .ok (.areturn, 1) := by decide +kernel
def Q_rm10 (Z : State) (a : Addr) (ba : Addr) (k_ba : ClassId) (vs : List Value) (tg lg : Int32) (n ll : Nat) (h0 : Heap) (n0 : Nat) (v : Option Value) (h : Heap) (L : List Loc) : Prop := ∃ dn : Addr, v = some (.ref dn) ∧ Fr n0 L ∧ Keep h0 h [a] ∧ Fld Z h a "org/kartenwerk/Der" "bytes" "[B" (.ref ba) ∧ Fld Z h a "org/kartenwerk/Der" "position" "I" (.int (Int32.ofNat (2 + ll))) ∧ Fld Z h a "org/kartenwerk/Der" "end" "I" (.int (Int32.ofNat n)) ∧ h0.size ≤ dn ∧ n0 ≤ dn ∧ Exa Z h dn "org/kartenwerk/Der" ∧ Fld Z h dn "org/kartenwerk/Der" "position" "I" (.int (2 : Int32)) ∧ Fld Z h dn "org/kartenwerk/Der" "end" "I" (.int (Int32.ofNat (2 + ll)))
theorem own_pd7 : parseMethodDescriptor "(I)Lorg/kartenwerk/Der;" = some ⟨[.int], some (.object "org/kartenwerk/Der")⟩ := by decide +kernel
theorem ef_rm10 (m : MethodId) (x0 : Addr) : entryFrame m #[(.ref x0)] 1 = mkF m 0 #[.val (.ref x0)] [] := by first | (simp [entryFrame, mkF, argsToLocals, Value.category]; done) | rfl
set_option maxRecDepth 65536 in
set_option maxHeartbeats 40000000 in
theorem rm10 (l : Launch) (Z : State) (a0 : Array Value) (hw : ∀ d ∈ tables_1, d.before a0 Z = true) (ws : List Jvm.Cond) (a : Addr) (ba : Addr) (k_ba : ClassId) (vs : List Value) (tg lg : Int32) (n ll : Nat) (h0 : Heap) (n0 : Nat) (Z0 : n0 ≤ h0.size) (F_a_bytes : Fld Z h0 a "org/kartenwerk/Der" "bytes" "[B" (.ref ba)) (F_a_position : Fld Z h0 a "org/kartenwerk/Der" "position" "I" (.int (0 : Int32))) (F_a_end : Fld Z h0 a "org/kartenwerk/Der" "end" "I" (.int (Int32.ofNat n))) (V_ba : Arv Z h0 ba k_ba .byte (Int32.ofNat n) vs (.int (0 : Int32))) (hn : n ≤ 8) (h2n : 2 + ll ≤ n) (hll : ll ≤ 3) (hv0 : vs.getD 0 (.int (0 : Int32)) = .int tg) (hv1 : vs.getD 1 (.int (0 : Int32)) = .int lg) (htg : ¬ ((tg &&& (255 : Int32)) &&& (31 : Int32)) = (31 : Int32)) (hlg : (lg &&& (255 : Int32)) = Int32.ofNat ll) (E_a : Exa Z h0 a "org/kartenwerk/Der") (g_a : n0 ≤ a) (ne_a_ba : a ≠ ba) (h48 : (tg &&& (255 : Int32)) = (48 : Int32)) :
    MetFree l (⟨"org/kartenwerk/Der", "sequence", "()Lorg/kartenwerk/Der;"⟩ : MethodName) (head1 (Jvm.Cond.code (⟨"org/kartenwerk/Der", "sequence", "()Lorg/kartenwerk/Der;"⟩ : MethodName) prog_42_method_5_code 1 (some (.object "org/kartenwerk/Der")) :: ws) ({ frames := 6, cells := 2, slots := 7, locals := 93 } : Room)) (fun a' U => a' = #[(.ref a)] ∧ Z.Warmed39 U.vm ∧ U.heap = h0) (fun _ _ _ _ _ => True) (fun _ U o U' => ∃ v L, o = .returned v ∧ Q_rm10 Z a ba k_ba vs tg lg n ll h0 n0 v U'.heap L ∧ FrameEnd U o U' L ({ frames := 6, cells := 2, slots := 7, locals := 93 } : Room).cells ({ frames := 6, cells := 2, slots := 7, locals := 93 } : Room).slots) := by
  refine MetFree.of_bodySF (plainFor_of_name own_pn2) hisR ?_
  intro p e s m args below meth cd0 s₁ Bd hml0 hP hK
  obtain ⟨rfl, hZ, hh⟩ := hP
  have hx := Bd.exec
  have hby := Bd.bytes
  have hml : cd0.maxLocals = 1 := hml0
  have hown : s.vm.findClass "org/kartenwerk/Der" = some m.cls := findClass_of_methodNamed Bd.named
  have hnm := (name_of_methodNamed Bd.named Bd.method).1
  have X : Stand p l e ({ frames := 6, cells := 2, slots := 7, locals := 93 } : Room) s m #[(.ref a)] below meth cd0 s₁ [] 0 0 := Stand.of_body Bd
  have eh : s₁.heap = h0 := by rw [← hh, Bd.state]; rfl
  have N := Fr.nil n0
  have K : Keep h0 h0 [a] := Keep.refl _ _
  have pre0 : ∀ t, Steps p.tables e below (s₁.setTop (mkF m 0 #[.val (.ref a)] [])) t → Steps p.tables e below (s₁.setTop (entryFrame m #[(.ref a)] 1)) t := fun t k => castTop (ef_rm10 m a) k
  have st : ∀ t, Steps p.tables e below (s₁.setTop (mkF m 0 #[.val (.ref a)] [])) t → Steps p.tables e below (s₁.setTop (mkF m 0 #[.val (.ref a)] [])) t := fun t k => k
  have st : ∀ t, Steps p.tables e below (s₁.setTop (mkF m 3 #[.val (.ref a)] [(.int (48 : Int32)), (.ref a)])) t → Steps p.tables e below (s₁.setTop (mkF m 0 #[.val (.ref a)] [])) t := fun t k => st t (by
      show Steps p.tables e below (s₁.setTop (mkF m 0 #[.val (.ref a)] [])) _
      refine XS.aloadN X.here hx rfl (hb hby d10_0) rfl rfl ?_
      show Steps p.tables e below (s₁.setTop (mkF m 1 #[.val (.ref a)] [(.ref a)])) _
      refine XS.bipush X.here hx rfl (hb hby d10_1) ?_
      exact k)
  obtain ⟨cq1, q1, q1'⟩ := E_a.cell
  obtain ⟨_, _, ⟨T2, L1, k1, n1⟩, -, X, ⟨Lc1, hQ, l1, y1, z1⟩, sx⟩ := X.privateBack hx (y := (⟨"org/kartenwerk/Der", "constructed", "(I)Lorg/kartenwerk/Der;"⟩ : MethodName)) hown (mvT hZ (hw _ (List.mem_of_getElem? (i := 63) rfl))) (mvT hZ (hw _ (List.mem_of_getElem? (i := 64) rfl))) (mvT hZ (own_sel (y := (⟨"org/kartenwerk/Der", "constructed", "(I)Lorg/kartenwerk/Der;"⟩ : MethodName)) (by decide) (hw _ (List.mem_of_getElem? (i := 64) rfl)) (hw _ (List.mem_of_getElem? (i := 65) rfl)) (hw _ (List.mem_of_getElem? (i := 1) rfl)))) (Cond.privateMethod_at (mvP hZ (hw _ (List.mem_of_getElem? (i := 65) rfl)) (args := #[]))) (mvT hZ (hw _ (List.mem_of_getElem? (i := 66) rfl))) (by decide) (backOf (W := 0) (rm11 l Z a0 hw [] a ba k_ba vs tg lg n ll h0 n0 Z0 F_a_bytes F_a_position F_a_end V_ba hn h2n hll hv0 hv1 htg hlg E_a g_a ne_a_ba h48) hZ (hw _ (List.mem_of_getElem? (i := 66) rfl)) (hw _ (List.mem_of_getElem? (i := 2) rfl)) (by decide) (by decide)) (g := (mkF m 3 #[.val (.ref a)] [(.int (48 : Int32)), (.ref a)])) rfl (by rw [hml]; rfl) (Steps.refl _) (a := a) (by rw [eh]; exact q1) q1' (argsL := [(.int (48 : Int32))]) (rest := []) (lenOf own_pd7 rfl) rfl (by show 2 * 0 + _ ≤ _; exact Nat.le_of_eq rfl) (hb hby d10_3) (fun _ _ => ⟨rfl, eh, (by decide : 0 + 2 ≤ _), (by decide : 0 + 7 ≤ _)⟩)
  dsimp only [Pt.U, Pt.locs, Pt.cells, Pt.slots] at X l1 y1 z1 sx hQ
  subst l1 y1 z1
  obtain ⟨dn, rfl, Nc, K1, F_a_bytes, F_a_position, F_a_end, szp, g_dn, E_dn, F_dn_position, F_dn_end⟩ := hQ
  have st : ∀ t, Steps p.tables e below (T2.setTop (mkF m 6 #[.val (.ref a)] [(.ref dn)])) t → Steps p.tables e below (s₁.setTop (mkF m 0 #[.val (.ref a)] [])) t := fun t k => st t (sx.trans k)
  have N := Fr.app N Nc
  obtain ⟨h3, eH⟩ : ∃ z, z = T2.heap := ⟨_, rfl⟩
  rw [← eH] at K1 F_a_bytes F_a_position F_a_end E_dn F_dn_position F_dn_end
  have eh : T2.heap = h3 := eH.symm
  have E_a := E_a.keep K1
  have V_ba := V_ba.keep K1 (ninS (Ne.symm ne_a_ba) nin0)
  have K := K.trans K1 (allS (Or.inl (List.mem_of_getElem? (i := 0) rfl)) all0)
  have Z0 := Nat.le_trans Z0 K1.1
  obtain ⟨fs_, hr, hrun, hended, hW, hsame⟩ := X.leave (v := some (.ref dn)) (fun h => by rw [Bd.returns] at h; cases h)
  refine ⟨_, _, pre0 _ (st _ ?_), hrun, hended, _, _, rfl, ?_, ⟨_, rfl⟩, hW, hsame.mono (by decide) (by decide)⟩
  · exact retOut X hx Bd.returns rfl (Or.inr (Or.inr (Or.inr (Or.inr ⟨rfl, rfl, rfl⟩)))) (hb hby d10_6) hr
  · show Q_rm10 Z a ba k_ba vs tg lg n ll h0 n0 _ T2.heap _
    rw [eh]
    exact ⟨dn, rfl, N, K, F_a_bytes, F_a_position, F_a_end, szp, g_dn, E_dn, F_dn_position, F_dn_end⟩
theorem own_nat {z m : Int32} {b : Nat} (hm : m.toBitVec.toNat = b) : (z &&& m).toBitVec.toNat ≤ b ∧ (z &&& m) = Int32.ofNat (z &&& m).toBitVec.toNat := by
  refine ⟨?_, ?_⟩
  · simp only [Int32.toBitVec_and, BitVec.toNat_and, hm]
    exact Nat.and_le_right
  · apply Int32.toBitVec_inj.mp
    show _ = BitVec.ofNat 32 _
    rw [BitVec.ofNat_toNat]; simp
theorem own_m3 (z : Int32) : ∃ n : Nat, n ≤ 3 ∧ (z &&& (3 : Int32)) = Int32.ofNat n := ⟨_, own_nat rfl⟩
theorem own_m255 (z : Int32) : ∃ n : Nat, n ≤ 255 ∧ (z &&& (255 : Int32)) = Int32.ofNat n := ⟨_, own_nat rfl⟩
theorem own_raw {raw : Nat} (h : raw ≤ 3) (vr : Int32) (hv : vr = (if Int32.ofNat raw = (0 : Int32) then (0 : Int32) else (1 : Int32))) : own_has (0 : Int32) (Int32.ofNat raw) = vr := by
  have e := own_hasN (i := 0) (j := raw) (by decide) (by omega)
  have e' : own_has (0 : Int32) (Int32.ofNat raw) = if 0 < raw then (1 : Int32) else (0 : Int32) := e
  rw [e', hv]
  by_cases q : raw = 0
  · rw [if_neg (by omega), if_pos (by rw [q]; rfl)]
  · rw [if_pos (by omega), if_neg (show ¬ Int32.ofNat raw = (0 : Int32) from fun z => q ((own_inj (i := raw) (j := 0) (by omega) (by decide)).mp z))]
theorem own_after {i d : Nat} (hi : i ≤ 100) (hd : d ≤ 100) (vr : Int32) (hv : vr = (if (0 : Int32) < Int32.ofNat d then (1 : Int32) else (0 : Int32))) : own_has (Int32.ofNat i) (Int32.ofNat (i + d)) = vr := by
  rw [own_hasN (by omega) (by omega), hv]
  have e : (0 : Int32) < Int32.ofNat d ↔ 0 < d := own_lt (i := 0) (j := d) (by decide) (by omega)
  by_cases q : 0 < d
  · rw [if_pos (by omega), if_pos (e.mpr q)]
  · rw [if_neg (by omega), if_neg (fun z => q (e.mp z))]
theorem own_tags : ∀ k : Fin 256, ¬ ((nar .byte ((if (Int32.ofNat k.val &&& (31 : Int32)) = (31 : Int32) then (Int32.ofNat k.val &&& (254 : Int32)) else Int32.ofNat k.val).toInt8.toInt32) &&& (255 : Int32)) &&& (31 : Int32)) = (31 : Int32) := by decide +kernel
theorem own_48 : (nar .byte ((48 : Int32).toInt8.toInt32) &&& (255 : Int32)) = (48 : Int32) := by decide +kernel
theorem own_48b : ¬ ((nar .byte ((48 : Int32).toInt8.toInt32) &&& (255 : Int32)) &&& (31 : Int32)) = (31 : Int32) := by decide +kernel
theorem own_lens : ∀ k : Fin 4, (nar .byte ((Int32.ofNat k.val).toInt8.toInt32) &&& (255 : Int32)) = Int32.ofNat k.val := by decide +kernel
theorem own_size (a b : Nat) : (2 : Int32) + Int32.ofNat a + Int32.ofNat b = Int32.ofNat (2 + a + b) := by
  have e : (2 : Int32) = Int32.ofNat 2 := rfl
  rw [e, ← Int32.ofNat_add, ← Int32.ofNat_add]
theorem own_getset {vs : List Value} {i j : Nat} {v w d : Value} (h : i ≠ j) (hv : vs.getD j d = w) : (vs.set i v).getD j d = w := by
  rw [List.getD_eq_getElem?_getD] at hv ⊢
  rw [List.getElem?_set_ne h]; exact hv
theorem own_pn0 : plainName "org/kartenwerk/DerHasNextPinLaw" = true := by first | (simp [plainName, overriddenIn]; done) | decide +kernel
def Q_rm0 (Z : State) (y0 : Int32) (y1 : Int32) (y2 : Int32) (y3 : Int32) (y4 : Int64) (y5 : Int32)  (h0 : Heap) (n0 : Nat) (v : Option Value) (h : Heap) (L : List Loc) : Prop := v = some (.int 1) ∧ Fr n0 L
theorem own_pd8 : parseMethodDescriptor "([B)V" = some ⟨[(.array .byte)], none⟩ := by decide +kernel
theorem own_pd9 : parseMethodDescriptor "()Lorg/kartenwerk/Der;" = some ⟨[], some (.object "org/kartenwerk/Der")⟩ := by decide +kernel
theorem ef_rm0 (m : MethodId) (x0 : Int32) (x1 : Int32) (x2 : Int32) (x3 : Int32) (x4 : Int64) (x5 : Int32) : entryFrame m #[(.int x0), (.int x1), (.int x2), (.int x3), (.long x4), (.int x5)] maxLocals = mkF m 0 #[.val (.int x0), .val (.int x1), .val (.int x2), .val (.int x3), .val (.long x4), .second, .val (.int x5), .unset, .unset, .unset, .unset, .unset, .unset, .unset, .unset, .unset, .unset] [] := by first | (simp [entryFrame, mkF, argsToLocals, Value.category, maxLocals]; done) | rfl
set_option maxRecDepth 65536 in
set_option maxHeartbeats 40000000 in
theorem rm0 (l : Launch) (Z : State) (a0 : Array Value) (hw : ∀ d ∈ tables_1, d.before a0 Z = true) (ws : List Jvm.Cond) (y0 : Int32) (y1 : Int32) (y2 : Int32) (y3 : Int32) (y4 : Int64) (y5 : Int32)  (h0 : Heap) (n0 : Nat) (Z0 : n0 ≤ h0.size)  :
    MetFree l x (head1 (Jvm.Cond.code x code maxLocals ret :: ws) room_1) (fun a' U => a' = #[(.int y0), (.int y1), (.int y2), (.int y3), (.long y4), (.int y5)] ∧ Z.Warmed39 U.vm ∧ U.heap = h0) (fun _ _ _ _ _ => True) (fun _ U o U' => ∃ v L, o = .returned v ∧ Q_rm0 Z y0 y1 y2 y3 y4 y5 h0 n0 v U'.heap L ∧ FrameEnd U o U' L room_1.cells room_1.slots) := by
  refine MetFree.of_bodySF (plainFor_of_name own_pn0) hisR ?_
  intro p e s m args below meth cd0 s₁ Bd hml0 hP hK
  obtain ⟨rfl, hZ, hh⟩ := hP
  have hx := Bd.exec
  have hby := Bd.bytes
  have hml : cd0.maxLocals = 17 := hml0
  have hown : s.vm.findClass "org/kartenwerk/DerHasNextPinLaw" = some m.cls := findClass_of_methodNamed Bd.named
  have hnm := (name_of_methodNamed Bd.named Bd.method).1
  have X : Stand p l e room_1 s m #[(.int y0), (.int y1), (.int y2), (.int y3), (.long y4), (.int y5)] below meth cd0 s₁ [] 0 0 := Stand.of_body Bd
  have eh : s₁.heap = h0 := by rw [← hh, Bd.state]; rfl
  have N := Fr.nil n0
  have K : Keep h0 h0 [] := Keep.refl _ _
  have pre0 : ∀ t, Steps p.tables e below (s₁.setTop (mkF m 0 #[.val (.int y0), .val (.int y1), .val (.int y2), .val (.int y3), .val (.long y4), .second, .val (.int y5), .unset, .unset, .unset, .unset, .unset, .unset, .unset, .unset, .unset, .unset] [])) t → Steps p.tables e below (s₁.setTop (entryFrame m #[(.int y0), (.int y1), (.int y2), (.int y3), (.long y4), (.int y5)] maxLocals)) t := fun t k => castTop (ef_rm0 m y0 y1 y2 y3 y4 y5) k
  have st : ∀ t, Steps p.tables e below (s₁.setTop (mkF m 0 #[.val (.int y0), .val (.int y1), .val (.int y2), .val (.int y3), .val (.long y4), .second, .val (.int y5), .unset, .unset, .unset, .unset, .unset, .unset, .unset, .unset, .unset, .unset] [])) t → Steps p.tables e below (s₁.setTop (mkF m 0 #[.val (.int y0), .val (.int y1), .val (.int y2), .val (.int y3), .val (.long y4), .second, .val (.int y5), .unset, .unset, .unset, .unset, .unset, .unset, .unset, .unset, .unset, .unset] [])) t := fun t k => k
  have st : ∀ t, Steps p.tables e below (s₁.setTop (mkF m 3 #[.val (.int y0), .val (.int y1), .val (.int y2), .val (.int y3), .val (.long y4), .second, .val (.int y5), .unset, .unset, .unset, .unset, .unset, .unset, .unset, .unset, .unset, .unset] [(.int (y0 &&& (3 : Int32)))])) t → Steps p.tables e below (s₁.setTop (mkF m 0 #[.val (.int y0), .val (.int y1), .val (.int y2), .val (.int y3), .val (.long y4), .second, .val (.int y5), .unset, .unset, .unset, .unset, .unset, .unset, .unset, .unset, .unset, .unset] [])) t := fun t k => st t (by
      show Steps p.tables e below (s₁.setTop (mkF m 0 #[.val (.int y0), .val (.int y1), .val (.int y2), .val (.int y3), .val (.long y4), .second, .val (.int y5), .unset, .unset, .unset, .unset, .unset, .unset, .unset, .unset, .unset, .unset] [])) _
      refine XS.iloadN X.here hx rfl (hb hby at_0) rfl ?_
      show Steps p.tables e below (s₁.setTop (mkF m 1 #[.val (.int y0), .val (.int y1), .val (.int y2), .val (.int y3), .val (.long y4), .second, .val (.int y5), .unset, .unset, .unset, .unset, .unset, .unset, .unset, .unset, .unset, .unset] [(.int y0)])) _
      refine XS.iconst X.here hx rfl (hb hby at_1) ?_
      show Steps p.tables e below (s₁.setTop (mkF m 2 #[.val (.int y0), .val (.int y1), .val (.int y2), .val (.int y3), .val (.long y4), .second, .val (.int y5), .unset, .unset, .unset, .unset, .unset, .unset, .unset, .unset, .unset, .unset] [(.int (3 : Int32)), (.int y0)])) _
      refine XS.iand X.here hx rfl (hb hby at_2) rfl ?_
      exact k)
  obtain ⟨raw, hraw, ex_raw⟩ := own_m3 y0
  have st : ∀ t, Steps p.tables e below (s₁.setTop (mkF m 3 #[.val (.int y0), .val (.int y1), .val (.int y2), .val (.int y3), .val (.long y4), .second, .val (.int y5), .unset, .unset, .unset, .unset, .unset, .unset, .unset, .unset, .unset, .unset] [(.int (Int32.ofNat raw))])) t → Steps p.tables e below (s₁.setTop (mkF m 0 #[.val (.int y0), .val (.int y1), .val (.int y2), .val (.int y3), .val (.long y4), .second, .val (.int y5), .unset, .unset, .unset, .unset, .unset, .unset, .unset, .unset, .unset, .unset] [])) t := by rw [← ex_raw]; exact st
  have st : ∀ t, Steps p.tables e below (s₁.setTop (mkF m 5 #[.val (.int y0), .val (.int y1), .val (.int y2), .val (.int y3), .val (.long y4), .second, .val (.int y5), .val (.int (Int32.ofNat raw)), .unset, .unset, .unset, .unset, .unset, .unset, .unset, .unset, .unset] [])) t → Steps p.tables e below (s₁.setTop (mkF m 0 #[.val (.int y0), .val (.int y1), .val (.int y2), .val (.int y3), .val (.long y4), .second, .val (.int y5), .unset, .unset, .unset, .unset, .unset, .unset, .unset, .unset, .unset, .unset] [])) t := fun t k => st t (by
      show Steps p.tables e below (s₁.setTop (mkF m 3 #[.val (.int y0), .val (.int y1), .val (.int y2), .val (.int y3), .val (.long y4), .second, .val (.int y5), .unset, .unset, .unset, .unset, .unset, .unset, .unset, .unset, .unset, .unset] [(.int (Int32.ofNat raw))])) _
      refine XS.istore X.here hx rfl (hb hby at_3) rfl (l' := #[.val (.int y0), .val (.int y1), .val (.int y2), .val (.int y3), .val (.long y4), .second, .val (.int y5), .val (.int (Int32.ofNat raw)), .unset, .unset, .unset, .unset, .unset, .unset, .unset, .unset, .unset]) rfl ?_
      exact k)
  obtain ⟨T1, h2, X, eh, E3, E_d1, D3, -, sx⟩ := newO X hx hZ hown (hw _ (List.mem_of_getElem? (i := 0) rfl)) (hw _ (List.mem_of_getElem? (i := 1) rfl)) (hw _ (List.mem_of_getElem? (i := 2) rfl)) eh (g := (mkF m 5 #[.val (.int y0), .val (.int y1), .val (.int y2), .val (.int y3), .val (.long y4), .second, .val (.int y5), .val (.int (Int32.ofNat raw)), .unset, .unset, .unset, .unset, .unset, .unset, .unset, .unset, .unset] [])) rfl (hb hby at_5) (by decide) (by decide)
  obtain ⟨d1, g3⟩ : ∃ z, z = h0.size := ⟨_, rfl⟩
  have g_d1 : n0 ≤ d1 := Nat.le_trans Z0 (Nat.le_of_eq g3.symm)
  rw [← g3] at E_d1 D3 sx
  have st : ∀ t, Steps p.tables e below (T1.setTop (mkF m 8 #[.val (.int y0), .val (.int y1), .val (.int y2), .val (.int y3), .val (.long y4), .second, .val (.int y5), .val (.int (Int32.ofNat raw)), .unset, .unset, .unset, .unset, .unset, .unset, .unset, .unset, .unset] [(.ref d1)])) t → Steps p.tables e below (s₁.setTop (mkF m 0 #[.val (.int y0), .val (.int y1), .val (.int y2), .val (.int y3), .val (.long y4), .second, .val (.int y5), .unset, .unset, .unset, .unset, .unset, .unset, .unset, .unset, .unset, .unset] [])) t := fun t k => st t (sx t k)
  have Z0 := Nat.le_trans Z0 E3.1
  have F_d1_bytes : Fld Z h2 d1 "org/kartenwerk/Der" "bytes" "[B" .null := D3 (Or.inr (hw _ (List.mem_of_getElem? (i := 14) rfl))) (ty := (.array .byte)) (by decide)
  have F_d1_position : Fld Z h2 d1 "org/kartenwerk/Der" "position" "I" (.int (0 : Int32)) := D3 (Or.inl (hw _ (List.mem_of_getElem? (i := 16) rfl))) (ty := .int) (by decide)
  have F_d1_end : Fld Z h2 d1 "org/kartenwerk/Der" "end" "I" (.int (0 : Int32)) := D3 (Or.inr (hw _ (List.mem_of_getElem? (i := 18) rfl))) (ty := .int) (by decide)
  have st : ∀ t, Steps p.tables e below (T1.setTop (mkF m 11 #[.val (.int y0), .val (.int y1), .val (.int y2), .val (.int y3), .val (.long y4), .second, .val (.int y5), .val (.int (Int32.ofNat raw)), .unset, .unset, .unset, .unset, .unset, .unset, .unset, .unset, .unset] [(.int (Int32.ofNat raw)), (.ref d1), (.ref d1)])) t → Steps p.tables e below (s₁.setTop (mkF m 0 #[.val (.int y0), .val (.int y1), .val (.int y2), .val (.int y3), .val (.long y4), .second, .val (.int y5), .unset, .unset, .unset, .unset, .unset, .unset, .unset, .unset, .unset, .unset] [])) t := fun t k => st t (by
      show Steps p.tables e below (T1.setTop (mkF m 8 #[.val (.int y0), .val (.int y1), .val (.int y2), .val (.int y3), .val (.long y4), .second, .val (.int y5), .val (.int (Int32.ofNat raw)), .unset, .unset, .unset, .unset, .unset, .unset, .unset, .unset, .unset] [(.ref d1)])) _
      refine XS.dup X.here hx rfl (hb hby at_8) rfl rfl ?_
      show Steps p.tables e below (T1.setTop (mkF m 9 #[.val (.int y0), .val (.int y1), .val (.int y2), .val (.int y3), .val (.long y4), .second, .val (.int y5), .val (.int (Int32.ofNat raw)), .unset, .unset, .unset, .unset, .unset, .unset, .unset, .unset, .unset] [(.ref d1), (.ref d1)])) _
      refine XS.iload X.here hx rfl (hb hby at_9) rfl ?_
      exact k)
  obtain ⟨T4, h5, k_b1, X, eh, E6, A6, sx⟩ := newP X hx hZ (hw _ (List.mem_of_getElem? (i := 3) rfl)) eh (g := (mkF m 11 #[.val (.int y0), .val (.int y1), .val (.int y2), .val (.int y3), .val (.long y4), .second, .val (.int y5), .val (.int (Int32.ofNat raw)), .unset, .unset, .unset, .unset, .unset, .unset, .unset, .unset, .unset] [(.int (Int32.ofNat raw)), (.ref d1), (.ref d1)])) rfl (hb hby at_11) rfl (own_nn (by omega)) (cap := 3) (by rw [own_n32 (by omega)]; exact hraw) (by decide) (by decide) (by decide)
  obtain ⟨b1, g6⟩ : ∃ z, z = h2.size := ⟨_, rfl⟩
  have ne_d1_b1 : d1 ≠ b1 := fun q => absurd E_d1.lt (by rw [q, g6]; exact Nat.lt_irrefl _)
  have g_b1 : n0 ≤ b1 := Nat.le_trans Z0 (Nat.le_of_eq g6.symm)
  rw [← g6] at A6 sx
  have st : ∀ t, Steps p.tables e below (T4.setTop (mkF m 13 #[.val (.int y0), .val (.int y1), .val (.int y2), .val (.int y3), .val (.long y4), .second, .val (.int y5), .val (.int (Int32.ofNat raw)), .unset, .unset, .unset, .unset, .unset, .unset, .unset, .unset, .unset] [(.ref b1), (.ref d1), (.ref d1)])) t → Steps p.tables e below (s₁.setTop (mkF m 0 #[.val (.int y0), .val (.int y1), .val (.int y2), .val (.int y3), .val (.long y4), .second, .val (.int y5), .unset, .unset, .unset, .unset, .unset, .unset, .unset, .unset, .unset, .unset] [])) t := fun t k => st t (sx t k)
  have F_d1_bytes := F_d1_bytes.ext E6
  have F_d1_position := F_d1_position.ext E6
  have F_d1_end := F_d1_end.ext E6
  have E_d1 := E_d1.ext E6
  have Z0 := Nat.le_trans Z0 E6.1
  have V_b1 : Arv Z h5 b1 k_b1 .byte (Int32.ofNat raw) (List.replicate 3 (.int (0 : Int32))) (.int (0 : Int32)) := (Arv.new A6 (own_nn (by omega))).pad (pad_rep [] (.int (0 : Int32)) 3)
  obtain ⟨_, _, ⟨T8, L7, k7, n7⟩, -, X, ⟨Lc7, hQ, l7, y7, z7⟩, sx⟩ := X.specialBack hx (y := (⟨"org/kartenwerk/Der", "<init>", "([B)V"⟩ : MethodName)) rfl hown (mvT hZ (hw _ (List.mem_of_getElem? (i := 4) rfl))) (mvT hZ (hw _ (List.mem_of_getElem? (i := 5) rfl))) (mvT hZ (hw _ (List.mem_of_getElem? (i := 6) rfl))) (by decide) (backOf (W := 1) (rm1 l Z a0 hw [] d1 b1 k_b1 (Int32.ofNat raw) _ h5 n0 Z0 E_d1 g_d1 F_d1_bytes F_d1_position F_d1_end V_b1) hZ (hw _ (List.mem_of_getElem? (i := 6) rfl)) (hw _ (List.mem_of_getElem? (i := 2) rfl)) (by decide) (by decide)) (g := (mkF m 13 #[.val (.int y0), .val (.int y1), .val (.int y2), .val (.int y3), .val (.long y4), .second, .val (.int y5), .val (.int (Int32.ofNat raw)), .unset, .unset, .unset, .unset, .unset, .unset, .unset, .unset, .unset] [(.ref b1), (.ref d1), (.ref d1)])) rfl (by rw [hml]; rfl) (Steps.refl _) (a := d1) (argsL := [(.ref b1)]) (rest := [(.ref d1)]) (lenOf own_pd8 rfl) rfl (by show 2 * 0 + _ ≤ _; exact Nat.le_of_eq rfl) (hb hby at_13) (fun _ _ => ⟨rfl, eh, (by decide : 2 + 0 ≤ _), (by decide : 6 + 0 ≤ _)⟩)
  dsimp only [Pt.U, Pt.locs, Pt.cells, Pt.slots] at X l7 y7 z7 sx hQ
  subst l7 y7 z7
  obtain ⟨rfl, Nc, K1, F_d1_bytes, F_d1_position, F_d1_end⟩ := hQ
  have st : ∀ t, Steps p.tables e below (T8.setTop (mkF m 16 #[.val (.int y0), .val (.int y1), .val (.int y2), .val (.int y3), .val (.long y4), .second, .val (.int y5), .val (.int (Int32.ofNat raw)), .unset, .unset, .unset, .unset, .unset, .unset, .unset, .unset, .unset] [(.ref d1)])) t → Steps p.tables e below (s₁.setTop (mkF m 0 #[.val (.int y0), .val (.int y1), .val (.int y2), .val (.int y3), .val (.long y4), .second, .val (.int y5), .unset, .unset, .unset, .unset, .unset, .unset, .unset, .unset, .unset, .unset] [])) t := fun t k => st t (sx.trans k)
  have N := Fr.app N Nc
  obtain ⟨h9, eH⟩ : ∃ z, z = T8.heap := ⟨_, rfl⟩
  rw [← eH] at K1 F_d1_bytes F_d1_position F_d1_end
  have eh : T8.heap = h9 := eH.symm
  have E_d1 := E_d1.keep K1
  have V_b1 := V_b1.keep K1 (ninS (Ne.symm ne_d1_b1) nin0)
  have Z0 := Nat.le_trans Z0 K1.1
  have st : ∀ t, Steps p.tables e below (T8.setTop (mkF m 20 #[.val (.int y0), .val (.int y1), .val (.int y2), .val (.int y3), .val (.long y4), .second, .val (.int y5), .val (.int (Int32.ofNat raw)), .val (.ref d1), .unset, .unset, .unset, .unset, .unset, .unset, .unset, .unset] [(.ref d1)])) t → Steps p.tables e below (s₁.setTop (mkF m 0 #[.val (.int y0), .val (.int y1), .val (.int y2), .val (.int y3), .val (.long y4), .second, .val (.int y5), .unset, .unset, .unset, .unset, .unset, .unset, .unset, .unset, .unset, .unset] [])) t := fun t k => st t (by
      show Steps p.tables e below (T8.setTop (mkF m 16 #[.val (.int y0), .val (.int y1), .val (.int y2), .val (.int y3), .val (.long y4), .second, .val (.int y5), .val (.int (Int32.ofNat raw)), .unset, .unset, .unset, .unset, .unset, .unset, .unset, .unset, .unset] [(.ref d1)])) _
      refine XS.astore X.here hx rfl (hb hby at_16) rfl rfl (l' := #[.val (.int y0), .val (.int y1), .val (.int y2), .val (.int y3), .val (.long y4), .second, .val (.int y5), .val (.int (Int32.ofNat raw)), .val (.ref d1), .unset, .unset, .unset, .unset, .unset, .unset, .unset, .unset]) rfl ?_
      show Steps p.tables e below (T8.setTop (mkF m 18 #[.val (.int y0), .val (.int y1), .val (.int y2), .val (.int y3), .val (.long y4), .second, .val (.int y5), .val (.int (Int32.ofNat raw)), .val (.ref d1), .unset, .unset, .unset, .unset, .unset, .unset, .unset, .unset] [])) _
      refine XS.aload X.here hx rfl (hb hby at_18) rfl rfl ?_
      exact k)
  obtain ⟨cq10, kq10, qa10, qb10, qc10⟩ := isOf hZ eh E_d1
  obtain ⟨_, _, ⟨T11, L10, k10, n10⟩, -, X, ⟨Lc10, hQ, l10, y10, z10⟩, sx⟩ := X.virtualBack hx (y := (⟨"org/kartenwerk/Der", "hasNext", "()Z"⟩ : MethodName)) (z := (⟨"org/kartenwerk/Der", "hasNext", "()Z"⟩ : MethodName)) hown (mvT hZ (hw _ (List.mem_of_getElem? (i := 19) rfl))) (mvT hZ (hw _ (List.mem_of_getElem? (i := 20) rfl))) (notFace_of_selects (args := #[]) (mvT hZ (hw _ (List.mem_of_getElem? (i := 22) rfl)))) (mvT hZ (hw _ (List.mem_of_getElem? (i := 22) rfl))) (mvT hZ (hw _ (List.mem_of_getElem? (i := 21) rfl))) (by decide) (backOf (W := 0) (rm4 l Z a0 hw [] d1 (0 : Int32) (Int32.ofNat raw) h9 n0 Z0 F_d1_position F_d1_end) hZ (hw _ (List.mem_of_getElem? (i := 23) rfl)) (hw _ (List.mem_of_getElem? (i := 2) rfl)) (by decide) (by decide)) qa10 qc10 (g := (mkF m 20 #[.val (.int y0), .val (.int y1), .val (.int y2), .val (.int y3), .val (.long y4), .second, .val (.int y5), .val (.int (Int32.ofNat raw)), .val (.ref d1), .unset, .unset, .unset, .unset, .unset, .unset, .unset, .unset] [(.ref d1)])) rfl (by rw [hml]; rfl) (Steps.refl _) (argsL := []) (rest := []) (lenOf own_pd5 rfl) rfl (by show 2 * 0 + _ ≤ _; exact Nat.le_of_eq rfl) (hb hby at_20) (fun _ _ => ⟨rfl, eh, (by decide : 2 + 0 ≤ _), (by decide : 6 + 0 ≤ _)⟩)
  dsimp only [Pt.U, Pt.locs, Pt.cells, Pt.slots] at X l10 y10 z10 sx hQ
  subst l10 y10 z10
  obtain ⟨rfl, Nc, hsame_⟩ := hQ
  have st : ∀ t, Steps p.tables e below (T11.setTop (mkF m 23 #[.val (.int y0), .val (.int y1), .val (.int y2), .val (.int y3), .val (.long y4), .second, .val (.int y5), .val (.int (Int32.ofNat raw)), .val (.ref d1), .unset, .unset, .unset, .unset, .unset, .unset, .unset, .unset] [(.int (own_has (0 : Int32) (Int32.ofNat raw)))])) t → Steps p.tables e below (s₁.setTop (mkF m 0 #[.val (.int y0), .val (.int y1), .val (.int y2), .val (.int y3), .val (.long y4), .second, .val (.int y5), .unset, .unset, .unset, .unset, .unset, .unset, .unset, .unset, .unset, .unset] [])) t := fun t k => st t (sx.trans k)
  have N := Fr.app N Nc
  have eh : T11.heap = h9 := hsame_
  have st : ∀ t, Steps p.tables e below (T11.setTop (mkF m 25 #[.val (.int y0), .val (.int y1), .val (.int y2), .val (.int y3), .val (.long y4), .second, .val (.int y5), .val (.int (Int32.ofNat raw)), .val (.ref d1), .unset, .unset, .unset, .unset, .unset, .unset, .unset, .unset] [(.int (Int32.ofNat raw)), (.int (own_has (0 : Int32) (Int32.ofNat raw)))])) t → Steps p.tables e below (s₁.setTop (mkF m 0 #[.val (.int y0), .val (.int y1), .val (.int y2), .val (.int y3), .val (.long y4), .second, .val (.int y5), .unset, .unset, .unset, .unset, .unset, .unset, .unset, .unset, .unset, .unset] [])) t := fun t k => st t (by
      show Steps p.tables e below (T11.setTop (mkF m 23 #[.val (.int y0), .val (.int y1), .val (.int y2), .val (.int y3), .val (.long y4), .second, .val (.int y5), .val (.int (Int32.ofNat raw)), .val (.ref d1), .unset, .unset, .unset, .unset, .unset, .unset, .unset, .unset] [(.int (own_has (0 : Int32) (Int32.ofNat raw)))])) _
      refine XS.iload X.here hx rfl (hb hby at_23) rfl ?_
      exact k)
  obtain ⟨vr, hv_vr, sx⟩ : ∃ (vr : Int32), vr = (if (Int32.ofNat raw) = (0 : Int32) then (0 : Int32) else (1 : Int32)) ∧ ∀ t, Steps p.tables e below (T11.setTop (mkF m 33 #[.val (.int y0), .val (.int y1), .val (.int y2), .val (.int y3), .val (.long y4), .second, .val (.int y5), .val (.int (Int32.ofNat raw)), .val (.ref d1), .unset, .unset, .unset, .unset, .unset, .unset, .unset, .unset] [(.int vr), (.int (own_has (0 : Int32) (Int32.ofNat raw)))])) t → Steps p.tables e below (T11.setTop (mkF m 25 #[.val (.int y0), .val (.int y1), .val (.int y2), .val (.int y3), .val (.long y4), .second, .val (.int y5), .val (.int (Int32.ofNat raw)), .val (.ref d1), .unset, .unset, .unset, .unset, .unset, .unset, .unset, .unset] [(.int (Int32.ofNat raw)), (.int (own_has (0 : Int32) (Int32.ofNat raw)))])) t := by
    by_cases hj1 : (Int32.ofNat raw) = (0 : Int32)
    · refine ⟨(0 : Int32), by rw [if_pos hj1], fun t k => ?_⟩
      show Steps p.tables e below (T11.setTop (mkF m 25 #[.val (.int y0), .val (.int y1), .val (.int y2), .val (.int y3), .val (.long y4), .second, .val (.int y5), .val (.int (Int32.ofNat raw)), .val (.ref d1), .unset, .unset, .unset, .unset, .unset, .unset, .unset, .unset] [(.int (Int32.ofNat raw)), (.int (own_has (0 : Int32) (Int32.ofNat raw)))])) _
      refine XS.ifYes X.here hx rfl (pc0 := 25) (pc' := 32) rfl (hb hby at_25) rfl ((if0 _ _).trans (teq hj1).1) (by decide) (by decide) ?_
      show Steps p.tables e below (T11.setTop (mkF m 32 #[.val (.int y0), .val (.int y1), .val (.int y2), .val (.int y3), .val (.long y4), .second, .val (.int y5), .val (.int (Int32.ofNat raw)), .val (.ref d1), .unset, .unset, .unset, .unset, .unset, .unset, .unset, .unset] [(.int (own_has (0 : Int32) (Int32.ofNat raw)))])) _
      refine XS.iconst X.here hx rfl (hb hby at_32) ?_
      exact k
    · refine ⟨(1 : Int32), by rw [if_neg hj1], fun t k => ?_⟩
      show Steps p.tables e below (T11.setTop (mkF m 25 #[.val (.int y0), .val (.int y1), .val (.int y2), .val (.int y3), .val (.long y4), .second, .val (.int y5), .val (.int (Int32.ofNat raw)), .val (.ref d1), .unset, .unset, .unset, .unset, .unset, .unset, .unset, .unset] [(.int (Int32.ofNat raw)), (.int (own_has (0 : Int32) (Int32.ofNat raw)))])) _
      refine XS.ifNo X.here hx rfl (hb hby at_25) rfl ((if0 _ _).trans (feq hj1).1) ?_
      show Steps p.tables e below (T11.setTop (mkF m 28 #[.val (.int y0), .val (.int y1), .val (.int y2), .val (.int y3), .val (.long y4), .second, .val (.int y5), .val (.int (Int32.ofNat raw)), .val (.ref d1), .unset, .unset, .unset, .unset, .unset, .unset, .unset, .unset] [(.int (own_has (0 : Int32) (Int32.ofNat raw)))])) _
      refine XS.iconst X.here hx rfl (hb hby at_28) ?_
      show Steps p.tables e below (T11.setTop (mkF m 29 #[.val (.int y0), .val (.int y1), .val (.int y2), .val (.int y3), .val (.long y4), .second, .val (.int y5), .val (.int (Int32.ofNat raw)), .val (.ref d1), .unset, .unset, .unset, .unset, .unset, .unset, .unset, .unset] [(.int (1 : Int32)), (.int (own_has (0 : Int32) (Int32.ofNat raw)))])) _
      refine XS.goto X.here hx rfl (pc0 := 29) (pc' := 33) rfl (hb hby at_29) (by decide) (by decide) ?_
      exact k
  have st : ∀ t, Steps p.tables e below (T11.setTop (mkF m 33 #[.val (.int y0), .val (.int y1), .val (.int y2), .val (.int y3), .val (.long y4), .second, .val (.int y5), .val (.int (Int32.ofNat raw)), .val (.ref d1), .unset, .unset, .unset, .unset, .unset, .unset, .unset, .unset] [(.int vr), (.int (own_has (0 : Int32) (Int32.ofNat raw)))])) t → Steps p.tables e below (s₁.setTop (mkF m 0 #[.val (.int y0), .val (.int y1), .val (.int y2), .val (.int y3), .val (.long y4), .second, .val (.int y5), .unset, .unset, .unset, .unset, .unset, .unset, .unset, .unset, .unset, .unset] [])) t := fun t k => st t (sx t k)
  have st : ∀ t, Steps p.tables e below (T11.setTop (mkF m 41 #[.val (.int y0), .val (.int y1), .val (.int y2), .val (.int y3), .val (.long y4), .second, .val (.int y5), .val (.int (Int32.ofNat raw)), .val (.ref d1), .unset, .unset, .unset, .unset, .unset, .unset, .unset, .unset] [(.int (y2 &&& (3 : Int32)))])) t → Steps p.tables e below (s₁.setTop (mkF m 0 #[.val (.int y0), .val (.int y1), .val (.int y2), .val (.int y3), .val (.long y4), .second, .val (.int y5), .unset, .unset, .unset, .unset, .unset, .unset, .unset, .unset, .unset, .unset] [])) t := fun t k => st t (by
      show Steps p.tables e below (T11.setTop (mkF m 33 #[.val (.int y0), .val (.int y1), .val (.int y2), .val (.int y3), .val (.long y4), .second, .val (.int y5), .val (.int (Int32.ofNat raw)), .val (.ref d1), .unset, .unset, .unset, .unset, .unset, .unset, .unset, .unset] [(.int vr), (.int (own_has (0 : Int32) (Int32.ofNat raw)))])) _
      refine XS.icmpYes X.here hx rfl (pc0 := 33) (pc' := 38) rfl (hb hby at_33) rfl (teq (own_raw hraw vr hv_vr)).1 (by decide) (by decide) ?_
      show Steps p.tables e below (T11.setTop (mkF m 38 #[.val (.int y0), .val (.int y1), .val (.int y2), .val (.int y3), .val (.long y4), .second, .val (.int y5), .val (.int (Int32.ofNat raw)), .val (.ref d1), .unset, .unset, .unset, .unset, .unset, .unset, .unset, .unset] [])) _
      refine XS.iloadN X.here hx rfl (hb hby at_38) rfl ?_
      show Steps p.tables e below (T11.setTop (mkF m 39 #[.val (.int y0), .val (.int y1), .val (.int y2), .val (.int y3), .val (.long y4), .second, .val (.int y5), .val (.int (Int32.ofNat raw)), .val (.ref d1), .unset, .unset, .unset, .unset, .unset, .unset, .unset, .unset] [(.int y2)])) _
      refine XS.iconst X.here hx rfl (hb hby at_39) ?_
      show Steps p.tables e below (T11.setTop (mkF m 40 #[.val (.int y0), .val (.int y1), .val (.int y2), .val (.int y3), .val (.long y4), .second, .val (.int y5), .val (.int (Int32.ofNat raw)), .val (.ref d1), .unset, .unset, .unset, .unset, .unset, .unset, .unset, .unset] [(.int (3 : Int32)), (.int y2)])) _
      refine XS.iand X.here hx rfl (hb hby at_40) rfl ?_
      exact k)
  obtain ⟨ll, hll, ex_ll⟩ := own_m3 y2
  have st : ∀ t, Steps p.tables e below (T11.setTop (mkF m 41 #[.val (.int y0), .val (.int y1), .val (.int y2), .val (.int y3), .val (.long y4), .second, .val (.int y5), .val (.int (Int32.ofNat raw)), .val (.ref d1), .unset, .unset, .unset, .unset, .unset, .unset, .unset, .unset] [(.int (Int32.ofNat ll))])) t → Steps p.tables e below (s₁.setTop (mkF m 0 #[.val (.int y0), .val (.int y1), .val (.int y2), .val (.int y3), .val (.long y4), .second, .val (.int y5), .unset, .unset, .unset, .unset, .unset, .unset, .unset, .unset, .unset, .unset] [])) t := by rw [← ex_ll]; exact st
  have st : ∀ t, Steps p.tables e below (T11.setTop (mkF m 46 #[.val (.int y0), .val (.int y1), .val (.int y2), .val (.int y3), .val (.long y4), .second, .val (.int y5), .val (.int (Int32.ofNat raw)), .val (.ref d1), .val (.int (Int32.ofNat ll)), .unset, .unset, .unset, .unset, .unset, .unset, .unset] [(.int (y3 &&& (3 : Int32)))])) t → Steps p.tables e below (s₁.setTop (mkF m 0 #[.val (.int y0), .val (.int y1), .val (.int y2), .val (.int y3), .val (.long y4), .second, .val (.int y5), .unset, .unset, .unset, .unset, .unset, .unset, .unset, .unset, .unset, .unset] [])) t := fun t k => st t (by
      show Steps p.tables e below (T11.setTop (mkF m 41 #[.val (.int y0), .val (.int y1), .val (.int y2), .val (.int y3), .val (.long y4), .second, .val (.int y5), .val (.int (Int32.ofNat raw)), .val (.ref d1), .unset, .unset, .unset, .unset, .unset, .unset, .unset, .unset] [(.int (Int32.ofNat ll))])) _
      refine XS.istore X.here hx rfl (hb hby at_41) rfl (l' := #[.val (.int y0), .val (.int y1), .val (.int y2), .val (.int y3), .val (.long y4), .second, .val (.int y5), .val (.int (Int32.ofNat raw)), .val (.ref d1), .val (.int (Int32.ofNat ll)), .unset, .unset, .unset, .unset, .unset, .unset, .unset]) rfl ?_
      show Steps p.tables e below (T11.setTop (mkF m 43 #[.val (.int y0), .val (.int y1), .val (.int y2), .val (.int y3), .val (.long y4), .second, .val (.int y5), .val (.int (Int32.ofNat raw)), .val (.ref d1), .val (.int (Int32.ofNat ll)), .unset, .unset, .unset, .unset, .unset, .unset, .unset] [])) _
      refine XS.iloadN X.here hx rfl (hb hby at_43) rfl ?_
      show Steps p.tables e below (T11.setTop (mkF m 44 #[.val (.int y0), .val (.int y1), .val (.int y2), .val (.int y3), .val (.long y4), .second, .val (.int y5), .val (.int (Int32.ofNat raw)), .val (.ref d1), .val (.int (Int32.ofNat ll)), .unset, .unset, .unset, .unset, .unset, .unset, .unset] [(.int y3)])) _
      refine XS.iconst X.here hx rfl (hb hby at_44) ?_
      show Steps p.tables e below (T11.setTop (mkF m 45 #[.val (.int y0), .val (.int y1), .val (.int y2), .val (.int y3), .val (.long y4), .second, .val (.int y5), .val (.int (Int32.ofNat raw)), .val (.ref d1), .val (.int (Int32.ofNat ll)), .unset, .unset, .unset, .unset, .unset, .unset, .unset] [(.int (3 : Int32)), (.int y3)])) _
      refine XS.iand X.here hx rfl (hb hby at_45) rfl ?_
      exact k)
  obtain ⟨xx, hxx, ex_xx⟩ := own_m3 y3
  have st : ∀ t, Steps p.tables e below (T11.setTop (mkF m 46 #[.val (.int y0), .val (.int y1), .val (.int y2), .val (.int y3), .val (.long y4), .second, .val (.int y5), .val (.int (Int32.ofNat raw)), .val (.ref d1), .val (.int (Int32.ofNat ll)), .unset, .unset, .unset, .unset, .unset, .unset, .unset] [(.int (Int32.ofNat xx))])) t → Steps p.tables e below (s₁.setTop (mkF m 0 #[.val (.int y0), .val (.int y1), .val (.int y2), .val (.int y3), .val (.long y4), .second, .val (.int y5), .unset, .unset, .unset, .unset, .unset, .unset, .unset, .unset, .unset, .unset] [])) t := by rw [← ex_xx]; exact st
  have st : ∀ t, Steps p.tables e below (T11.setTop (mkF m 52 #[.val (.int y0), .val (.int y1), .val (.int y2), .val (.int y3), .val (.long y4), .second, .val (.int y5), .val (.int (Int32.ofNat raw)), .val (.ref d1), .val (.int (Int32.ofNat ll)), .val (.int (Int32.ofNat xx)), .unset, .unset, .unset, .unset, .unset, .unset] [(.int (y5 &&& (1 : Int32)))])) t → Steps p.tables e below (s₁.setTop (mkF m 0 #[.val (.int y0), .val (.int y1), .val (.int y2), .val (.int y3), .val (.long y4), .second, .val (.int y5), .unset, .unset, .unset, .unset, .unset, .unset, .unset, .unset, .unset, .unset] [])) t := fun t k => st t (by
      show Steps p.tables e below (T11.setTop (mkF m 46 #[.val (.int y0), .val (.int y1), .val (.int y2), .val (.int y3), .val (.long y4), .second, .val (.int y5), .val (.int (Int32.ofNat raw)), .val (.ref d1), .val (.int (Int32.ofNat ll)), .unset, .unset, .unset, .unset, .unset, .unset, .unset] [(.int (Int32.ofNat xx))])) _
      refine XS.istore X.here hx rfl (hb hby at_46) rfl (l' := #[.val (.int y0), .val (.int y1), .val (.int y2), .val (.int y3), .val (.long y4), .second, .val (.int y5), .val (.int (Int32.ofNat raw)), .val (.ref d1), .val (.int (Int32.ofNat ll)), .val (.int (Int32.ofNat xx)), .unset, .unset, .unset, .unset, .unset, .unset]) rfl ?_
      show Steps p.tables e below (T11.setTop (mkF m 48 #[.val (.int y0), .val (.int y1), .val (.int y2), .val (.int y3), .val (.long y4), .second, .val (.int y5), .val (.int (Int32.ofNat raw)), .val (.ref d1), .val (.int (Int32.ofNat ll)), .val (.int (Int32.ofNat xx)), .unset, .unset, .unset, .unset, .unset, .unset] [])) _
      refine XS.iload X.here hx rfl (hb hby at_48) rfl ?_
      show Steps p.tables e below (T11.setTop (mkF m 50 #[.val (.int y0), .val (.int y1), .val (.int y2), .val (.int y3), .val (.long y4), .second, .val (.int y5), .val (.int (Int32.ofNat raw)), .val (.ref d1), .val (.int (Int32.ofNat ll)), .val (.int (Int32.ofNat xx)), .unset, .unset, .unset, .unset, .unset, .unset] [(.int y5)])) _
      refine XS.iconst X.here hx rfl (hb hby at_50) ?_
      show Steps p.tables e below (T11.setTop (mkF m 51 #[.val (.int y0), .val (.int y1), .val (.int y2), .val (.int y3), .val (.long y4), .second, .val (.int y5), .val (.int (Int32.ofNat raw)), .val (.ref d1), .val (.int (Int32.ofNat ll)), .val (.int (Int32.ofNat xx)), .unset, .unset, .unset, .unset, .unset, .unset] [(.int (1 : Int32)), (.int y5)])) _
      refine XS.iand X.here hx rfl (hb hby at_51) rfl ?_
      exact k)
  obtain ⟨v11, hv_v11, sx⟩ : ∃ (v11 : Int32), v11 = (if (y5 &&& (1 : Int32)) = (0 : Int32) then (0 : Int32) else (1 : Int32)) ∧ ∀ t, Steps p.tables e below (T11.setTop (mkF m 60 #[.val (.int y0), .val (.int y1), .val (.int y2), .val (.int y3), .val (.long y4), .second, .val (.int y5), .val (.int (Int32.ofNat raw)), .val (.ref d1), .val (.int (Int32.ofNat ll)), .val (.int (Int32.ofNat xx)), .unset, .unset, .unset, .unset, .unset, .unset] [(.int v11)])) t → Steps p.tables e below (T11.setTop (mkF m 52 #[.val (.int y0), .val (.int y1), .val (.int y2), .val (.int y3), .val (.long y4), .second, .val (.int y5), .val (.int (Int32.ofNat raw)), .val (.ref d1), .val (.int (Int32.ofNat ll)), .val (.int (Int32.ofNat xx)), .unset, .unset, .unset, .unset, .unset, .unset] [(.int (y5 &&& (1 : Int32)))])) t := by
    by_cases hj1 : (y5 &&& (1 : Int32)) = (0 : Int32)
    · refine ⟨(0 : Int32), by rw [if_pos hj1], fun t k => ?_⟩
      show Steps p.tables e below (T11.setTop (mkF m 52 #[.val (.int y0), .val (.int y1), .val (.int y2), .val (.int y3), .val (.long y4), .second, .val (.int y5), .val (.int (Int32.ofNat raw)), .val (.ref d1), .val (.int (Int32.ofNat ll)), .val (.int (Int32.ofNat xx)), .unset, .unset, .unset, .unset, .unset, .unset] [(.int (y5 &&& (1 : Int32)))])) _
      refine XS.ifYes X.here hx rfl (pc0 := 52) (pc' := 59) rfl (hb hby at_52) rfl ((if0 _ _).trans (teq hj1).1) (by decide) (by decide) ?_
      show Steps p.tables e below (T11.setTop (mkF m 59 #[.val (.int y0), .val (.int y1), .val (.int y2), .val (.int y3), .val (.long y4), .second, .val (.int y5), .val (.int (Int32.ofNat raw)), .val (.ref d1), .val (.int (Int32.ofNat ll)), .val (.int (Int32.ofNat xx)), .unset, .unset, .unset, .unset, .unset, .unset] [])) _
      refine XS.iconst X.here hx rfl (hb hby at_59) ?_
      exact k
    · refine ⟨(1 : Int32), by rw [if_neg hj1], fun t k => ?_⟩
      show Steps p.tables e below (T11.setTop (mkF m 52 #[.val (.int y0), .val (.int y1), .val (.int y2), .val (.int y3), .val (.long y4), .second, .val (.int y5), .val (.int (Int32.ofNat raw)), .val (.ref d1), .val (.int (Int32.ofNat ll)), .val (.int (Int32.ofNat xx)), .unset, .unset, .unset, .unset, .unset, .unset] [(.int (y5 &&& (1 : Int32)))])) _
      refine XS.ifNo X.here hx rfl (hb hby at_52) rfl ((if0 _ _).trans (feq hj1).1) ?_
      show Steps p.tables e below (T11.setTop (mkF m 55 #[.val (.int y0), .val (.int y1), .val (.int y2), .val (.int y3), .val (.long y4), .second, .val (.int y5), .val (.int (Int32.ofNat raw)), .val (.ref d1), .val (.int (Int32.ofNat ll)), .val (.int (Int32.ofNat xx)), .unset, .unset, .unset, .unset, .unset, .unset] [])) _
      refine XS.iconst X.here hx rfl (hb hby at_55) ?_
      show Steps p.tables e below (T11.setTop (mkF m 56 #[.val (.int y0), .val (.int y1), .val (.int y2), .val (.int y3), .val (.long y4), .second, .val (.int y5), .val (.int (Int32.ofNat raw)), .val (.ref d1), .val (.int (Int32.ofNat ll)), .val (.int (Int32.ofNat xx)), .unset, .unset, .unset, .unset, .unset, .unset] [(.int (1 : Int32))])) _
      refine XS.goto X.here hx rfl (pc0 := 56) (pc' := 60) rfl (hb hby at_56) (by decide) (by decide) ?_
      exact k
  have st : ∀ t, Steps p.tables e below (T11.setTop (mkF m 60 #[.val (.int y0), .val (.int y1), .val (.int y2), .val (.int y3), .val (.long y4), .second, .val (.int y5), .val (.int (Int32.ofNat raw)), .val (.ref d1), .val (.int (Int32.ofNat ll)), .val (.int (Int32.ofNat xx)), .unset, .unset, .unset, .unset, .unset, .unset] [(.int v11)])) t → Steps p.tables e below (s₁.setTop (mkF m 0 #[.val (.int y0), .val (.int y1), .val (.int y2), .val (.int y3), .val (.long y4), .second, .val (.int y5), .unset, .unset, .unset, .unset, .unset, .unset, .unset, .unset, .unset, .unset] [])) t := fun t k => st t (sx t k)
  have st : ∀ t, Steps p.tables e below (T11.setTop (mkF m 67 #[.val (.int y0), .val (.int y1), .val (.int y2), .val (.int y3), .val (.long y4), .second, .val (.int y5), .val (.int (Int32.ofNat raw)), .val (.ref d1), .val (.int (Int32.ofNat ll)), .val (.int (Int32.ofNat xx)), .val (.int v11), .unset, .unset, .unset, .unset, .unset] [(.int (y1 &&& (255 : Int32)))])) t → Steps p.tables e below (s₁.setTop (mkF m 0 #[.val (.int y0), .val (.int y1), .val (.int y2), .val (.int y3), .val (.long y4), .second, .val (.int y5), .unset, .unset, .unset, .unset, .unset, .unset, .unset, .unset, .unset, .unset] [])) t := fun t k => st t (by
      show Steps p.tables e below (T11.setTop (mkF m 60 #[.val (.int y0), .val (.int y1), .val (.int y2), .val (.int y3), .val (.long y4), .second, .val (.int y5), .val (.int (Int32.ofNat raw)), .val (.ref d1), .val (.int (Int32.ofNat ll)), .val (.int (Int32.ofNat xx)), .unset, .unset, .unset, .unset, .unset, .unset] [(.int v11)])) _
      refine XS.istore X.here hx rfl (hb hby at_60) rfl (l' := #[.val (.int y0), .val (.int y1), .val (.int y2), .val (.int y3), .val (.long y4), .second, .val (.int y5), .val (.int (Int32.ofNat raw)), .val (.ref d1), .val (.int (Int32.ofNat ll)), .val (.int (Int32.ofNat xx)), .val (.int v11), .unset, .unset, .unset, .unset, .unset]) rfl ?_
      show Steps p.tables e below (T11.setTop (mkF m 62 #[.val (.int y0), .val (.int y1), .val (.int y2), .val (.int y3), .val (.long y4), .second, .val (.int y5), .val (.int (Int32.ofNat raw)), .val (.ref d1), .val (.int (Int32.ofNat ll)), .val (.int (Int32.ofNat xx)), .val (.int v11), .unset, .unset, .unset, .unset, .unset] [])) _
      refine XS.iloadN X.here hx rfl (hb hby at_62) rfl ?_
      show Steps p.tables e below (T11.setTop (mkF m 63 #[.val (.int y0), .val (.int y1), .val (.int y2), .val (.int y3), .val (.long y4), .second, .val (.int y5), .val (.int (Int32.ofNat raw)), .val (.ref d1), .val (.int (Int32.ofNat ll)), .val (.int (Int32.ofNat xx)), .val (.int v11), .unset, .unset, .unset, .unset, .unset] [(.int y1)])) _
      refine XS.sipush X.here hx rfl (hb hby at_63) ?_
      show Steps p.tables e below (T11.setTop (mkF m 66 #[.val (.int y0), .val (.int y1), .val (.int y2), .val (.int y3), .val (.long y4), .second, .val (.int y5), .val (.int (Int32.ofNat raw)), .val (.ref d1), .val (.int (Int32.ofNat ll)), .val (.int (Int32.ofNat xx)), .val (.int v11), .unset, .unset, .unset, .unset, .unset] [(.int (255 : Int32)), (.int y1)])) _
      refine XS.iand X.here hx rfl (hb hby at_66) rfl ?_
      exact k)
  obtain ⟨tn, htn, ex_tn⟩ := own_m255 y1
  have st : ∀ t, Steps p.tables e below (T11.setTop (mkF m 67 #[.val (.int y0), .val (.int y1), .val (.int y2), .val (.int y3), .val (.long y4), .second, .val (.int y5), .val (.int (Int32.ofNat raw)), .val (.ref d1), .val (.int (Int32.ofNat ll)), .val (.int (Int32.ofNat xx)), .val (.int v11), .unset, .unset, .unset, .unset, .unset] [(.int (Int32.ofNat tn))])) t → Steps p.tables e below (s₁.setTop (mkF m 0 #[.val (.int y0), .val (.int y1), .val (.int y2), .val (.int y3), .val (.long y4), .second, .val (.int y5), .unset, .unset, .unset, .unset, .unset, .unset, .unset, .unset, .unset, .unset] [])) t := by rw [← ex_tn]; exact st
  have st : ∀ t, Steps p.tables e below (T11.setTop (mkF m 69 #[.val (.int y0), .val (.int y1), .val (.int y2), .val (.int y3), .val (.long y4), .second, .val (.int y5), .val (.int (Int32.ofNat raw)), .val (.ref d1), .val (.int (Int32.ofNat ll)), .val (.int (Int32.ofNat xx)), .val (.int v11), .val (.int (Int32.ofNat tn)), .unset, .unset, .unset, .unset] [])) t → Steps p.tables e below (s₁.setTop (mkF m 0 #[.val (.int y0), .val (.int y1), .val (.int y2), .val (.int y3), .val (.long y4), .second, .val (.int y5), .unset, .unset, .unset, .unset, .unset, .unset, .unset, .unset, .unset, .unset] [])) t := fun t k => st t (by
      show Steps p.tables e below (T11.setTop (mkF m 67 #[.val (.int y0), .val (.int y1), .val (.int y2), .val (.int y3), .val (.long y4), .second, .val (.int y5), .val (.int (Int32.ofNat raw)), .val (.ref d1), .val (.int (Int32.ofNat ll)), .val (.int (Int32.ofNat xx)), .val (.int v11), .unset, .unset, .unset, .unset, .unset] [(.int (Int32.ofNat tn))])) _
      refine XS.istore X.here hx rfl (hb hby at_67) rfl (l' := #[.val (.int y0), .val (.int y1), .val (.int y2), .val (.int y3), .val (.long y4), .second, .val (.int y5), .val (.int (Int32.ofNat raw)), .val (.ref d1), .val (.int (Int32.ofNat ll)), .val (.int (Int32.ofNat xx)), .val (.int v11), .val (.int (Int32.ofNat tn)), .unset, .unset, .unset, .unset]) rfl ?_
      exact k)
  obtain ⟨t1, hv_t1, sx⟩ : ∃ (t1 : Int32), t1 = (if ((Int32.ofNat tn) &&& (31 : Int32)) = (31 : Int32) then ((Int32.ofNat tn) &&& (254 : Int32)) else (Int32.ofNat tn)) ∧ ∀ t, Steps p.tables e below (T11.setTop (mkF m 87 #[.val (.int y0), .val (.int y1), .val (.int y2), .val (.int y3), .val (.long y4), .second, .val (.int y5), .val (.int (Int32.ofNat raw)), .val (.ref d1), .val (.int (Int32.ofNat ll)), .val (.int (Int32.ofNat xx)), .val (.int v11), .val (.int t1), .unset, .unset, .unset, .unset] [])) t → Steps p.tables e below (T11.setTop (mkF m 69 #[.val (.int y0), .val (.int y1), .val (.int y2), .val (.int y3), .val (.long y4), .second, .val (.int y5), .val (.int (Int32.ofNat raw)), .val (.ref d1), .val (.int (Int32.ofNat ll)), .val (.int (Int32.ofNat xx)), .val (.int v11), .val (.int (Int32.ofNat tn)), .unset, .unset, .unset, .unset] [])) t := by
    by_cases hj1 : ((Int32.ofNat tn) &&& (31 : Int32)) = (31 : Int32)
    · refine ⟨((Int32.ofNat tn) &&& (254 : Int32)), by rw [if_pos hj1], fun t k => ?_⟩
      show Steps p.tables e below (T11.setTop (mkF m 69 #[.val (.int y0), .val (.int y1), .val (.int y2), .val (.int y3), .val (.long y4), .second, .val (.int y5), .val (.int (Int32.ofNat raw)), .val (.ref d1), .val (.int (Int32.ofNat ll)), .val (.int (Int32.ofNat xx)), .val (.int v11), .val (.int (Int32.ofNat tn)), .unset, .unset, .unset, .unset] [])) _
      refine XS.iload X.here hx rfl (hb hby at_69) rfl ?_
      show Steps p.tables e below (T11.setTop (mkF m 71 #[.val (.int y0), .val (.int y1), .val (.int y2), .val (.int y3), .val (.long y4), .second, .val (.int y5), .val (.int (Int32.ofNat raw)), .val (.ref d1), .val (.int (Int32.ofNat ll)), .val (.int (Int32.ofNat xx)), .val (.int v11), .val (.int (Int32.ofNat tn)), .unset, .unset, .unset, .unset] [(.int (Int32.ofNat tn))])) _
      refine XS.bipush X.here hx rfl (hb hby at_71) ?_
      show Steps p.tables e below (T11.setTop (mkF m 73 #[.val (.int y0), .val (.int y1), .val (.int y2), .val (.int y3), .val (.long y4), .second, .val (.int y5), .val (.int (Int32.ofNat raw)), .val (.ref d1), .val (.int (Int32.ofNat ll)), .val (.int (Int32.ofNat xx)), .val (.int v11), .val (.int (Int32.ofNat tn)), .unset, .unset, .unset, .unset] [(.int (31 : Int32)), (.int (Int32.ofNat tn))])) _
      refine XS.iand X.here hx rfl (hb hby at_73) rfl ?_
      show Steps p.tables e below (T11.setTop (mkF m 74 #[.val (.int y0), .val (.int y1), .val (.int y2), .val (.int y3), .val (.long y4), .second, .val (.int y5), .val (.int (Int32.ofNat raw)), .val (.ref d1), .val (.int (Int32.ofNat ll)), .val (.int (Int32.ofNat xx)), .val (.int v11), .val (.int (Int32.ofNat tn)), .unset, .unset, .unset, .unset] [(.int ((Int32.ofNat tn) &&& (31 : Int32)))])) _
      refine XS.bipush X.here hx rfl (hb hby at_74) ?_
      show Steps p.tables e below (T11.setTop (mkF m 76 #[.val (.int y0), .val (.int y1), .val (.int y2), .val (.int y3), .val (.long y4), .second, .val (.int y5), .val (.int (Int32.ofNat raw)), .val (.ref d1), .val (.int (Int32.ofNat ll)), .val (.int (Int32.ofNat xx)), .val (.int v11), .val (.int (Int32.ofNat tn)), .unset, .unset, .unset, .unset] [(.int (31 : Int32)), (.int ((Int32.ofNat tn) &&& (31 : Int32)))])) _
      refine XS.icmpNo X.here hx rfl (hb hby at_76) rfl (teq hj1).2 ?_
      show Steps p.tables e below (T11.setTop (mkF m 79 #[.val (.int y0), .val (.int y1), .val (.int y2), .val (.int y3), .val (.long y4), .second, .val (.int y5), .val (.int (Int32.ofNat raw)), .val (.ref d1), .val (.int (Int32.ofNat ll)), .val (.int (Int32.ofNat xx)), .val (.int v11), .val (.int (Int32.ofNat tn)), .unset, .unset, .unset, .unset] [])) _
      refine XS.iload X.here hx rfl (hb hby at_79) rfl ?_
      show Steps p.tables e below (T11.setTop (mkF m 81 #[.val (.int y0), .val (.int y1), .val (.int y2), .val (.int y3), .val (.long y4), .second, .val (.int y5), .val (.int (Int32.ofNat raw)), .val (.ref d1), .val (.int (Int32.ofNat ll)), .val (.int (Int32.ofNat xx)), .val (.int v11), .val (.int (Int32.ofNat tn)), .unset, .unset, .unset, .unset] [(.int (Int32.ofNat tn))])) _
      refine XS.sipush X.here hx rfl (hb hby at_81) ?_
      show Steps p.tables e below (T11.setTop (mkF m 84 #[.val (.int y0), .val (.int y1), .val (.int y2), .val (.int y3), .val (.long y4), .second, .val (.int y5), .val (.int (Int32.ofNat raw)), .val (.ref d1), .val (.int (Int32.ofNat ll)), .val (.int (Int32.ofNat xx)), .val (.int v11), .val (.int (Int32.ofNat tn)), .unset, .unset, .unset, .unset] [(.int (254 : Int32)), (.int (Int32.ofNat tn))])) _
      refine XS.iand X.here hx rfl (hb hby at_84) rfl ?_
      show Steps p.tables e below (T11.setTop (mkF m 85 #[.val (.int y0), .val (.int y1), .val (.int y2), .val (.int y3), .val (.long y4), .second, .val (.int y5), .val (.int (Int32.ofNat raw)), .val (.ref d1), .val (.int (Int32.ofNat ll)), .val (.int (Int32.ofNat xx)), .val (.int v11), .val (.int (Int32.ofNat tn)), .unset, .unset, .unset, .unset] [(.int ((Int32.ofNat tn) &&& (254 : Int32)))])) _
      refine XS.istore X.here hx rfl (hb hby at_85) rfl (l' := #[.val (.int y0), .val (.int y1), .val (.int y2), .val (.int y3), .val (.long y4), .second, .val (.int y5), .val (.int (Int32.ofNat raw)), .val (.ref d1), .val (.int (Int32.ofNat ll)), .val (.int (Int32.ofNat xx)), .val (.int v11), .val (.int ((Int32.ofNat tn) &&& (254 : Int32))), .unset, .unset, .unset, .unset]) rfl ?_
      exact k
    · refine ⟨(Int32.ofNat tn), by rw [if_neg hj1], fun t k => ?_⟩
      show Steps p.tables e below (T11.setTop (mkF m 69 #[.val (.int y0), .val (.int y1), .val (.int y2), .val (.int y3), .val (.long y4), .second, .val (.int y5), .val (.int (Int32.ofNat raw)), .val (.ref d1), .val (.int (Int32.ofNat ll)), .val (.int (Int32.ofNat xx)), .val (.int v11), .val (.int (Int32.ofNat tn)), .unset, .unset, .unset, .unset] [])) _
      refine XS.iload X.here hx rfl (hb hby at_69) rfl ?_
      show Steps p.tables e below (T11.setTop (mkF m 71 #[.val (.int y0), .val (.int y1), .val (.int y2), .val (.int y3), .val (.long y4), .second, .val (.int y5), .val (.int (Int32.ofNat raw)), .val (.ref d1), .val (.int (Int32.ofNat ll)), .val (.int (Int32.ofNat xx)), .val (.int v11), .val (.int (Int32.ofNat tn)), .unset, .unset, .unset, .unset] [(.int (Int32.ofNat tn))])) _
      refine XS.bipush X.here hx rfl (hb hby at_71) ?_
      show Steps p.tables e below (T11.setTop (mkF m 73 #[.val (.int y0), .val (.int y1), .val (.int y2), .val (.int y3), .val (.long y4), .second, .val (.int y5), .val (.int (Int32.ofNat raw)), .val (.ref d1), .val (.int (Int32.ofNat ll)), .val (.int (Int32.ofNat xx)), .val (.int v11), .val (.int (Int32.ofNat tn)), .unset, .unset, .unset, .unset] [(.int (31 : Int32)), (.int (Int32.ofNat tn))])) _
      refine XS.iand X.here hx rfl (hb hby at_73) rfl ?_
      show Steps p.tables e below (T11.setTop (mkF m 74 #[.val (.int y0), .val (.int y1), .val (.int y2), .val (.int y3), .val (.long y4), .second, .val (.int y5), .val (.int (Int32.ofNat raw)), .val (.ref d1), .val (.int (Int32.ofNat ll)), .val (.int (Int32.ofNat xx)), .val (.int v11), .val (.int (Int32.ofNat tn)), .unset, .unset, .unset, .unset] [(.int ((Int32.ofNat tn) &&& (31 : Int32)))])) _
      refine XS.bipush X.here hx rfl (hb hby at_74) ?_
      show Steps p.tables e below (T11.setTop (mkF m 76 #[.val (.int y0), .val (.int y1), .val (.int y2), .val (.int y3), .val (.long y4), .second, .val (.int y5), .val (.int (Int32.ofNat raw)), .val (.ref d1), .val (.int (Int32.ofNat ll)), .val (.int (Int32.ofNat xx)), .val (.int v11), .val (.int (Int32.ofNat tn)), .unset, .unset, .unset, .unset] [(.int (31 : Int32)), (.int ((Int32.ofNat tn) &&& (31 : Int32)))])) _
      refine XS.icmpYes X.here hx rfl (pc0 := 76) (pc' := 87) rfl (hb hby at_76) rfl (feq hj1).2 (by decide) (by decide) ?_
      exact k
  have st : ∀ t, Steps p.tables e below (T11.setTop (mkF m 87 #[.val (.int y0), .val (.int y1), .val (.int y2), .val (.int y3), .val (.long y4), .second, .val (.int y5), .val (.int (Int32.ofNat raw)), .val (.ref d1), .val (.int (Int32.ofNat ll)), .val (.int (Int32.ofNat xx)), .val (.int v11), .val (.int t1), .unset, .unset, .unset, .unset] [])) t → Steps p.tables e below (s₁.setTop (mkF m 0 #[.val (.int y0), .val (.int y1), .val (.int y2), .val (.int y3), .val (.long y4), .second, .val (.int y5), .unset, .unset, .unset, .unset, .unset, .unset, .unset, .unset, .unset, .unset] [])) t := fun t k => st t (sx t k)
  obtain ⟨t2, hv_t2, sx⟩ : ∃ (t2 : Int32), t2 = (if v11 = (0 : Int32) then t1 else (48 : Int32)) ∧ ∀ t, Steps p.tables e below (T11.setTop (mkF m 96 #[.val (.int y0), .val (.int y1), .val (.int y2), .val (.int y3), .val (.long y4), .second, .val (.int y5), .val (.int (Int32.ofNat raw)), .val (.ref d1), .val (.int (Int32.ofNat ll)), .val (.int (Int32.ofNat xx)), .val (.int v11), .val (.int t2), .unset, .unset, .unset, .unset] [])) t → Steps p.tables e below (T11.setTop (mkF m 87 #[.val (.int y0), .val (.int y1), .val (.int y2), .val (.int y3), .val (.long y4), .second, .val (.int y5), .val (.int (Int32.ofNat raw)), .val (.ref d1), .val (.int (Int32.ofNat ll)), .val (.int (Int32.ofNat xx)), .val (.int v11), .val (.int t1), .unset, .unset, .unset, .unset] [])) t := by
    by_cases hj1 : v11 = (0 : Int32)
    · refine ⟨t1, by rw [if_pos hj1], fun t k => ?_⟩
      show Steps p.tables e below (T11.setTop (mkF m 87 #[.val (.int y0), .val (.int y1), .val (.int y2), .val (.int y3), .val (.long y4), .second, .val (.int y5), .val (.int (Int32.ofNat raw)), .val (.ref d1), .val (.int (Int32.ofNat ll)), .val (.int (Int32.ofNat xx)), .val (.int v11), .val (.int t1), .unset, .unset, .unset, .unset] [])) _
      refine XS.iload X.here hx rfl (hb hby at_87) rfl ?_
      show Steps p.tables e below (T11.setTop (mkF m 89 #[.val (.int y0), .val (.int y1), .val (.int y2), .val (.int y3), .val (.long y4), .second, .val (.int y5), .val (.int (Int32.ofNat raw)), .val (.ref d1), .val (.int (Int32.ofNat ll)), .val (.int (Int32.ofNat xx)), .val (.int v11), .val (.int t1), .unset, .unset, .unset, .unset] [(.int v11)])) _
      refine XS.ifYes X.here hx rfl (pc0 := 89) (pc' := 96) rfl (hb hby at_89) rfl ((if0 _ _).trans (teq hj1).1) (by decide) (by decide) ?_
      exact k
    · refine ⟨(48 : Int32), by rw [if_neg hj1], fun t k => ?_⟩
      show Steps p.tables e below (T11.setTop (mkF m 87 #[.val (.int y0), .val (.int y1), .val (.int y2), .val (.int y3), .val (.long y4), .second, .val (.int y5), .val (.int (Int32.ofNat raw)), .val (.ref d1), .val (.int (Int32.ofNat ll)), .val (.int (Int32.ofNat xx)), .val (.int v11), .val (.int t1), .unset, .unset, .unset, .unset] [])) _
      refine XS.iload X.here hx rfl (hb hby at_87) rfl ?_
      show Steps p.tables e below (T11.setTop (mkF m 89 #[.val (.int y0), .val (.int y1), .val (.int y2), .val (.int y3), .val (.long y4), .second, .val (.int y5), .val (.int (Int32.ofNat raw)), .val (.ref d1), .val (.int (Int32.ofNat ll)), .val (.int (Int32.ofNat xx)), .val (.int v11), .val (.int t1), .unset, .unset, .unset, .unset] [(.int v11)])) _
      refine XS.ifNo X.here hx rfl (hb hby at_89) rfl ((if0 _ _).trans (feq hj1).1) ?_
      show Steps p.tables e below (T11.setTop (mkF m 92 #[.val (.int y0), .val (.int y1), .val (.int y2), .val (.int y3), .val (.long y4), .second, .val (.int y5), .val (.int (Int32.ofNat raw)), .val (.ref d1), .val (.int (Int32.ofNat ll)), .val (.int (Int32.ofNat xx)), .val (.int v11), .val (.int t1), .unset, .unset, .unset, .unset] [])) _
      refine XS.bipush X.here hx rfl (hb hby at_92) ?_
      show Steps p.tables e below (T11.setTop (mkF m 94 #[.val (.int y0), .val (.int y1), .val (.int y2), .val (.int y3), .val (.long y4), .second, .val (.int y5), .val (.int (Int32.ofNat raw)), .val (.ref d1), .val (.int (Int32.ofNat ll)), .val (.int (Int32.ofNat xx)), .val (.int v11), .val (.int t1), .unset, .unset, .unset, .unset] [(.int (48 : Int32))])) _
      refine XS.istore X.here hx rfl (hb hby at_94) rfl (l' := #[.val (.int y0), .val (.int y1), .val (.int y2), .val (.int y3), .val (.long y4), .second, .val (.int y5), .val (.int (Int32.ofNat raw)), .val (.ref d1), .val (.int (Int32.ofNat ll)), .val (.int (Int32.ofNat xx)), .val (.int v11), .val (.int (48 : Int32)), .unset, .unset, .unset, .unset]) rfl ?_
      exact k
  have st : ∀ t, Steps p.tables e below (T11.setTop (mkF m 96 #[.val (.int y0), .val (.int y1), .val (.int y2), .val (.int y3), .val (.long y4), .second, .val (.int y5), .val (.int (Int32.ofNat raw)), .val (.ref d1), .val (.int (Int32.ofNat ll)), .val (.int (Int32.ofNat xx)), .val (.int v11), .val (.int t2), .unset, .unset, .unset, .unset] [])) t → Steps p.tables e below (s₁.setTop (mkF m 0 #[.val (.int y0), .val (.int y1), .val (.int y2), .val (.int y3), .val (.long y4), .second, .val (.int y5), .unset, .unset, .unset, .unset, .unset, .unset, .unset, .unset, .unset, .unset] [])) t := fun t k => st t (sx t k)
  have st : ∀ t, Steps p.tables e below (T11.setTop (mkF m 103 #[.val (.int y0), .val (.int y1), .val (.int y2), .val (.int y3), .val (.long y4), .second, .val (.int y5), .val (.int (Int32.ofNat raw)), .val (.ref d1), .val (.int (Int32.ofNat ll)), .val (.int (Int32.ofNat xx)), .val (.int v11), .val (.int t2), .unset, .unset, .unset, .unset] [(.int (((2 : Int32) + (Int32.ofNat ll)) + (Int32.ofNat xx)))])) t → Steps p.tables e below (s₁.setTop (mkF m 0 #[.val (.int y0), .val (.int y1), .val (.int y2), .val (.int y3), .val (.long y4), .second, .val (.int y5), .unset, .unset, .unset, .unset, .unset, .unset, .unset, .unset, .unset, .unset] [])) t := fun t k => st t (by
      show Steps p.tables e below (T11.setTop (mkF m 96 #[.val (.int y0), .val (.int y1), .val (.int y2), .val (.int y3), .val (.long y4), .second, .val (.int y5), .val (.int (Int32.ofNat raw)), .val (.ref d1), .val (.int (Int32.ofNat ll)), .val (.int (Int32.ofNat xx)), .val (.int v11), .val (.int t2), .unset, .unset, .unset, .unset] [])) _
      refine XS.iconst X.here hx rfl (hb hby at_96) ?_
      show Steps p.tables e below (T11.setTop (mkF m 97 #[.val (.int y0), .val (.int y1), .val (.int y2), .val (.int y3), .val (.long y4), .second, .val (.int y5), .val (.int (Int32.ofNat raw)), .val (.ref d1), .val (.int (Int32.ofNat ll)), .val (.int (Int32.ofNat xx)), .val (.int v11), .val (.int t2), .unset, .unset, .unset, .unset] [(.int (2 : Int32))])) _
      refine XS.iload X.here hx rfl (hb hby at_97) rfl ?_
      show Steps p.tables e below (T11.setTop (mkF m 99 #[.val (.int y0), .val (.int y1), .val (.int y2), .val (.int y3), .val (.long y4), .second, .val (.int y5), .val (.int (Int32.ofNat raw)), .val (.ref d1), .val (.int (Int32.ofNat ll)), .val (.int (Int32.ofNat xx)), .val (.int v11), .val (.int t2), .unset, .unset, .unset, .unset] [(.int (Int32.ofNat ll)), (.int (2 : Int32))])) _
      refine XS.iadd X.here hx rfl (hb hby at_99) rfl ?_
      show Steps p.tables e below (T11.setTop (mkF m 100 #[.val (.int y0), .val (.int y1), .val (.int y2), .val (.int y3), .val (.long y4), .second, .val (.int y5), .val (.int (Int32.ofNat raw)), .val (.ref d1), .val (.int (Int32.ofNat ll)), .val (.int (Int32.ofNat xx)), .val (.int v11), .val (.int t2), .unset, .unset, .unset, .unset] [(.int ((2 : Int32) + (Int32.ofNat ll)))])) _
      refine XS.iload X.here hx rfl (hb hby at_100) rfl ?_
      show Steps p.tables e below (T11.setTop (mkF m 102 #[.val (.int y0), .val (.int y1), .val (.int y2), .val (.int y3), .val (.long y4), .second, .val (.int y5), .val (.int (Int32.ofNat raw)), .val (.ref d1), .val (.int (Int32.ofNat ll)), .val (.int (Int32.ofNat xx)), .val (.int v11), .val (.int t2), .unset, .unset, .unset, .unset] [(.int (Int32.ofNat xx)), (.int ((2 : Int32) + (Int32.ofNat ll)))])) _
      refine XS.iadd X.here hx rfl (hb hby at_102) rfl ?_
      exact k)
  have st : ∀ t, Steps p.tables e below (T11.setTop (mkF m 103 #[.val (.int y0), .val (.int y1), .val (.int y2), .val (.int y3), .val (.long y4), .second, .val (.int y5), .val (.int (Int32.ofNat raw)), .val (.ref d1), .val (.int (Int32.ofNat ll)), .val (.int (Int32.ofNat xx)), .val (.int v11), .val (.int t2), .unset, .unset, .unset, .unset] [(.int (Int32.ofNat (2 + ll + xx)))])) t → Steps p.tables e below (s₁.setTop (mkF m 0 #[.val (.int y0), .val (.int y1), .val (.int y2), .val (.int y3), .val (.long y4), .second, .val (.int y5), .unset, .unset, .unset, .unset, .unset, .unset, .unset, .unset, .unset, .unset] [])) t := by rw [← own_size]; exact st
  have st : ∀ t, Steps p.tables e below (T11.setTop (mkF m 107 #[.val (.int y0), .val (.int y1), .val (.int y2), .val (.int y3), .val (.long y4), .second, .val (.int y5), .val (.int (Int32.ofNat raw)), .val (.ref d1), .val (.int (Int32.ofNat ll)), .val (.int (Int32.ofNat xx)), .val (.int v11), .val (.int t2), .val (.int (Int32.ofNat (2 + ll + xx))), .unset, .unset, .unset] [(.int (Int32.ofNat (2 + ll + xx)))])) t → Steps p.tables e below (s₁.setTop (mkF m 0 #[.val (.int y0), .val (.int y1), .val (.int y2), .val (.int y3), .val (.long y4), .second, .val (.int y5), .unset, .unset, .unset, .unset, .unset, .unset, .unset, .unset, .unset, .unset] [])) t := fun t k => st t (by
      show Steps p.tables e below (T11.setTop (mkF m 103 #[.val (.int y0), .val (.int y1), .val (.int y2), .val (.int y3), .val (.long y4), .second, .val (.int y5), .val (.int (Int32.ofNat raw)), .val (.ref d1), .val (.int (Int32.ofNat ll)), .val (.int (Int32.ofNat xx)), .val (.int v11), .val (.int t2), .unset, .unset, .unset, .unset] [(.int (Int32.ofNat (2 + ll + xx)))])) _
      refine XS.istore X.here hx rfl (hb hby at_103) rfl (l' := #[.val (.int y0), .val (.int y1), .val (.int y2), .val (.int y3), .val (.long y4), .second, .val (.int y5), .val (.int (Int32.ofNat raw)), .val (.ref d1), .val (.int (Int32.ofNat ll)), .val (.int (Int32.ofNat xx)), .val (.int v11), .val (.int t2), .val (.int (Int32.ofNat (2 + ll + xx))), .unset, .unset, .unset]) rfl ?_
      show Steps p.tables e below (T11.setTop (mkF m 105 #[.val (.int y0), .val (.int y1), .val (.int y2), .val (.int y3), .val (.long y4), .second, .val (.int y5), .val (.int (Int32.ofNat raw)), .val (.ref d1), .val (.int (Int32.ofNat ll)), .val (.int (Int32.ofNat xx)), .val (.int v11), .val (.int t2), .val (.int (Int32.ofNat (2 + ll + xx))), .unset, .unset, .unset] [])) _
      refine XS.iload X.here hx rfl (hb hby at_105) rfl ?_
      exact k)
  obtain ⟨T12, h13, k_ba, X, eh, E14, A14, sx⟩ := newP X hx hZ (hw _ (List.mem_of_getElem? (i := 3) rfl)) eh (g := (mkF m 107 #[.val (.int y0), .val (.int y1), .val (.int y2), .val (.int y3), .val (.long y4), .second, .val (.int y5), .val (.int (Int32.ofNat raw)), .val (.ref d1), .val (.int (Int32.ofNat ll)), .val (.int (Int32.ofNat xx)), .val (.int v11), .val (.int t2), .val (.int (Int32.ofNat (2 + ll + xx))), .unset, .unset, .unset] [(.int (Int32.ofNat (2 + ll + xx)))])) rfl (hb hby at_107) rfl (own_nn (by omega)) (cap := 8) (by rw [own_n32 (by omega)]; omega) (by decide) (by decide) (by decide)
  obtain ⟨ba, g14⟩ : ∃ z, z = h9.size := ⟨_, rfl⟩
  have g_ba : n0 ≤ ba := Nat.le_trans Z0 (Nat.le_of_eq g14.symm)
  rw [← g14] at A14 sx
  have st : ∀ t, Steps p.tables e below (T12.setTop (mkF m 109 #[.val (.int y0), .val (.int y1), .val (.int y2), .val (.int y3), .val (.long y4), .second, .val (.int y5), .val (.int (Int32.ofNat raw)), .val (.ref d1), .val (.int (Int32.ofNat ll)), .val (.int (Int32.ofNat xx)), .val (.int v11), .val (.int t2), .val (.int (Int32.ofNat (2 + ll + xx))), .unset, .unset, .unset] [(.ref ba)])) t → Steps p.tables e below (s₁.setTop (mkF m 0 #[.val (.int y0), .val (.int y1), .val (.int y2), .val (.int y3), .val (.long y4), .second, .val (.int y5), .unset, .unset, .unset, .unset, .unset, .unset, .unset, .unset, .unset, .unset] [])) t := fun t k => st t (sx t k)
  have Z0 := Nat.le_trans Z0 E14.1
  have V_ba : Arv Z h13 ba k_ba .byte (Int32.ofNat (2 + ll + xx)) (List.replicate 8 (.int (0 : Int32))) (.int (0 : Int32)) := (Arv.new A14 (own_nn (by omega))).pad (pad_rep [] (.int (0 : Int32)) 8)
  have st : ∀ t, Steps p.tables e below (T12.setTop (mkF m 117 #[.val (.int y0), .val (.int y1), .val (.int y2), .val (.int y3), .val (.long y4), .second, .val (.int y5), .val (.int (Int32.ofNat raw)), .val (.ref d1), .val (.int (Int32.ofNat ll)), .val (.int (Int32.ofNat xx)), .val (.int v11), .val (.int t2), .val (.int (Int32.ofNat (2 + ll + xx))), .val (.ref ba), .unset, .unset] [(.int (t2.toInt8.toInt32)), (.int (0 : Int32)), (.ref ba)])) t → Steps p.tables e below (s₁.setTop (mkF m 0 #[.val (.int y0), .val (.int y1), .val (.int y2), .val (.int y3), .val (.long y4), .second, .val (.int y5), .unset, .unset, .unset, .unset, .unset, .unset, .unset, .unset, .unset, .unset] [])) t := fun t k => st t (by
      show Steps p.tables e below (T12.setTop (mkF m 109 #[.val (.int y0), .val (.int y1), .val (.int y2), .val (.int y3), .val (.long y4), .second, .val (.int y5), .val (.int (Int32.ofNat raw)), .val (.ref d1), .val (.int (Int32.ofNat ll)), .val (.int (Int32.ofNat xx)), .val (.int v11), .val (.int t2), .val (.int (Int32.ofNat (2 + ll + xx))), .unset, .unset, .unset] [(.ref ba)])) _
      refine XS.astore X.here hx rfl (hb hby at_109) rfl rfl (l' := #[.val (.int y0), .val (.int y1), .val (.int y2), .val (.int y3), .val (.long y4), .second, .val (.int y5), .val (.int (Int32.ofNat raw)), .val (.ref d1), .val (.int (Int32.ofNat ll)), .val (.int (Int32.ofNat xx)), .val (.int v11), .val (.int t2), .val (.int (Int32.ofNat (2 + ll + xx))), .val (.ref ba), .unset, .unset]) rfl ?_
      show Steps p.tables e below (T12.setTop (mkF m 111 #[.val (.int y0), .val (.int y1), .val (.int y2), .val (.int y3), .val (.long y4), .second, .val (.int y5), .val (.int (Int32.ofNat raw)), .val (.ref d1), .val (.int (Int32.ofNat ll)), .val (.int (Int32.ofNat xx)), .val (.int v11), .val (.int t2), .val (.int (Int32.ofNat (2 + ll + xx))), .val (.ref ba), .unset, .unset] [])) _
      refine XS.aload X.here hx rfl (hb hby at_111) rfl rfl ?_
      show Steps p.tables e below (T12.setTop (mkF m 113 #[.val (.int y0), .val (.int y1), .val (.int y2), .val (.int y3), .val (.long y4), .second, .val (.int y5), .val (.int (Int32.ofNat raw)), .val (.ref d1), .val (.int (Int32.ofNat ll)), .val (.int (Int32.ofNat xx)), .val (.int v11), .val (.int t2), .val (.int (Int32.ofNat (2 + ll + xx))), .val (.ref ba), .unset, .unset] [(.ref ba)])) _
      refine XS.iconst X.here hx rfl (hb hby at_113) ?_
      show Steps p.tables e below (T12.setTop (mkF m 114 #[.val (.int y0), .val (.int y1), .val (.int y2), .val (.int y3), .val (.long y4), .second, .val (.int y5), .val (.int (Int32.ofNat raw)), .val (.ref d1), .val (.int (Int32.ofNat ll)), .val (.int (Int32.ofNat xx)), .val (.int v11), .val (.int t2), .val (.int (Int32.ofNat (2 + ll + xx))), .val (.ref ba), .unset, .unset] [(.int (0 : Int32)), (.ref ba)])) _
      refine XS.iload X.here hx rfl (hb hby at_114) rfl ?_
      show Steps p.tables e below (T12.setTop (mkF m 116 #[.val (.int y0), .val (.int y1), .val (.int y2), .val (.int y3), .val (.long y4), .second, .val (.int y5), .val (.int (Int32.ofNat raw)), .val (.ref d1), .val (.int (Int32.ofNat ll)), .val (.int (Int32.ofNat xx)), .val (.int v11), .val (.int t2), .val (.int (Int32.ofNat (2 + ll + xx))), .val (.ref ba), .unset, .unset] [(.int t2), (.int (0 : Int32)), (.ref ba)])) _
      refine XS.i2b X.here hx rfl (hb hby at_116) rfl ?_
      exact k)
  obtain ⟨cl15, Ar15, hin15, hat15⟩ := own_rd (by omega) V_ba 0 (by omega) rfl
  obtain ⟨T16, h17, X, eh, W15, sx⟩ := stB X hx hZ eh Ar15 (j := Int32.ofNat 0) hin15 (g := (mkF m 117 #[.val (.int y0), .val (.int y1), .val (.int y2), .val (.int y3), .val (.long y4), .second, .val (.int y5), .val (.int (Int32.ofNat raw)), .val (.ref d1), .val (.int (Int32.ofNat ll)), .val (.int (Int32.ofNat xx)), .val (.int v11), .val (.int t2), .val (.int (Int32.ofNat (2 + ll + xx))), .val (.ref ba), .unset, .unset] [(.int (t2.toInt8.toInt32)), (.int (0 : Int32)), (.ref ba)])) rfl rfl (hb hby at_117)
  have st : ∀ t, Steps p.tables e below (T16.setTop (mkF m 118 #[.val (.int y0), .val (.int y1), .val (.int y2), .val (.int y3), .val (.long y4), .second, .val (.int y5), .val (.int (Int32.ofNat raw)), .val (.ref d1), .val (.int (Int32.ofNat ll)), .val (.int (Int32.ofNat xx)), .val (.int v11), .val (.int t2), .val (.int (Int32.ofNat (2 + ll + xx))), .val (.ref ba), .unset, .unset] [])) t → Steps p.tables e below (s₁.setTop (mkF m 0 #[.val (.int y0), .val (.int y1), .val (.int y2), .val (.int y3), .val (.long y4), .second, .val (.int y5), .unset, .unset, .unset, .unset, .unset, .unset, .unset, .unset, .unset, .unset] [])) t := fun t k => st t (sx t k)
  have Z0 := Nat.le_trans Z0 (Keep.of_wr W15).1
  have V_ba := own_st (by omega) V_ba 0 (by omega) (by decide) W15
  have N := Fr.snoc X N g_ba
  have st : ∀ t, Steps p.tables e below (T16.setTop (mkF m 124 #[.val (.int y0), .val (.int y1), .val (.int y2), .val (.int y3), .val (.long y4), .second, .val (.int y5), .val (.int (Int32.ofNat raw)), .val (.ref d1), .val (.int (Int32.ofNat ll)), .val (.int (Int32.ofNat xx)), .val (.int v11), .val (.int t2), .val (.int (Int32.ofNat (2 + ll + xx))), .val (.ref ba), .unset, .unset] [(.int ((Int32.ofNat ll).toInt8.toInt32)), (.int (1 : Int32)), (.ref ba)])) t → Steps p.tables e below (s₁.setTop (mkF m 0 #[.val (.int y0), .val (.int y1), .val (.int y2), .val (.int y3), .val (.long y4), .second, .val (.int y5), .unset, .unset, .unset, .unset, .unset, .unset, .unset, .unset, .unset, .unset] [])) t := fun t k => st t (by
      show Steps p.tables e below (T16.setTop (mkF m 118 #[.val (.int y0), .val (.int y1), .val (.int y2), .val (.int y3), .val (.long y4), .second, .val (.int y5), .val (.int (Int32.ofNat raw)), .val (.ref d1), .val (.int (Int32.ofNat ll)), .val (.int (Int32.ofNat xx)), .val (.int v11), .val (.int t2), .val (.int (Int32.ofNat (2 + ll + xx))), .val (.ref ba), .unset, .unset] [])) _
      refine XS.aload X.here hx rfl (hb hby at_118) rfl rfl ?_
      show Steps p.tables e below (T16.setTop (mkF m 120 #[.val (.int y0), .val (.int y1), .val (.int y2), .val (.int y3), .val (.long y4), .second, .val (.int y5), .val (.int (Int32.ofNat raw)), .val (.ref d1), .val (.int (Int32.ofNat ll)), .val (.int (Int32.ofNat xx)), .val (.int v11), .val (.int t2), .val (.int (Int32.ofNat (2 + ll + xx))), .val (.ref ba), .unset, .unset] [(.ref ba)])) _
      refine XS.iconst X.here hx rfl (hb hby at_120) ?_
      show Steps p.tables e below (T16.setTop (mkF m 121 #[.val (.int y0), .val (.int y1), .val (.int y2), .val (.int y3), .val (.long y4), .second, .val (.int y5), .val (.int (Int32.ofNat raw)), .val (.ref d1), .val (.int (Int32.ofNat ll)), .val (.int (Int32.ofNat xx)), .val (.int v11), .val (.int t2), .val (.int (Int32.ofNat (2 + ll + xx))), .val (.ref ba), .unset, .unset] [(.int (1 : Int32)), (.ref ba)])) _
      refine XS.iload X.here hx rfl (hb hby at_121) rfl ?_
      show Steps p.tables e below (T16.setTop (mkF m 123 #[.val (.int y0), .val (.int y1), .val (.int y2), .val (.int y3), .val (.long y4), .second, .val (.int y5), .val (.int (Int32.ofNat raw)), .val (.ref d1), .val (.int (Int32.ofNat ll)), .val (.int (Int32.ofNat xx)), .val (.int v11), .val (.int t2), .val (.int (Int32.ofNat (2 + ll + xx))), .val (.ref ba), .unset, .unset] [(.int (Int32.ofNat ll)), (.int (1 : Int32)), (.ref ba)])) _
      refine XS.i2b X.here hx rfl (hb hby at_123) rfl ?_
      exact k)
  obtain ⟨cl18, Ar18, hin18, hat18⟩ := own_rd (by omega) V_ba 1 (by omega) rfl
  obtain ⟨T19, h20, X, eh, W18, sx⟩ := stB X hx hZ eh Ar18 (j := Int32.ofNat 1) hin18 (g := (mkF m 124 #[.val (.int y0), .val (.int y1), .val (.int y2), .val (.int y3), .val (.long y4), .second, .val (.int y5), .val (.int (Int32.ofNat raw)), .val (.ref d1), .val (.int (Int32.ofNat ll)), .val (.int (Int32.ofNat xx)), .val (.int v11), .val (.int t2), .val (.int (Int32.ofNat (2 + ll + xx))), .val (.ref ba), .unset, .unset] [(.int ((Int32.ofNat ll).toInt8.toInt32)), (.int (1 : Int32)), (.ref ba)])) rfl rfl (hb hby at_124)
  have st : ∀ t, Steps p.tables e below (T19.setTop (mkF m 125 #[.val (.int y0), .val (.int y1), .val (.int y2), .val (.int y3), .val (.long y4), .second, .val (.int y5), .val (.int (Int32.ofNat raw)), .val (.ref d1), .val (.int (Int32.ofNat ll)), .val (.int (Int32.ofNat xx)), .val (.int v11), .val (.int t2), .val (.int (Int32.ofNat (2 + ll + xx))), .val (.ref ba), .unset, .unset] [])) t → Steps p.tables e below (s₁.setTop (mkF m 0 #[.val (.int y0), .val (.int y1), .val (.int y2), .val (.int y3), .val (.long y4), .second, .val (.int y5), .unset, .unset, .unset, .unset, .unset, .unset, .unset, .unset, .unset, .unset] [])) t := fun t k => st t (sx t k)
  have Z0 := Nat.le_trans Z0 (Keep.of_wr W18).1
  have V_ba := own_st (by omega) V_ba 1 (by omega) (by simp) W18
  have N := Fr.snoc X N g_ba
  obtain ⟨vs1, V_ba, hl1, hv0, hv1⟩ : ∃ vs : List Value, Arv Z h20 ba k_ba .byte (Int32.ofNat (2 + ll + xx)) vs (.int (0 : Int32)) ∧ vs.length = 8 ∧ vs.getD 0 (.int (0 : Int32)) = .int (nar .byte (t2.toInt8.toInt32)) ∧ vs.getD 1 (.int (0 : Int32)) = .int (nar .byte ((Int32.ofNat ll).toInt8.toInt32)) := ⟨_, V_ba, rfl, rfl, rfl⟩
  obtain ⟨lo21, X, N⟩ : ∃ loX, Stand p l e room_1 s m #[(.int y0), (.int y1), (.int y2), (.int y3), (.long y4), (.int y5)] below meth cd0 T19 loX 3 14 ∧ Fr n0 loX := ⟨_, X, N⟩
  obtain ⟨T22, h23, lo24, vs2, X, N, eh, Z0, V_ba, hl1, hv0, hv1, sx⟩ : ∃ (T22 : State) (h23 : Heap) (lo24 : List Loc) (vs2 : List Value), Stand p l e room_1 s m #[(.int y0), (.int y1), (.int y2), (.int y3), (.long y4), (.int y5)] below meth cd0 T22 lo24 3 14 ∧ Fr n0 lo24 ∧ T22.heap = h23 ∧ n0 ≤ h23.size ∧ Arv Z h23 ba k_ba .byte (Int32.ofNat (2 + ll + xx)) vs2 (.int (0 : Int32)) ∧ vs2.length = 8 ∧ vs2.getD 0 (.int (0 : Int32)) = .int (nar .byte (t2.toInt8.toInt32)) ∧ vs2.getD 1 (.int (0 : Int32)) = .int (nar .byte ((Int32.ofNat ll).toInt8.toInt32)) ∧ (∀ t, Steps p.tables e below (T22.setTop (mkF m 142 #[.val (.int y0), .val (.int y1), .val (.int y2), .val (.int y3), .val (.long y4), .second, .val (.int y5), .val (.int (Int32.ofNat raw)), .val (.ref d1), .val (.int (Int32.ofNat ll)), .val (.int (Int32.ofNat xx)), .val (.int v11), .val (.int t2), .val (.int (Int32.ofNat (2 + ll + xx))), .val (.ref ba), .unset, .unset] [])) t → Steps p.tables e below (T19.setTop (mkF m 125 #[.val (.int y0), .val (.int y1), .val (.int y2), .val (.int y3), .val (.long y4), .second, .val (.int y5), .val (.int (Int32.ofNat raw)), .val (.ref d1), .val (.int (Int32.ofNat ll)), .val (.int (Int32.ofNat xx)), .val (.int v11), .val (.int t2), .val (.int (Int32.ofNat (2 + ll + xx))), .val (.ref ba), .unset, .unset] [])) t) := by
    have st : ∀ t, Steps p.tables e below (T19.setTop (mkF m 125 #[.val (.int y0), .val (.int y1), .val (.int y2), .val (.int y3), .val (.long y4), .second, .val (.int y5), .val (.int (Int32.ofNat raw)), .val (.ref d1), .val (.int (Int32.ofNat ll)), .val (.int (Int32.ofNat xx)), .val (.int v11), .val (.int t2), .val (.int (Int32.ofNat (2 + ll + xx))), .val (.ref ba), .unset, .unset] [])) t → Steps p.tables e below (T19.setTop (mkF m 125 #[.val (.int y0), .val (.int y1), .val (.int y2), .val (.int y3), .val (.long y4), .second, .val (.int y5), .val (.int (Int32.ofNat raw)), .val (.ref d1), .val (.int (Int32.ofNat ll)), .val (.int (Int32.ofNat xx)), .val (.int v11), .val (.int t2), .val (.int (Int32.ofNat (2 + ll + xx))), .val (.ref ba), .unset, .unset] [])) t := fun t k => k
    have st : ∀ t, Steps p.tables e below (T19.setTop (mkF m 128 #[.val (.int y0), .val (.int y1), .val (.int y2), .val (.int y3), .val (.long y4), .second, .val (.int y5), .val (.int (Int32.ofNat raw)), .val (.ref d1), .val (.int (Int32.ofNat ll)), .val (.int (Int32.ofNat xx)), .val (.int v11), .val (.int t2), .val (.int (Int32.ofNat (2 + ll + xx))), .val (.ref ba), .unset, .unset] [(.int (Int32.ofNat (2 + ll + xx))), (.int (2 : Int32))])) t → Steps p.tables e below (T19.setTop (mkF m 125 #[.val (.int y0), .val (.int y1), .val (.int y2), .val (.int y3), .val (.long y4), .second, .val (.int y5), .val (.int (Int32.ofNat raw)), .val (.ref d1), .val (.int (Int32.ofNat ll)), .val (.int (Int32.ofNat xx)), .val (.int v11), .val (.int t2), .val (.int (Int32.ofNat (2 + ll + xx))), .val (.ref ba), .unset, .unset] [])) t := fun t k => st t (by
        show Steps p.tables e below (T19.setTop (mkF m 125 #[.val (.int y0), .val (.int y1), .val (.int y2), .val (.int y3), .val (.long y4), .second, .val (.int y5), .val (.int (Int32.ofNat raw)), .val (.ref d1), .val (.int (Int32.ofNat ll)), .val (.int (Int32.ofNat xx)), .val (.int v11), .val (.int t2), .val (.int (Int32.ofNat (2 + ll + xx))), .val (.ref ba), .unset, .unset] [])) _
        refine XS.iconst X.here hx rfl (hb hby at_125) ?_
        show Steps p.tables e below (T19.setTop (mkF m 126 #[.val (.int y0), .val (.int y1), .val (.int y2), .val (.int y3), .val (.long y4), .second, .val (.int y5), .val (.int (Int32.ofNat raw)), .val (.ref d1), .val (.int (Int32.ofNat ll)), .val (.int (Int32.ofNat xx)), .val (.int v11), .val (.int t2), .val (.int (Int32.ofNat (2 + ll + xx))), .val (.ref ba), .unset, .unset] [(.int (2 : Int32))])) _
        refine XS.iload X.here hx rfl (hb hby at_126) rfl ?_
        exact k)
    by_cases hq : (2 : Int32) < (Int32.ofNat (2 + ll + xx))
    · have z : 2 < 2 + ll + xx := (own_lt (i := 2) (by decide) (by omega)).mp hq
      have st : ∀ t, Steps p.tables e below (T19.setTop (mkF m 141 #[.val (.int y0), .val (.int y1), .val (.int y2), .val (.int y3), .val (.long y4), .second, .val (.int y5), .val (.int (Int32.ofNat raw)), .val (.ref d1), .val (.int (Int32.ofNat ll)), .val (.int (Int32.ofNat xx)), .val (.int v11), .val (.int t2), .val (.int (Int32.ofNat (2 + ll + xx))), .val (.ref ba), .unset, .unset] [(.int ((((y4.toUInt64 >>> ((16 : Int32) &&& 0x3f).toInt64.toUInt64).toInt64).toInt32).toInt8.toInt32)), (.int (2 : Int32)), (.ref ba)])) t → Steps p.tables e below (T19.setTop (mkF m 125 #[.val (.int y0), .val (.int y1), .val (.int y2), .val (.int y3), .val (.long y4), .second, .val (.int y5), .val (.int (Int32.ofNat raw)), .val (.ref d1), .val (.int (Int32.ofNat ll)), .val (.int (Int32.ofNat xx)), .val (.int v11), .val (.int t2), .val (.int (Int32.ofNat (2 + ll + xx))), .val (.ref ba), .unset, .unset] [])) t := fun t k => st t (by
          show Steps p.tables e below (T19.setTop (mkF m 128 #[.val (.int y0), .val (.int y1), .val (.int y2), .val (.int y3), .val (.long y4), .second, .val (.int y5), .val (.int (Int32.ofNat raw)), .val (.ref d1), .val (.int (Int32.ofNat ll)), .val (.int (Int32.ofNat xx)), .val (.int v11), .val (.int t2), .val (.int (Int32.ofNat (2 + ll + xx))), .val (.ref ba), .unset, .unset] [(.int (Int32.ofNat (2 + ll + xx))), (.int (2 : Int32))])) _
          refine XS.icmpNo X.here hx rfl (hb hby at_128) rfl (tlt hq).2.1 ?_
          show Steps p.tables e below (T19.setTop (mkF m 131 #[.val (.int y0), .val (.int y1), .val (.int y2), .val (.int y3), .val (.long y4), .second, .val (.int y5), .val (.int (Int32.ofNat raw)), .val (.ref d1), .val (.int (Int32.ofNat ll)), .val (.int (Int32.ofNat xx)), .val (.int v11), .val (.int t2), .val (.int (Int32.ofNat (2 + ll + xx))), .val (.ref ba), .unset, .unset] [])) _
          refine XS.aload X.here hx rfl (hb hby at_131) rfl rfl ?_
          show Steps p.tables e below (T19.setTop (mkF m 133 #[.val (.int y0), .val (.int y1), .val (.int y2), .val (.int y3), .val (.long y4), .second, .val (.int y5), .val (.int (Int32.ofNat raw)), .val (.ref d1), .val (.int (Int32.ofNat ll)), .val (.int (Int32.ofNat xx)), .val (.int v11), .val (.int t2), .val (.int (Int32.ofNat (2 + ll + xx))), .val (.ref ba), .unset, .unset] [(.ref ba)])) _
          refine XS.iconst X.here hx rfl (hb hby at_133) ?_
          show Steps p.tables e below (T19.setTop (mkF m 134 #[.val (.int y0), .val (.int y1), .val (.int y2), .val (.int y3), .val (.long y4), .second, .val (.int y5), .val (.int (Int32.ofNat raw)), .val (.ref d1), .val (.int (Int32.ofNat ll)), .val (.int (Int32.ofNat xx)), .val (.int v11), .val (.int t2), .val (.int (Int32.ofNat (2 + ll + xx))), .val (.ref ba), .unset, .unset] [(.int (2 : Int32)), (.ref ba)])) _
          refine XS.lload X.here hx rfl (hb hby at_134) rfl ?_
          show Steps p.tables e below (T19.setTop (mkF m 136 #[.val (.int y0), .val (.int y1), .val (.int y2), .val (.int y3), .val (.long y4), .second, .val (.int y5), .val (.int (Int32.ofNat raw)), .val (.ref d1), .val (.int (Int32.ofNat ll)), .val (.int (Int32.ofNat xx)), .val (.int v11), .val (.int t2), .val (.int (Int32.ofNat (2 + ll + xx))), .val (.ref ba), .unset, .unset] [(.long y4), (.int (2 : Int32)), (.ref ba)])) _
          refine XS.bipush X.here hx rfl (hb hby at_136) ?_
          show Steps p.tables e below (T19.setTop (mkF m 138 #[.val (.int y0), .val (.int y1), .val (.int y2), .val (.int y3), .val (.long y4), .second, .val (.int y5), .val (.int (Int32.ofNat raw)), .val (.ref d1), .val (.int (Int32.ofNat ll)), .val (.int (Int32.ofNat xx)), .val (.int v11), .val (.int t2), .val (.int (Int32.ofNat (2 + ll + xx))), .val (.ref ba), .unset, .unset] [(.int (16 : Int32)), (.long y4), (.int (2 : Int32)), (.ref ba)])) _
          refine XS.lushr X.here hx rfl (hb hby at_138) rfl ?_
          show Steps p.tables e below (T19.setTop (mkF m 139 #[.val (.int y0), .val (.int y1), .val (.int y2), .val (.int y3), .val (.long y4), .second, .val (.int y5), .val (.int (Int32.ofNat raw)), .val (.ref d1), .val (.int (Int32.ofNat ll)), .val (.int (Int32.ofNat xx)), .val (.int v11), .val (.int t2), .val (.int (Int32.ofNat (2 + ll + xx))), .val (.ref ba), .unset, .unset] [(.long ((y4.toUInt64 >>> ((16 : Int32) &&& 0x3f).toInt64.toUInt64).toInt64)), (.int (2 : Int32)), (.ref ba)])) _
          refine XS.l2i X.here hx rfl (hb hby at_139) rfl ?_
          show Steps p.tables e below (T19.setTop (mkF m 140 #[.val (.int y0), .val (.int y1), .val (.int y2), .val (.int y3), .val (.long y4), .second, .val (.int y5), .val (.int (Int32.ofNat raw)), .val (.ref d1), .val (.int (Int32.ofNat ll)), .val (.int (Int32.ofNat xx)), .val (.int v11), .val (.int t2), .val (.int (Int32.ofNat (2 + ll + xx))), .val (.ref ba), .unset, .unset] [(.int (((y4.toUInt64 >>> ((16 : Int32) &&& 0x3f).toInt64.toUInt64).toInt64).toInt32)), (.int (2 : Int32)), (.ref ba)])) _
          refine XS.i2b X.here hx rfl (hb hby at_140) rfl ?_
          exact k)
      obtain ⟨cl25, Ar25, hin25, hat25⟩ := own_rd (by omega) V_ba 2 z rfl
      obtain ⟨T26, h27, X, eh, W25, sx⟩ := stB X hx hZ eh Ar25 (j := Int32.ofNat 2) hin25 (g := (mkF m 141 #[.val (.int y0), .val (.int y1), .val (.int y2), .val (.int y3), .val (.long y4), .second, .val (.int y5), .val (.int (Int32.ofNat raw)), .val (.ref d1), .val (.int (Int32.ofNat ll)), .val (.int (Int32.ofNat xx)), .val (.int v11), .val (.int t2), .val (.int (Int32.ofNat (2 + ll + xx))), .val (.ref ba), .unset, .unset] [(.int ((((y4.toUInt64 >>> ((16 : Int32) &&& 0x3f).toInt64.toUInt64).toInt64).toInt32).toInt8.toInt32)), (.int (2 : Int32)), (.ref ba)])) rfl rfl (hb hby at_141)
      have st : ∀ t, Steps p.tables e below (T26.setTop (mkF m 142 #[.val (.int y0), .val (.int y1), .val (.int y2), .val (.int y3), .val (.long y4), .second, .val (.int y5), .val (.int (Int32.ofNat raw)), .val (.ref d1), .val (.int (Int32.ofNat ll)), .val (.int (Int32.ofNat xx)), .val (.int v11), .val (.int t2), .val (.int (Int32.ofNat (2 + ll + xx))), .val (.ref ba), .unset, .unset] [])) t → Steps p.tables e below (T19.setTop (mkF m 125 #[.val (.int y0), .val (.int y1), .val (.int y2), .val (.int y3), .val (.long y4), .second, .val (.int y5), .val (.int (Int32.ofNat raw)), .val (.ref d1), .val (.int (Int32.ofNat ll)), .val (.int (Int32.ofNat xx)), .val (.int v11), .val (.int t2), .val (.int (Int32.ofNat (2 + ll + xx))), .val (.ref ba), .unset, .unset] [])) t := fun t k => st t (sx t k)
      have Z0 := Nat.le_trans Z0 (Keep.of_wr W25).1
      have V_ba := own_st (by omega) V_ba 2 z (by omega) W25
      have N := Fr.snoc X N g_ba
      exact ⟨T26, h27, _, _, X, N, eh, Z0, V_ba, (by rw [List.length_set]; exact hl1), (own_getset (by decide) hv0), (own_getset (by decide) hv1), st⟩
    · have st : ∀ t, Steps p.tables e below (T19.setTop (mkF m 142 #[.val (.int y0), .val (.int y1), .val (.int y2), .val (.int y3), .val (.long y4), .second, .val (.int y5), .val (.int (Int32.ofNat raw)), .val (.ref d1), .val (.int (Int32.ofNat ll)), .val (.int (Int32.ofNat xx)), .val (.int v11), .val (.int t2), .val (.int (Int32.ofNat (2 + ll + xx))), .val (.ref ba), .unset, .unset] [])) t → Steps p.tables e below (T19.setTop (mkF m 125 #[.val (.int y0), .val (.int y1), .val (.int y2), .val (.int y3), .val (.long y4), .second, .val (.int y5), .val (.int (Int32.ofNat raw)), .val (.ref d1), .val (.int (Int32.ofNat ll)), .val (.int (Int32.ofNat xx)), .val (.int v11), .val (.int t2), .val (.int (Int32.ofNat (2 + ll + xx))), .val (.ref ba), .unset, .unset] [])) t := fun t k => st t (by
          show Steps p.tables e below (T19.setTop (mkF m 128 #[.val (.int y0), .val (.int y1), .val (.int y2), .val (.int y3), .val (.long y4), .second, .val (.int y5), .val (.int (Int32.ofNat raw)), .val (.ref d1), .val (.int (Int32.ofNat ll)), .val (.int (Int32.ofNat xx)), .val (.int v11), .val (.int t2), .val (.int (Int32.ofNat (2 + ll + xx))), .val (.ref ba), .unset, .unset] [(.int (Int32.ofNat (2 + ll + xx))), (.int (2 : Int32))])) _
          refine XS.icmpYes X.here hx rfl (pc0 := 128) (pc' := 142) rfl (hb hby at_128) rfl (flt hq).2.1 (by decide) (by decide) ?_
          exact k)
      exact ⟨T19, h20, _, vs1, X, N, eh, Z0, V_ba, hl1, hv0, hv1, st⟩
  have st : ∀ t, Steps p.tables e below (T22.setTop (mkF m 142 #[.val (.int y0), .val (.int y1), .val (.int y2), .val (.int y3), .val (.long y4), .second, .val (.int y5), .val (.int (Int32.ofNat raw)), .val (.ref d1), .val (.int (Int32.ofNat ll)), .val (.int (Int32.ofNat xx)), .val (.int v11), .val (.int t2), .val (.int (Int32.ofNat (2 + ll + xx))), .val (.ref ba), .unset, .unset] [])) t → Steps p.tables e below (s₁.setTop (mkF m 0 #[.val (.int y0), .val (.int y1), .val (.int y2), .val (.int y3), .val (.long y4), .second, .val (.int y5), .unset, .unset, .unset, .unset, .unset, .unset, .unset, .unset, .unset, .unset] [])) t := fun t k => st t (sx t k)
  obtain ⟨lo28, X, N⟩ : ∃ loX, Stand p l e room_1 s m #[(.int y0), (.int y1), (.int y2), (.int y3), (.long y4), (.int y5)] below meth cd0 T22 loX 3 14 ∧ Fr n0 loX := ⟨_, X, N⟩
  obtain ⟨T29, h30, lo31, vs3, X, N, eh, Z0, V_ba, hl1, hv0, hv1, sx⟩ : ∃ (T29 : State) (h30 : Heap) (lo31 : List Loc) (vs3 : List Value), Stand p l e room_1 s m #[(.int y0), (.int y1), (.int y2), (.int y3), (.long y4), (.int y5)] below meth cd0 T29 lo31 3 14 ∧ Fr n0 lo31 ∧ T29.heap = h30 ∧ n0 ≤ h30.size ∧ Arv Z h30 ba k_ba .byte (Int32.ofNat (2 + ll + xx)) vs3 (.int (0 : Int32)) ∧ vs3.length = 8 ∧ vs3.getD 0 (.int (0 : Int32)) = .int (nar .byte (t2.toInt8.toInt32)) ∧ vs3.getD 1 (.int (0 : Int32)) = .int (nar .byte ((Int32.ofNat ll).toInt8.toInt32)) ∧ (∀ t, Steps p.tables e below (T29.setTop (mkF m 159 #[.val (.int y0), .val (.int y1), .val (.int y2), .val (.int y3), .val (.long y4), .second, .val (.int y5), .val (.int (Int32.ofNat raw)), .val (.ref d1), .val (.int (Int32.ofNat ll)), .val (.int (Int32.ofNat xx)), .val (.int v11), .val (.int t2), .val (.int (Int32.ofNat (2 + ll + xx))), .val (.ref ba), .unset, .unset] [])) t → Steps p.tables e below (T22.setTop (mkF m 142 #[.val (.int y0), .val (.int y1), .val (.int y2), .val (.int y3), .val (.long y4), .second, .val (.int y5), .val (.int (Int32.ofNat raw)), .val (.ref d1), .val (.int (Int32.ofNat ll)), .val (.int (Int32.ofNat xx)), .val (.int v11), .val (.int t2), .val (.int (Int32.ofNat (2 + ll + xx))), .val (.ref ba), .unset, .unset] [])) t) := by
    have st : ∀ t, Steps p.tables e below (T22.setTop (mkF m 142 #[.val (.int y0), .val (.int y1), .val (.int y2), .val (.int y3), .val (.long y4), .second, .val (.int y5), .val (.int (Int32.ofNat raw)), .val (.ref d1), .val (.int (Int32.ofNat ll)), .val (.int (Int32.ofNat xx)), .val (.int v11), .val (.int t2), .val (.int (Int32.ofNat (2 + ll + xx))), .val (.ref ba), .unset, .unset] [])) t → Steps p.tables e below (T22.setTop (mkF m 142 #[.val (.int y0), .val (.int y1), .val (.int y2), .val (.int y3), .val (.long y4), .second, .val (.int y5), .val (.int (Int32.ofNat raw)), .val (.ref d1), .val (.int (Int32.ofNat ll)), .val (.int (Int32.ofNat xx)), .val (.int v11), .val (.int t2), .val (.int (Int32.ofNat (2 + ll + xx))), .val (.ref ba), .unset, .unset] [])) t := fun t k => k
    have st : ∀ t, Steps p.tables e below (T22.setTop (mkF m 145 #[.val (.int y0), .val (.int y1), .val (.int y2), .val (.int y3), .val (.long y4), .second, .val (.int y5), .val (.int (Int32.ofNat raw)), .val (.ref d1), .val (.int (Int32.ofNat ll)), .val (.int (Int32.ofNat xx)), .val (.int v11), .val (.int t2), .val (.int (Int32.ofNat (2 + ll + xx))), .val (.ref ba), .unset, .unset] [(.int (Int32.ofNat (2 + ll + xx))), (.int (3 : Int32))])) t → Steps p.tables e below (T22.setTop (mkF m 142 #[.val (.int y0), .val (.int y1), .val (.int y2), .val (.int y3), .val (.long y4), .second, .val (.int y5), .val (.int (Int32.ofNat raw)), .val (.ref d1), .val (.int (Int32.ofNat ll)), .val (.int (Int32.ofNat xx)), .val (.int v11), .val (.int t2), .val (.int (Int32.ofNat (2 + ll + xx))), .val (.ref ba), .unset, .unset] [])) t := fun t k => st t (by
        show Steps p.tables e below (T22.setTop (mkF m 142 #[.val (.int y0), .val (.int y1), .val (.int y2), .val (.int y3), .val (.long y4), .second, .val (.int y5), .val (.int (Int32.ofNat raw)), .val (.ref d1), .val (.int (Int32.ofNat ll)), .val (.int (Int32.ofNat xx)), .val (.int v11), .val (.int t2), .val (.int (Int32.ofNat (2 + ll + xx))), .val (.ref ba), .unset, .unset] [])) _
        refine XS.iconst X.here hx rfl (hb hby at_142) ?_
        show Steps p.tables e below (T22.setTop (mkF m 143 #[.val (.int y0), .val (.int y1), .val (.int y2), .val (.int y3), .val (.long y4), .second, .val (.int y5), .val (.int (Int32.ofNat raw)), .val (.ref d1), .val (.int (Int32.ofNat ll)), .val (.int (Int32.ofNat xx)), .val (.int v11), .val (.int t2), .val (.int (Int32.ofNat (2 + ll + xx))), .val (.ref ba), .unset, .unset] [(.int (3 : Int32))])) _
        refine XS.iload X.here hx rfl (hb hby at_143) rfl ?_
        exact k)
    by_cases hq : (3 : Int32) < (Int32.ofNat (2 + ll + xx))
    · have z : 3 < 2 + ll + xx := (own_lt (i := 3) (by decide) (by omega)).mp hq
      have st : ∀ t, Steps p.tables e below (T22.setTop (mkF m 158 #[.val (.int y0), .val (.int y1), .val (.int y2), .val (.int y3), .val (.long y4), .second, .val (.int y5), .val (.int (Int32.ofNat raw)), .val (.ref d1), .val (.int (Int32.ofNat ll)), .val (.int (Int32.ofNat xx)), .val (.int v11), .val (.int t2), .val (.int (Int32.ofNat (2 + ll + xx))), .val (.ref ba), .unset, .unset] [(.int ((((y4.toUInt64 >>> ((24 : Int32) &&& 0x3f).toInt64.toUInt64).toInt64).toInt32).toInt8.toInt32)), (.int (3 : Int32)), (.ref ba)])) t → Steps p.tables e below (T22.setTop (mkF m 142 #[.val (.int y0), .val (.int y1), .val (.int y2), .val (.int y3), .val (.long y4), .second, .val (.int y5), .val (.int (Int32.ofNat raw)), .val (.ref d1), .val (.int (Int32.ofNat ll)), .val (.int (Int32.ofNat xx)), .val (.int v11), .val (.int t2), .val (.int (Int32.ofNat (2 + ll + xx))), .val (.ref ba), .unset, .unset] [])) t := fun t k => st t (by
          show Steps p.tables e below (T22.setTop (mkF m 145 #[.val (.int y0), .val (.int y1), .val (.int y2), .val (.int y3), .val (.long y4), .second, .val (.int y5), .val (.int (Int32.ofNat raw)), .val (.ref d1), .val (.int (Int32.ofNat ll)), .val (.int (Int32.ofNat xx)), .val (.int v11), .val (.int t2), .val (.int (Int32.ofNat (2 + ll + xx))), .val (.ref ba), .unset, .unset] [(.int (Int32.ofNat (2 + ll + xx))), (.int (3 : Int32))])) _
          refine XS.icmpNo X.here hx rfl (hb hby at_145) rfl (tlt hq).2.1 ?_
          show Steps p.tables e below (T22.setTop (mkF m 148 #[.val (.int y0), .val (.int y1), .val (.int y2), .val (.int y3), .val (.long y4), .second, .val (.int y5), .val (.int (Int32.ofNat raw)), .val (.ref d1), .val (.int (Int32.ofNat ll)), .val (.int (Int32.ofNat xx)), .val (.int v11), .val (.int t2), .val (.int (Int32.ofNat (2 + ll + xx))), .val (.ref ba), .unset, .unset] [])) _
          refine XS.aload X.here hx rfl (hb hby at_148) rfl rfl ?_
          show Steps p.tables e below (T22.setTop (mkF m 150 #[.val (.int y0), .val (.int y1), .val (.int y2), .val (.int y3), .val (.long y4), .second, .val (.int y5), .val (.int (Int32.ofNat raw)), .val (.ref d1), .val (.int (Int32.ofNat ll)), .val (.int (Int32.ofNat xx)), .val (.int v11), .val (.int t2), .val (.int (Int32.ofNat (2 + ll + xx))), .val (.ref ba), .unset, .unset] [(.ref ba)])) _
          refine XS.iconst X.here hx rfl (hb hby at_150) ?_
          show Steps p.tables e below (T22.setTop (mkF m 151 #[.val (.int y0), .val (.int y1), .val (.int y2), .val (.int y3), .val (.long y4), .second, .val (.int y5), .val (.int (Int32.ofNat raw)), .val (.ref d1), .val (.int (Int32.ofNat ll)), .val (.int (Int32.ofNat xx)), .val (.int v11), .val (.int t2), .val (.int (Int32.ofNat (2 + ll + xx))), .val (.ref ba), .unset, .unset] [(.int (3 : Int32)), (.ref ba)])) _
          refine XS.lload X.here hx rfl (hb hby at_151) rfl ?_
          show Steps p.tables e below (T22.setTop (mkF m 153 #[.val (.int y0), .val (.int y1), .val (.int y2), .val (.int y3), .val (.long y4), .second, .val (.int y5), .val (.int (Int32.ofNat raw)), .val (.ref d1), .val (.int (Int32.ofNat ll)), .val (.int (Int32.ofNat xx)), .val (.int v11), .val (.int t2), .val (.int (Int32.ofNat (2 + ll + xx))), .val (.ref ba), .unset, .unset] [(.long y4), (.int (3 : Int32)), (.ref ba)])) _
          refine XS.bipush X.here hx rfl (hb hby at_153) ?_
          show Steps p.tables e below (T22.setTop (mkF m 155 #[.val (.int y0), .val (.int y1), .val (.int y2), .val (.int y3), .val (.long y4), .second, .val (.int y5), .val (.int (Int32.ofNat raw)), .val (.ref d1), .val (.int (Int32.ofNat ll)), .val (.int (Int32.ofNat xx)), .val (.int v11), .val (.int t2), .val (.int (Int32.ofNat (2 + ll + xx))), .val (.ref ba), .unset, .unset] [(.int (24 : Int32)), (.long y4), (.int (3 : Int32)), (.ref ba)])) _
          refine XS.lushr X.here hx rfl (hb hby at_155) rfl ?_
          show Steps p.tables e below (T22.setTop (mkF m 156 #[.val (.int y0), .val (.int y1), .val (.int y2), .val (.int y3), .val (.long y4), .second, .val (.int y5), .val (.int (Int32.ofNat raw)), .val (.ref d1), .val (.int (Int32.ofNat ll)), .val (.int (Int32.ofNat xx)), .val (.int v11), .val (.int t2), .val (.int (Int32.ofNat (2 + ll + xx))), .val (.ref ba), .unset, .unset] [(.long ((y4.toUInt64 >>> ((24 : Int32) &&& 0x3f).toInt64.toUInt64).toInt64)), (.int (3 : Int32)), (.ref ba)])) _
          refine XS.l2i X.here hx rfl (hb hby at_156) rfl ?_
          show Steps p.tables e below (T22.setTop (mkF m 157 #[.val (.int y0), .val (.int y1), .val (.int y2), .val (.int y3), .val (.long y4), .second, .val (.int y5), .val (.int (Int32.ofNat raw)), .val (.ref d1), .val (.int (Int32.ofNat ll)), .val (.int (Int32.ofNat xx)), .val (.int v11), .val (.int t2), .val (.int (Int32.ofNat (2 + ll + xx))), .val (.ref ba), .unset, .unset] [(.int (((y4.toUInt64 >>> ((24 : Int32) &&& 0x3f).toInt64.toUInt64).toInt64).toInt32)), (.int (3 : Int32)), (.ref ba)])) _
          refine XS.i2b X.here hx rfl (hb hby at_157) rfl ?_
          exact k)
      obtain ⟨cl32, Ar32, hin32, hat32⟩ := own_rd (by omega) V_ba 3 z rfl
      obtain ⟨T33, h34, X, eh, W32, sx⟩ := stB X hx hZ eh Ar32 (j := Int32.ofNat 3) hin32 (g := (mkF m 158 #[.val (.int y0), .val (.int y1), .val (.int y2), .val (.int y3), .val (.long y4), .second, .val (.int y5), .val (.int (Int32.ofNat raw)), .val (.ref d1), .val (.int (Int32.ofNat ll)), .val (.int (Int32.ofNat xx)), .val (.int v11), .val (.int t2), .val (.int (Int32.ofNat (2 + ll + xx))), .val (.ref ba), .unset, .unset] [(.int ((((y4.toUInt64 >>> ((24 : Int32) &&& 0x3f).toInt64.toUInt64).toInt64).toInt32).toInt8.toInt32)), (.int (3 : Int32)), (.ref ba)])) rfl rfl (hb hby at_158)
      have st : ∀ t, Steps p.tables e below (T33.setTop (mkF m 159 #[.val (.int y0), .val (.int y1), .val (.int y2), .val (.int y3), .val (.long y4), .second, .val (.int y5), .val (.int (Int32.ofNat raw)), .val (.ref d1), .val (.int (Int32.ofNat ll)), .val (.int (Int32.ofNat xx)), .val (.int v11), .val (.int t2), .val (.int (Int32.ofNat (2 + ll + xx))), .val (.ref ba), .unset, .unset] [])) t → Steps p.tables e below (T22.setTop (mkF m 142 #[.val (.int y0), .val (.int y1), .val (.int y2), .val (.int y3), .val (.long y4), .second, .val (.int y5), .val (.int (Int32.ofNat raw)), .val (.ref d1), .val (.int (Int32.ofNat ll)), .val (.int (Int32.ofNat xx)), .val (.int v11), .val (.int t2), .val (.int (Int32.ofNat (2 + ll + xx))), .val (.ref ba), .unset, .unset] [])) t := fun t k => st t (sx t k)
      have Z0 := Nat.le_trans Z0 (Keep.of_wr W32).1
      have V_ba := own_st (by omega) V_ba 3 z (by omega) W32
      have N := Fr.snoc X N g_ba
      exact ⟨T33, h34, _, _, X, N, eh, Z0, V_ba, (by rw [List.length_set]; exact hl1), (own_getset (by decide) hv0), (own_getset (by decide) hv1), st⟩
    · have st : ∀ t, Steps p.tables e below (T22.setTop (mkF m 159 #[.val (.int y0), .val (.int y1), .val (.int y2), .val (.int y3), .val (.long y4), .second, .val (.int y5), .val (.int (Int32.ofNat raw)), .val (.ref d1), .val (.int (Int32.ofNat ll)), .val (.int (Int32.ofNat xx)), .val (.int v11), .val (.int t2), .val (.int (Int32.ofNat (2 + ll + xx))), .val (.ref ba), .unset, .unset] [])) t → Steps p.tables e below (T22.setTop (mkF m 142 #[.val (.int y0), .val (.int y1), .val (.int y2), .val (.int y3), .val (.long y4), .second, .val (.int y5), .val (.int (Int32.ofNat raw)), .val (.ref d1), .val (.int (Int32.ofNat ll)), .val (.int (Int32.ofNat xx)), .val (.int v11), .val (.int t2), .val (.int (Int32.ofNat (2 + ll + xx))), .val (.ref ba), .unset, .unset] [])) t := fun t k => st t (by
          show Steps p.tables e below (T22.setTop (mkF m 145 #[.val (.int y0), .val (.int y1), .val (.int y2), .val (.int y3), .val (.long y4), .second, .val (.int y5), .val (.int (Int32.ofNat raw)), .val (.ref d1), .val (.int (Int32.ofNat ll)), .val (.int (Int32.ofNat xx)), .val (.int v11), .val (.int t2), .val (.int (Int32.ofNat (2 + ll + xx))), .val (.ref ba), .unset, .unset] [(.int (Int32.ofNat (2 + ll + xx))), (.int (3 : Int32))])) _
          refine XS.icmpYes X.here hx rfl (pc0 := 145) (pc' := 159) rfl (hb hby at_145) rfl (flt hq).2.1 (by decide) (by decide) ?_
          exact k)
      exact ⟨T22, h23, _, vs2, X, N, eh, Z0, V_ba, hl1, hv0, hv1, st⟩
  have st : ∀ t, Steps p.tables e below (T29.setTop (mkF m 159 #[.val (.int y0), .val (.int y1), .val (.int y2), .val (.int y3), .val (.long y4), .second, .val (.int y5), .val (.int (Int32.ofNat raw)), .val (.ref d1), .val (.int (Int32.ofNat ll)), .val (.int (Int32.ofNat xx)), .val (.int v11), .val (.int t2), .val (.int (Int32.ofNat (2 + ll + xx))), .val (.ref ba), .unset, .unset] [])) t → Steps p.tables e below (s₁.setTop (mkF m 0 #[.val (.int y0), .val (.int y1), .val (.int y2), .val (.int y3), .val (.long y4), .second, .val (.int y5), .unset, .unset, .unset, .unset, .unset, .unset, .unset, .unset, .unset, .unset] [])) t := fun t k => st t (sx t k)
  obtain ⟨lo35, X, N⟩ : ∃ loX, Stand p l e room_1 s m #[(.int y0), (.int y1), (.int y2), (.int y3), (.long y4), (.int y5)] below meth cd0 T29 loX 3 14 ∧ Fr n0 loX := ⟨_, X, N⟩
  obtain ⟨T36, h37, lo38, vs4, X, N, eh, Z0, V_ba, hl1, hv0, hv1, sx⟩ : ∃ (T36 : State) (h37 : Heap) (lo38 : List Loc) (vs4 : List Value), Stand p l e room_1 s m #[(.int y0), (.int y1), (.int y2), (.int y3), (.long y4), (.int y5)] below meth cd0 T36 lo38 3 14 ∧ Fr n0 lo38 ∧ T36.heap = h37 ∧ n0 ≤ h37.size ∧ Arv Z h37 ba k_ba .byte (Int32.ofNat (2 + ll + xx)) vs4 (.int (0 : Int32)) ∧ vs4.length = 8 ∧ vs4.getD 0 (.int (0 : Int32)) = .int (nar .byte (t2.toInt8.toInt32)) ∧ vs4.getD 1 (.int (0 : Int32)) = .int (nar .byte ((Int32.ofNat ll).toInt8.toInt32)) ∧ (∀ t, Steps p.tables e below (T36.setTop (mkF m 176 #[.val (.int y0), .val (.int y1), .val (.int y2), .val (.int y3), .val (.long y4), .second, .val (.int y5), .val (.int (Int32.ofNat raw)), .val (.ref d1), .val (.int (Int32.ofNat ll)), .val (.int (Int32.ofNat xx)), .val (.int v11), .val (.int t2), .val (.int (Int32.ofNat (2 + ll + xx))), .val (.ref ba), .unset, .unset] [])) t → Steps p.tables e below (T29.setTop (mkF m 159 #[.val (.int y0), .val (.int y1), .val (.int y2), .val (.int y3), .val (.long y4), .second, .val (.int y5), .val (.int (Int32.ofNat raw)), .val (.ref d1), .val (.int (Int32.ofNat ll)), .val (.int (Int32.ofNat xx)), .val (.int v11), .val (.int t2), .val (.int (Int32.ofNat (2 + ll + xx))), .val (.ref ba), .unset, .unset] [])) t) := by
    have st : ∀ t, Steps p.tables e below (T29.setTop (mkF m 159 #[.val (.int y0), .val (.int y1), .val (.int y2), .val (.int y3), .val (.long y4), .second, .val (.int y5), .val (.int (Int32.ofNat raw)), .val (.ref d1), .val (.int (Int32.ofNat ll)), .val (.int (Int32.ofNat xx)), .val (.int v11), .val (.int t2), .val (.int (Int32.ofNat (2 + ll + xx))), .val (.ref ba), .unset, .unset] [])) t → Steps p.tables e below (T29.setTop (mkF m 159 #[.val (.int y0), .val (.int y1), .val (.int y2), .val (.int y3), .val (.long y4), .second, .val (.int y5), .val (.int (Int32.ofNat raw)), .val (.ref d1), .val (.int (Int32.ofNat ll)), .val (.int (Int32.ofNat xx)), .val (.int v11), .val (.int t2), .val (.int (Int32.ofNat (2 + ll + xx))), .val (.ref ba), .unset, .unset] [])) t := fun t k => k
    have st : ∀ t, Steps p.tables e below (T29.setTop (mkF m 162 #[.val (.int y0), .val (.int y1), .val (.int y2), .val (.int y3), .val (.long y4), .second, .val (.int y5), .val (.int (Int32.ofNat raw)), .val (.ref d1), .val (.int (Int32.ofNat ll)), .val (.int (Int32.ofNat xx)), .val (.int v11), .val (.int t2), .val (.int (Int32.ofNat (2 + ll + xx))), .val (.ref ba), .unset, .unset] [(.int (Int32.ofNat (2 + ll + xx))), (.int (4 : Int32))])) t → Steps p.tables e below (T29.setTop (mkF m 159 #[.val (.int y0), .val (.int y1), .val (.int y2), .val (.int y3), .val (.long y4), .second, .val (.int y5), .val (.int (Int32.ofNat raw)), .val (.ref d1), .val (.int (Int32.ofNat ll)), .val (.int (Int32.ofNat xx)), .val (.int v11), .val (.int t2), .val (.int (Int32.ofNat (2 + ll + xx))), .val (.ref ba), .unset, .unset] [])) t := fun t k => st t (by
        show Steps p.tables e below (T29.setTop (mkF m 159 #[.val (.int y0), .val (.int y1), .val (.int y2), .val (.int y3), .val (.long y4), .second, .val (.int y5), .val (.int (Int32.ofNat raw)), .val (.ref d1), .val (.int (Int32.ofNat ll)), .val (.int (Int32.ofNat xx)), .val (.int v11), .val (.int t2), .val (.int (Int32.ofNat (2 + ll + xx))), .val (.ref ba), .unset, .unset] [])) _
        refine XS.iconst X.here hx rfl (hb hby at_159) ?_
        show Steps p.tables e below (T29.setTop (mkF m 160 #[.val (.int y0), .val (.int y1), .val (.int y2), .val (.int y3), .val (.long y4), .second, .val (.int y5), .val (.int (Int32.ofNat raw)), .val (.ref d1), .val (.int (Int32.ofNat ll)), .val (.int (Int32.ofNat xx)), .val (.int v11), .val (.int t2), .val (.int (Int32.ofNat (2 + ll + xx))), .val (.ref ba), .unset, .unset] [(.int (4 : Int32))])) _
        refine XS.iload X.here hx rfl (hb hby at_160) rfl ?_
        exact k)
    by_cases hq : (4 : Int32) < (Int32.ofNat (2 + ll + xx))
    · have z : 4 < 2 + ll + xx := (own_lt (i := 4) (by decide) (by omega)).mp hq
      have st : ∀ t, Steps p.tables e below (T29.setTop (mkF m 175 #[.val (.int y0), .val (.int y1), .val (.int y2), .val (.int y3), .val (.long y4), .second, .val (.int y5), .val (.int (Int32.ofNat raw)), .val (.ref d1), .val (.int (Int32.ofNat ll)), .val (.int (Int32.ofNat xx)), .val (.int v11), .val (.int t2), .val (.int (Int32.ofNat (2 + ll + xx))), .val (.ref ba), .unset, .unset] [(.int ((((y4.toUInt64 >>> ((32 : Int32) &&& 0x3f).toInt64.toUInt64).toInt64).toInt32).toInt8.toInt32)), (.int (4 : Int32)), (.ref ba)])) t → Steps p.tables e below (T29.setTop (mkF m 159 #[.val (.int y0), .val (.int y1), .val (.int y2), .val (.int y3), .val (.long y4), .second, .val (.int y5), .val (.int (Int32.ofNat raw)), .val (.ref d1), .val (.int (Int32.ofNat ll)), .val (.int (Int32.ofNat xx)), .val (.int v11), .val (.int t2), .val (.int (Int32.ofNat (2 + ll + xx))), .val (.ref ba), .unset, .unset] [])) t := fun t k => st t (by
          show Steps p.tables e below (T29.setTop (mkF m 162 #[.val (.int y0), .val (.int y1), .val (.int y2), .val (.int y3), .val (.long y4), .second, .val (.int y5), .val (.int (Int32.ofNat raw)), .val (.ref d1), .val (.int (Int32.ofNat ll)), .val (.int (Int32.ofNat xx)), .val (.int v11), .val (.int t2), .val (.int (Int32.ofNat (2 + ll + xx))), .val (.ref ba), .unset, .unset] [(.int (Int32.ofNat (2 + ll + xx))), (.int (4 : Int32))])) _
          refine XS.icmpNo X.here hx rfl (hb hby at_162) rfl (tlt hq).2.1 ?_
          show Steps p.tables e below (T29.setTop (mkF m 165 #[.val (.int y0), .val (.int y1), .val (.int y2), .val (.int y3), .val (.long y4), .second, .val (.int y5), .val (.int (Int32.ofNat raw)), .val (.ref d1), .val (.int (Int32.ofNat ll)), .val (.int (Int32.ofNat xx)), .val (.int v11), .val (.int t2), .val (.int (Int32.ofNat (2 + ll + xx))), .val (.ref ba), .unset, .unset] [])) _
          refine XS.aload X.here hx rfl (hb hby at_165) rfl rfl ?_
          show Steps p.tables e below (T29.setTop (mkF m 167 #[.val (.int y0), .val (.int y1), .val (.int y2), .val (.int y3), .val (.long y4), .second, .val (.int y5), .val (.int (Int32.ofNat raw)), .val (.ref d1), .val (.int (Int32.ofNat ll)), .val (.int (Int32.ofNat xx)), .val (.int v11), .val (.int t2), .val (.int (Int32.ofNat (2 + ll + xx))), .val (.ref ba), .unset, .unset] [(.ref ba)])) _
          refine XS.iconst X.here hx rfl (hb hby at_167) ?_
          show Steps p.tables e below (T29.setTop (mkF m 168 #[.val (.int y0), .val (.int y1), .val (.int y2), .val (.int y3), .val (.long y4), .second, .val (.int y5), .val (.int (Int32.ofNat raw)), .val (.ref d1), .val (.int (Int32.ofNat ll)), .val (.int (Int32.ofNat xx)), .val (.int v11), .val (.int t2), .val (.int (Int32.ofNat (2 + ll + xx))), .val (.ref ba), .unset, .unset] [(.int (4 : Int32)), (.ref ba)])) _
          refine XS.lload X.here hx rfl (hb hby at_168) rfl ?_
          show Steps p.tables e below (T29.setTop (mkF m 170 #[.val (.int y0), .val (.int y1), .val (.int y2), .val (.int y3), .val (.long y4), .second, .val (.int y5), .val (.int (Int32.ofNat raw)), .val (.ref d1), .val (.int (Int32.ofNat ll)), .val (.int (Int32.ofNat xx)), .val (.int v11), .val (.int t2), .val (.int (Int32.ofNat (2 + ll + xx))), .val (.ref ba), .unset, .unset] [(.long y4), (.int (4 : Int32)), (.ref ba)])) _
          refine XS.bipush X.here hx rfl (hb hby at_170) ?_
          show Steps p.tables e below (T29.setTop (mkF m 172 #[.val (.int y0), .val (.int y1), .val (.int y2), .val (.int y3), .val (.long y4), .second, .val (.int y5), .val (.int (Int32.ofNat raw)), .val (.ref d1), .val (.int (Int32.ofNat ll)), .val (.int (Int32.ofNat xx)), .val (.int v11), .val (.int t2), .val (.int (Int32.ofNat (2 + ll + xx))), .val (.ref ba), .unset, .unset] [(.int (32 : Int32)), (.long y4), (.int (4 : Int32)), (.ref ba)])) _
          refine XS.lushr X.here hx rfl (hb hby at_172) rfl ?_
          show Steps p.tables e below (T29.setTop (mkF m 173 #[.val (.int y0), .val (.int y1), .val (.int y2), .val (.int y3), .val (.long y4), .second, .val (.int y5), .val (.int (Int32.ofNat raw)), .val (.ref d1), .val (.int (Int32.ofNat ll)), .val (.int (Int32.ofNat xx)), .val (.int v11), .val (.int t2), .val (.int (Int32.ofNat (2 + ll + xx))), .val (.ref ba), .unset, .unset] [(.long ((y4.toUInt64 >>> ((32 : Int32) &&& 0x3f).toInt64.toUInt64).toInt64)), (.int (4 : Int32)), (.ref ba)])) _
          refine XS.l2i X.here hx rfl (hb hby at_173) rfl ?_
          show Steps p.tables e below (T29.setTop (mkF m 174 #[.val (.int y0), .val (.int y1), .val (.int y2), .val (.int y3), .val (.long y4), .second, .val (.int y5), .val (.int (Int32.ofNat raw)), .val (.ref d1), .val (.int (Int32.ofNat ll)), .val (.int (Int32.ofNat xx)), .val (.int v11), .val (.int t2), .val (.int (Int32.ofNat (2 + ll + xx))), .val (.ref ba), .unset, .unset] [(.int (((y4.toUInt64 >>> ((32 : Int32) &&& 0x3f).toInt64.toUInt64).toInt64).toInt32)), (.int (4 : Int32)), (.ref ba)])) _
          refine XS.i2b X.here hx rfl (hb hby at_174) rfl ?_
          exact k)
      obtain ⟨cl39, Ar39, hin39, hat39⟩ := own_rd (by omega) V_ba 4 z rfl
      obtain ⟨T40, h41, X, eh, W39, sx⟩ := stB X hx hZ eh Ar39 (j := Int32.ofNat 4) hin39 (g := (mkF m 175 #[.val (.int y0), .val (.int y1), .val (.int y2), .val (.int y3), .val (.long y4), .second, .val (.int y5), .val (.int (Int32.ofNat raw)), .val (.ref d1), .val (.int (Int32.ofNat ll)), .val (.int (Int32.ofNat xx)), .val (.int v11), .val (.int t2), .val (.int (Int32.ofNat (2 + ll + xx))), .val (.ref ba), .unset, .unset] [(.int ((((y4.toUInt64 >>> ((32 : Int32) &&& 0x3f).toInt64.toUInt64).toInt64).toInt32).toInt8.toInt32)), (.int (4 : Int32)), (.ref ba)])) rfl rfl (hb hby at_175)
      have st : ∀ t, Steps p.tables e below (T40.setTop (mkF m 176 #[.val (.int y0), .val (.int y1), .val (.int y2), .val (.int y3), .val (.long y4), .second, .val (.int y5), .val (.int (Int32.ofNat raw)), .val (.ref d1), .val (.int (Int32.ofNat ll)), .val (.int (Int32.ofNat xx)), .val (.int v11), .val (.int t2), .val (.int (Int32.ofNat (2 + ll + xx))), .val (.ref ba), .unset, .unset] [])) t → Steps p.tables e below (T29.setTop (mkF m 159 #[.val (.int y0), .val (.int y1), .val (.int y2), .val (.int y3), .val (.long y4), .second, .val (.int y5), .val (.int (Int32.ofNat raw)), .val (.ref d1), .val (.int (Int32.ofNat ll)), .val (.int (Int32.ofNat xx)), .val (.int v11), .val (.int t2), .val (.int (Int32.ofNat (2 + ll + xx))), .val (.ref ba), .unset, .unset] [])) t := fun t k => st t (sx t k)
      have Z0 := Nat.le_trans Z0 (Keep.of_wr W39).1
      have V_ba := own_st (by omega) V_ba 4 z (by omega) W39
      have N := Fr.snoc X N g_ba
      exact ⟨T40, h41, _, _, X, N, eh, Z0, V_ba, (by rw [List.length_set]; exact hl1), (own_getset (by decide) hv0), (own_getset (by decide) hv1), st⟩
    · have st : ∀ t, Steps p.tables e below (T29.setTop (mkF m 176 #[.val (.int y0), .val (.int y1), .val (.int y2), .val (.int y3), .val (.long y4), .second, .val (.int y5), .val (.int (Int32.ofNat raw)), .val (.ref d1), .val (.int (Int32.ofNat ll)), .val (.int (Int32.ofNat xx)), .val (.int v11), .val (.int t2), .val (.int (Int32.ofNat (2 + ll + xx))), .val (.ref ba), .unset, .unset] [])) t → Steps p.tables e below (T29.setTop (mkF m 159 #[.val (.int y0), .val (.int y1), .val (.int y2), .val (.int y3), .val (.long y4), .second, .val (.int y5), .val (.int (Int32.ofNat raw)), .val (.ref d1), .val (.int (Int32.ofNat ll)), .val (.int (Int32.ofNat xx)), .val (.int v11), .val (.int t2), .val (.int (Int32.ofNat (2 + ll + xx))), .val (.ref ba), .unset, .unset] [])) t := fun t k => st t (by
          show Steps p.tables e below (T29.setTop (mkF m 162 #[.val (.int y0), .val (.int y1), .val (.int y2), .val (.int y3), .val (.long y4), .second, .val (.int y5), .val (.int (Int32.ofNat raw)), .val (.ref d1), .val (.int (Int32.ofNat ll)), .val (.int (Int32.ofNat xx)), .val (.int v11), .val (.int t2), .val (.int (Int32.ofNat (2 + ll + xx))), .val (.ref ba), .unset, .unset] [(.int (Int32.ofNat (2 + ll + xx))), (.int (4 : Int32))])) _
          refine XS.icmpYes X.here hx rfl (pc0 := 162) (pc' := 176) rfl (hb hby at_162) rfl (flt hq).2.1 (by decide) (by decide) ?_
          exact k)
      exact ⟨T29, h30, _, vs3, X, N, eh, Z0, V_ba, hl1, hv0, hv1, st⟩
  have st : ∀ t, Steps p.tables e below (T36.setTop (mkF m 176 #[.val (.int y0), .val (.int y1), .val (.int y2), .val (.int y3), .val (.long y4), .second, .val (.int y5), .val (.int (Int32.ofNat raw)), .val (.ref d1), .val (.int (Int32.ofNat ll)), .val (.int (Int32.ofNat xx)), .val (.int v11), .val (.int t2), .val (.int (Int32.ofNat (2 + ll + xx))), .val (.ref ba), .unset, .unset] [])) t → Steps p.tables e below (s₁.setTop (mkF m 0 #[.val (.int y0), .val (.int y1), .val (.int y2), .val (.int y3), .val (.long y4), .second, .val (.int y5), .unset, .unset, .unset, .unset, .unset, .unset, .unset, .unset, .unset, .unset] [])) t := fun t k => st t (sx t k)
  obtain ⟨lo42, X, N⟩ : ∃ loX, Stand p l e room_1 s m #[(.int y0), (.int y1), (.int y2), (.int y3), (.long y4), (.int y5)] below meth cd0 T36 loX 3 14 ∧ Fr n0 loX := ⟨_, X, N⟩
  obtain ⟨T43, h44, lo45, vs5, X, N, eh, Z0, V_ba, hl1, hv0, hv1, sx⟩ : ∃ (T43 : State) (h44 : Heap) (lo45 : List Loc) (vs5 : List Value), Stand p l e room_1 s m #[(.int y0), (.int y1), (.int y2), (.int y3), (.long y4), (.int y5)] below meth cd0 T43 lo45 3 14 ∧ Fr n0 lo45 ∧ T43.heap = h44 ∧ n0 ≤ h44.size ∧ Arv Z h44 ba k_ba .byte (Int32.ofNat (2 + ll + xx)) vs5 (.int (0 : Int32)) ∧ vs5.length = 8 ∧ vs5.getD 0 (.int (0 : Int32)) = .int (nar .byte (t2.toInt8.toInt32)) ∧ vs5.getD 1 (.int (0 : Int32)) = .int (nar .byte ((Int32.ofNat ll).toInt8.toInt32)) ∧ (∀ t, Steps p.tables e below (T43.setTop (mkF m 193 #[.val (.int y0), .val (.int y1), .val (.int y2), .val (.int y3), .val (.long y4), .second, .val (.int y5), .val (.int (Int32.ofNat raw)), .val (.ref d1), .val (.int (Int32.ofNat ll)), .val (.int (Int32.ofNat xx)), .val (.int v11), .val (.int t2), .val (.int (Int32.ofNat (2 + ll + xx))), .val (.ref ba), .unset, .unset] [])) t → Steps p.tables e below (T36.setTop (mkF m 176 #[.val (.int y0), .val (.int y1), .val (.int y2), .val (.int y3), .val (.long y4), .second, .val (.int y5), .val (.int (Int32.ofNat raw)), .val (.ref d1), .val (.int (Int32.ofNat ll)), .val (.int (Int32.ofNat xx)), .val (.int v11), .val (.int t2), .val (.int (Int32.ofNat (2 + ll + xx))), .val (.ref ba), .unset, .unset] [])) t) := by
    have st : ∀ t, Steps p.tables e below (T36.setTop (mkF m 176 #[.val (.int y0), .val (.int y1), .val (.int y2), .val (.int y3), .val (.long y4), .second, .val (.int y5), .val (.int (Int32.ofNat raw)), .val (.ref d1), .val (.int (Int32.ofNat ll)), .val (.int (Int32.ofNat xx)), .val (.int v11), .val (.int t2), .val (.int (Int32.ofNat (2 + ll + xx))), .val (.ref ba), .unset, .unset] [])) t → Steps p.tables e below (T36.setTop (mkF m 176 #[.val (.int y0), .val (.int y1), .val (.int y2), .val (.int y3), .val (.long y4), .second, .val (.int y5), .val (.int (Int32.ofNat raw)), .val (.ref d1), .val (.int (Int32.ofNat ll)), .val (.int (Int32.ofNat xx)), .val (.int v11), .val (.int t2), .val (.int (Int32.ofNat (2 + ll + xx))), .val (.ref ba), .unset, .unset] [])) t := fun t k => k
    have st : ∀ t, Steps p.tables e below (T36.setTop (mkF m 179 #[.val (.int y0), .val (.int y1), .val (.int y2), .val (.int y3), .val (.long y4), .second, .val (.int y5), .val (.int (Int32.ofNat raw)), .val (.ref d1), .val (.int (Int32.ofNat ll)), .val (.int (Int32.ofNat xx)), .val (.int v11), .val (.int t2), .val (.int (Int32.ofNat (2 + ll + xx))), .val (.ref ba), .unset, .unset] [(.int (Int32.ofNat (2 + ll + xx))), (.int (5 : Int32))])) t → Steps p.tables e below (T36.setTop (mkF m 176 #[.val (.int y0), .val (.int y1), .val (.int y2), .val (.int y3), .val (.long y4), .second, .val (.int y5), .val (.int (Int32.ofNat raw)), .val (.ref d1), .val (.int (Int32.ofNat ll)), .val (.int (Int32.ofNat xx)), .val (.int v11), .val (.int t2), .val (.int (Int32.ofNat (2 + ll + xx))), .val (.ref ba), .unset, .unset] [])) t := fun t k => st t (by
        show Steps p.tables e below (T36.setTop (mkF m 176 #[.val (.int y0), .val (.int y1), .val (.int y2), .val (.int y3), .val (.long y4), .second, .val (.int y5), .val (.int (Int32.ofNat raw)), .val (.ref d1), .val (.int (Int32.ofNat ll)), .val (.int (Int32.ofNat xx)), .val (.int v11), .val (.int t2), .val (.int (Int32.ofNat (2 + ll + xx))), .val (.ref ba), .unset, .unset] [])) _
        refine XS.iconst X.here hx rfl (hb hby at_176) ?_
        show Steps p.tables e below (T36.setTop (mkF m 177 #[.val (.int y0), .val (.int y1), .val (.int y2), .val (.int y3), .val (.long y4), .second, .val (.int y5), .val (.int (Int32.ofNat raw)), .val (.ref d1), .val (.int (Int32.ofNat ll)), .val (.int (Int32.ofNat xx)), .val (.int v11), .val (.int t2), .val (.int (Int32.ofNat (2 + ll + xx))), .val (.ref ba), .unset, .unset] [(.int (5 : Int32))])) _
        refine XS.iload X.here hx rfl (hb hby at_177) rfl ?_
        exact k)
    by_cases hq : (5 : Int32) < (Int32.ofNat (2 + ll + xx))
    · have z : 5 < 2 + ll + xx := (own_lt (i := 5) (by decide) (by omega)).mp hq
      have st : ∀ t, Steps p.tables e below (T36.setTop (mkF m 192 #[.val (.int y0), .val (.int y1), .val (.int y2), .val (.int y3), .val (.long y4), .second, .val (.int y5), .val (.int (Int32.ofNat raw)), .val (.ref d1), .val (.int (Int32.ofNat ll)), .val (.int (Int32.ofNat xx)), .val (.int v11), .val (.int t2), .val (.int (Int32.ofNat (2 + ll + xx))), .val (.ref ba), .unset, .unset] [(.int ((((y4.toUInt64 >>> ((40 : Int32) &&& 0x3f).toInt64.toUInt64).toInt64).toInt32).toInt8.toInt32)), (.int (5 : Int32)), (.ref ba)])) t → Steps p.tables e below (T36.setTop (mkF m 176 #[.val (.int y0), .val (.int y1), .val (.int y2), .val (.int y3), .val (.long y4), .second, .val (.int y5), .val (.int (Int32.ofNat raw)), .val (.ref d1), .val (.int (Int32.ofNat ll)), .val (.int (Int32.ofNat xx)), .val (.int v11), .val (.int t2), .val (.int (Int32.ofNat (2 + ll + xx))), .val (.ref ba), .unset, .unset] [])) t := fun t k => st t (by
          show Steps p.tables e below (T36.setTop (mkF m 179 #[.val (.int y0), .val (.int y1), .val (.int y2), .val (.int y3), .val (.long y4), .second, .val (.int y5), .val (.int (Int32.ofNat raw)), .val (.ref d1), .val (.int (Int32.ofNat ll)), .val (.int (Int32.ofNat xx)), .val (.int v11), .val (.int t2), .val (.int (Int32.ofNat (2 + ll + xx))), .val (.ref ba), .unset, .unset] [(.int (Int32.ofNat (2 + ll + xx))), (.int (5 : Int32))])) _
          refine XS.icmpNo X.here hx rfl (hb hby at_179) rfl (tlt hq).2.1 ?_
          show Steps p.tables e below (T36.setTop (mkF m 182 #[.val (.int y0), .val (.int y1), .val (.int y2), .val (.int y3), .val (.long y4), .second, .val (.int y5), .val (.int (Int32.ofNat raw)), .val (.ref d1), .val (.int (Int32.ofNat ll)), .val (.int (Int32.ofNat xx)), .val (.int v11), .val (.int t2), .val (.int (Int32.ofNat (2 + ll + xx))), .val (.ref ba), .unset, .unset] [])) _
          refine XS.aload X.here hx rfl (hb hby at_182) rfl rfl ?_
          show Steps p.tables e below (T36.setTop (mkF m 184 #[.val (.int y0), .val (.int y1), .val (.int y2), .val (.int y3), .val (.long y4), .second, .val (.int y5), .val (.int (Int32.ofNat raw)), .val (.ref d1), .val (.int (Int32.ofNat ll)), .val (.int (Int32.ofNat xx)), .val (.int v11), .val (.int t2), .val (.int (Int32.ofNat (2 + ll + xx))), .val (.ref ba), .unset, .unset] [(.ref ba)])) _
          refine XS.iconst X.here hx rfl (hb hby at_184) ?_
          show Steps p.tables e below (T36.setTop (mkF m 185 #[.val (.int y0), .val (.int y1), .val (.int y2), .val (.int y3), .val (.long y4), .second, .val (.int y5), .val (.int (Int32.ofNat raw)), .val (.ref d1), .val (.int (Int32.ofNat ll)), .val (.int (Int32.ofNat xx)), .val (.int v11), .val (.int t2), .val (.int (Int32.ofNat (2 + ll + xx))), .val (.ref ba), .unset, .unset] [(.int (5 : Int32)), (.ref ba)])) _
          refine XS.lload X.here hx rfl (hb hby at_185) rfl ?_
          show Steps p.tables e below (T36.setTop (mkF m 187 #[.val (.int y0), .val (.int y1), .val (.int y2), .val (.int y3), .val (.long y4), .second, .val (.int y5), .val (.int (Int32.ofNat raw)), .val (.ref d1), .val (.int (Int32.ofNat ll)), .val (.int (Int32.ofNat xx)), .val (.int v11), .val (.int t2), .val (.int (Int32.ofNat (2 + ll + xx))), .val (.ref ba), .unset, .unset] [(.long y4), (.int (5 : Int32)), (.ref ba)])) _
          refine XS.bipush X.here hx rfl (hb hby at_187) ?_
          show Steps p.tables e below (T36.setTop (mkF m 189 #[.val (.int y0), .val (.int y1), .val (.int y2), .val (.int y3), .val (.long y4), .second, .val (.int y5), .val (.int (Int32.ofNat raw)), .val (.ref d1), .val (.int (Int32.ofNat ll)), .val (.int (Int32.ofNat xx)), .val (.int v11), .val (.int t2), .val (.int (Int32.ofNat (2 + ll + xx))), .val (.ref ba), .unset, .unset] [(.int (40 : Int32)), (.long y4), (.int (5 : Int32)), (.ref ba)])) _
          refine XS.lushr X.here hx rfl (hb hby at_189) rfl ?_
          show Steps p.tables e below (T36.setTop (mkF m 190 #[.val (.int y0), .val (.int y1), .val (.int y2), .val (.int y3), .val (.long y4), .second, .val (.int y5), .val (.int (Int32.ofNat raw)), .val (.ref d1), .val (.int (Int32.ofNat ll)), .val (.int (Int32.ofNat xx)), .val (.int v11), .val (.int t2), .val (.int (Int32.ofNat (2 + ll + xx))), .val (.ref ba), .unset, .unset] [(.long ((y4.toUInt64 >>> ((40 : Int32) &&& 0x3f).toInt64.toUInt64).toInt64)), (.int (5 : Int32)), (.ref ba)])) _
          refine XS.l2i X.here hx rfl (hb hby at_190) rfl ?_
          show Steps p.tables e below (T36.setTop (mkF m 191 #[.val (.int y0), .val (.int y1), .val (.int y2), .val (.int y3), .val (.long y4), .second, .val (.int y5), .val (.int (Int32.ofNat raw)), .val (.ref d1), .val (.int (Int32.ofNat ll)), .val (.int (Int32.ofNat xx)), .val (.int v11), .val (.int t2), .val (.int (Int32.ofNat (2 + ll + xx))), .val (.ref ba), .unset, .unset] [(.int (((y4.toUInt64 >>> ((40 : Int32) &&& 0x3f).toInt64.toUInt64).toInt64).toInt32)), (.int (5 : Int32)), (.ref ba)])) _
          refine XS.i2b X.here hx rfl (hb hby at_191) rfl ?_
          exact k)
      obtain ⟨cl46, Ar46, hin46, hat46⟩ := own_rd (by omega) V_ba 5 z rfl
      obtain ⟨T47, h48, X, eh, W46, sx⟩ := stB X hx hZ eh Ar46 (j := Int32.ofNat 5) hin46 (g := (mkF m 192 #[.val (.int y0), .val (.int y1), .val (.int y2), .val (.int y3), .val (.long y4), .second, .val (.int y5), .val (.int (Int32.ofNat raw)), .val (.ref d1), .val (.int (Int32.ofNat ll)), .val (.int (Int32.ofNat xx)), .val (.int v11), .val (.int t2), .val (.int (Int32.ofNat (2 + ll + xx))), .val (.ref ba), .unset, .unset] [(.int ((((y4.toUInt64 >>> ((40 : Int32) &&& 0x3f).toInt64.toUInt64).toInt64).toInt32).toInt8.toInt32)), (.int (5 : Int32)), (.ref ba)])) rfl rfl (hb hby at_192)
      have st : ∀ t, Steps p.tables e below (T47.setTop (mkF m 193 #[.val (.int y0), .val (.int y1), .val (.int y2), .val (.int y3), .val (.long y4), .second, .val (.int y5), .val (.int (Int32.ofNat raw)), .val (.ref d1), .val (.int (Int32.ofNat ll)), .val (.int (Int32.ofNat xx)), .val (.int v11), .val (.int t2), .val (.int (Int32.ofNat (2 + ll + xx))), .val (.ref ba), .unset, .unset] [])) t → Steps p.tables e below (T36.setTop (mkF m 176 #[.val (.int y0), .val (.int y1), .val (.int y2), .val (.int y3), .val (.long y4), .second, .val (.int y5), .val (.int (Int32.ofNat raw)), .val (.ref d1), .val (.int (Int32.ofNat ll)), .val (.int (Int32.ofNat xx)), .val (.int v11), .val (.int t2), .val (.int (Int32.ofNat (2 + ll + xx))), .val (.ref ba), .unset, .unset] [])) t := fun t k => st t (sx t k)
      have Z0 := Nat.le_trans Z0 (Keep.of_wr W46).1
      have V_ba := own_st (by omega) V_ba 5 z (by omega) W46
      have N := Fr.snoc X N g_ba
      exact ⟨T47, h48, _, _, X, N, eh, Z0, V_ba, (by rw [List.length_set]; exact hl1), (own_getset (by decide) hv0), (own_getset (by decide) hv1), st⟩
    · have st : ∀ t, Steps p.tables e below (T36.setTop (mkF m 193 #[.val (.int y0), .val (.int y1), .val (.int y2), .val (.int y3), .val (.long y4), .second, .val (.int y5), .val (.int (Int32.ofNat raw)), .val (.ref d1), .val (.int (Int32.ofNat ll)), .val (.int (Int32.ofNat xx)), .val (.int v11), .val (.int t2), .val (.int (Int32.ofNat (2 + ll + xx))), .val (.ref ba), .unset, .unset] [])) t → Steps p.tables e below (T36.setTop (mkF m 176 #[.val (.int y0), .val (.int y1), .val (.int y2), .val (.int y3), .val (.long y4), .second, .val (.int y5), .val (.int (Int32.ofNat raw)), .val (.ref d1), .val (.int (Int32.ofNat ll)), .val (.int (Int32.ofNat xx)), .val (.int v11), .val (.int t2), .val (.int (Int32.ofNat (2 + ll + xx))), .val (.ref ba), .unset, .unset] [])) t := fun t k => st t (by
          show Steps p.tables e below (T36.setTop (mkF m 179 #[.val (.int y0), .val (.int y1), .val (.int y2), .val (.int y3), .val (.long y4), .second, .val (.int y5), .val (.int (Int32.ofNat raw)), .val (.ref d1), .val (.int (Int32.ofNat ll)), .val (.int (Int32.ofNat xx)), .val (.int v11), .val (.int t2), .val (.int (Int32.ofNat (2 + ll + xx))), .val (.ref ba), .unset, .unset] [(.int (Int32.ofNat (2 + ll + xx))), (.int (5 : Int32))])) _
          refine XS.icmpYes X.here hx rfl (pc0 := 179) (pc' := 193) rfl (hb hby at_179) rfl (flt hq).2.1 (by decide) (by decide) ?_
          exact k)
      exact ⟨T36, h37, _, vs4, X, N, eh, Z0, V_ba, hl1, hv0, hv1, st⟩
  have st : ∀ t, Steps p.tables e below (T43.setTop (mkF m 193 #[.val (.int y0), .val (.int y1), .val (.int y2), .val (.int y3), .val (.long y4), .second, .val (.int y5), .val (.int (Int32.ofNat raw)), .val (.ref d1), .val (.int (Int32.ofNat ll)), .val (.int (Int32.ofNat xx)), .val (.int v11), .val (.int t2), .val (.int (Int32.ofNat (2 + ll + xx))), .val (.ref ba), .unset, .unset] [])) t → Steps p.tables e below (s₁.setTop (mkF m 0 #[.val (.int y0), .val (.int y1), .val (.int y2), .val (.int y3), .val (.long y4), .second, .val (.int y5), .unset, .unset, .unset, .unset, .unset, .unset, .unset, .unset, .unset, .unset] [])) t := fun t k => st t (sx t k)
  obtain ⟨lo49, X, N⟩ : ∃ loX, Stand p l e room_1 s m #[(.int y0), (.int y1), (.int y2), (.int y3), (.long y4), (.int y5)] below meth cd0 T43 loX 3 14 ∧ Fr n0 loX := ⟨_, X, N⟩
  obtain ⟨T50, h51, lo52, vs6, X, N, eh, Z0, V_ba, hl1, hv0, hv1, sx⟩ : ∃ (T50 : State) (h51 : Heap) (lo52 : List Loc) (vs6 : List Value), Stand p l e room_1 s m #[(.int y0), (.int y1), (.int y2), (.int y3), (.long y4), (.int y5)] below meth cd0 T50 lo52 3 14 ∧ Fr n0 lo52 ∧ T50.heap = h51 ∧ n0 ≤ h51.size ∧ Arv Z h51 ba k_ba .byte (Int32.ofNat (2 + ll + xx)) vs6 (.int (0 : Int32)) ∧ vs6.length = 8 ∧ vs6.getD 0 (.int (0 : Int32)) = .int (nar .byte (t2.toInt8.toInt32)) ∧ vs6.getD 1 (.int (0 : Int32)) = .int (nar .byte ((Int32.ofNat ll).toInt8.toInt32)) ∧ (∀ t, Steps p.tables e below (T50.setTop (mkF m 212 #[.val (.int y0), .val (.int y1), .val (.int y2), .val (.int y3), .val (.long y4), .second, .val (.int y5), .val (.int (Int32.ofNat raw)), .val (.ref d1), .val (.int (Int32.ofNat ll)), .val (.int (Int32.ofNat xx)), .val (.int v11), .val (.int t2), .val (.int (Int32.ofNat (2 + ll + xx))), .val (.ref ba), .unset, .unset] [])) t → Steps p.tables e below (T43.setTop (mkF m 193 #[.val (.int y0), .val (.int y1), .val (.int y2), .val (.int y3), .val (.long y4), .second, .val (.int y5), .val (.int (Int32.ofNat raw)), .val (.ref d1), .val (.int (Int32.ofNat ll)), .val (.int (Int32.ofNat xx)), .val (.int v11), .val (.int t2), .val (.int (Int32.ofNat (2 + ll + xx))), .val (.ref ba), .unset, .unset] [])) t) := by
    have st : ∀ t, Steps p.tables e below (T43.setTop (mkF m 193 #[.val (.int y0), .val (.int y1), .val (.int y2), .val (.int y3), .val (.long y4), .second, .val (.int y5), .val (.int (Int32.ofNat raw)), .val (.ref d1), .val (.int (Int32.ofNat ll)), .val (.int (Int32.ofNat xx)), .val (.int v11), .val (.int t2), .val (.int (Int32.ofNat (2 + ll + xx))), .val (.ref ba), .unset, .unset] [])) t → Steps p.tables e below (T43.setTop (mkF m 193 #[.val (.int y0), .val (.int y1), .val (.int y2), .val (.int y3), .val (.long y4), .second, .val (.int y5), .val (.int (Int32.ofNat raw)), .val (.ref d1), .val (.int (Int32.ofNat ll)), .val (.int (Int32.ofNat xx)), .val (.int v11), .val (.int t2), .val (.int (Int32.ofNat (2 + ll + xx))), .val (.ref ba), .unset, .unset] [])) t := fun t k => k
    have st : ∀ t, Steps p.tables e below (T43.setTop (mkF m 197 #[.val (.int y0), .val (.int y1), .val (.int y2), .val (.int y3), .val (.long y4), .second, .val (.int y5), .val (.int (Int32.ofNat raw)), .val (.ref d1), .val (.int (Int32.ofNat ll)), .val (.int (Int32.ofNat xx)), .val (.int v11), .val (.int t2), .val (.int (Int32.ofNat (2 + ll + xx))), .val (.ref ba), .unset, .unset] [(.int (Int32.ofNat (2 + ll + xx))), (.int (6 : Int32))])) t → Steps p.tables e below (T43.setTop (mkF m 193 #[.val (.int y0), .val (.int y1), .val (.int y2), .val (.int y3), .val (.long y4), .second, .val (.int y5), .val (.int (Int32.ofNat raw)), .val (.ref d1), .val (.int (Int32.ofNat ll)), .val (.int (Int32.ofNat xx)), .val (.int v11), .val (.int t2), .val (.int (Int32.ofNat (2 + ll + xx))), .val (.ref ba), .unset, .unset] [])) t := fun t k => st t (by
        show Steps p.tables e below (T43.setTop (mkF m 193 #[.val (.int y0), .val (.int y1), .val (.int y2), .val (.int y3), .val (.long y4), .second, .val (.int y5), .val (.int (Int32.ofNat raw)), .val (.ref d1), .val (.int (Int32.ofNat ll)), .val (.int (Int32.ofNat xx)), .val (.int v11), .val (.int t2), .val (.int (Int32.ofNat (2 + ll + xx))), .val (.ref ba), .unset, .unset] [])) _
        refine XS.bipush X.here hx rfl (hb hby at_193) ?_
        show Steps p.tables e below (T43.setTop (mkF m 195 #[.val (.int y0), .val (.int y1), .val (.int y2), .val (.int y3), .val (.long y4), .second, .val (.int y5), .val (.int (Int32.ofNat raw)), .val (.ref d1), .val (.int (Int32.ofNat ll)), .val (.int (Int32.ofNat xx)), .val (.int v11), .val (.int t2), .val (.int (Int32.ofNat (2 + ll + xx))), .val (.ref ba), .unset, .unset] [(.int (6 : Int32))])) _
        refine XS.iload X.here hx rfl (hb hby at_195) rfl ?_
        exact k)
    by_cases hq : (6 : Int32) < (Int32.ofNat (2 + ll + xx))
    · have z : 6 < 2 + ll + xx := (own_lt (i := 6) (by decide) (by omega)).mp hq
      have st : ∀ t, Steps p.tables e below (T43.setTop (mkF m 211 #[.val (.int y0), .val (.int y1), .val (.int y2), .val (.int y3), .val (.long y4), .second, .val (.int y5), .val (.int (Int32.ofNat raw)), .val (.ref d1), .val (.int (Int32.ofNat ll)), .val (.int (Int32.ofNat xx)), .val (.int v11), .val (.int t2), .val (.int (Int32.ofNat (2 + ll + xx))), .val (.ref ba), .unset, .unset] [(.int ((((y4.toUInt64 >>> ((48 : Int32) &&& 0x3f).toInt64.toUInt64).toInt64).toInt32).toInt8.toInt32)), (.int (6 : Int32)), (.ref ba)])) t → Steps p.tables e below (T43.setTop (mkF m 193 #[.val (.int y0), .val (.int y1), .val (.int y2), .val (.int y3), .val (.long y4), .second, .val (.int y5), .val (.int (Int32.ofNat raw)), .val (.ref d1), .val (.int (Int32.ofNat ll)), .val (.int (Int32.ofNat xx)), .val (.int v11), .val (.int t2), .val (.int (Int32.ofNat (2 + ll + xx))), .val (.ref ba), .unset, .unset] [])) t := fun t k => st t (by
          show Steps p.tables e below (T43.setTop (mkF m 197 #[.val (.int y0), .val (.int y1), .val (.int y2), .val (.int y3), .val (.long y4), .second, .val (.int y5), .val (.int (Int32.ofNat raw)), .val (.ref d1), .val (.int (Int32.ofNat ll)), .val (.int (Int32.ofNat xx)), .val (.int v11), .val (.int t2), .val (.int (Int32.ofNat (2 + ll + xx))), .val (.ref ba), .unset, .unset] [(.int (Int32.ofNat (2 + ll + xx))), (.int (6 : Int32))])) _
          refine XS.icmpNo X.here hx rfl (hb hby at_197) rfl (tlt hq).2.1 ?_
          show Steps p.tables e below (T43.setTop (mkF m 200 #[.val (.int y0), .val (.int y1), .val (.int y2), .val (.int y3), .val (.long y4), .second, .val (.int y5), .val (.int (Int32.ofNat raw)), .val (.ref d1), .val (.int (Int32.ofNat ll)), .val (.int (Int32.ofNat xx)), .val (.int v11), .val (.int t2), .val (.int (Int32.ofNat (2 + ll + xx))), .val (.ref ba), .unset, .unset] [])) _
          refine XS.aload X.here hx rfl (hb hby at_200) rfl rfl ?_
          show Steps p.tables e below (T43.setTop (mkF m 202 #[.val (.int y0), .val (.int y1), .val (.int y2), .val (.int y3), .val (.long y4), .second, .val (.int y5), .val (.int (Int32.ofNat raw)), .val (.ref d1), .val (.int (Int32.ofNat ll)), .val (.int (Int32.ofNat xx)), .val (.int v11), .val (.int t2), .val (.int (Int32.ofNat (2 + ll + xx))), .val (.ref ba), .unset, .unset] [(.ref ba)])) _
          refine XS.bipush X.here hx rfl (hb hby at_202) ?_
          show Steps p.tables e below (T43.setTop (mkF m 204 #[.val (.int y0), .val (.int y1), .val (.int y2), .val (.int y3), .val (.long y4), .second, .val (.int y5), .val (.int (Int32.ofNat raw)), .val (.ref d1), .val (.int (Int32.ofNat ll)), .val (.int (Int32.ofNat xx)), .val (.int v11), .val (.int t2), .val (.int (Int32.ofNat (2 + ll + xx))), .val (.ref ba), .unset, .unset] [(.int (6 : Int32)), (.ref ba)])) _
          refine XS.lload X.here hx rfl (hb hby at_204) rfl ?_
          show Steps p.tables e below (T43.setTop (mkF m 206 #[.val (.int y0), .val (.int y1), .val (.int y2), .val (.int y3), .val (.long y4), .second, .val (.int y5), .val (.int (Int32.ofNat raw)), .val (.ref d1), .val (.int (Int32.ofNat ll)), .val (.int (Int32.ofNat xx)), .val (.int v11), .val (.int t2), .val (.int (Int32.ofNat (2 + ll + xx))), .val (.ref ba), .unset, .unset] [(.long y4), (.int (6 : Int32)), (.ref ba)])) _
          refine XS.bipush X.here hx rfl (hb hby at_206) ?_
          show Steps p.tables e below (T43.setTop (mkF m 208 #[.val (.int y0), .val (.int y1), .val (.int y2), .val (.int y3), .val (.long y4), .second, .val (.int y5), .val (.int (Int32.ofNat raw)), .val (.ref d1), .val (.int (Int32.ofNat ll)), .val (.int (Int32.ofNat xx)), .val (.int v11), .val (.int t2), .val (.int (Int32.ofNat (2 + ll + xx))), .val (.ref ba), .unset, .unset] [(.int (48 : Int32)), (.long y4), (.int (6 : Int32)), (.ref ba)])) _
          refine XS.lushr X.here hx rfl (hb hby at_208) rfl ?_
          show Steps p.tables e below (T43.setTop (mkF m 209 #[.val (.int y0), .val (.int y1), .val (.int y2), .val (.int y3), .val (.long y4), .second, .val (.int y5), .val (.int (Int32.ofNat raw)), .val (.ref d1), .val (.int (Int32.ofNat ll)), .val (.int (Int32.ofNat xx)), .val (.int v11), .val (.int t2), .val (.int (Int32.ofNat (2 + ll + xx))), .val (.ref ba), .unset, .unset] [(.long ((y4.toUInt64 >>> ((48 : Int32) &&& 0x3f).toInt64.toUInt64).toInt64)), (.int (6 : Int32)), (.ref ba)])) _
          refine XS.l2i X.here hx rfl (hb hby at_209) rfl ?_
          show Steps p.tables e below (T43.setTop (mkF m 210 #[.val (.int y0), .val (.int y1), .val (.int y2), .val (.int y3), .val (.long y4), .second, .val (.int y5), .val (.int (Int32.ofNat raw)), .val (.ref d1), .val (.int (Int32.ofNat ll)), .val (.int (Int32.ofNat xx)), .val (.int v11), .val (.int t2), .val (.int (Int32.ofNat (2 + ll + xx))), .val (.ref ba), .unset, .unset] [(.int (((y4.toUInt64 >>> ((48 : Int32) &&& 0x3f).toInt64.toUInt64).toInt64).toInt32)), (.int (6 : Int32)), (.ref ba)])) _
          refine XS.i2b X.here hx rfl (hb hby at_210) rfl ?_
          exact k)
      obtain ⟨cl53, Ar53, hin53, hat53⟩ := own_rd (by omega) V_ba 6 z rfl
      obtain ⟨T54, h55, X, eh, W53, sx⟩ := stB X hx hZ eh Ar53 (j := Int32.ofNat 6) hin53 (g := (mkF m 211 #[.val (.int y0), .val (.int y1), .val (.int y2), .val (.int y3), .val (.long y4), .second, .val (.int y5), .val (.int (Int32.ofNat raw)), .val (.ref d1), .val (.int (Int32.ofNat ll)), .val (.int (Int32.ofNat xx)), .val (.int v11), .val (.int t2), .val (.int (Int32.ofNat (2 + ll + xx))), .val (.ref ba), .unset, .unset] [(.int ((((y4.toUInt64 >>> ((48 : Int32) &&& 0x3f).toInt64.toUInt64).toInt64).toInt32).toInt8.toInt32)), (.int (6 : Int32)), (.ref ba)])) rfl rfl (hb hby at_211)
      have st : ∀ t, Steps p.tables e below (T54.setTop (mkF m 212 #[.val (.int y0), .val (.int y1), .val (.int y2), .val (.int y3), .val (.long y4), .second, .val (.int y5), .val (.int (Int32.ofNat raw)), .val (.ref d1), .val (.int (Int32.ofNat ll)), .val (.int (Int32.ofNat xx)), .val (.int v11), .val (.int t2), .val (.int (Int32.ofNat (2 + ll + xx))), .val (.ref ba), .unset, .unset] [])) t → Steps p.tables e below (T43.setTop (mkF m 193 #[.val (.int y0), .val (.int y1), .val (.int y2), .val (.int y3), .val (.long y4), .second, .val (.int y5), .val (.int (Int32.ofNat raw)), .val (.ref d1), .val (.int (Int32.ofNat ll)), .val (.int (Int32.ofNat xx)), .val (.int v11), .val (.int t2), .val (.int (Int32.ofNat (2 + ll + xx))), .val (.ref ba), .unset, .unset] [])) t := fun t k => st t (sx t k)
      have Z0 := Nat.le_trans Z0 (Keep.of_wr W53).1
      have V_ba := own_st (by omega) V_ba 6 z (by omega) W53
      have N := Fr.snoc X N g_ba
      exact ⟨T54, h55, _, _, X, N, eh, Z0, V_ba, (by rw [List.length_set]; exact hl1), (own_getset (by decide) hv0), (own_getset (by decide) hv1), st⟩
    · have st : ∀ t, Steps p.tables e below (T43.setTop (mkF m 212 #[.val (.int y0), .val (.int y1), .val (.int y2), .val (.int y3), .val (.long y4), .second, .val (.int y5), .val (.int (Int32.ofNat raw)), .val (.ref d1), .val (.int (Int32.ofNat ll)), .val (.int (Int32.ofNat xx)), .val (.int v11), .val (.int t2), .val (.int (Int32.ofNat (2 + ll + xx))), .val (.ref ba), .unset, .unset] [])) t → Steps p.tables e below (T43.setTop (mkF m 193 #[.val (.int y0), .val (.int y1), .val (.int y2), .val (.int y3), .val (.long y4), .second, .val (.int y5), .val (.int (Int32.ofNat raw)), .val (.ref d1), .val (.int (Int32.ofNat ll)), .val (.int (Int32.ofNat xx)), .val (.int v11), .val (.int t2), .val (.int (Int32.ofNat (2 + ll + xx))), .val (.ref ba), .unset, .unset] [])) t := fun t k => st t (by
          show Steps p.tables e below (T43.setTop (mkF m 197 #[.val (.int y0), .val (.int y1), .val (.int y2), .val (.int y3), .val (.long y4), .second, .val (.int y5), .val (.int (Int32.ofNat raw)), .val (.ref d1), .val (.int (Int32.ofNat ll)), .val (.int (Int32.ofNat xx)), .val (.int v11), .val (.int t2), .val (.int (Int32.ofNat (2 + ll + xx))), .val (.ref ba), .unset, .unset] [(.int (Int32.ofNat (2 + ll + xx))), (.int (6 : Int32))])) _
          refine XS.icmpYes X.here hx rfl (pc0 := 197) (pc' := 212) rfl (hb hby at_197) rfl (flt hq).2.1 (by decide) (by decide) ?_
          exact k)
      exact ⟨T43, h44, _, vs5, X, N, eh, Z0, V_ba, hl1, hv0, hv1, st⟩
  have st : ∀ t, Steps p.tables e below (T50.setTop (mkF m 212 #[.val (.int y0), .val (.int y1), .val (.int y2), .val (.int y3), .val (.long y4), .second, .val (.int y5), .val (.int (Int32.ofNat raw)), .val (.ref d1), .val (.int (Int32.ofNat ll)), .val (.int (Int32.ofNat xx)), .val (.int v11), .val (.int t2), .val (.int (Int32.ofNat (2 + ll + xx))), .val (.ref ba), .unset, .unset] [])) t → Steps p.tables e below (s₁.setTop (mkF m 0 #[.val (.int y0), .val (.int y1), .val (.int y2), .val (.int y3), .val (.long y4), .second, .val (.int y5), .unset, .unset, .unset, .unset, .unset, .unset, .unset, .unset, .unset, .unset] [])) t := fun t k => st t (sx t k)
  obtain ⟨lo56, X, N⟩ : ∃ loX, Stand p l e room_1 s m #[(.int y0), (.int y1), (.int y2), (.int y3), (.long y4), (.int y5)] below meth cd0 T50 loX 3 14 ∧ Fr n0 loX := ⟨_, X, N⟩
  obtain ⟨T57, h58, lo59, vs7, X, N, eh, Z0, V_ba, hl1, hv0, hv1, sx⟩ : ∃ (T57 : State) (h58 : Heap) (lo59 : List Loc) (vs7 : List Value), Stand p l e room_1 s m #[(.int y0), (.int y1), (.int y2), (.int y3), (.long y4), (.int y5)] below meth cd0 T57 lo59 3 14 ∧ Fr n0 lo59 ∧ T57.heap = h58 ∧ n0 ≤ h58.size ∧ Arv Z h58 ba k_ba .byte (Int32.ofNat (2 + ll + xx)) vs7 (.int (0 : Int32)) ∧ vs7.length = 8 ∧ vs7.getD 0 (.int (0 : Int32)) = .int (nar .byte (t2.toInt8.toInt32)) ∧ vs7.getD 1 (.int (0 : Int32)) = .int (nar .byte ((Int32.ofNat ll).toInt8.toInt32)) ∧ (∀ t, Steps p.tables e below (T57.setTop (mkF m 231 #[.val (.int y0), .val (.int y1), .val (.int y2), .val (.int y3), .val (.long y4), .second, .val (.int y5), .val (.int (Int32.ofNat raw)), .val (.ref d1), .val (.int (Int32.ofNat ll)), .val (.int (Int32.ofNat xx)), .val (.int v11), .val (.int t2), .val (.int (Int32.ofNat (2 + ll + xx))), .val (.ref ba), .unset, .unset] [])) t → Steps p.tables e below (T50.setTop (mkF m 212 #[.val (.int y0), .val (.int y1), .val (.int y2), .val (.int y3), .val (.long y4), .second, .val (.int y5), .val (.int (Int32.ofNat raw)), .val (.ref d1), .val (.int (Int32.ofNat ll)), .val (.int (Int32.ofNat xx)), .val (.int v11), .val (.int t2), .val (.int (Int32.ofNat (2 + ll + xx))), .val (.ref ba), .unset, .unset] [])) t) := by
    have st : ∀ t, Steps p.tables e below (T50.setTop (mkF m 212 #[.val (.int y0), .val (.int y1), .val (.int y2), .val (.int y3), .val (.long y4), .second, .val (.int y5), .val (.int (Int32.ofNat raw)), .val (.ref d1), .val (.int (Int32.ofNat ll)), .val (.int (Int32.ofNat xx)), .val (.int v11), .val (.int t2), .val (.int (Int32.ofNat (2 + ll + xx))), .val (.ref ba), .unset, .unset] [])) t → Steps p.tables e below (T50.setTop (mkF m 212 #[.val (.int y0), .val (.int y1), .val (.int y2), .val (.int y3), .val (.long y4), .second, .val (.int y5), .val (.int (Int32.ofNat raw)), .val (.ref d1), .val (.int (Int32.ofNat ll)), .val (.int (Int32.ofNat xx)), .val (.int v11), .val (.int t2), .val (.int (Int32.ofNat (2 + ll + xx))), .val (.ref ba), .unset, .unset] [])) t := fun t k => k
    have st : ∀ t, Steps p.tables e below (T50.setTop (mkF m 216 #[.val (.int y0), .val (.int y1), .val (.int y2), .val (.int y3), .val (.long y4), .second, .val (.int y5), .val (.int (Int32.ofNat raw)), .val (.ref d1), .val (.int (Int32.ofNat ll)), .val (.int (Int32.ofNat xx)), .val (.int v11), .val (.int t2), .val (.int (Int32.ofNat (2 + ll + xx))), .val (.ref ba), .unset, .unset] [(.int (Int32.ofNat (2 + ll + xx))), (.int (7 : Int32))])) t → Steps p.tables e below (T50.setTop (mkF m 212 #[.val (.int y0), .val (.int y1), .val (.int y2), .val (.int y3), .val (.long y4), .second, .val (.int y5), .val (.int (Int32.ofNat raw)), .val (.ref d1), .val (.int (Int32.ofNat ll)), .val (.int (Int32.ofNat xx)), .val (.int v11), .val (.int t2), .val (.int (Int32.ofNat (2 + ll + xx))), .val (.ref ba), .unset, .unset] [])) t := fun t k => st t (by
        show Steps p.tables e below (T50.setTop (mkF m 212 #[.val (.int y0), .val (.int y1), .val (.int y2), .val (.int y3), .val (.long y4), .second, .val (.int y5), .val (.int (Int32.ofNat raw)), .val (.ref d1), .val (.int (Int32.ofNat ll)), .val (.int (Int32.ofNat xx)), .val (.int v11), .val (.int t2), .val (.int (Int32.ofNat (2 + ll + xx))), .val (.ref ba), .unset, .unset] [])) _
        refine XS.bipush X.here hx rfl (hb hby at_212) ?_
        show Steps p.tables e below (T50.setTop (mkF m 214 #[.val (.int y0), .val (.int y1), .val (.int y2), .val (.int y3), .val (.long y4), .second, .val (.int y5), .val (.int (Int32.ofNat raw)), .val (.ref d1), .val (.int (Int32.ofNat ll)), .val (.int (Int32.ofNat xx)), .val (.int v11), .val (.int t2), .val (.int (Int32.ofNat (2 + ll + xx))), .val (.ref ba), .unset, .unset] [(.int (7 : Int32))])) _
        refine XS.iload X.here hx rfl (hb hby at_214) rfl ?_
        exact k)
    by_cases hq : (7 : Int32) < (Int32.ofNat (2 + ll + xx))
    · have z : 7 < 2 + ll + xx := (own_lt (i := 7) (by decide) (by omega)).mp hq
      have st : ∀ t, Steps p.tables e below (T50.setTop (mkF m 230 #[.val (.int y0), .val (.int y1), .val (.int y2), .val (.int y3), .val (.long y4), .second, .val (.int y5), .val (.int (Int32.ofNat raw)), .val (.ref d1), .val (.int (Int32.ofNat ll)), .val (.int (Int32.ofNat xx)), .val (.int v11), .val (.int t2), .val (.int (Int32.ofNat (2 + ll + xx))), .val (.ref ba), .unset, .unset] [(.int ((((y4.toUInt64 >>> ((56 : Int32) &&& 0x3f).toInt64.toUInt64).toInt64).toInt32).toInt8.toInt32)), (.int (7 : Int32)), (.ref ba)])) t → Steps p.tables e below (T50.setTop (mkF m 212 #[.val (.int y0), .val (.int y1), .val (.int y2), .val (.int y3), .val (.long y4), .second, .val (.int y5), .val (.int (Int32.ofNat raw)), .val (.ref d1), .val (.int (Int32.ofNat ll)), .val (.int (Int32.ofNat xx)), .val (.int v11), .val (.int t2), .val (.int (Int32.ofNat (2 + ll + xx))), .val (.ref ba), .unset, .unset] [])) t := fun t k => st t (by
          show Steps p.tables e below (T50.setTop (mkF m 216 #[.val (.int y0), .val (.int y1), .val (.int y2), .val (.int y3), .val (.long y4), .second, .val (.int y5), .val (.int (Int32.ofNat raw)), .val (.ref d1), .val (.int (Int32.ofNat ll)), .val (.int (Int32.ofNat xx)), .val (.int v11), .val (.int t2), .val (.int (Int32.ofNat (2 + ll + xx))), .val (.ref ba), .unset, .unset] [(.int (Int32.ofNat (2 + ll + xx))), (.int (7 : Int32))])) _
          refine XS.icmpNo X.here hx rfl (hb hby at_216) rfl (tlt hq).2.1 ?_
          show Steps p.tables e below (T50.setTop (mkF m 219 #[.val (.int y0), .val (.int y1), .val (.int y2), .val (.int y3), .val (.long y4), .second, .val (.int y5), .val (.int (Int32.ofNat raw)), .val (.ref d1), .val (.int (Int32.ofNat ll)), .val (.int (Int32.ofNat xx)), .val (.int v11), .val (.int t2), .val (.int (Int32.ofNat (2 + ll + xx))), .val (.ref ba), .unset, .unset] [])) _
          refine XS.aload X.here hx rfl (hb hby at_219) rfl rfl ?_
          show Steps p.tables e below (T50.setTop (mkF m 221 #[.val (.int y0), .val (.int y1), .val (.int y2), .val (.int y3), .val (.long y4), .second, .val (.int y5), .val (.int (Int32.ofNat raw)), .val (.ref d1), .val (.int (Int32.ofNat ll)), .val (.int (Int32.ofNat xx)), .val (.int v11), .val (.int t2), .val (.int (Int32.ofNat (2 + ll + xx))), .val (.ref ba), .unset, .unset] [(.ref ba)])) _
          refine XS.bipush X.here hx rfl (hb hby at_221) ?_
          show Steps p.tables e below (T50.setTop (mkF m 223 #[.val (.int y0), .val (.int y1), .val (.int y2), .val (.int y3), .val (.long y4), .second, .val (.int y5), .val (.int (Int32.ofNat raw)), .val (.ref d1), .val (.int (Int32.ofNat ll)), .val (.int (Int32.ofNat xx)), .val (.int v11), .val (.int t2), .val (.int (Int32.ofNat (2 + ll + xx))), .val (.ref ba), .unset, .unset] [(.int (7 : Int32)), (.ref ba)])) _
          refine XS.lload X.here hx rfl (hb hby at_223) rfl ?_
          show Steps p.tables e below (T50.setTop (mkF m 225 #[.val (.int y0), .val (.int y1), .val (.int y2), .val (.int y3), .val (.long y4), .second, .val (.int y5), .val (.int (Int32.ofNat raw)), .val (.ref d1), .val (.int (Int32.ofNat ll)), .val (.int (Int32.ofNat xx)), .val (.int v11), .val (.int t2), .val (.int (Int32.ofNat (2 + ll + xx))), .val (.ref ba), .unset, .unset] [(.long y4), (.int (7 : Int32)), (.ref ba)])) _
          refine XS.bipush X.here hx rfl (hb hby at_225) ?_
          show Steps p.tables e below (T50.setTop (mkF m 227 #[.val (.int y0), .val (.int y1), .val (.int y2), .val (.int y3), .val (.long y4), .second, .val (.int y5), .val (.int (Int32.ofNat raw)), .val (.ref d1), .val (.int (Int32.ofNat ll)), .val (.int (Int32.ofNat xx)), .val (.int v11), .val (.int t2), .val (.int (Int32.ofNat (2 + ll + xx))), .val (.ref ba), .unset, .unset] [(.int (56 : Int32)), (.long y4), (.int (7 : Int32)), (.ref ba)])) _
          refine XS.lushr X.here hx rfl (hb hby at_227) rfl ?_
          show Steps p.tables e below (T50.setTop (mkF m 228 #[.val (.int y0), .val (.int y1), .val (.int y2), .val (.int y3), .val (.long y4), .second, .val (.int y5), .val (.int (Int32.ofNat raw)), .val (.ref d1), .val (.int (Int32.ofNat ll)), .val (.int (Int32.ofNat xx)), .val (.int v11), .val (.int t2), .val (.int (Int32.ofNat (2 + ll + xx))), .val (.ref ba), .unset, .unset] [(.long ((y4.toUInt64 >>> ((56 : Int32) &&& 0x3f).toInt64.toUInt64).toInt64)), (.int (7 : Int32)), (.ref ba)])) _
          refine XS.l2i X.here hx rfl (hb hby at_228) rfl ?_
          show Steps p.tables e below (T50.setTop (mkF m 229 #[.val (.int y0), .val (.int y1), .val (.int y2), .val (.int y3), .val (.long y4), .second, .val (.int y5), .val (.int (Int32.ofNat raw)), .val (.ref d1), .val (.int (Int32.ofNat ll)), .val (.int (Int32.ofNat xx)), .val (.int v11), .val (.int t2), .val (.int (Int32.ofNat (2 + ll + xx))), .val (.ref ba), .unset, .unset] [(.int (((y4.toUInt64 >>> ((56 : Int32) &&& 0x3f).toInt64.toUInt64).toInt64).toInt32)), (.int (7 : Int32)), (.ref ba)])) _
          refine XS.i2b X.here hx rfl (hb hby at_229) rfl ?_
          exact k)
      obtain ⟨cl60, Ar60, hin60, hat60⟩ := own_rd (by omega) V_ba 7 z rfl
      obtain ⟨T61, h62, X, eh, W60, sx⟩ := stB X hx hZ eh Ar60 (j := Int32.ofNat 7) hin60 (g := (mkF m 230 #[.val (.int y0), .val (.int y1), .val (.int y2), .val (.int y3), .val (.long y4), .second, .val (.int y5), .val (.int (Int32.ofNat raw)), .val (.ref d1), .val (.int (Int32.ofNat ll)), .val (.int (Int32.ofNat xx)), .val (.int v11), .val (.int t2), .val (.int (Int32.ofNat (2 + ll + xx))), .val (.ref ba), .unset, .unset] [(.int ((((y4.toUInt64 >>> ((56 : Int32) &&& 0x3f).toInt64.toUInt64).toInt64).toInt32).toInt8.toInt32)), (.int (7 : Int32)), (.ref ba)])) rfl rfl (hb hby at_230)
      have st : ∀ t, Steps p.tables e below (T61.setTop (mkF m 231 #[.val (.int y0), .val (.int y1), .val (.int y2), .val (.int y3), .val (.long y4), .second, .val (.int y5), .val (.int (Int32.ofNat raw)), .val (.ref d1), .val (.int (Int32.ofNat ll)), .val (.int (Int32.ofNat xx)), .val (.int v11), .val (.int t2), .val (.int (Int32.ofNat (2 + ll + xx))), .val (.ref ba), .unset, .unset] [])) t → Steps p.tables e below (T50.setTop (mkF m 212 #[.val (.int y0), .val (.int y1), .val (.int y2), .val (.int y3), .val (.long y4), .second, .val (.int y5), .val (.int (Int32.ofNat raw)), .val (.ref d1), .val (.int (Int32.ofNat ll)), .val (.int (Int32.ofNat xx)), .val (.int v11), .val (.int t2), .val (.int (Int32.ofNat (2 + ll + xx))), .val (.ref ba), .unset, .unset] [])) t := fun t k => st t (sx t k)
      have Z0 := Nat.le_trans Z0 (Keep.of_wr W60).1
      have V_ba := own_st (by omega) V_ba 7 z (by omega) W60
      have N := Fr.snoc X N g_ba
      exact ⟨T61, h62, _, _, X, N, eh, Z0, V_ba, (by rw [List.length_set]; exact hl1), (own_getset (by decide) hv0), (own_getset (by decide) hv1), st⟩
    · have st : ∀ t, Steps p.tables e below (T50.setTop (mkF m 231 #[.val (.int y0), .val (.int y1), .val (.int y2), .val (.int y3), .val (.long y4), .second, .val (.int y5), .val (.int (Int32.ofNat raw)), .val (.ref d1), .val (.int (Int32.ofNat ll)), .val (.int (Int32.ofNat xx)), .val (.int v11), .val (.int t2), .val (.int (Int32.ofNat (2 + ll + xx))), .val (.ref ba), .unset, .unset] [])) t → Steps p.tables e below (T50.setTop (mkF m 212 #[.val (.int y0), .val (.int y1), .val (.int y2), .val (.int y3), .val (.long y4), .second, .val (.int y5), .val (.int (Int32.ofNat raw)), .val (.ref d1), .val (.int (Int32.ofNat ll)), .val (.int (Int32.ofNat xx)), .val (.int v11), .val (.int t2), .val (.int (Int32.ofNat (2 + ll + xx))), .val (.ref ba), .unset, .unset] [])) t := fun t k => st t (by
          show Steps p.tables e below (T50.setTop (mkF m 216 #[.val (.int y0), .val (.int y1), .val (.int y2), .val (.int y3), .val (.long y4), .second, .val (.int y5), .val (.int (Int32.ofNat raw)), .val (.ref d1), .val (.int (Int32.ofNat ll)), .val (.int (Int32.ofNat xx)), .val (.int v11), .val (.int t2), .val (.int (Int32.ofNat (2 + ll + xx))), .val (.ref ba), .unset, .unset] [(.int (Int32.ofNat (2 + ll + xx))), (.int (7 : Int32))])) _
          refine XS.icmpYes X.here hx rfl (pc0 := 216) (pc' := 231) rfl (hb hby at_216) rfl (flt hq).2.1 (by decide) (by decide) ?_
          exact k)
      exact ⟨T50, h51, _, vs6, X, N, eh, Z0, V_ba, hl1, hv0, hv1, st⟩
  have st : ∀ t, Steps p.tables e below (T57.setTop (mkF m 231 #[.val (.int y0), .val (.int y1), .val (.int y2), .val (.int y3), .val (.long y4), .second, .val (.int y5), .val (.int (Int32.ofNat raw)), .val (.ref d1), .val (.int (Int32.ofNat ll)), .val (.int (Int32.ofNat xx)), .val (.int v11), .val (.int t2), .val (.int (Int32.ofNat (2 + ll + xx))), .val (.ref ba), .unset, .unset] [])) t → Steps p.tables e below (s₁.setTop (mkF m 0 #[.val (.int y0), .val (.int y1), .val (.int y2), .val (.int y3), .val (.long y4), .second, .val (.int y5), .unset, .unset, .unset, .unset, .unset, .unset, .unset, .unset, .unset, .unset] [])) t := fun t k => st t (sx t k)
  have hlg : ((nar .byte ((Int32.ofNat ll).toInt8.toInt32)) &&& (255 : Int32)) = Int32.ofNat ll := own_lens ⟨ll, by omega⟩
  have htg : ¬ (((nar .byte (t2.toInt8.toInt32)) &&& (255 : Int32)) &&& (31 : Int32)) = (31 : Int32) := by
    rw [hv_t2]
    split
    · rw [hv_t1]; exact own_tags ⟨tn, by omega⟩
    · exact own_48b
  obtain ⟨T63, h64, X, eh, E65, E_dd, D65, -, sx⟩ := newO X hx hZ hown (hw _ (List.mem_of_getElem? (i := 0) rfl)) (hw _ (List.mem_of_getElem? (i := 1) rfl)) (hw _ (List.mem_of_getElem? (i := 2) rfl)) eh (g := (mkF m 231 #[.val (.int y0), .val (.int y1), .val (.int y2), .val (.int y3), .val (.long y4), .second, .val (.int y5), .val (.int (Int32.ofNat raw)), .val (.ref d1), .val (.int (Int32.ofNat ll)), .val (.int (Int32.ofNat xx)), .val (.int v11), .val (.int t2), .val (.int (Int32.ofNat (2 + ll + xx))), .val (.ref ba), .unset, .unset] [])) rfl (hb hby at_231) (by decide) (by decide)
  obtain ⟨dd, g65⟩ : ∃ z, z = h58.size := ⟨_, rfl⟩
  have ne_ba_dd : ba ≠ dd := fun q => absurd V_ba.lt (by rw [q, g65]; exact Nat.lt_irrefl _)
  have g_dd : n0 ≤ dd := Nat.le_trans Z0 (Nat.le_of_eq g65.symm)
  rw [← g65] at E_dd D65 sx
  have st : ∀ t, Steps p.tables e below (T63.setTop (mkF m 234 #[.val (.int y0), .val (.int y1), .val (.int y2), .val (.int y3), .val (.long y4), .second, .val (.int y5), .val (.int (Int32.ofNat raw)), .val (.ref d1), .val (.int (Int32.ofNat ll)), .val (.int (Int32.ofNat xx)), .val (.int v11), .val (.int t2), .val (.int (Int32.ofNat (2 + ll + xx))), .val (.ref ba), .unset, .unset] [(.ref dd)])) t → Steps p.tables e below (s₁.setTop (mkF m 0 #[.val (.int y0), .val (.int y1), .val (.int y2), .val (.int y3), .val (.long y4), .second, .val (.int y5), .unset, .unset, .unset, .unset, .unset, .unset, .unset, .unset, .unset, .unset] [])) t := fun t k => st t (sx t k)
  have V_ba := V_ba.ext E65
  have Z0 := Nat.le_trans Z0 E65.1
  have F_dd_bytes : Fld Z h64 dd "org/kartenwerk/Der" "bytes" "[B" .null := D65 (Or.inr (hw _ (List.mem_of_getElem? (i := 14) rfl))) (ty := (.array .byte)) (by decide)
  have F_dd_position : Fld Z h64 dd "org/kartenwerk/Der" "position" "I" (.int (0 : Int32)) := D65 (Or.inl (hw _ (List.mem_of_getElem? (i := 16) rfl))) (ty := .int) (by decide)
  have F_dd_end : Fld Z h64 dd "org/kartenwerk/Der" "end" "I" (.int (0 : Int32)) := D65 (Or.inr (hw _ (List.mem_of_getElem? (i := 18) rfl))) (ty := .int) (by decide)
  have st : ∀ t, Steps p.tables e below (T63.setTop (mkF m 237 #[.val (.int y0), .val (.int y1), .val (.int y2), .val (.int y3), .val (.long y4), .second, .val (.int y5), .val (.int (Int32.ofNat raw)), .val (.ref d1), .val (.int (Int32.ofNat ll)), .val (.int (Int32.ofNat xx)), .val (.int v11), .val (.int t2), .val (.int (Int32.ofNat (2 + ll + xx))), .val (.ref ba), .unset, .unset] [(.ref ba), (.ref dd), (.ref dd)])) t → Steps p.tables e below (s₁.setTop (mkF m 0 #[.val (.int y0), .val (.int y1), .val (.int y2), .val (.int y3), .val (.long y4), .second, .val (.int y5), .unset, .unset, .unset, .unset, .unset, .unset, .unset, .unset, .unset, .unset] [])) t := fun t k => st t (by
      show Steps p.tables e below (T63.setTop (mkF m 234 #[.val (.int y0), .val (.int y1), .val (.int y2), .val (.int y3), .val (.long y4), .second, .val (.int y5), .val (.int (Int32.ofNat raw)), .val (.ref d1), .val (.int (Int32.ofNat ll)), .val (.int (Int32.ofNat xx)), .val (.int v11), .val (.int t2), .val (.int (Int32.ofNat (2 + ll + xx))), .val (.ref ba), .unset, .unset] [(.ref dd)])) _
      refine XS.dup X.here hx rfl (hb hby at_234) rfl rfl ?_
      show Steps p.tables e below (T63.setTop (mkF m 235 #[.val (.int y0), .val (.int y1), .val (.int y2), .val (.int y3), .val (.long y4), .second, .val (.int y5), .val (.int (Int32.ofNat raw)), .val (.ref d1), .val (.int (Int32.ofNat ll)), .val (.int (Int32.ofNat xx)), .val (.int v11), .val (.int t2), .val (.int (Int32.ofNat (2 + ll + xx))), .val (.ref ba), .unset, .unset] [(.ref dd), (.ref dd)])) _
      refine XS.aload X.here hx rfl (hb hby at_235) rfl rfl ?_
      exact k)
  obtain ⟨_, _, ⟨T67, L66, k66, n66⟩, -, X, ⟨Lc66, hQ, l66, y66, z66⟩, sx⟩ := X.specialBack hx (y := (⟨"org/kartenwerk/Der", "<init>", "([B)V"⟩ : MethodName)) rfl hown (mvT hZ (hw _ (List.mem_of_getElem? (i := 4) rfl))) (mvT hZ (hw _ (List.mem_of_getElem? (i := 5) rfl))) (mvT hZ (hw _ (List.mem_of_getElem? (i := 6) rfl))) (by decide) (backOf (W := 1) (rm1 l Z a0 hw [] dd ba k_ba (Int32.ofNat (2 + ll + xx)) vs7 h64 n0 Z0 E_dd g_dd F_dd_bytes F_dd_position F_dd_end V_ba) hZ (hw _ (List.mem_of_getElem? (i := 6) rfl)) (hw _ (List.mem_of_getElem? (i := 2) rfl)) (by decide) (by decide)) (g := (mkF m 237 #[.val (.int y0), .val (.int y1), .val (.int y2), .val (.int y3), .val (.long y4), .second, .val (.int y5), .val (.int (Int32.ofNat raw)), .val (.ref d1), .val (.int (Int32.ofNat ll)), .val (.int (Int32.ofNat xx)), .val (.int v11), .val (.int t2), .val (.int (Int32.ofNat (2 + ll + xx))), .val (.ref ba), .unset, .unset] [(.ref ba), (.ref dd), (.ref dd)])) rfl (by rw [hml]; rfl) (Steps.refl _) (a := dd) (argsL := [(.ref ba)]) (rest := [(.ref dd)]) (lenOf own_pd8 rfl) rfl (by show 2 * 0 + _ ≤ _; exact Nat.le_of_eq rfl) (hb hby at_237) (fun _ _ => ⟨rfl, eh, (by decide : 4 + 0 ≤ _), (by decide : 17 + 0 ≤ _)⟩)
  dsimp only [Pt.U, Pt.locs, Pt.cells, Pt.slots] at X l66 y66 z66 sx hQ
  subst l66 y66 z66
  obtain ⟨rfl, Nc, K1, F_dd_bytes, F_dd_position, F_dd_end⟩ := hQ
  have st : ∀ t, Steps p.tables e below (T67.setTop (mkF m 240 #[.val (.int y0), .val (.int y1), .val (.int y2), .val (.int y3), .val (.long y4), .second, .val (.int y5), .val (.int (Int32.ofNat raw)), .val (.ref d1), .val (.int (Int32.ofNat ll)), .val (.int (Int32.ofNat xx)), .val (.int v11), .val (.int t2), .val (.int (Int32.ofNat (2 + ll + xx))), .val (.ref ba), .unset, .unset] [(.ref dd)])) t → Steps p.tables e below (s₁.setTop (mkF m 0 #[.val (.int y0), .val (.int y1), .val (.int y2), .val (.int y3), .val (.long y4), .second, .val (.int y5), .unset, .unset, .unset, .unset, .unset, .unset, .unset, .unset, .unset, .unset] [])) t := fun t k => st t (sx.trans k)
  have N := Fr.app N Nc
  obtain ⟨h68, eH⟩ : ∃ z, z = T67.heap := ⟨_, rfl⟩
  rw [← eH] at K1 F_dd_bytes F_dd_position F_dd_end
  have eh : T67.heap = h68 := eH.symm
  have E_dd := E_dd.keep K1
  have V_ba := V_ba.keep K1 (ninS ne_ba_dd nin0)
  have Z0 := Nat.le_trans Z0 K1.1
  have st : ∀ t, Steps p.tables e below (T67.setTop (mkF m 244 #[.val (.int y0), .val (.int y1), .val (.int y2), .val (.int y3), .val (.long y4), .second, .val (.int y5), .val (.int (Int32.ofNat raw)), .val (.ref d1), .val (.int (Int32.ofNat ll)), .val (.int (Int32.ofNat xx)), .val (.int v11), .val (.int t2), .val (.int (Int32.ofNat (2 + ll + xx))), .val (.ref ba), .val (.ref dd), .unset] [(.ref dd)])) t → Steps p.tables e below (s₁.setTop (mkF m 0 #[.val (.int y0), .val (.int y1), .val (.int y2), .val (.int y3), .val (.long y4), .second, .val (.int y5), .unset, .unset, .unset, .unset, .unset, .unset, .unset, .unset, .unset, .unset] [])) t := fun t k => st t (by
      show Steps p.tables e below (T67.setTop (mkF m 240 #[.val (.int y0), .val (.int y1), .val (.int y2), .val (.int y3), .val (.long y4), .second, .val (.int y5), .val (.int (Int32.ofNat raw)), .val (.ref d1), .val (.int (Int32.ofNat ll)), .val (.int (Int32.ofNat xx)), .val (.int v11), .val (.int t2), .val (.int (Int32.ofNat (2 + ll + xx))), .val (.ref ba), .unset, .unset] [(.ref dd)])) _
      refine XS.astore X.here hx rfl (hb hby at_240) rfl rfl (l' := #[.val (.int y0), .val (.int y1), .val (.int y2), .val (.int y3), .val (.long y4), .second, .val (.int y5), .val (.int (Int32.ofNat raw)), .val (.ref d1), .val (.int (Int32.ofNat ll)), .val (.int (Int32.ofNat xx)), .val (.int v11), .val (.int t2), .val (.int (Int32.ofNat (2 + ll + xx))), .val (.ref ba), .val (.ref dd), .unset]) rfl ?_
      show Steps p.tables e below (T67.setTop (mkF m 242 #[.val (.int y0), .val (.int y1), .val (.int y2), .val (.int y3), .val (.long y4), .second, .val (.int y5), .val (.int (Int32.ofNat raw)), .val (.ref d1), .val (.int (Int32.ofNat ll)), .val (.int (Int32.ofNat xx)), .val (.int v11), .val (.int t2), .val (.int (Int32.ofNat (2 + ll + xx))), .val (.ref ba), .val (.ref dd), .unset] [])) _
      refine XS.aload X.here hx rfl (hb hby at_242) rfl rfl ?_
      exact k)
  obtain ⟨cq69, kq69, qa69, qb69, qc69⟩ := isOf hZ eh E_dd
  obtain ⟨_, _, ⟨T70, L69, k69, n69⟩, -, X, ⟨Lc69, hQ, l69, y69, z69⟩, sx⟩ := X.virtualBack hx (y := (⟨"org/kartenwerk/Der", "hasNext", "()Z"⟩ : MethodName)) (z := (⟨"org/kartenwerk/Der", "hasNext", "()Z"⟩ : MethodName)) hown (mvT hZ (hw _ (List.mem_of_getElem? (i := 19) rfl))) (mvT hZ (hw _ (List.mem_of_getElem? (i := 20) rfl))) (notFace_of_selects (args := #[]) (mvT hZ (hw _ (List.mem_of_getElem? (i := 22) rfl)))) (mvT hZ (hw _ (List.mem_of_getElem? (i := 22) rfl))) (mvT hZ (hw _ (List.mem_of_getElem? (i := 21) rfl))) (by decide) (backOf (W := 0) (rm4 l Z a0 hw [] dd (0 : Int32) (Int32.ofNat (2 + ll + xx)) h68 n0 Z0 F_dd_position F_dd_end) hZ (hw _ (List.mem_of_getElem? (i := 23) rfl)) (hw _ (List.mem_of_getElem? (i := 2) rfl)) (by decide) (by decide)) qa69 qc69 (g := (mkF m 244 #[.val (.int y0), .val (.int y1), .val (.int y2), .val (.int y3), .val (.long y4), .second, .val (.int y5), .val (.int (Int32.ofNat raw)), .val (.ref d1), .val (.int (Int32.ofNat ll)), .val (.int (Int32.ofNat xx)), .val (.int v11), .val (.int t2), .val (.int (Int32.ofNat (2 + ll + xx))), .val (.ref ba), .val (.ref dd), .unset] [(.ref dd)])) rfl (by rw [hml]; rfl) (Steps.refl _) (argsL := []) (rest := []) (lenOf own_pd5 rfl) rfl (by show 2 * 0 + _ ≤ _; exact Nat.le_of_eq rfl) (hb hby at_244) (fun _ _ => ⟨rfl, eh, (by decide : 4 + 0 ≤ _), (by decide : 17 + 0 ≤ _)⟩)
  dsimp only [Pt.U, Pt.locs, Pt.cells, Pt.slots] at X l69 y69 z69 sx hQ
  subst l69 y69 z69
  obtain ⟨rfl, Nc, hsame_⟩ := hQ
  have st : ∀ t, Steps p.tables e below (T70.setTop (mkF m 247 #[.val (.int y0), .val (.int y1), .val (.int y2), .val (.int y3), .val (.long y4), .second, .val (.int y5), .val (.int (Int32.ofNat raw)), .val (.ref d1), .val (.int (Int32.ofNat ll)), .val (.int (Int32.ofNat xx)), .val (.int v11), .val (.int t2), .val (.int (Int32.ofNat (2 + ll + xx))), .val (.ref ba), .val (.ref dd), .unset] [(.int (own_has (0 : Int32) (Int32.ofNat (2 + ll + xx))))])) t → Steps p.tables e below (s₁.setTop (mkF m 0 #[.val (.int y0), .val (.int y1), .val (.int y2), .val (.int y3), .val (.long y4), .second, .val (.int y5), .unset, .unset, .unset, .unset, .unset, .unset, .unset, .unset, .unset, .unset] [])) t := fun t k => st t (sx.trans k)
  have N := Fr.app N Nc
  have eh : T70.heap = h68 := hsame_
  have st : ∀ t, Steps p.tables e below (T70.setTop (mkF m 247 #[.val (.int y0), .val (.int y1), .val (.int y2), .val (.int y3), .val (.long y4), .second, .val (.int y5), .val (.int (Int32.ofNat raw)), .val (.ref d1), .val (.int (Int32.ofNat ll)), .val (.int (Int32.ofNat xx)), .val (.int v11), .val (.int t2), .val (.int (Int32.ofNat (2 + ll + xx))), .val (.ref ba), .val (.ref dd), .unset] [(.int (1 : Int32))])) t → Steps p.tables e below (s₁.setTop (mkF m 0 #[.val (.int y0), .val (.int y1), .val (.int y2), .val (.int y3), .val (.long y4), .second, .val (.int y5), .unset, .unset, .unset, .unset, .unset, .unset, .unset, .unset, .unset, .unset] [])) t := by rw [← own_has1 (n := 2 + ll + xx) (by omega) (by omega)]; exact st
  have st : ∀ t, Steps p.tables e below (T70.setTop (mkF m 254 #[.val (.int y0), .val (.int y1), .val (.int y2), .val (.int y3), .val (.long y4), .second, .val (.int y5), .val (.int (Int32.ofNat raw)), .val (.ref d1), .val (.int (Int32.ofNat ll)), .val (.int (Int32.ofNat xx)), .val (.int v11), .val (.int t2), .val (.int (Int32.ofNat (2 + ll + xx))), .val (.ref ba), .val (.ref dd), .unset] [(.int v11)])) t → Steps p.tables e below (s₁.setTop (mkF m 0 #[.val (.int y0), .val (.int y1), .val (.int y2), .val (.int y3), .val (.long y4), .second, .val (.int y5), .unset, .unset, .unset, .unset, .unset, .unset, .unset, .unset, .unset, .unset] [])) t := fun t k => st t (by
      show Steps p.tables e below (T70.setTop (mkF m 247 #[.val (.int y0), .val (.int y1), .val (.int y2), .val (.int y3), .val (.long y4), .second, .val (.int y5), .val (.int (Int32.ofNat raw)), .val (.ref d1), .val (.int (Int32.ofNat ll)), .val (.int (Int32.ofNat xx)), .val (.int v11), .val (.int t2), .val (.int (Int32.ofNat (2 + ll + xx))), .val (.ref ba), .val (.ref dd), .unset] [(.int (1 : Int32))])) _
      refine XS.ifYes X.here hx rfl (pc0 := 247) (pc' := 252) rfl (hb hby at_247) rfl ((if0 _ _).trans (feq (by decide)).2) (by decide) (by decide) ?_
      show Steps p.tables e below (T70.setTop (mkF m 252 #[.val (.int y0), .val (.int y1), .val (.int y2), .val (.int y3), .val (.long y4), .second, .val (.int y5), .val (.int (Int32.ofNat raw)), .val (.ref d1), .val (.int (Int32.ofNat ll)), .val (.int (Int32.ofNat xx)), .val (.int v11), .val (.int t2), .val (.int (Int32.ofNat (2 + ll + xx))), .val (.ref ba), .val (.ref dd), .unset] [])) _
      refine XS.iload X.here hx rfl (hb hby at_252) rfl ?_
      exact k)
  by_cases hs : v11 = (0 : Int32)
  · have st : ∀ t, Steps p.tables e below (T70.setTop (mkF m 289 #[.val (.int y0), .val (.int y1), .val (.int y2), .val (.int y3), .val (.long y4), .second, .val (.int y5), .val (.int (Int32.ofNat raw)), .val (.ref d1), .val (.int (Int32.ofNat ll)), .val (.int (Int32.ofNat xx)), .val (.int v11), .val (.int t2), .val (.int (Int32.ofNat (2 + ll + xx))), .val (.ref ba), .val (.ref dd), .unset] [(.ref dd)])) t → Steps p.tables e below (s₁.setTop (mkF m 0 #[.val (.int y0), .val (.int y1), .val (.int y2), .val (.int y3), .val (.long y4), .second, .val (.int y5), .unset, .unset, .unset, .unset, .unset, .unset, .unset, .unset, .unset, .unset] [])) t := fun t k => st t (by
        show Steps p.tables e below (T70.setTop (mkF m 254 #[.val (.int y0), .val (.int y1), .val (.int y2), .val (.int y3), .val (.long y4), .second, .val (.int y5), .val (.int (Int32.ofNat raw)), .val (.ref d1), .val (.int (Int32.ofNat ll)), .val (.int (Int32.ofNat xx)), .val (.int v11), .val (.int t2), .val (.int (Int32.ofNat (2 + ll + xx))), .val (.ref ba), .val (.ref dd), .unset] [(.int v11)])) _
        refine XS.ifYes X.here hx rfl (pc0 := 254) (pc' := 287) rfl (hb hby at_254) rfl ((if0 _ _).trans (teq hs).1) (by decide) (by decide) ?_
        show Steps p.tables e below (T70.setTop (mkF m 287 #[.val (.int y0), .val (.int y1), .val (.int y2), .val (.int y3), .val (.long y4), .second, .val (.int y5), .val (.int (Int32.ofNat raw)), .val (.ref d1), .val (.int (Int32.ofNat ll)), .val (.int (Int32.ofNat xx)), .val (.int v11), .val (.int t2), .val (.int (Int32.ofNat (2 + ll + xx))), .val (.ref ba), .val (.ref dd), .unset] [])) _
        refine XS.aload X.here hx rfl (hb hby at_287) rfl rfl ?_
        exact k)
    obtain ⟨cq71, kq71, qa71, qb71, qc71⟩ := isOf hZ eh E_dd
    obtain ⟨_, _, ⟨T72, L71, k71, n71⟩, -, X, ⟨Lc71, hQ, l71, y71, z71⟩, sx⟩ := X.virtualBack hx (y := (⟨"org/kartenwerk/Der", "skip", "()V"⟩ : MethodName)) (z := (⟨"org/kartenwerk/Der", "skip", "()V"⟩ : MethodName)) hown (mvT hZ (hw _ (List.mem_of_getElem? (i := 24) rfl))) (mvT hZ (hw _ (List.mem_of_getElem? (i := 25) rfl))) (notFace_of_selects (args := #[]) (mvT hZ (hw _ (List.mem_of_getElem? (i := 27) rfl)))) (mvT hZ (hw _ (List.mem_of_getElem? (i := 27) rfl))) (mvT hZ (hw _ (List.mem_of_getElem? (i := 26) rfl))) (by decide) (backOf (W := 0) (rm5 l Z a0 hw [] dd ba k_ba vs7 (nar .byte (t2.toInt8.toInt32)) (nar .byte ((Int32.ofNat ll).toInt8.toInt32)) (2 + ll + xx) ll h68 n0 Z0 F_dd_bytes F_dd_position F_dd_end V_ba (by omega) (by omega) hll hv0 hv1 htg hlg E_dd g_dd (Ne.symm ne_ba_dd)) hZ (hw _ (List.mem_of_getElem? (i := 28) rfl)) (hw _ (List.mem_of_getElem? (i := 2) rfl)) (by decide) (by decide)) qa71 qc71 (g := (mkF m 289 #[.val (.int y0), .val (.int y1), .val (.int y2), .val (.int y3), .val (.long y4), .second, .val (.int y5), .val (.int (Int32.ofNat raw)), .val (.ref d1), .val (.int (Int32.ofNat ll)), .val (.int (Int32.ofNat xx)), .val (.int v11), .val (.int t2), .val (.int (Int32.ofNat (2 + ll + xx))), .val (.ref ba), .val (.ref dd), .unset] [(.ref dd)])) rfl (by rw [hml]; rfl) (Steps.refl _) (argsL := []) (rest := []) (lenOf own_pd1 rfl) rfl (by show 2 * 0 + _ ≤ _; exact Nat.le_of_eq rfl) (hb hby at_289) (fun _ _ => ⟨rfl, eh, (by decide : 4 + 1 ≤ _), (by decide : 17 + 4 ≤ _)⟩)
    dsimp only [Pt.U, Pt.locs, Pt.cells, Pt.slots] at X l71 y71 z71 sx hQ
    subst l71 y71 z71
    obtain ⟨rfl, Nc, K1, F_dd_bytes, F_dd_position, F_dd_end⟩ := hQ
    have st : ∀ t, Steps p.tables e below (T72.setTop (mkF m 292 #[.val (.int y0), .val (.int y1), .val (.int y2), .val (.int y3), .val (.long y4), .second, .val (.int y5), .val (.int (Int32.ofNat raw)), .val (.ref d1), .val (.int (Int32.ofNat ll)), .val (.int (Int32.ofNat xx)), .val (.int v11), .val (.int t2), .val (.int (Int32.ofNat (2 + ll + xx))), .val (.ref ba), .val (.ref dd), .unset] [])) t → Steps p.tables e below (s₁.setTop (mkF m 0 #[.val (.int y0), .val (.int y1), .val (.int y2), .val (.int y3), .val (.long y4), .second, .val (.int y5), .unset, .unset, .unset, .unset, .unset, .unset, .unset, .unset, .unset, .unset] [])) t := fun t k => st t (sx.trans k)
    have N := Fr.app N Nc
    obtain ⟨h73, eH⟩ : ∃ z, z = T72.heap := ⟨_, rfl⟩
    rw [← eH] at K1 F_dd_bytes F_dd_position F_dd_end
    have eh : T72.heap = h73 := eH.symm
    have E_dd := E_dd.keep K1
    have V_ba := V_ba.keep K1 (ninS ne_ba_dd nin0)
    have Z0 := Nat.le_trans Z0 K1.1
    have st : ∀ t, Steps p.tables e below (T72.setTop (mkF m 294 #[.val (.int y0), .val (.int y1), .val (.int y2), .val (.int y3), .val (.long y4), .second, .val (.int y5), .val (.int (Int32.ofNat raw)), .val (.ref d1), .val (.int (Int32.ofNat ll)), .val (.int (Int32.ofNat xx)), .val (.int v11), .val (.int t2), .val (.int (Int32.ofNat (2 + ll + xx))), .val (.ref ba), .val (.ref dd), .unset] [(.ref dd)])) t → Steps p.tables e below (s₁.setTop (mkF m 0 #[.val (.int y0), .val (.int y1), .val (.int y2), .val (.int y3), .val (.long y4), .second, .val (.int y5), .unset, .unset, .unset, .unset, .unset, .unset, .unset, .unset, .unset, .unset] [])) t := fun t k => st t (by
        show Steps p.tables e below (T72.setTop (mkF m 292 #[.val (.int y0), .val (.int y1), .val (.int y2), .val (.int y3), .val (.long y4), .second, .val (.int y5), .val (.int (Int32.ofNat raw)), .val (.ref d1), .val (.int (Int32.ofNat ll)), .val (.int (Int32.ofNat xx)), .val (.int v11), .val (.int t2), .val (.int (Int32.ofNat (2 + ll + xx))), .val (.ref ba), .val (.ref dd), .unset] [])) _
        refine XS.aload X.here hx rfl (hb hby at_292) rfl rfl ?_
        exact k)
    obtain ⟨cq74, kq74, qa74, qb74, qc74⟩ := isOf hZ eh E_dd
    obtain ⟨_, _, ⟨T75, L74, k74, n74⟩, -, X, ⟨Lc74, hQ, l74, y74, z74⟩, sx⟩ := X.virtualBack hx (y := (⟨"org/kartenwerk/Der", "hasNext", "()Z"⟩ : MethodName)) (z := (⟨"org/kartenwerk/Der", "hasNext", "()Z"⟩ : MethodName)) hown (mvT hZ (hw _ (List.mem_of_getElem? (i := 19) rfl))) (mvT hZ (hw _ (List.mem_of_getElem? (i := 20) rfl))) (notFace_of_selects (args := #[]) (mvT hZ (hw _ (List.mem_of_getElem? (i := 22) rfl)))) (mvT hZ (hw _ (List.mem_of_getElem? (i := 22) rfl))) (mvT hZ (hw _ (List.mem_of_getElem? (i := 21) rfl))) (by decide) (backOf (W := 0) (rm4 l Z a0 hw [] dd (Int32.ofNat (2 + ll)) (Int32.ofNat (2 + ll + xx)) h73 n0 Z0 F_dd_position F_dd_end) hZ (hw _ (List.mem_of_getElem? (i := 23) rfl)) (hw _ (List.mem_of_getElem? (i := 2) rfl)) (by decide) (by decide)) qa74 qc74 (g := (mkF m 294 #[.val (.int y0), .val (.int y1), .val (.int y2), .val (.int y3), .val (.long y4), .second, .val (.int y5), .val (.int (Int32.ofNat raw)), .val (.ref d1), .val (.int (Int32.ofNat ll)), .val (.int (Int32.ofNat xx)), .val (.int v11), .val (.int t2), .val (.int (Int32.ofNat (2 + ll + xx))), .val (.ref ba), .val (.ref dd), .unset] [(.ref dd)])) rfl (by rw [hml]; rfl) (Steps.refl _) (argsL := []) (rest := []) (lenOf own_pd5 rfl) rfl (by show 2 * 0 + _ ≤ _; exact Nat.le_of_eq rfl) (hb hby at_294) (fun _ _ => ⟨rfl, eh, (by decide : 5 + 0 ≤ _), (by decide : 21 + 0 ≤ _)⟩)
    dsimp only [Pt.U, Pt.locs, Pt.cells, Pt.slots] at X l74 y74 z74 sx hQ
    subst l74 y74 z74
    obtain ⟨rfl, Nc, hsame_⟩ := hQ
    have st : ∀ t, Steps p.tables e below (T75.setTop (mkF m 297 #[.val (.int y0), .val (.int y1), .val (.int y2), .val (.int y3), .val (.long y4), .second, .val (.int y5), .val (.int (Int32.ofNat raw)), .val (.ref d1), .val (.int (Int32.ofNat ll)), .val (.int (Int32.ofNat xx)), .val (.int v11), .val (.int t2), .val (.int (Int32.ofNat (2 + ll + xx))), .val (.ref ba), .val (.ref dd), .unset] [(.int (own_has (Int32.ofNat (2 + ll)) (Int32.ofNat (2 + ll + xx))))])) t → Steps p.tables e below (s₁.setTop (mkF m 0 #[.val (.int y0), .val (.int y1), .val (.int y2), .val (.int y3), .val (.long y4), .second, .val (.int y5), .unset, .unset, .unset, .unset, .unset, .unset, .unset, .unset, .unset, .unset] [])) t := fun t k => st t (sx.trans k)
    have N := Fr.app N Nc
    have eh : T75.heap = h73 := hsame_
    have st : ∀ t, Steps p.tables e below (T75.setTop (mkF m 299 #[.val (.int y0), .val (.int y1), .val (.int y2), .val (.int y3), .val (.long y4), .second, .val (.int y5), .val (.int (Int32.ofNat raw)), .val (.ref d1), .val (.int (Int32.ofNat ll)), .val (.int (Int32.ofNat xx)), .val (.int v11), .val (.int t2), .val (.int (Int32.ofNat (2 + ll + xx))), .val (.ref ba), .val (.ref dd), .unset] [(.int (Int32.ofNat xx)), (.int (own_has (Int32.ofNat (2 + ll)) (Int32.ofNat (2 + ll + xx))))])) t → Steps p.tables e below (s₁.setTop (mkF m 0 #[.val (.int y0), .val (.int y1), .val (.int y2), .val (.int y3), .val (.long y4), .second, .val (.int y5), .unset, .unset, .unset, .unset, .unset, .unset, .unset, .unset, .unset, .unset] [])) t := fun t k => st t (by
        show Steps p.tables e below (T75.setTop (mkF m 297 #[.val (.int y0), .val (.int y1), .val (.int y2), .val (.int y3), .val (.long y4), .second, .val (.int y5), .val (.int (Int32.ofNat raw)), .val (.ref d1), .val (.int (Int32.ofNat ll)), .val (.int (Int32.ofNat xx)), .val (.int v11), .val (.int t2), .val (.int (Int32.ofNat (2 + ll + xx))), .val (.ref ba), .val (.ref dd), .unset] [(.int (own_has (Int32.ofNat (2 + ll)) (Int32.ofNat (2 + ll + xx))))])) _
        refine XS.iload X.here hx rfl (hb hby at_297) rfl ?_
        exact k)
    obtain ⟨vx, hv_vx, sx⟩ : ∃ (vx : Int32), vx = (if (0 : Int32) < (Int32.ofNat xx) then (1 : Int32) else (0 : Int32)) ∧ ∀ t, Steps p.tables e below (T75.setTop (mkF m 307 #[.val (.int y0), .val (.int y1), .val (.int y2), .val (.int y3), .val (.long y4), .second, .val (.int y5), .val (.int (Int32.ofNat raw)), .val (.ref d1), .val (.int (Int32.ofNat ll)), .val (.int (Int32.ofNat xx)), .val (.int v11), .val (.int t2), .val (.int (Int32.ofNat (2 + ll + xx))), .val (.ref ba), .val (.ref dd), .unset] [(.int vx), (.int (own_has (Int32.ofNat (2 + ll)) (Int32.ofNat (2 + ll + xx))))])) t → Steps p.tables e below (T75.setTop (mkF m 299 #[.val (.int y0), .val (.int y1), .val (.int y2), .val (.int y3), .val (.long y4), .second, .val (.int y5), .val (.int (Int32.ofNat raw)), .val (.ref d1), .val (.int (Int32.ofNat ll)), .val (.int (Int32.ofNat xx)), .val (.int v11), .val (.int t2), .val (.int (Int32.ofNat (2 + ll + xx))), .val (.ref ba), .val (.ref dd), .unset] [(.int (Int32.ofNat xx)), (.int (own_has (Int32.ofNat (2 + ll)) (Int32.ofNat (2 + ll + xx))))])) t := by
      by_cases hj1 : (0 : Int32) < (Int32.ofNat xx)
      · refine ⟨(1 : Int32), by rw [if_pos hj1], fun t k => ?_⟩
        show Steps p.tables e below (T75.setTop (mkF m 299 #[.val (.int y0), .val (.int y1), .val (.int y2), .val (.int y3), .val (.long y4), .second, .val (.int y5), .val (.int (Int32.ofNat raw)), .val (.ref d1), .val (.int (Int32.ofNat ll)), .val (.int (Int32.ofNat xx)), .val (.int v11), .val (.int t2), .val (.int (Int32.ofNat (2 + ll + xx))), .val (.ref ba), .val (.ref dd), .unset] [(.int (Int32.ofNat xx)), (.int (own_has (Int32.ofNat (2 + ll)) (Int32.ofNat (2 + ll + xx))))])) _
        refine XS.ifNo X.here hx rfl (hb hby at_299) rfl ((if0 _ _).trans (tlt hj1).2.2.2) ?_
        show Steps p.tables e below (T75.setTop (mkF m 302 #[.val (.int y0), .val (.int y1), .val (.int y2), .val (.int y3), .val (.long y4), .second, .val (.int y5), .val (.int (Int32.ofNat raw)), .val (.ref d1), .val (.int (Int32.ofNat ll)), .val (.int (Int32.ofNat xx)), .val (.int v11), .val (.int t2), .val (.int (Int32.ofNat (2 + ll + xx))), .val (.ref ba), .val (.ref dd), .unset] [(.int (own_has (Int32.ofNat (2 + ll)) (Int32.ofNat (2 + ll + xx))))])) _
        refine XS.iconst X.here hx rfl (hb hby at_302) ?_
        show Steps p.tables e below (T75.setTop (mkF m 303 #[.val (.int y0), .val (.int y1), .val (.int y2), .val (.int y3), .val (.long y4), .second, .val (.int y5), .val (.int (Int32.ofNat raw)), .val (.ref d1), .val (.int (Int32.ofNat ll)), .val (.int (Int32.ofNat xx)), .val (.int v11), .val (.int t2), .val (.int (Int32.ofNat (2 + ll + xx))), .val (.ref ba), .val (.ref dd), .unset] [(.int (1 : Int32)), (.int (own_has (Int32.ofNat (2 + ll)) (Int32.ofNat (2 + ll + xx))))])) _
        refine XS.goto X.here hx rfl (pc0 := 303) (pc' := 307) rfl (hb hby at_303) (by decide) (by decide) ?_
        exact k
      · refine ⟨(0 : Int32), by rw [if_neg hj1], fun t k => ?_⟩
        show Steps p.tables e below (T75.setTop (mkF m 299 #[.val (.int y0), .val (.int y1), .val (.int y2), .val (.int y3), .val (.long y4), .second, .val (.int y5), .val (.int (Int32.ofNat raw)), .val (.ref d1), .val (.int (Int32.ofNat ll)), .val (.int (Int32.ofNat xx)), .val (.int v11), .val (.int t2), .val (.int (Int32.ofNat (2 + ll + xx))), .val (.ref ba), .val (.ref dd), .unset] [(.int (Int32.ofNat xx)), (.int (own_has (Int32.ofNat (2 + ll)) (Int32.ofNat (2 + ll + xx))))])) _
        refine XS.ifYes X.here hx rfl (pc0 := 299) (pc' := 306) rfl (hb hby at_299) rfl ((if0 _ _).trans (flt hj1).2.2.2) (by decide) (by decide) ?_
        show Steps p.tables e below (T75.setTop (mkF m 306 #[.val (.int y0), .val (.int y1), .val (.int y2), .val (.int y3), .val (.long y4), .second, .val (.int y5), .val (.int (Int32.ofNat raw)), .val (.ref d1), .val (.int (Int32.ofNat ll)), .val (.int (Int32.ofNat xx)), .val (.int v11), .val (.int t2), .val (.int (Int32.ofNat (2 + ll + xx))), .val (.ref ba), .val (.ref dd), .unset] [(.int (own_has (Int32.ofNat (2 + ll)) (Int32.ofNat (2 + ll + xx))))])) _
        refine XS.iconst X.here hx rfl (hb hby at_306) ?_
        exact k
    have st : ∀ t, Steps p.tables e below (T75.setTop (mkF m 307 #[.val (.int y0), .val (.int y1), .val (.int y2), .val (.int y3), .val (.long y4), .second, .val (.int y5), .val (.int (Int32.ofNat raw)), .val (.ref d1), .val (.int (Int32.ofNat ll)), .val (.int (Int32.ofNat xx)), .val (.int v11), .val (.int t2), .val (.int (Int32.ofNat (2 + ll + xx))), .val (.ref ba), .val (.ref dd), .unset] [(.int vx), (.int (own_has (Int32.ofNat (2 + ll)) (Int32.ofNat (2 + ll + xx))))])) t → Steps p.tables e below (s₁.setTop (mkF m 0 #[.val (.int y0), .val (.int y1), .val (.int y2), .val (.int y3), .val (.long y4), .second, .val (.int y5), .unset, .unset, .unset, .unset, .unset, .unset, .unset, .unset, .unset, .unset] [])) t := fun t k => st t (sx t k)
    have st : ∀ t, Steps p.tables e below (T75.setTop (mkF m 315 #[.val (.int y0), .val (.int y1), .val (.int y2), .val (.int y3), .val (.long y4), .second, .val (.int y5), .val (.int (Int32.ofNat raw)), .val (.ref d1), .val (.int (Int32.ofNat ll)), .val (.int (Int32.ofNat xx)), .val (.int v11), .val (.int t2), .val (.int (Int32.ofNat (2 + ll + xx))), .val (.ref ba), .val (.ref dd), .unset] [(.int (1 : Int32))])) t → Steps p.tables e below (s₁.setTop (mkF m 0 #[.val (.int y0), .val (.int y1), .val (.int y2), .val (.int y3), .val (.long y4), .second, .val (.int y5), .unset, .unset, .unset, .unset, .unset, .unset, .unset, .unset, .unset, .unset] [])) t := fun t k => st t (by
        show Steps p.tables e below (T75.setTop (mkF m 307 #[.val (.int y0), .val (.int y1), .val (.int y2), .val (.int y3), .val (.long y4), .second, .val (.int y5), .val (.int (Int32.ofNat raw)), .val (.ref d1), .val (.int (Int32.ofNat ll)), .val (.int (Int32.ofNat xx)), .val (.int v11), .val (.int t2), .val (.int (Int32.ofNat (2 + ll + xx))), .val (.ref ba), .val (.ref dd), .unset] [(.int vx), (.int (own_has (Int32.ofNat (2 + ll)) (Int32.ofNat (2 + ll + xx))))])) _
        refine XS.icmpNo X.here hx rfl (hb hby at_307) rfl (teq (own_after (i := 2 + ll) (d := xx) (by omega) (by omega) vx hv_vx)).2 ?_
        show Steps p.tables e below (T75.setTop (mkF m 310 #[.val (.int y0), .val (.int y1), .val (.int y2), .val (.int y3), .val (.long y4), .second, .val (.int y5), .val (.int (Int32.ofNat raw)), .val (.ref d1), .val (.int (Int32.ofNat ll)), .val (.int (Int32.ofNat xx)), .val (.int v11), .val (.int t2), .val (.int (Int32.ofNat (2 + ll + xx))), .val (.ref ba), .val (.ref dd), .unset] [])) _
        refine XS.iconst X.here hx rfl (hb hby at_310) ?_
        show Steps p.tables e below (T75.setTop (mkF m 311 #[.val (.int y0), .val (.int y1), .val (.int y2), .val (.int y3), .val (.long y4), .second, .val (.int y5), .val (.int (Int32.ofNat raw)), .val (.ref d1), .val (.int (Int32.ofNat ll)), .val (.int (Int32.ofNat xx)), .val (.int v11), .val (.int t2), .val (.int (Int32.ofNat (2 + ll + xx))), .val (.ref ba), .val (.ref dd), .unset] [(.int (1 : Int32))])) _
        refine XS.goto X.here hx rfl (pc0 := 311) (pc' := 315) rfl (hb hby at_311) (by decide) (by decide) ?_
        exact k)
    obtain ⟨fs_, hr, hrun, hended, hW, hsame⟩ := X.leave (v := some (.int (1 : Int32))) (fun h => by rw [Bd.returns] at h; cases h)
    refine ⟨_, _, pre0 _ (st _ ?_), hrun, hended, _, _, rfl, ?_, ⟨_, rfl⟩, hW, hsame.mono (by decide) (by decide)⟩
    · exact retN X hx (t := .boolean) Bd.returns (by simp) (hb hby at_315) hr
    · show Q_rm0 Z y0 y1 y2 y3 y4 y5 h0 n0 _ T75.heap _
      rw [eh]
      exact ⟨rfl, N⟩
  · have h48 : ((nar .byte (t2.toInt8.toInt32)) &&& (255 : Int32)) = (48 : Int32) := by rw [hv_t2, if_neg hs]; exact own_48
    have st : ∀ t, Steps p.tables e below (T70.setTop (mkF m 259 #[.val (.int y0), .val (.int y1), .val (.int y2), .val (.int y3), .val (.long y4), .second, .val (.int y5), .val (.int (Int32.ofNat raw)), .val (.ref d1), .val (.int (Int32.ofNat ll)), .val (.int (Int32.ofNat xx)), .val (.int v11), .val (.int t2), .val (.int (Int32.ofNat (2 + ll + xx))), .val (.ref ba), .val (.ref dd), .unset] [(.ref dd)])) t → Steps p.tables e below (s₁.setTop (mkF m 0 #[.val (.int y0), .val (.int y1), .val (.int y2), .val (.int y3), .val (.long y4), .second, .val (.int y5), .unset, .unset, .unset, .unset, .unset, .unset, .unset, .unset, .unset, .unset] [])) t := fun t k => st t (by
        show Steps p.tables e below (T70.setTop (mkF m 254 #[.val (.int y0), .val (.int y1), .val (.int y2), .val (.int y3), .val (.long y4), .second, .val (.int y5), .val (.int (Int32.ofNat raw)), .val (.ref d1), .val (.int (Int32.ofNat ll)), .val (.int (Int32.ofNat xx)), .val (.int v11), .val (.int t2), .val (.int (Int32.ofNat (2 + ll + xx))), .val (.ref ba), .val (.ref dd), .unset] [(.int v11)])) _
        refine XS.ifNo X.here hx rfl (hb hby at_254) rfl ((if0 _ _).trans (feq hs).1) ?_
        show Steps p.tables e below (T70.setTop (mkF m 257 #[.val (.int y0), .val (.int y1), .val (.int y2), .val (.int y3), .val (.long y4), .second, .val (.int y5), .val (.int (Int32.ofNat raw)), .val (.ref d1), .val (.int (Int32.ofNat ll)), .val (.int (Int32.ofNat xx)), .val (.int v11), .val (.int t2), .val (.int (Int32.ofNat (2 + ll + xx))), .val (.ref ba), .val (.ref dd), .unset] [])) _
        refine XS.aload X.here hx rfl (hb hby at_257) rfl rfl ?_
        exact k)
    obtain ⟨cq76, kq76, qa76, qb76, qc76⟩ := isOf hZ eh E_dd
    obtain ⟨_, _, ⟨T77, L76, k76, n76⟩, -, X, ⟨Lc76, hQ, l76, y76, z76⟩, sx⟩ := X.virtualBack hx (y := (⟨"org/kartenwerk/Der", "sequence", "()Lorg/kartenwerk/Der;"⟩ : MethodName)) (z := (⟨"org/kartenwerk/Der", "sequence", "()Lorg/kartenwerk/Der;"⟩ : MethodName)) hown (mvT hZ (hw _ (List.mem_of_getElem? (i := 58) rfl))) (mvT hZ (hw _ (List.mem_of_getElem? (i := 59) rfl))) (notFace_of_selects (args := #[]) (mvT hZ (hw _ (List.mem_of_getElem? (i := 61) rfl)))) (mvT hZ (hw _ (List.mem_of_getElem? (i := 61) rfl))) (mvT hZ (hw _ (List.mem_of_getElem? (i := 60) rfl))) (by decide) (backOf (W := 0) (rm10 l Z a0 hw [] dd ba k_ba vs7 (nar .byte (t2.toInt8.toInt32)) (nar .byte ((Int32.ofNat ll).toInt8.toInt32)) (2 + ll + xx) ll h68 n0 Z0 F_dd_bytes F_dd_position F_dd_end V_ba (by omega) (by omega) hll hv0 hv1 htg hlg E_dd g_dd (Ne.symm ne_ba_dd) h48) hZ (hw _ (List.mem_of_getElem? (i := 62) rfl)) (hw _ (List.mem_of_getElem? (i := 2) rfl)) (by decide) (by decide)) qa76 qc76 (g := (mkF m 259 #[.val (.int y0), .val (.int y1), .val (.int y2), .val (.int y3), .val (.long y4), .second, .val (.int y5), .val (.int (Int32.ofNat raw)), .val (.ref d1), .val (.int (Int32.ofNat ll)), .val (.int (Int32.ofNat xx)), .val (.int v11), .val (.int t2), .val (.int (Int32.ofNat (2 + ll + xx))), .val (.ref ba), .val (.ref dd), .unset] [(.ref dd)])) rfl (by rw [hml]; rfl) (Steps.refl _) (argsL := []) (rest := []) (lenOf own_pd9 rfl) rfl (by show 2 * 0 + _ ≤ _; exact Nat.le_of_eq rfl) (hb hby at_259) (fun _ _ => ⟨rfl, eh, (by decide : 4 + 2 ≤ _), (by decide : 17 + 7 ≤ _)⟩)
    dsimp only [Pt.U, Pt.locs, Pt.cells, Pt.slots] at X l76 y76 z76 sx hQ
    subst l76 y76 z76
    obtain ⟨dn, rfl, Nc, K1, F_dd_bytes, F_dd_position, F_dd_end, szp, g_dn, E_dn, F_dn_position, F_dn_end⟩ := hQ
    have st : ∀ t, Steps p.tables e below (T77.setTop (mkF m 262 #[.val (.int y0), .val (.int y1), .val (.int y2), .val (.int y3), .val (.long y4), .second, .val (.int y5), .val (.int (Int32.ofNat raw)), .val (.ref d1), .val (.int (Int32.ofNat ll)), .val (.int (Int32.ofNat xx)), .val (.int v11), .val (.int t2), .val (.int (Int32.ofNat (2 + ll + xx))), .val (.ref ba), .val (.ref dd), .unset] [(.ref dn)])) t → Steps p.tables e below (s₁.setTop (mkF m 0 #[.val (.int y0), .val (.int y1), .val (.int y2), .val (.int y3), .val (.long y4), .second, .val (.int y5), .unset, .unset, .unset, .unset, .unset, .unset, .unset, .unset, .unset, .unset] [])) t := fun t k => st t (sx.trans k)
    have N := Fr.app N Nc
    obtain ⟨h78, eH⟩ : ∃ z, z = T77.heap := ⟨_, rfl⟩
    rw [← eH] at K1 F_dd_bytes F_dd_position F_dd_end E_dn F_dn_position F_dn_end
    have eh : T77.heap = h78 := eH.symm
    have E_dd := E_dd.keep K1
    have V_ba := V_ba.keep K1 (ninS ne_ba_dd nin0)
    have Z0 := Nat.le_trans Z0 K1.1
    have st : ∀ t, Steps p.tables e below (T77.setTop (mkF m 266 #[.val (.int y0), .val (.int y1), .val (.int y2), .val (.int y3), .val (.long y4), .second, .val (.int y5), .val (.int (Int32.ofNat raw)), .val (.ref d1), .val (.int (Int32.ofNat ll)), .val (.int (Int32.ofNat xx)), .val (.int v11), .val (.int t2), .val (.int (Int32.ofNat (2 + ll + xx))), .val (.ref ba), .val (.ref dd), .val (.ref dn)] [(.ref dn)])) t → Steps p.tables e below (s₁.setTop (mkF m 0 #[.val (.int y0), .val (.int y1), .val (.int y2), .val (.int y3), .val (.long y4), .second, .val (.int y5), .unset, .unset, .unset, .unset, .unset, .unset, .unset, .unset, .unset, .unset] [])) t := fun t k => st t (by
        show Steps p.tables e below (T77.setTop (mkF m 262 #[.val (.int y0), .val (.int y1), .val (.int y2), .val (.int y3), .val (.long y4), .second, .val (.int y5), .val (.int (Int32.ofNat raw)), .val (.ref d1), .val (.int (Int32.ofNat ll)), .val (.int (Int32.ofNat xx)), .val (.int v11), .val (.int t2), .val (.int (Int32.ofNat (2 + ll + xx))), .val (.ref ba), .val (.ref dd), .unset] [(.ref dn)])) _
        refine XS.astore X.here hx rfl (hb hby at_262) rfl rfl (l' := #[.val (.int y0), .val (.int y1), .val (.int y2), .val (.int y3), .val (.long y4), .second, .val (.int y5), .val (.int (Int32.ofNat raw)), .val (.ref d1), .val (.int (Int32.ofNat ll)), .val (.int (Int32.ofNat xx)), .val (.int v11), .val (.int t2), .val (.int (Int32.ofNat (2 + ll + xx))), .val (.ref ba), .val (.ref dd), .val (.ref dn)]) rfl ?_
        show Steps p.tables e below (T77.setTop (mkF m 264 #[.val (.int y0), .val (.int y1), .val (.int y2), .val (.int y3), .val (.long y4), .second, .val (.int y5), .val (.int (Int32.ofNat raw)), .val (.ref d1), .val (.int (Int32.ofNat ll)), .val (.int (Int32.ofNat xx)), .val (.int v11), .val (.int t2), .val (.int (Int32.ofNat (2 + ll + xx))), .val (.ref ba), .val (.ref dd), .val (.ref dn)] [])) _
        refine XS.aload X.here hx rfl (hb hby at_264) rfl rfl ?_
        exact k)
    obtain ⟨cq79, kq79, qa79, qb79, qc79⟩ := isOf hZ eh E_dn
    obtain ⟨_, _, ⟨T80, L79, k79, n79⟩, -, X, ⟨Lc79, hQ, l79, y79, z79⟩, sx⟩ := X.virtualBack hx (y := (⟨"org/kartenwerk/Der", "hasNext", "()Z"⟩ : MethodName)) (z := (⟨"org/kartenwerk/Der", "hasNext", "()Z"⟩ : MethodName)) hown (mvT hZ (hw _ (List.mem_of_getElem? (i := 19) rfl))) (mvT hZ (hw _ (List.mem_of_getElem? (i := 20) rfl))) (notFace_of_selects (args := #[]) (mvT hZ (hw _ (List.mem_of_getElem? (i := 22) rfl)))) (mvT hZ (hw _ (List.mem_of_getElem? (i := 22) rfl))) (mvT hZ (hw _ (List.mem_of_getElem? (i := 21) rfl))) (by decide) (backOf (W := 0) (rm4 l Z a0 hw [] dn (2 : Int32) (Int32.ofNat (2 + ll)) h78 n0 Z0 F_dn_position F_dn_end) hZ (hw _ (List.mem_of_getElem? (i := 23) rfl)) (hw _ (List.mem_of_getElem? (i := 2) rfl)) (by decide) (by decide)) qa79 qc79 (g := (mkF m 266 #[.val (.int y0), .val (.int y1), .val (.int y2), .val (.int y3), .val (.long y4), .second, .val (.int y5), .val (.int (Int32.ofNat raw)), .val (.ref d1), .val (.int (Int32.ofNat ll)), .val (.int (Int32.ofNat xx)), .val (.int v11), .val (.int t2), .val (.int (Int32.ofNat (2 + ll + xx))), .val (.ref ba), .val (.ref dd), .val (.ref dn)] [(.ref dn)])) rfl (by rw [hml]; rfl) (Steps.refl _) (argsL := []) (rest := []) (lenOf own_pd5 rfl) rfl (by show 2 * 0 + _ ≤ _; exact Nat.le_of_eq rfl) (hb hby at_266) (fun _ _ => ⟨rfl, eh, (by decide : 6 + 0 ≤ _), (by decide : 24 + 0 ≤ _)⟩)
    dsimp only [Pt.U, Pt.locs, Pt.cells, Pt.slots] at X l79 y79 z79 sx hQ
    subst l79 y79 z79
    obtain ⟨rfl, Nc, hsame_⟩ := hQ
    have st : ∀ t, Steps p.tables e below (T80.setTop (mkF m 269 #[.val (.int y0), .val (.int y1), .val (.int y2), .val (.int y3), .val (.long y4), .second, .val (.int y5), .val (.int (Int32.ofNat raw)), .val (.ref d1), .val (.int (Int32.ofNat ll)), .val (.int (Int32.ofNat xx)), .val (.int v11), .val (.int t2), .val (.int (Int32.ofNat (2 + ll + xx))), .val (.ref ba), .val (.ref dd), .val (.ref dn)] [(.int (own_has (2 : Int32) (Int32.ofNat (2 + ll))))])) t → Steps p.tables e below (s₁.setTop (mkF m 0 #[.val (.int y0), .val (.int y1), .val (.int y2), .val (.int y3), .val (.long y4), .second, .val (.int y5), .unset, .unset, .unset, .unset, .unset, .unset, .unset, .unset, .unset, .unset] [])) t := fun t k => st t (sx.trans k)
    have N := Fr.app N Nc
    have eh : T80.heap = h78 := hsame_
    have st : ∀ t, Steps p.tables e below (T80.setTop (mkF m 271 #[.val (.int y0), .val (.int y1), .val (.int y2), .val (.int y3), .val (.long y4), .second, .val (.int y5), .val (.int (Int32.ofNat raw)), .val (.ref d1), .val (.int (Int32.ofNat ll)), .val (.int (Int32.ofNat xx)), .val (.int v11), .val (.int t2), .val (.int (Int32.ofNat (2 + ll + xx))), .val (.ref ba), .val (.ref dd), .val (.ref dn)] [(.int (Int32.ofNat ll)), (.int (own_has (2 : Int32) (Int32.ofNat (2 + ll))))])) t → Steps p.tables e below (s₁.setTop (mkF m 0 #[.val (.int y0), .val (.int y1), .val (.int y2), .val (.int y3), .val (.long y4), .second, .val (.int y5), .unset, .unset, .unset, .unset, .unset, .unset, .unset, .unset, .unset, .unset] [])) t := fun t k => st t (by
        show Steps p.tables e below (T80.setTop (mkF m 269 #[.val (.int y0), .val (.int y1), .val (.int y2), .val (.int y3), .val (.long y4), .second, .val (.int y5), .val (.int (Int32.ofNat raw)), .val (.ref d1), .val (.int (Int32.ofNat ll)), .val (.int (Int32.ofNat xx)), .val (.int v11), .val (.int t2), .val (.int (Int32.ofNat (2 + ll + xx))), .val (.ref ba), .val (.ref dd), .val (.ref dn)] [(.int (own_has (2 : Int32) (Int32.ofNat (2 + ll))))])) _
        refine XS.iload X.here hx rfl (hb hby at_269) rfl ?_
        exact k)
    obtain ⟨vl, hv_vl, sx⟩ : ∃ (vl : Int32), vl = (if (0 : Int32) < (Int32.ofNat ll) then (1 : Int32) else (0 : Int32)) ∧ ∀ t, Steps p.tables e below (T80.setTop (mkF m 279 #[.val (.int y0), .val (.int y1), .val (.int y2), .val (.int y3), .val (.long y4), .second, .val (.int y5), .val (.int (Int32.ofNat raw)), .val (.ref d1), .val (.int (Int32.ofNat ll)), .val (.int (Int32.ofNat xx)), .val (.int v11), .val (.int t2), .val (.int (Int32.ofNat (2 + ll + xx))), .val (.ref ba), .val (.ref dd), .val (.ref dn)] [(.int vl), (.int (own_has (2 : Int32) (Int32.ofNat (2 + ll))))])) t → Steps p.tables e below (T80.setTop (mkF m 271 #[.val (.int y0), .val (.int y1), .val (.int y2), .val (.int y3), .val (.long y4), .second, .val (.int y5), .val (.int (Int32.ofNat raw)), .val (.ref d1), .val (.int (Int32.ofNat ll)), .val (.int (Int32.ofNat xx)), .val (.int v11), .val (.int t2), .val (.int (Int32.ofNat (2 + ll + xx))), .val (.ref ba), .val (.ref dd), .val (.ref dn)] [(.int (Int32.ofNat ll)), (.int (own_has (2 : Int32) (Int32.ofNat (2 + ll))))])) t := by
      by_cases hj1 : (0 : Int32) < (Int32.ofNat ll)
      · refine ⟨(1 : Int32), by rw [if_pos hj1], fun t k => ?_⟩
        show Steps p.tables e below (T80.setTop (mkF m 271 #[.val (.int y0), .val (.int y1), .val (.int y2), .val (.int y3), .val (.long y4), .second, .val (.int y5), .val (.int (Int32.ofNat raw)), .val (.ref d1), .val (.int (Int32.ofNat ll)), .val (.int (Int32.ofNat xx)), .val (.int v11), .val (.int t2), .val (.int (Int32.ofNat (2 + ll + xx))), .val (.ref ba), .val (.ref dd), .val (.ref dn)] [(.int (Int32.ofNat ll)), (.int (own_has (2 : Int32) (Int32.ofNat (2 + ll))))])) _
        refine XS.ifNo X.here hx rfl (hb hby at_271) rfl ((if0 _ _).trans (tlt hj1).2.2.2) ?_
        show Steps p.tables e below (T80.setTop (mkF m 274 #[.val (.int y0), .val (.int y1), .val (.int y2), .val (.int y3), .val (.long y4), .second, .val (.int y5), .val (.int (Int32.ofNat raw)), .val (.ref d1), .val (.int (Int32.ofNat ll)), .val (.int (Int32.ofNat xx)), .val (.int v11), .val (.int t2), .val (.int (Int32.ofNat (2 + ll + xx))), .val (.ref ba), .val (.ref dd), .val (.ref dn)] [(.int (own_has (2 : Int32) (Int32.ofNat (2 + ll))))])) _
        refine XS.iconst X.here hx rfl (hb hby at_274) ?_
        show Steps p.tables e below (T80.setTop (mkF m 275 #[.val (.int y0), .val (.int y1), .val (.int y2), .val (.int y3), .val (.long y4), .second, .val (.int y5), .val (.int (Int32.ofNat raw)), .val (.ref d1), .val (.int (Int32.ofNat ll)), .val (.int (Int32.ofNat xx)), .val (.int v11), .val (.int t2), .val (.int (Int32.ofNat (2 + ll + xx))), .val (.ref ba), .val (.ref dd), .val (.ref dn)] [(.int (1 : Int32)), (.int (own_has (2 : Int32) (Int32.ofNat (2 + ll))))])) _
        refine XS.goto X.here hx rfl (pc0 := 275) (pc' := 279) rfl (hb hby at_275) (by decide) (by decide) ?_
        exact k
      · refine ⟨(0 : Int32), by rw [if_neg hj1], fun t k => ?_⟩
        show Steps p.tables e below (T80.setTop (mkF m 271 #[.val (.int y0), .val (.int y1), .val (.int y2), .val (.int y3), .val (.long y4), .second, .val (.int y5), .val (.int (Int32.ofNat raw)), .val (.ref d1), .val (.int (Int32.ofNat ll)), .val (.int (Int32.ofNat xx)), .val (.int v11), .val (.int t2), .val (.int (Int32.ofNat (2 + ll + xx))), .val (.ref ba), .val (.ref dd), .val (.ref dn)] [(.int (Int32.ofNat ll)), (.int (own_has (2 : Int32) (Int32.ofNat (2 + ll))))])) _
        refine XS.ifYes X.here hx rfl (pc0 := 271) (pc' := 278) rfl (hb hby at_271) rfl ((if0 _ _).trans (flt hj1).2.2.2) (by decide) (by decide) ?_
        show Steps p.tables e below (T80.setTop (mkF m 278 #[.val (.int y0), .val (.int y1), .val (.int y2), .val (.int y3), .val (.long y4), .second, .val (.int y5), .val (.int (Int32.ofNat raw)), .val (.ref d1), .val (.int (Int32.ofNat ll)), .val (.int (Int32.ofNat xx)), .val (.int v11), .val (.int t2), .val (.int (Int32.ofNat (2 + ll + xx))), .val (.ref ba), .val (.ref dd), .val (.ref dn)] [(.int (own_has (2 : Int32) (Int32.ofNat (2 + ll))))])) _
        refine XS.iconst X.here hx rfl (hb hby at_278) ?_
        exact k
    have st : ∀ t, Steps p.tables e below (T80.setTop (mkF m 279 #[.val (.int y0), .val (.int y1), .val (.int y2), .val (.int y3), .val (.long y4), .second, .val (.int y5), .val (.int (Int32.ofNat raw)), .val (.ref d1), .val (.int (Int32.ofNat ll)), .val (.int (Int32.ofNat xx)), .val (.int v11), .val (.int t2), .val (.int (Int32.ofNat (2 + ll + xx))), .val (.ref ba), .val (.ref dd), .val (.ref dn)] [(.int vl), (.int (own_has (2 : Int32) (Int32.ofNat (2 + ll))))])) t → Steps p.tables e below (s₁.setTop (mkF m 0 #[.val (.int y0), .val (.int y1), .val (.int y2), .val (.int y3), .val (.long y4), .second, .val (.int y5), .unset, .unset, .unset, .unset, .unset, .unset, .unset, .unset, .unset, .unset] [])) t := fun t k => st t (sx t k)
    have st : ∀ t, Steps p.tables e below (T80.setTop (mkF m 294 #[.val (.int y0), .val (.int y1), .val (.int y2), .val (.int y3), .val (.long y4), .second, .val (.int y5), .val (.int (Int32.ofNat raw)), .val (.ref d1), .val (.int (Int32.ofNat ll)), .val (.int (Int32.ofNat xx)), .val (.int v11), .val (.int t2), .val (.int (Int32.ofNat (2 + ll + xx))), .val (.ref ba), .val (.ref dd), .val (.ref dn)] [(.ref dd)])) t → Steps p.tables e below (s₁.setTop (mkF m 0 #[.val (.int y0), .val (.int y1), .val (.int y2), .val (.int y3), .val (.long y4), .second, .val (.int y5), .unset, .unset, .unset, .unset, .unset, .unset, .unset, .unset, .unset, .unset] [])) t := fun t k => st t (by
        show Steps p.tables e below (T80.setTop (mkF m 279 #[.val (.int y0), .val (.int y1), .val (.int y2), .val (.int y3), .val (.long y4), .second, .val (.int y5), .val (.int (Int32.ofNat raw)), .val (.ref d1), .val (.int (Int32.ofNat ll)), .val (.int (Int32.ofNat xx)), .val (.int v11), .val (.int t2), .val (.int (Int32.ofNat (2 + ll + xx))), .val (.ref ba), .val (.ref dd), .val (.ref dn)] [(.int vl), (.int (own_has (2 : Int32) (Int32.ofNat (2 + ll))))])) _
        refine XS.icmpYes X.here hx rfl (pc0 := 279) (pc' := 284) rfl (hb hby at_279) rfl (teq (own_after (i := 2) (d := ll) (by decide) (by omega) vl hv_vl)).1 (by decide) (by decide) ?_
        show Steps p.tables e below (T80.setTop (mkF m 284 #[.val (.int y0), .val (.int y1), .val (.int y2), .val (.int y3), .val (.long y4), .second, .val (.int y5), .val (.int (Int32.ofNat raw)), .val (.ref d1), .val (.int (Int32.ofNat ll)), .val (.int (Int32.ofNat xx)), .val (.int v11), .val (.int t2), .val (.int (Int32.ofNat (2 + ll + xx))), .val (.ref ba), .val (.ref dd), .val (.ref dn)] [])) _
        refine XS.goto X.here hx rfl (pc0 := 284) (pc' := 292) rfl (hb hby at_284) (by decide) (by decide) ?_
        show Steps p.tables e below (T80.setTop (mkF m 292 #[.val (.int y0), .val (.int y1), .val (.int y2), .val (.int y3), .val (.long y4), .second, .val (.int y5), .val (.int (Int32.ofNat raw)), .val (.ref d1), .val (.int (Int32.ofNat ll)), .val (.int (Int32.ofNat xx)), .val (.int v11), .val (.int t2), .val (.int (Int32.ofNat (2 + ll + xx))), .val (.ref ba), .val (.ref dd), .val (.ref dn)] [])) _
        refine XS.aload X.here hx rfl (hb hby at_292) rfl rfl ?_
        exact k)
    obtain ⟨cq81, kq81, qa81, qb81, qc81⟩ := isOf hZ eh E_dd
    obtain ⟨_, _, ⟨T82, L81, k81, n81⟩, -, X, ⟨Lc81, hQ, l81, y81, z81⟩, sx⟩ := X.virtualBack hx (y := (⟨"org/kartenwerk/Der", "hasNext", "()Z"⟩ : MethodName)) (z := (⟨"org/kartenwerk/Der", "hasNext", "()Z"⟩ : MethodName)) hown (mvT hZ (hw _ (List.mem_of_getElem? (i := 19) rfl))) (mvT hZ (hw _ (List.mem_of_getElem? (i := 20) rfl))) (notFace_of_selects (args := #[]) (mvT hZ (hw _ (List.mem_of_getElem? (i := 22) rfl)))) (mvT hZ (hw _ (List.mem_of_getElem? (i := 22) rfl))) (mvT hZ (hw _ (List.mem_of_getElem? (i := 21) rfl))) (by decide) (backOf (W := 0) (rm4 l Z a0 hw [] dd (Int32.ofNat (2 + ll)) (Int32.ofNat (2 + ll + xx)) h78 n0 Z0 F_dd_position F_dd_end) hZ (hw _ (List.mem_of_getElem? (i := 23) rfl)) (hw _ (List.mem_of_getElem? (i := 2) rfl)) (by decide) (by decide)) qa81 qc81 (g := (mkF m 294 #[.val (.int y0), .val (.int y1), .val (.int y2), .val (.int y3), .val (.long y4), .second, .val (.int y5), .val (.int (Int32.ofNat raw)), .val (.ref d1), .val (.int (Int32.ofNat ll)), .val (.int (Int32.ofNat xx)), .val (.int v11), .val (.int t2), .val (.int (Int32.ofNat (2 + ll + xx))), .val (.ref ba), .val (.ref dd), .val (.ref dn)] [(.ref dd)])) rfl (by rw [hml]; rfl) (Steps.refl _) (argsL := []) (rest := []) (lenOf own_pd5 rfl) rfl (by show 2 * 0 + _ ≤ _; exact Nat.le_of_eq rfl) (hb hby at_294) (fun _ _ => ⟨rfl, eh, (by decide : 6 + 0 ≤ _), (by decide : 24 + 0 ≤ _)⟩)
    dsimp only [Pt.U, Pt.locs, Pt.cells, Pt.slots] at X l81 y81 z81 sx hQ
    subst l81 y81 z81
    obtain ⟨rfl, Nc, hsame_⟩ := hQ
    have st : ∀ t, Steps p.tables e below (T82.setTop (mkF m 297 #[.val (.int y0), .val (.int y1), .val (.int y2), .val (.int y3), .val (.long y4), .second, .val (.int y5), .val (.int (Int32.ofNat raw)), .val (.ref d1), .val (.int (Int32.ofNat ll)), .val (.int (Int32.ofNat xx)), .val (.int v11), .val (.int t2), .val (.int (Int32.ofNat (2 + ll + xx))), .val (.ref ba), .val (.ref dd), .val (.ref dn)] [(.int (own_has (Int32.ofNat (2 + ll)) (Int32.ofNat (2 + ll + xx))))])) t → Steps p.tables e below (s₁.setTop (mkF m 0 #[.val (.int y0), .val (.int y1), .val (.int y2), .val (.int y3), .val (.long y4), .second, .val (.int y5), .unset, .unset, .unset, .unset, .unset, .unset, .unset, .unset, .unset, .unset] [])) t := fun t k => st t (sx.trans k)
    have N := Fr.app N Nc
    have eh : T82.heap = h78 := hsame_
    have st : ∀ t, Steps p.tables e below (T82.setTop (mkF m 299 #[.val (.int y0), .val (.int y1), .val (.int y2), .val (.int y3), .val (.long y4), .second, .val (.int y5), .val (.int (Int32.ofNat raw)), .val (.ref d1), .val (.int (Int32.ofNat ll)), .val (.int (Int32.ofNat xx)), .val (.int v11), .val (.int t2), .val (.int (Int32.ofNat (2 + ll + xx))), .val (.ref ba), .val (.ref dd), .val (.ref dn)] [(.int (Int32.ofNat xx)), (.int (own_has (Int32.ofNat (2 + ll)) (Int32.ofNat (2 + ll + xx))))])) t → Steps p.tables e below (s₁.setTop (mkF m 0 #[.val (.int y0), .val (.int y1), .val (.int y2), .val (.int y3), .val (.long y4), .second, .val (.int y5), .unset, .unset, .unset, .unset, .unset, .unset, .unset, .unset, .unset, .unset] [])) t := fun t k => st t (by
        show Steps p.tables e below (T82.setTop (mkF m 297 #[.val (.int y0), .val (.int y1), .val (.int y2), .val (.int y3), .val (.long y4), .second, .val (.int y5), .val (.int (Int32.ofNat raw)), .val (.ref d1), .val (.int (Int32.ofNat ll)), .val (.int (Int32.ofNat xx)), .val (.int v11), .val (.int t2), .val (.int (Int32.ofNat (2 + ll + xx))), .val (.ref ba), .val (.ref dd), .val (.ref dn)] [(.int (own_has (Int32.ofNat (2 + ll)) (Int32.ofNat (2 + ll + xx))))])) _
        refine XS.iload X.here hx rfl (hb hby at_297) rfl ?_
        exact k)
    obtain ⟨vx, hv_vx, sx⟩ : ∃ (vx : Int32), vx = (if (0 : Int32) < (Int32.ofNat xx) then (1 : Int32) else (0 : Int32)) ∧ ∀ t, Steps p.tables e below (T82.setTop (mkF m 307 #[.val (.int y0), .val (.int y1), .val (.int y2), .val (.int y3), .val (.long y4), .second, .val (.int y5), .val (.int (Int32.ofNat raw)), .val (.ref d1), .val (.int (Int32.ofNat ll)), .val (.int (Int32.ofNat xx)), .val (.int v11), .val (.int t2), .val (.int (Int32.ofNat (2 + ll + xx))), .val (.ref ba), .val (.ref dd), .val (.ref dn)] [(.int vx), (.int (own_has (Int32.ofNat (2 + ll)) (Int32.ofNat (2 + ll + xx))))])) t → Steps p.tables e below (T82.setTop (mkF m 299 #[.val (.int y0), .val (.int y1), .val (.int y2), .val (.int y3), .val (.long y4), .second, .val (.int y5), .val (.int (Int32.ofNat raw)), .val (.ref d1), .val (.int (Int32.ofNat ll)), .val (.int (Int32.ofNat xx)), .val (.int v11), .val (.int t2), .val (.int (Int32.ofNat (2 + ll + xx))), .val (.ref ba), .val (.ref dd), .val (.ref dn)] [(.int (Int32.ofNat xx)), (.int (own_has (Int32.ofNat (2 + ll)) (Int32.ofNat (2 + ll + xx))))])) t := by
      by_cases hj1 : (0 : Int32) < (Int32.ofNat xx)
      · refine ⟨(1 : Int32), by rw [if_pos hj1], fun t k => ?_⟩
        show Steps p.tables e below (T82.setTop (mkF m 299 #[.val (.int y0), .val (.int y1), .val (.int y2), .val (.int y3), .val (.long y4), .second, .val (.int y5), .val (.int (Int32.ofNat raw)), .val (.ref d1), .val (.int (Int32.ofNat ll)), .val (.int (Int32.ofNat xx)), .val (.int v11), .val (.int t2), .val (.int (Int32.ofNat (2 + ll + xx))), .val (.ref ba), .val (.ref dd), .val (.ref dn)] [(.int (Int32.ofNat xx)), (.int (own_has (Int32.ofNat (2 + ll)) (Int32.ofNat (2 + ll + xx))))])) _
        refine XS.ifNo X.here hx rfl (hb hby at_299) rfl ((if0 _ _).trans (tlt hj1).2.2.2) ?_
        show Steps p.tables e below (T82.setTop (mkF m 302 #[.val (.int y0), .val (.int y1), .val (.int y2), .val (.int y3), .val (.long y4), .second, .val (.int y5), .val (.int (Int32.ofNat raw)), .val (.ref d1), .val (.int (Int32.ofNat ll)), .val (.int (Int32.ofNat xx)), .val (.int v11), .val (.int t2), .val (.int (Int32.ofNat (2 + ll + xx))), .val (.ref ba), .val (.ref dd), .val (.ref dn)] [(.int (own_has (Int32.ofNat (2 + ll)) (Int32.ofNat (2 + ll + xx))))])) _
        refine XS.iconst X.here hx rfl (hb hby at_302) ?_
        show Steps p.tables e below (T82.setTop (mkF m 303 #[.val (.int y0), .val (.int y1), .val (.int y2), .val (.int y3), .val (.long y4), .second, .val (.int y5), .val (.int (Int32.ofNat raw)), .val (.ref d1), .val (.int (Int32.ofNat ll)), .val (.int (Int32.ofNat xx)), .val (.int v11), .val (.int t2), .val (.int (Int32.ofNat (2 + ll + xx))), .val (.ref ba), .val (.ref dd), .val (.ref dn)] [(.int (1 : Int32)), (.int (own_has (Int32.ofNat (2 + ll)) (Int32.ofNat (2 + ll + xx))))])) _
        refine XS.goto X.here hx rfl (pc0 := 303) (pc' := 307) rfl (hb hby at_303) (by decide) (by decide) ?_
        exact k
      · refine ⟨(0 : Int32), by rw [if_neg hj1], fun t k => ?_⟩
        show Steps p.tables e below (T82.setTop (mkF m 299 #[.val (.int y0), .val (.int y1), .val (.int y2), .val (.int y3), .val (.long y4), .second, .val (.int y5), .val (.int (Int32.ofNat raw)), .val (.ref d1), .val (.int (Int32.ofNat ll)), .val (.int (Int32.ofNat xx)), .val (.int v11), .val (.int t2), .val (.int (Int32.ofNat (2 + ll + xx))), .val (.ref ba), .val (.ref dd), .val (.ref dn)] [(.int (Int32.ofNat xx)), (.int (own_has (Int32.ofNat (2 + ll)) (Int32.ofNat (2 + ll + xx))))])) _
        refine XS.ifYes X.here hx rfl (pc0 := 299) (pc' := 306) rfl (hb hby at_299) rfl ((if0 _ _).trans (flt hj1).2.2.2) (by decide) (by decide) ?_
        show Steps p.tables e below (T82.setTop (mkF m 306 #[.val (.int y0), .val (.int y1), .val (.int y2), .val (.int y3), .val (.long y4), .second, .val (.int y5), .val (.int (Int32.ofNat raw)), .val (.ref d1), .val (.int (Int32.ofNat ll)), .val (.int (Int32.ofNat xx)), .val (.int v11), .val (.int t2), .val (.int (Int32.ofNat (2 + ll + xx))), .val (.ref ba), .val (.ref dd), .val (.ref dn)] [(.int (own_has (Int32.ofNat (2 + ll)) (Int32.ofNat (2 + ll + xx))))])) _
        refine XS.iconst X.here hx rfl (hb hby at_306) ?_
        exact k
    have st : ∀ t, Steps p.tables e below (T82.setTop (mkF m 307 #[.val (.int y0), .val (.int y1), .val (.int y2), .val (.int y3), .val (.long y4), .second, .val (.int y5), .val (.int (Int32.ofNat raw)), .val (.ref d1), .val (.int (Int32.ofNat ll)), .val (.int (Int32.ofNat xx)), .val (.int v11), .val (.int t2), .val (.int (Int32.ofNat (2 + ll + xx))), .val (.ref ba), .val (.ref dd), .val (.ref dn)] [(.int vx), (.int (own_has (Int32.ofNat (2 + ll)) (Int32.ofNat (2 + ll + xx))))])) t → Steps p.tables e below (s₁.setTop (mkF m 0 #[.val (.int y0), .val (.int y1), .val (.int y2), .val (.int y3), .val (.long y4), .second, .val (.int y5), .unset, .unset, .unset, .unset, .unset, .unset, .unset, .unset, .unset, .unset] [])) t := fun t k => st t (sx t k)
    have st : ∀ t, Steps p.tables e below (T82.setTop (mkF m 315 #[.val (.int y0), .val (.int y1), .val (.int y2), .val (.int y3), .val (.long y4), .second, .val (.int y5), .val (.int (Int32.ofNat raw)), .val (.ref d1), .val (.int (Int32.ofNat ll)), .val (.int (Int32.ofNat xx)), .val (.int v11), .val (.int t2), .val (.int (Int32.ofNat (2 + ll + xx))), .val (.ref ba), .val (.ref dd), .val (.ref dn)] [(.int (1 : Int32))])) t → Steps p.tables e below (s₁.setTop (mkF m 0 #[.val (.int y0), .val (.int y1), .val (.int y2), .val (.int y3), .val (.long y4), .second, .val (.int y5), .unset, .unset, .unset, .unset, .unset, .unset, .unset, .unset, .unset, .unset] [])) t := fun t k => st t (by
        show Steps p.tables e below (T82.setTop (mkF m 307 #[.val (.int y0), .val (.int y1), .val (.int y2), .val (.int y3), .val (.long y4), .second, .val (.int y5), .val (.int (Int32.ofNat raw)), .val (.ref d1), .val (.int (Int32.ofNat ll)), .val (.int (Int32.ofNat xx)), .val (.int v11), .val (.int t2), .val (.int (Int32.ofNat (2 + ll + xx))), .val (.ref ba), .val (.ref dd), .val (.ref dn)] [(.int vx), (.int (own_has (Int32.ofNat (2 + ll)) (Int32.ofNat (2 + ll + xx))))])) _
        refine XS.icmpNo X.here hx rfl (hb hby at_307) rfl (teq (own_after (i := 2 + ll) (d := xx) (by omega) (by omega) vx hv_vx)).2 ?_
        show Steps p.tables e below (T82.setTop (mkF m 310 #[.val (.int y0), .val (.int y1), .val (.int y2), .val (.int y3), .val (.long y4), .second, .val (.int y5), .val (.int (Int32.ofNat raw)), .val (.ref d1), .val (.int (Int32.ofNat ll)), .val (.int (Int32.ofNat xx)), .val (.int v11), .val (.int t2), .val (.int (Int32.ofNat (2 + ll + xx))), .val (.ref ba), .val (.ref dd), .val (.ref dn)] [])) _
        refine XS.iconst X.here hx rfl (hb hby at_310) ?_
        show Steps p.tables e below (T82.setTop (mkF m 311 #[.val (.int y0), .val (.int y1), .val (.int y2), .val (.int y3), .val (.long y4), .second, .val (.int y5), .val (.int (Int32.ofNat raw)), .val (.ref d1), .val (.int (Int32.ofNat ll)), .val (.int (Int32.ofNat xx)), .val (.int v11), .val (.int t2), .val (.int (Int32.ofNat (2 + ll + xx))), .val (.ref ba), .val (.ref dd), .val (.ref dn)] [(.int (1 : Int32))])) _
        refine XS.goto X.here hx rfl (pc0 := 311) (pc' := 315) rfl (hb hby at_311) (by decide) (by decide) ?_
        exact k)
    obtain ⟨fs_, hr, hrun, hended, hW, hsame⟩ := X.leave (v := some (.int (1 : Int32))) (fun h => by rw [Bd.returns] at h; cases h)
    refine ⟨_, _, pre0 _ (st _ ?_), hrun, hended, _, _, rfl, ?_, ⟨_, rfl⟩, hW, hsame.mono (by decide) (by decide)⟩
    · exact retN X hx (t := .boolean) Bd.returns (by simp) (hb hby at_315) hr
    · show Q_rm0 Z y0 y1 y2 y3 y4 y5 h0 n0 _ T82.heap _
      rw [eh]
      exact ⟨rfl, N⟩
set_option maxRecDepth 65536 in
set_option maxHeartbeats 40000000 in
theorem comes_1 {Post : Tables → Env → Array Value → State → Outcome → State → Prop} (hpost : ∀ tb e args s v u, (limb_1_1.after args s (.returned v) u = true ∧ limb_1_2.after args s (.returned v) u = true ∧ True) → FrameEnd s (.returned v) u (Jvm.fieldLocs frame_1_writes args s ++ Jvm.arrayLocs frame_1_arrays args s ++ Jvm.staticLocs frame_1_statics s) 24 128 → Post tb e args s (.returned v) u) :
    ArmFor flags0 classFile x code maxLocals ret World_1 tables_1 room_1 Calls_1 rest_1 Pre_1 Post := by
  intro l hfl _ _ p e ha hc hk s m args below hf hA hF happ hP
  obtain ⟨hcalls, hrest, hpre⟩ := hP
  obtain ⟨-, -, -, hnamed, -, -, -, hat⟩ := (Spec.applies_iff hf).mp happ
  obtain ⟨hg, hn⟩ := and_e (Cond.before_iff.mp (show (Jvm.Cond.and given_1 narrow_1).before args s = true from hpre))
  obtain ⟨g0, hg1⟩ := and_e hg
  obtain ⟨ha0, hg2⟩ := and_e hg1
  obtain ⟨ha1, hg3⟩ := and_e hg2
  obtain ⟨ha2, hg4⟩ := and_e hg3
  obtain ⟨ha3, hg5⟩ := and_e hg4
  obtain ⟨ha4, hg6⟩ := and_e hg5
  have ha5 := hg6
  obtain ⟨w0, w1, w2, w3, w4, w5, rfl⟩ : ∃ w0 w1 w2 w3 w4 w5 : Value, args = #[w0, w1, w2, w3, w4, w5] := by
    have hs : args.size = 6 := by simpa [Cond.value, given_1] using g0
    obtain ⟨L⟩ := args
    match L, hs with
    | [w0, w1, w2, w3, w4, w5], _ => exact ⟨w0, w1, w2, w3, w4, w5, rfl⟩
  have hw := fun d (hd : d ∈ tables_1) => atoms_spec (ws := Jvm.Cond.code x code maxLocals ret :: tables_1) hat d (List.mem_cons_of_mem _ hd)
  obtain ⟨i0, ei0⟩ := is_v ha0
  obtain rfl : w0 = (.int i0) := Option.some.inj ei0
  obtain ⟨i1, ei1⟩ := is_v ha1
  obtain rfl : w1 = (.int i1) := Option.some.inj ei1
  obtain ⟨i2, ei2⟩ := is_v ha2
  obtain rfl : w2 = (.int i2) := Option.some.inj ei2
  obtain ⟨i3, ei3⟩ := is_v ha3
  obtain rfl : w3 = (.int i3) := Option.some.inj ei3
  obtain ⟨i4, ei4⟩ := isL_v ha4
  obtain rfl : w4 = (.long i4) := Option.some.inj ei4
  obtain ⟨i5, ei5⟩ := is_v ha5
  obtain rfl : w5 = (.int i5) := Option.some.inj ei5
  obtain ⟨n, o, h1, h2, h3, _, L, rfl, ⟨rfl, N⟩, hq⟩ := rm0 l s _ hw tables_1 i0 i1 i2 i3 i4 i5 s.heap s.heap.size (Nat.le_refl _) p e ha hc hk s m _ below hf ((Spec.applies_iff_loose hf).mp happ).1 ⟨rfl, State.Warmed39.refl s, rfl⟩ trivial
  refine ⟨n, _, h1, h2, h3, hpost _ _ _ _ _ _ ⟨Cond.after_iff.mpr rfl, Cond.after_iff.mpr (eq_i res_at (Term.int_eval (1)) rfl), trivial⟩ ⟨hq.1, hq.2.1, (hq.2.2.sift fun y hy => Or.inr (N y hy)).mono (by decide) (by decide)⟩⟩
theorem main_1_1 : Claimed_1_1 := comes_1 fun _ _ _ _ _ _ h hF => ⟨h.1, hF⟩
theorem main_1_2 : Claimed_1_2 := comes_1 fun _ _ _ _ _ _ h hF => ⟨h.2.1, hF⟩
end Jvm.Pilot.@@N@@
namespace Jvm.Pilot.@@N@@
open Jvm Jvm.ClassFile Sem Op Lib Jvm.Free Jvm.Stand Jvm.Pilot.@@N@@.Jvm.D
/-! MADE BY PROGRAM (witnessworld.py) out of the Statement's table words and the real class files: 11 classes; the members and pool entries that the words name. The judged class is class 1, her method 1. -/
namespace start1
open Jvm.ClassFile
def u (s : String) : CpInfo := .utf8 (stringToUtf16 s)
/-- a pool by its gaps: so many unusable entries, then the entry; so many at the end -/
def gap : Nat → List CpInfo → List CpInfo
  | 0, r => r
  | n + 1, r => .unusable :: gap n r
def poolList (es : List (Nat × CpInfo)) (last : Nat) : List CpInfo := es.foldr (fun e r => gap e.1 (e.2 :: r)) (gap last [])
def pool (es : List (Nat × CpInfo)) (last : Nat) : Array CpInfo := ⟨poolList es last⟩
def fileOf (pool : Array CpInfo) (this : Nat) (attrs : Array Attribute := #[]) (ms : Array MethodInfo := #[]) (fl : Nat := 33) (sup : Nat := 0) (ifs : Array Nat := #[]) (fds : Array FieldInfo := #[]) : ClassFile where
  minorVersion := 0
  majorVersion := 65
  constantPool := pool
  accessFlags := fl
  thisClass := this
  superClass := sup
  interfaces := ifs
  fields := fds
  methods := ms
  attributes := attrs
def plain (name : String) (sup : Option ClassId) : Class where
  name := name
  kind := .ordinary
  loader := none
  accessFlags := 33
  super := sup
  interfaces := #[]
  cf := none
  fields := #[]
  methods := #[]
  instanceTypes := #[]
  staticTypes := #[]
  resolved := #[]
  callSites := []
  init := .initialized
  statics := none
  mirror := none

def pool0 : Array CpInfo := pool [(5, u "<init>"), (0, u "()V"), (1, .class_ 10), (1, u "java/lang/Object")] 113

def k0c0 : Code := { maxStack := 0, maxLocals := 1, code := object_method_1_code, exceptionTable := #[], attributes := #[] }
def k0m0 : Method := { name := "<init>", desc := "()V", sig := { parameters := [], returnType := none }, accessFlags := 1, code := some k0c0 }
/-- java/lang/Object -/
def k0 : Class := { plain "java/lang/Object" none with
  accessFlags := 33
  interfaces := #[]
  cf := some (fileOf pool0 8 #[] #[{ accessFlags := 1, nameIndex := 5, descriptorIndex := 6, attributes := #[] }] 33 0 #[] #[])
  fields := #[]
  methods := #[k0m0]
  instanceTypes := #[]
  staticTypes := #[]
  resolved := Array.replicate 124 none
  statics := none }

def pool1 : Array CpInfo := pool [(2, .class_ 4), (1, u "java/lang/Object"), (0, u "<init>"), (0, u "()V"), (0, .class_ 8), (0, u "org/kartenwerk/Der"), (0, .methodref 7 10), (0, .nameAndType 5 11), (0, u "([B)V"), (0, .methodref 7 13), (0, .nameAndType 14 15), (0, u "hasNext"), (0, u "()Z"), (0, .methodref 7 17), (0, .nameAndType 18 19), (0, u "sequence"), (0, u "()Lorg/kartenwerk/Der;"), (0, .methodref 7 21), (0, .nameAndType 22 6), (0, u "skip"), (0, .class_ 24), (0, u "org/kartenwerk/DerHasNextPinLaw"), (2, u "law"), (0, u "(IIIIJI)Z")] 8

def k1m0 : Method := { name := "<init>", desc := "()V", sig := { parameters := [], returnType := none }, accessFlags := 1, code := none }
def k1c1 : Code := { maxStack := 5, maxLocals := 17, code := code, exceptionTable := #[], attributes := #[] }
def k1m1 : Method := { name := "law", desc := "(IIIIJI)Z", sig := { parameters := [.int, .int, .int, .int, .long, .int], returnType := some .boolean }, accessFlags := 9, code := some k1c1 }
/-- org/kartenwerk/DerHasNextPinLaw -/
def k1 : Class := { plain "org/kartenwerk/DerHasNextPinLaw" (some 0) with
  accessFlags := 49
  interfaces := #[]
  cf := some (fileOf pool1 23 #[] #[{ accessFlags := 1, nameIndex := 5, descriptorIndex := 6, attributes := #[] }, { accessFlags := 9, nameIndex := 27, descriptorIndex := 28, attributes := #[] }] 49 2 #[] #[])
  fields := #[]
  methods := #[k1m0, k1m1]
  instanceTypes := #[]
  staticTypes := #[]
  resolved := Array.replicate 37 none
  statics := none }

def pool2 : Array CpInfo := pool [(1, .methodref 2 3), (0, .class_ 4), (0, .nameAndType 5 6), (0, u "org/kartenwerk/Der"), (0, u "<init>"), (0, u "([BII)V"), (0, .methodref 8 9), (0, .class_ 10), (0, .nameAndType 5 11), (0, u "java/lang/Object"), (0, u "()V"), (0, .fieldref 2 13), (0, .nameAndType 14 15), (0, u "bytes"), (0, u "[B"), (0, .fieldref 2 17), (0, .nameAndType 18 19), (0, u "position"), (0, u "I"), (0, .fieldref 2 21), (0, .nameAndType 22 19), (0, u "end"), (0, .methodref 2 24), (0, .nameAndType 25 26), (0, u "hasNext"), (0, u "()Z"), (7, .methodref 2 35), (0, .nameAndType 36 37), (0, u "constructed"), (0, u "(I)Lorg/kartenwerk/Der;"), (0, .methodref 2 39), (0, .nameAndType 40 41), (0, u "next"), (0, u "(I)Lorg/kartenwerk/Der$Value;"), (0, .methodref 43 44), (0, .class_ 45), (0, .nameAndType 46 47), (0, u "org/kartenwerk/Der$Value"), (0, u "start"), (0, u "()I"), (0, .methodref 43 49), (0, .nameAndType 22 47), (47, u "([B)V"), (23, .methodref 2 122), (0, .nameAndType 40 123), (0, u "(III)Lorg/kartenwerk/Der$Value;"), (0, .methodref 43 125), (0, .nameAndType 40 47), (0, .methodref 2 127), (0, .nameAndType 128 47), (0, u "peek"), (37, .methodref 43 167), (0, .nameAndType 5 168), (0, u "(IIII)V"), (15, u "INTEGER"), (2, u "OCTET_STRING"), (1, u "OID"), (1, u "SEQUENCE"), (1, u "SET"), (1, u "CONSTRUCTED"), (1, u "CONTEXT"), (1, u "MAX_DEPTH"), (5, u "sequence"), (0, u "()Lorg/kartenwerk/Der;"), (7, u "skip")] 19

def k2c0 : Code := { maxStack := 4, maxLocals := 2, code := prog_42_method_1_code, exceptionTable := #[], attributes := #[] }
def k2m0 : Method := { name := "<init>", desc := "([B)V", sig := { parameters := [(.array .byte)], returnType := none }, accessFlags := 0, code := some k2c0 }
def k2c1 : Code := { maxStack := 2, maxLocals := 4, code := prog_42_method_2_code, exceptionTable := #[], attributes := #[] }
def k2m1 : Method := { name := "<init>", desc := "([BII)V", sig := { parameters := [(.array .byte), .int, .int], returnType := none }, accessFlags := 2, code := some k2c1 }
def k2c2 : Code := { maxStack := 2, maxLocals := 1, code := prog_42_method_3_code, exceptionTable := #[], attributes := #[] }
def k2m2 : Method := { name := "hasNext", desc := "()Z", sig := { parameters := [], returnType := some .boolean }, accessFlags := 0, code := some k2c2 }
def k2c3 : Code := { maxStack := 3, maxLocals := 1, code := prog_42_method_4_code, exceptionTable := #[], attributes := #[] }
def k2m3 : Method := { name := "peek", desc := "()I", sig := { parameters := [], returnType := some .int }, accessFlags := 0, code := some k2c3 }
def k2c4 : Code := { maxStack := 2, maxLocals := 1, code := prog_42_method_5_code, exceptionTable := #[], attributes := #[] }
def k2m4 : Method := { name := "sequence", desc := "()Lorg/kartenwerk/Der;", sig := { parameters := [], returnType := some (.object "org/kartenwerk/Der") }, accessFlags := 0, code := some k2c4 }
def k2c5 : Code := { maxStack := 5, maxLocals := 1, code := prog_42_method_13_code, exceptionTable := #[], attributes := #[] }
def k2m5 : Method := { name := "skip", desc := "()V", sig := { parameters := [], returnType := none }, accessFlags := 0, code := some k2c5 }
def k2c6 : Code := { maxStack := 5, maxLocals := 3, code := prog_42_method_14_code, exceptionTable := #[], attributes := #[] }
def k2m6 : Method := { name := "constructed", desc := "(I)Lorg/kartenwerk/Der;", sig := { parameters := [.int], returnType := some (.object "org/kartenwerk/Der") }, accessFlags := 2, code := some k2c6 }
def k2c7 : Code := { maxStack := 4, maxLocals := 4, code := prog_42_method_17_code, exceptionTable := #[], attributes := #[] }
def k2m7 : Method := { name := "next", desc := "(I)Lorg/kartenwerk/Der$Value;", sig := { parameters := [.int], returnType := some (.object "org/kartenwerk/Der$Value") }, accessFlags := 2, code := some k2c7 }
def k2c8 : Code := { maxStack := 8, maxLocals := 12, code := prog_42_method_18_code, exceptionTable := #[], attributes := #[] }
def k2m8 : Method := { name := "next", desc := "(III)Lorg/kartenwerk/Der$Value;", sig := { parameters := [.int, .int, .int], returnType := some (.object "org/kartenwerk/Der$Value") }, accessFlags := 2, code := some k2c8 }
/-- org/kartenwerk/Der -/
def k2 : Class := { plain "org/kartenwerk/Der" (some 0) with
  accessFlags := 48
  interfaces := #[]
  cf := some (fileOf pool2 2 #[.nestMembers #[43]] #[{ accessFlags := 0, nameIndex := 5, descriptorIndex := 97, attributes := #[] }, { accessFlags := 2, nameIndex := 5, descriptorIndex := 6, attributes := #[] }, { accessFlags := 0, nameIndex := 25, descriptorIndex := 26, attributes := #[] }, { accessFlags := 0, nameIndex := 128, descriptorIndex := 47, attributes := #[] }, { accessFlags := 0, nameIndex := 205, descriptorIndex := 206, attributes := #[] }, { accessFlags := 0, nameIndex := 214, descriptorIndex := 11, attributes := #[] }, { accessFlags := 2, nameIndex := 36, descriptorIndex := 37, attributes := #[] }, { accessFlags := 2, nameIndex := 40, descriptorIndex := 41, attributes := #[] }, { accessFlags := 2, nameIndex := 40, descriptorIndex := 123, attributes := #[] }] 48 8 #[] #[{ accessFlags := 24, nameIndex := 184, descriptorIndex := 19, attributes := #[] }, { accessFlags := 26, nameIndex := 187, descriptorIndex := 19, attributes := #[] }, { accessFlags := 26, nameIndex := 189, descriptorIndex := 19, attributes := #[] }, { accessFlags := 26, nameIndex := 191, descriptorIndex := 19, attributes := #[] }, { accessFlags := 26, nameIndex := 193, descriptorIndex := 19, attributes := #[] }, { accessFlags := 26, nameIndex := 195, descriptorIndex := 19, attributes := #[] }, { accessFlags := 26, nameIndex := 197, descriptorIndex := 19, attributes := #[] }, { accessFlags := 26, nameIndex := 199, descriptorIndex := 19, attributes := #[] }, { accessFlags := 18, nameIndex := 14, descriptorIndex := 15, attributes := #[] }, { accessFlags := 18, nameIndex := 22, descriptorIndex := 19, attributes := #[] }, { accessFlags := 2, nameIndex := 18, descriptorIndex := 19, attributes := #[] }])
  fields := #[{ name := "INTEGER", type := .int, accessFlags := 24, slot := 0, constantValue := 0 }, { name := "OCTET_STRING", type := .int, accessFlags := 26, slot := 1, constantValue := 0 }, { name := "OID", type := .int, accessFlags := 26, slot := 2, constantValue := 0 }, { name := "SEQUENCE", type := .int, accessFlags := 26, slot := 3, constantValue := 0 }, { name := "SET", type := .int, accessFlags := 26, slot := 4, constantValue := 0 }, { name := "CONSTRUCTED", type := .int, accessFlags := 26, slot := 5, constantValue := 0 }, { name := "CONTEXT", type := .int, accessFlags := 26, slot := 6, constantValue := 0 }, { name := "MAX_DEPTH", type := .int, accessFlags := 26, slot := 7, constantValue := 0 }, { name := "bytes", type := (.array .byte), accessFlags := 18, slot := 0, constantValue := 0 }, { name := "end", type := .int, accessFlags := 18, slot := 1, constantValue := 0 }, { name := "position", type := .int, accessFlags := 2, slot := 2, constantValue := 0 }]
  methods := #[k2m0, k2m1, k2m2, k2m3, k2m4, k2m5, k2m6, k2m7, k2m8]
  instanceTypes := #[(.array .byte), .int, .int]
  staticTypes := #[.int, .int, .int, .int, .int, .int, .int, .int]
  resolved := ((Array.replicate 234 none).setIfInBounds 43 (some (.cls 4))).setIfInBounds 166 (some (.method ⟨4, 0⟩))
  statics := none }

def pool3 : Array CpInfo := pool [(1, .methodref 2 3), (0, .class_ 4), (0, .nameAndType 5 6), (0, u "java/lang/Object"), (0, u "<init>"), (0, u "()V"), (0, .class_ 8), (0, u "java/lang/Record")] 13

def k3c0 : Code := { maxStack := 1, maxLocals := 1, code := jdk_30_method_1_code, exceptionTable := #[], attributes := #[] }
def k3m0 : Method := { name := "<init>", desc := "()V", sig := { parameters := [], returnType := none }, accessFlags := 4, code := some k3c0 }
/-- java/lang/Record -/
def k3 : Class := { plain "java/lang/Record" (some 0) with
  accessFlags := 1057
  interfaces := #[]
  cf := some (fileOf pool3 7 #[] #[{ accessFlags := 4, nameIndex := 5, descriptorIndex := 6, attributes := #[] }] 1057 2 #[] #[])
  fields := #[]
  methods := #[k3m0]
  instanceTypes := #[]
  staticTypes := #[]
  resolved := Array.replicate 22 none
  statics := none }

def pool4 : Array CpInfo := pool [(1, .methodref 2 3), (0, .class_ 4), (0, .nameAndType 5 6), (0, u "java/lang/Record"), (0, u "<init>"), (0, u "()V"), (0, .fieldref 8 9), (0, .class_ 10), (0, .nameAndType 11 12), (0, u "org/kartenwerk/Der$Value"), (0, u "tag"), (0, u "I"), (0, .fieldref 8 14), (0, .nameAndType 15 12), (0, u "start"), (0, .fieldref 8 17), (0, .nameAndType 18 12), (0, u "end"), (0, .fieldref 8 20), (0, .nameAndType 21 12), (0, u "next"), (12, u "(IIII)V"), (4, u "()I"), (4, .class_ 45), (0, u "org/kartenwerk/Der")] 22

def k4c0 : Code := { maxStack := 2, maxLocals := 5, code := prog_43_method_1_code, exceptionTable := #[], attributes := #[] }
def k4m0 : Method := { name := "<init>", desc := "(IIII)V", sig := { parameters := [.int, .int, .int, .int], returnType := none }, accessFlags := 2, code := some k4c0 }
def k4c1 : Code := { maxStack := 1, maxLocals := 1, code := prog_43_method_6_code, exceptionTable := #[], attributes := #[] }
def k4m1 : Method := { name := "start", desc := "()I", sig := { parameters := [], returnType := some .int }, accessFlags := 1, code := some k4c1 }
def k4c2 : Code := { maxStack := 1, maxLocals := 1, code := prog_43_method_7_code, exceptionTable := #[], attributes := #[] }
def k4m2 : Method := { name := "end", desc := "()I", sig := { parameters := [], returnType := some .int }, accessFlags := 1, code := some k4c2 }
def k4c3 : Code := { maxStack := 1, maxLocals := 1, code := prog_43_method_8_code, exceptionTable := #[], attributes := #[] }
def k4m3 : Method := { name := "next", desc := "()I", sig := { parameters := [], returnType := some .int }, accessFlags := 1, code := some k4c3 }
/-- org/kartenwerk/Der$Value -/
def k4 : Class := { plain "org/kartenwerk/Der$Value" (some 3) with
  accessFlags := 48
  interfaces := #[]
  cf := some (fileOf pool4 8 #[.nestHost 44] #[{ accessFlags := 2, nameIndex := 5, descriptorIndex := 34, attributes := #[] }, { accessFlags := 1, nameIndex := 15, descriptorIndex := 39, attributes := #[] }, { accessFlags := 1, nameIndex := 18, descriptorIndex := 39, attributes := #[] }, { accessFlags := 1, nameIndex := 21, descriptorIndex := 39, attributes := #[] }] 48 2 #[] #[{ accessFlags := 18, nameIndex := 11, descriptorIndex := 12, attributes := #[] }, { accessFlags := 18, nameIndex := 15, descriptorIndex := 12, attributes := #[] }, { accessFlags := 18, nameIndex := 18, descriptorIndex := 12, attributes := #[] }, { accessFlags := 18, nameIndex := 21, descriptorIndex := 12, attributes := #[] }])
  fields := #[{ name := "tag", type := .int, accessFlags := 18, slot := 0, constantValue := 0 }, { name := "start", type := .int, accessFlags := 18, slot := 1, constantValue := 0 }, { name := "end", type := .int, accessFlags := 18, slot := 2, constantValue := 0 }, { name := "next", type := .int, accessFlags := 18, slot := 3, constantValue := 0 }]
  methods := #[k4m0, k4m1, k4m2, k4m3]
  instanceTypes := #[.int, .int, .int, .int]
  staticTypes := #[]
  resolved := Array.replicate 68 none
  statics := none }

def pool5 : Array CpInfo := pool [(1, u "java/lang/Cloneable"), (0, .class_ 1), (0, u "java/lang/Object"), (0, .class_ 3)] 3

/-- java/lang/Cloneable -/
def k5 : Class := { plain "java/lang/Cloneable" (some 0) with
  accessFlags := 1537
  interfaces := #[]
  cf := some (fileOf pool5 2 #[] #[] 1537 4 #[] #[])
  fields := #[]
  methods := #[]
  instanceTypes := #[]
  staticTypes := #[]
  resolved := Array.replicate 8 none
  statics := none }

def pool6 : Array CpInfo := pool [(1, u "java/io/Serializable"), (0, .class_ 1), (0, u "java/lang/Object"), (0, .class_ 3)] 3

/-- java/io/Serializable -/
def k6 : Class := { plain "java/io/Serializable" (some 0) with
  accessFlags := 1537
  interfaces := #[]
  cf := some (fileOf pool6 2 #[] #[] 1537 4 #[] #[])
  fields := #[]
  methods := #[]
  instanceTypes := #[]
  staticTypes := #[]
  resolved := Array.replicate 8 none
  statics := none }

/-- the primitive byte -/
def k7 : Class := { plain "byte" none with kind := .primitive 'B', accessFlags := 0x411 }
/-- [B -/
def k8 : Class := { plain "[B" (some 0) with kind := .array 7 .byte, interfaces := #[5, 6], accessFlags := 1041 }

/-- the primitive int -/
def k9 : Class := { plain "int" none with kind := .primitive 'I', accessFlags := 0x411 }
/-- [I -/
def k10 : Class := { plain "[I" (some 0) with kind := .array 9 .int, interfaces := #[5, 6], accessFlags := 1041 }

def heap : Heap := #[]
def classes : Array Class := #[k0, k1, k2, k3, k4, k5, k6, k7, k8, k9, k10]
def interned : List (Array UInt16 × Addr) := []
def slotsUsed : Nat := 0
def theMethod : MethodId := ⟨1, 1⟩
def args0 : Array Value := #[.int 1, .int 2, .int 3, .int 1, .long 5, .int 1]
def aboutOver (below : List Frame) : State where
  vm := { classes := classes, interned := interned.toArray }
  heap := heap
  slotsUsed := slotsUsed
  threads := #[{ frames := .invoking theMethod args0 :: below }]
def below0 : List Frame := [.native { method := ⟨0, 0⟩, args := #[] }]
def about1 : State := aboutOver below0
def p0 : Program := .bare "" "" ""
def e0 : Env := launch0.env 0 0 0
theorem w_frames : about1.frames = Frame.invoking theMethod args0 :: below0 := rfl
set_option maxRecDepth 65536 in
theorem w_args : argsFit about1.vm theMethod args0 = true := by decide +kernel
set_option maxRecDepth 65536 in
theorem w_heap : heapFits about1 = true := by decide +kernel
set_option maxRecDepth 65536 in
theorem w_runnable : about1.curStatus? = some .runnable := by decide +kernel
set_option maxRecDepth 65536 in
theorem w_alone : about1.alone = true := by decide +kernel
set_option maxRecDepth 65536 in
theorem w_named : about1.methodNamed? x = some theMethod := by decide +kernel
set_option maxRecDepth 65536 in
theorem w_hears : about1.hears theMethod below0 = true := by decide +kernel
set_option maxRecDepth 65536 in
theorem w_ripe : about1.ripe theMethod args0 below0 = true := by decide +kernel
theorem w_running : about1.status = .running := rfl
set_option maxRecDepth 65536 in
theorem w_room : about1.hasRoom e0.platform room_1 = true :=
  launch0.hasRoom_least _ room_1 (by decide +kernel) (by decide +kernel) (by decide +kernel) (by decide +kernel) (by decide +kernel) (by decide +kernel)
theorem allAtoms_all (ts : List Jvm.Cond) (a : Array Jvm.Value) (st : Jvm.State) : (allAtoms ts).before a st = ts.all (fun c => c.before a st) := by
  induction ts with
  | nil => rfl
  | cons c t ih =>
    show (Jvm.Cond.and c (allAtoms t)).before a st = _
    rw [Jvm.Cond.before_and, ih, List.all_cons]
def words1 : List Jvm.Cond := Jvm.Cond.code x code maxLocals ret :: tables_1
/-- a 'code' word, met by the world's own term for the bytes: nothing is compared byte by byte -/
theorem code_word {y : MethodName} {bytes : ByteArray} {mx : Nat} {rt : Option FieldType} {a : Array Value} {s : State} {m : MethodId} {meth : Method} {c : Code} (h1 : s.methodNamed? y = some m) (h2 : s.vm.method? m = some meth) (h3 : meth.code = some c) (h4 : c.code = bytes)
    (h5 : (c.maxLocals == mx && c.exceptionTable.isEmpty && decide (c.maxStack ≤ mostOperands) && decide (meth.sig.returnType = rt) && !meth.locks && decide (parseMethodDescriptor y.desc = some meth.sig)) = true) : (Jvm.Cond.code y bytes mx rt).before a s = true := by
  simp only [Bool.and_eq_true, beq_iff_eq, Bool.not_eq_true', decide_eq_true_eq] at h5
  obtain ⟨⟨⟨⟨⟨g1, g2⟩, g3⟩, g4⟩, g5⟩, g6⟩ := h5
  simp [Cond.before, Cond.holds, Cond.value, h1, h2, h3, h4, g1, g2, g3, g4, g5, g6]
def isCode : Jvm.Cond → Bool
  | .code _ _ _ _ => true
  | _ => false
theorem all_split {L : List Jvm.Cond} {P : Jvm.Cond → Bool} (h1 : L.all (fun c => isCode c || P c) = true) (h2 : ∀ c ∈ L.filter isCode, P c = true) : L.all P = true := by
  refine List.all_eq_true.mpr fun c hc => ?_
  have h := List.all_eq_true.mp h1 c hc
  rcases Bool.eq_false_or_eq_true (isCode c) with hi | hi
  · exact h2 c (List.mem_filter.mpr ⟨hc, hi⟩)
  · simpa [hi] using h
set_option maxRecDepth 65536 in
theorem w_c0 : (Jvm.Cond.code x code maxLocals ret).before args0 about1 = true := code_word (m := ⟨1, 1⟩) (meth := k1m1) (c := k1c1) (by decide +kernel) rfl rfl rfl (by decide +kernel)
set_option maxRecDepth 65536 in
theorem w_c1 : (Jvm.Cond.code ({ cls := "org/kartenwerk/Der", name := "<init>", desc := "([B)V" } : Jvm.MethodName) prog_42_method_1_code (2 : Nat) (Option.none : Option Jvm.ClassFile.FieldType)).before args0 about1 = true := code_word (m := ⟨2, 0⟩) (meth := k2m0) (c := k2c0) (by decide +kernel) rfl rfl rfl (by decide +kernel)
set_option maxRecDepth 65536 in
theorem w_c2 : (Jvm.Cond.code ({ cls := "org/kartenwerk/Der", name := "<init>", desc := "([BII)V" } : Jvm.MethodName) prog_42_method_2_code (4 : Nat) (Option.none : Option Jvm.ClassFile.FieldType)).before args0 about1 = true := code_word (m := ⟨2, 1⟩) (meth := k2m1) (c := k2c1) (by decide +kernel) rfl rfl rfl (by decide +kernel)
set_option maxRecDepth 65536 in
theorem w_c3 : (Jvm.Cond.code ({ cls := "java/lang/Object", name := "<init>", desc := "()V" } : Jvm.MethodName) object_method_1_code (1 : Nat) (Option.none : Option Jvm.ClassFile.FieldType)).before args0 about1 = true := code_word (m := ⟨0, 0⟩) (meth := k0m0) (c := k0c0) (by decide +kernel) rfl rfl rfl (by decide +kernel)
set_option maxRecDepth 65536 in
theorem w_c4 : (Jvm.Cond.code ({ cls := "org/kartenwerk/Der", name := "hasNext", desc := "()Z" } : Jvm.MethodName) prog_42_method_3_code (1 : Nat) (Option.some Jvm.ClassFile.FieldType.boolean)).before args0 about1 = true := code_word (m := ⟨2, 2⟩) (meth := k2m2) (c := k2c2) (by decide +kernel) rfl rfl rfl (by decide +kernel)
set_option maxRecDepth 65536 in
theorem w_c5 : (Jvm.Cond.code ({ cls := "org/kartenwerk/Der", name := "skip", desc := "()V" } : Jvm.MethodName) prog_42_method_13_code (1 : Nat) (Option.none : Option Jvm.ClassFile.FieldType)).before args0 about1 = true := code_word (m := ⟨2, 5⟩) (meth := k2m5) (c := k2c5) (by decide +kernel) rfl rfl rfl (by decide +kernel)
set_option maxRecDepth 65536 in
theorem w_c6 : (Jvm.Cond.code ({ cls := "org/kartenwerk/Der", name := "next", desc := "(III)Lorg/kartenwerk/Der$Value;" } : Jvm.MethodName) prog_42_method_18_code (12 : Nat) (Option.some (Jvm.ClassFile.FieldType.object "org/kartenwerk/Der$Value"))).before args0 about1 = true := code_word (m := ⟨2, 8⟩) (meth := k2m8) (c := k2c8) (by decide +kernel) rfl rfl rfl (by decide +kernel)
set_option maxRecDepth 65536 in
theorem w_c7 : (Jvm.Cond.code ({ cls := "org/kartenwerk/Der$Value", name := "<init>", desc := "(IIII)V" } : Jvm.MethodName) prog_43_method_1_code (5 : Nat) (Option.none : Option Jvm.ClassFile.FieldType)).before args0 about1 = true := code_word (m := ⟨4, 0⟩) (meth := k4m0) (c := k4c0) (by decide +kernel) rfl rfl rfl (by decide +kernel)
set_option maxRecDepth 65536 in
theorem w_c8 : (Jvm.Cond.code ({ cls := "java/lang/Record", name := "<init>", desc := "()V" } : Jvm.MethodName) jdk_30_method_1_code (1 : Nat) (Option.none : Option Jvm.ClassFile.FieldType)).before args0 about1 = true := code_word (m := ⟨3, 0⟩) (meth := k3m0) (c := k3c0) (by decide +kernel) rfl rfl rfl (by decide +kernel)
set_option maxRecDepth 65536 in
theorem w_c9 : (Jvm.Cond.code ({ cls := "org/kartenwerk/Der$Value", name := "next", desc := "()I" } : Jvm.MethodName) prog_43_method_8_code (1 : Nat) (Option.some Jvm.ClassFile.FieldType.int)).before args0 about1 = true := code_word (m := ⟨4, 3⟩) (meth := k4m3) (c := k4c3) (by decide +kernel) rfl rfl rfl (by decide +kernel)
set_option maxRecDepth 65536 in
theorem w_c10 : (Jvm.Cond.code ({ cls := "org/kartenwerk/Der", name := "sequence", desc := "()Lorg/kartenwerk/Der;" } : Jvm.MethodName) prog_42_method_5_code (1 : Nat) (Option.some (Jvm.ClassFile.FieldType.object "org/kartenwerk/Der"))).before args0 about1 = true := code_word (m := ⟨2, 4⟩) (meth := k2m4) (c := k2c4) (by decide +kernel) rfl rfl rfl (by decide +kernel)
set_option maxRecDepth 65536 in
theorem w_c11 : (Jvm.Cond.code ({ cls := "org/kartenwerk/Der", name := "constructed", desc := "(I)Lorg/kartenwerk/Der;" } : Jvm.MethodName) prog_42_method_14_code (3 : Nat) (Option.some (Jvm.ClassFile.FieldType.object "org/kartenwerk/Der"))).before args0 about1 = true := code_word (m := ⟨2, 6⟩) (meth := k2m6) (c := k2c6) (by decide +kernel) rfl rfl rfl (by decide +kernel)
set_option maxRecDepth 65536 in
theorem w_c12 : (Jvm.Cond.code ({ cls := "org/kartenwerk/Der", name := "next", desc := "(I)Lorg/kartenwerk/Der$Value;" } : Jvm.MethodName) prog_42_method_17_code (4 : Nat) (Option.some (Jvm.ClassFile.FieldType.object "org/kartenwerk/Der$Value"))).before args0 about1 = true := code_word (m := ⟨2, 7⟩) (meth := k2m7) (c := k2c7) (by decide +kernel) rfl rfl rfl (by decide +kernel)
set_option maxRecDepth 65536 in
theorem w_c13 : (Jvm.Cond.code ({ cls := "org/kartenwerk/Der", name := "peek", desc := "()I" } : Jvm.MethodName) prog_42_method_4_code (1 : Nat) (Option.some Jvm.ClassFile.FieldType.int)).before args0 about1 = true := code_word (m := ⟨2, 3⟩) (meth := k2m3) (c := k2c3) (by decide +kernel) rfl rfl rfl (by decide +kernel)
set_option maxRecDepth 65536 in
theorem w_c14 : (Jvm.Cond.code ({ cls := "org/kartenwerk/Der$Value", name := "start", desc := "()I" } : Jvm.MethodName) prog_43_method_6_code (1 : Nat) (Option.some Jvm.ClassFile.FieldType.int)).before args0 about1 = true := code_word (m := ⟨4, 1⟩) (meth := k4m1) (c := k4c1) (by decide +kernel) rfl rfl rfl (by decide +kernel)
set_option maxRecDepth 65536 in
theorem w_c15 : (Jvm.Cond.code ({ cls := "org/kartenwerk/Der$Value", name := "end", desc := "()I" } : Jvm.MethodName) prog_43_method_7_code (1 : Nat) (Option.some Jvm.ClassFile.FieldType.int)).before args0 about1 = true := code_word (m := ⟨4, 2⟩) (meth := k4m2) (c := k4c2) (by decide +kernel) rfl rfl rfl (by decide +kernel)
def codes1 : List Jvm.Cond := [Jvm.Cond.code x code maxLocals ret, Jvm.Cond.code ({ cls := "org/kartenwerk/Der", name := "<init>", desc := "([B)V" } : Jvm.MethodName) prog_42_method_1_code (2 : Nat) (Option.none : Option Jvm.ClassFile.FieldType), Jvm.Cond.code ({ cls := "org/kartenwerk/Der", name := "<init>", desc := "([BII)V" } : Jvm.MethodName) prog_42_method_2_code (4 : Nat) (Option.none : Option Jvm.ClassFile.FieldType), Jvm.Cond.code ({ cls := "java/lang/Object", name := "<init>", desc := "()V" } : Jvm.MethodName) object_method_1_code (1 : Nat) (Option.none : Option Jvm.ClassFile.FieldType), Jvm.Cond.code ({ cls := "org/kartenwerk/Der", name := "hasNext", desc := "()Z" } : Jvm.MethodName) prog_42_method_3_code (1 : Nat) (Option.some Jvm.ClassFile.FieldType.boolean), Jvm.Cond.code ({ cls := "org/kartenwerk/Der", name := "skip", desc := "()V" } : Jvm.MethodName) prog_42_method_13_code (1 : Nat) (Option.none : Option Jvm.ClassFile.FieldType), Jvm.Cond.code ({ cls := "org/kartenwerk/Der", name := "next", desc := "(III)Lorg/kartenwerk/Der$Value;" } : Jvm.MethodName) prog_42_method_18_code (12 : Nat) (Option.some (Jvm.ClassFile.FieldType.object "org/kartenwerk/Der$Value")), Jvm.Cond.code ({ cls := "org/kartenwerk/Der$Value", name := "<init>", desc := "(IIII)V" } : Jvm.MethodName) prog_43_method_1_code (5 : Nat) (Option.none : Option Jvm.ClassFile.FieldType), Jvm.Cond.code ({ cls := "java/lang/Record", name := "<init>", desc := "()V" } : Jvm.MethodName) jdk_30_method_1_code (1 : Nat) (Option.none : Option Jvm.ClassFile.FieldType), Jvm.Cond.code ({ cls := "org/kartenwerk/Der$Value", name := "next", desc := "()I" } : Jvm.MethodName) prog_43_method_8_code (1 : Nat) (Option.some Jvm.ClassFile.FieldType.int), Jvm.Cond.code ({ cls := "org/kartenwerk/Der", name := "sequence", desc := "()Lorg/kartenwerk/Der;" } : Jvm.MethodName) prog_42_method_5_code (1 : Nat) (Option.some (Jvm.ClassFile.FieldType.object "org/kartenwerk/Der")), Jvm.Cond.code ({ cls := "org/kartenwerk/Der", name := "constructed", desc := "(I)Lorg/kartenwerk/Der;" } : Jvm.MethodName) prog_42_method_14_code (3 : Nat) (Option.some (Jvm.ClassFile.FieldType.object "org/kartenwerk/Der")), Jvm.Cond.code ({ cls := "org/kartenwerk/Der", name := "next", desc := "(I)Lorg/kartenwerk/Der$Value;" } : Jvm.MethodName) prog_42_method_17_code (4 : Nat) (Option.some (Jvm.ClassFile.FieldType.object "org/kartenwerk/Der$Value")), Jvm.Cond.code ({ cls := "org/kartenwerk/Der", name := "peek", desc := "()I" } : Jvm.MethodName) prog_42_method_4_code (1 : Nat) (Option.some Jvm.ClassFile.FieldType.int), Jvm.Cond.code ({ cls := "org/kartenwerk/Der$Value", name := "start", desc := "()I" } : Jvm.MethodName) prog_43_method_6_code (1 : Nat) (Option.some Jvm.ClassFile.FieldType.int), Jvm.Cond.code ({ cls := "org/kartenwerk/Der$Value", name := "end", desc := "()I" } : Jvm.MethodName) prog_43_method_7_code (1 : Nat) (Option.some Jvm.ClassFile.FieldType.int)]
set_option maxRecDepth 65536 in
theorem codes_eq : words1.filter isCode = codes1 := rfl
theorem w_codes : ∀ c ∈ words1.filter isCode, c.before args0 about1 = true := by
  rw [codes_eq]
  intro c hc
  simp only [codes1, List.mem_cons, List.not_mem_nil, or_false] at hc
  rcases hc with rfl | rfl | rfl | rfl | rfl | rfl | rfl | rfl | rfl | rfl | rfl | rfl | rfl | rfl | rfl | rfl
  · exact w_c0
  · exact w_c1
  · exact w_c2
  · exact w_c3
  · exact w_c4
  · exact w_c5
  · exact w_c6
  · exact w_c7
  · exact w_c8
  · exact w_c9
  · exact w_c10
  · exact w_c11
  · exact w_c12
  · exact w_c13
  · exact w_c14
  · exact w_c15
set_option maxRecDepth 65536 in
theorem w_t1 : (words1.take 24).all (fun c => isCode c || c.before args0 about1) = true := by decide +kernel
set_option maxRecDepth 65536 in
theorem w_t2 : ((words1.drop 24).take 24).all (fun c => isCode c || c.before args0 about1) = true := by decide +kernel
set_option maxRecDepth 65536 in
theorem w_t3 : (((words1.drop 24).drop 24).take 24).all (fun c => isCode c || c.before args0 about1) = true := by decide +kernel
set_option maxRecDepth 65536 in
theorem w_t4 : (((words1.drop 24).drop 24).drop 24).all (fun c => isCode c || c.before args0 about1) = true := by decide +kernel
theorem w_tables : (allAtoms (Jvm.Cond.code x code maxLocals ret :: tables_1)).before args0 about1 = true := by
  rw [allAtoms_all]
  show words1.all (fun c => c.before args0 about1) = true
  refine all_split ?_ w_codes
  rw [← List.take_append_drop 24 words1, List.all_append, w_t1, ← List.take_append_drop 24 (words1.drop 24), List.all_append, w_t2, ← List.take_append_drop 24 ((words1.drop 24).drop 24), List.all_append, w_t3, w_t4]
  rfl
set_option maxRecDepth 65536 in
theorem w_case : (Jvm.Cond.and given_1 narrow_1).before args0 about1 = true := by decide +kernel
theorem w_applies : (headSpec (Jvm.Cond.code x code maxLocals ret :: tables_1) room_1).applies x e0.platform about1 = true :=
  (Spec.applies_iff w_frames).mpr ⟨w_running, w_runnable, w_alone, w_named, w_hears, w_ripe, w_room, w_tables⟩
theorem atStart : AtStart classFile x code maxLocals ret World_1 tables_1 room_1 Calls_1 rest_1 Pre_1 launch0 p0 e0 about1 theMethod args0 below0 :=
  ⟨lists_1, trivial, launch0.admits_env _ _ _, launch0.least_env, fairChoices_fair.cas, fairChoices_fair.clock, w_frames, w_args, w_heap, w_applies, trivial, trivial, w_case⟩
end start1
theorem witness_1 : WitnessClaimed_1 := ⟨start1.p0, start1.e0, start1.about1, start1.theMethod, start1.args0, start1.below0, start1.atStart⟩
end Jvm.Pilot.@@N@@
