import JvmDerived
import JvmDerived.Pilot.@@N@@Statement
import JvmDerived.Pilot.@@N@@Code
set_option linter.unusedVariables false
set_option linter.unusedSimpArgs false
namespace Jvm.RoadKit
open Sem ClassFile Op Lib Jvm.Stand Jvm.Free Jvm.LawKit
section New
variable {p : Program} {l : Launch} {e : Env} {R : Room} {s : State} {m : MethodId} {args : Array Value} {below : List Frame} {meth : Method} {c : Code} {T : State} {locs : List Loc} {cells slots : Nat}
theorem retI (X : Stand p l e R s m args below meth c T locs cells slots) (hx : p.tables.exec = Jvm.exec) {pc : Nat} {Ls : Array Slot} {z : Int32} {rest : List Value} (hret : meth.sig.returnType = some .int) (hd : decode c.code pc = .ok (.ireturn, 1)) {fs : List Frame}
    (hl : ∀ (f : JFrame) (acts : List Action), f.method = m → f.locked = none → f.entered = [] → (doReturn e (T.setTop f) acts (some (.int z))).1 = T.setFrames fs) : Steps p.tables e below (T.setTop (mkF m pc Ls (.int z :: rest))) (T.setFrames fs) := by
  have hm' : T.vm.method? m = some meth := X.method'
  have hn : narrow .int (.int z) = .int z := rfl
  show Steps p.tables e below (T.setTop { method := m, pc := pc, locals := Ls, stack := _ :: rest, locked := none }) _
  jvm_step X.here [X.here.top, hx, hd, hm', hret, hn]
  first | (intro acts; rw [hl _ acts rfl rfl rfl]) | rw [hl _ _ rfl rfl rfl]
  exact Steps.refl _
end New
end Jvm.RoadKit
namespace Jvm.Pilot.@@N@@
open Jvm Jvm.ClassFile Sem Op Lib Jvm.Free Jvm.Stand Jvm.LawKit Jvm.RoadKit Bundle Jvm.Pilot.@@N@@.Jvm.D
def Goes (tb : Tables) (e : Env) (below : List Frame) (Q : Outcome → State → Prop) (A : State) : Prop := ∃ s₂ o, Steps tb e below A s₂ ∧ s₂.status = .running ∧ Ended s₂ below o ∧ Q o s₂
theorem Goes.step {tb : Tables} {e : Env} {below : List Frame} {Q : Outcome → State → Prop} {A B : State} (h : ∀ t, Steps tb e below A t → Steps tb e below B t) (k : Goes tb e below Q A) : Goes tb e below Q B := by
  obtain ⟨s₂, o, h1, h2⟩ := k
  exact ⟨s₂, o, h _ h1, h2⟩
theorem Goes.start {tb : Tables} {e : Env} {below : List Frame} {Q : Outcome → State → Prop} {A B : State} (h : ∀ t, Steps tb e below A t → Steps tb e below B t) (k : Goes tb e below Q A) : ∃ s₂ o, Steps tb e below B s₂ ∧ s₂.status = .running ∧ Ended s₂ below o ∧ Q o s₂ := Goes.step h k
theorem Goes.done {tb : Tables} {e : Env} {below : List Frame} {Q : Outcome → State → Prop} {A s₂ : State} {o : Outcome} (h1 : Steps tb e below A s₂) (h2 : s₂.status = .running) (h3 : Ended s₂ below o) (h4 : Q o s₂) : Goes tb e below Q A := ⟨s₂, o, h1, h2, h3, h4⟩
def cmpF (x y : Int64) : Int32 := if x < y then (-1) else if x = y then 0 else 1
def pick (r : Int32) (a b : Addr) : Addr := if 0 < r then b else a
theorem own_pick1 (x y : Int64) (a b : Addr) (h : y < x) : pick (cmpF x y) a b = b := by
  have h1 : ¬ x < y := by rw [Int64.lt_iff_toInt_lt] at h ⊢; omega
  have h2 : ¬ x = y := fun q => by subst q; rw [Int64.lt_iff_toInt_lt] at h; omega
  simp [pick, cmpF, h1, h2]
theorem own_pick0 (x y : Int64) (a b : Addr) (h : ¬ y < x) : pick (cmpF x y) a b = a := by
  by_cases h1 : x < y
  · simp [pick, cmpF, h1]
  · have h2 : x = y := by rw [← Int64.toInt_inj]; rw [Int64.lt_iff_toInt_lt] at h h1; omega
    subst h2
    simp [pick, cmpF, h1]
theorem own_asym (x y : Int64) (h : y < x) : ¬ x < y := by rw [Int64.lt_iff_toInt_lt] at h ⊢; omega
theorem own_eq (x y : Int64) (h : ¬ y < x) (h1 : ¬ x < y) : y = x := by rw [← Int64.toInt_inj]; rw [Int64.lt_iff_toInt_lt] at h h1; omega
theorem ef_2 (m : MethodId) (x0 : Addr) : entryFrame m #[(.ref x0)] 1 = mkF m 0 #[.val (.ref x0)] [] := by first | (simp [entryFrame, mkF, argsToLocals, Value.category]; done) | rfl
def Q2 (Z : State) (p0 : Addr) (h0 : Heap) (n0 : Nat) (v : Option Value) (h : Heap) (L : List Loc) : Prop := v = none ∧ Fr n0 L ∧ h = h0
theorem d2_0 : decode jdk_30_method_1_code 0 = .ok (.aload_n 0, 1) := by decide +kernel
theorem d2_1 : decode jdk_30_method_1_code 1 = .ok (.invokespecial 1, 3) := by decide +kernel
theorem d2_4 : decode jdk_30_method_1_code 4 = .ok (.return_, 1) := by decide +kernel
theorem pn_2 : plainName "java/lang/Record" = true := by first | (simp [plainName, overriddenIn]; done) | decide +kernel
set_option maxRecDepth 65536 in
set_option maxHeartbeats 40000000 in
theorem rm2 (l : Launch) (Z : State) (a0 : Array Value) (hw : ∀ d ∈ tables_1, d.before a0 Z = true) (ws : List Jvm.Cond) (p0 : Addr) (h0 : Heap) (n0 : Nat) (Z0 : n0 ≤ h0.size) :
    MetFree l (⟨"java/lang/Record", "<init>", "()V"⟩ : MethodName) (head1 (Jvm.Cond.code (⟨"java/lang/Record", "<init>", "()V"⟩ : MethodName) jdk_30_method_1_code 1 none :: ws) ({ frames := 1, cells := 0, slots := 0, locals := 12 } : Room)) (fun a U => a = #[(.ref p0)] ∧ Z.Warmed39 U.vm ∧ U.heap = h0) (fun _ _ _ _ _ => True) (fun _ U o U' => ∃ v L, o = .returned v ∧ Q2 Z p0 h0 n0 v U'.heap L ∧ FrameEnd U o U' L ({ frames := 1, cells := 0, slots := 0, locals := 12 } : Room).cells ({ frames := 1, cells := 0, slots := 0, locals := 12 } : Room).slots) := by
  refine MetFree.of_bodySF (plainFor_of_name pn_2) hisR ?_
  intro p e s m args below meth c s₁ Bd hml0 hP hK
  obtain ⟨rfl, hZ, hh⟩ := hP
  have hx := Bd.exec
  have hby := Bd.bytes
  have hml : c.maxLocals = 1 := hml0
  have hown : s.vm.findClass "java/lang/Record" = some m.cls := findClass_of_methodNamed Bd.named
  have hnm := (name_of_methodNamed Bd.named Bd.method).1
  have X0 : Stand p l e ({ frames := 1, cells := 0, slots := 0, locals := 12 } : Room) s m #[(.ref p0)] below meth c s₁ [] 0 0 := Stand.of_body Bd
  have e0 : s₁.heap = h0 := by rw [← hh, Bd.state]; rfl
  have N0 := Fr.nil n0
  refine Goes.start (Q := (fun o U' => ∃ v L, o = .returned v ∧ Q2 Z p0 h0 n0 v U'.heap L ∧ FrameEnd s o U' L ({ frames := 1, cells := 0, slots := 0, locals := 12 } : Room).cells ({ frames := 1, cells := 0, slots := 0, locals := 12 } : Room).slots)) (A := s₁.setTop (mkF m 0 #[.val (.ref p0)] [])) (fun t k => castTop (ef_2 m p0) k) ?_
  refine Goes.step (A := s₁.setTop (mkF m 1 #[.val (.ref p0)] [(.ref p0)])) (fun t kt => ?_) ?_
  · refine XS.aloadN X0.here hx rfl (hb hby d2_0) rfl rfl ?_
    exact kt
  obtain ⟨T1, X1, e1, st1⟩ := initO X0 hx hZ hown (hw _ (List.mem_of_getElem? (i := 12) rfl)) (hw _ (List.mem_of_getElem? (i := 13) rfl)) (hw _ (List.mem_of_getElem? (i := 14) rfl)) e0 (g := (mkF m 1 #[.val (.ref p0)] [(.ref p0)])) rfl (by rw [hml]; rfl) rfl (hb hby d2_1) (by decide) (W := 0) (by show 2 * 0 + _ ≤ _; exact Nat.le_of_eq rfl) (by decide)
  refine Goes.step (A := T1.setTop (mkF m 4 #[.val (.ref p0)] [])) (fun t kt => st1 _ kt) ?_
  obtain ⟨fs, hr, hrun, hended, hW, hsame⟩ := X1.leave (v := none) (fun _ => rfl)
  refine Goes.done ?_ hrun hended ⟨_, _, rfl, ?_, ⟨_, rfl⟩, hW, hsame.mono (by decide) (by decide)⟩
  · exact X1.returnOut hx Bd.returns (hb hby d2_4) hr
  · show Q2 Z p0 h0 n0 _ T1.heap _
    rw [e1]
    exact ⟨rfl, N0, rfl⟩
theorem ef_1 (m : MethodId) (x0 : Addr) (x1 : Int64) : entryFrame m #[(.ref x0), (.long x1)] 3 = mkF m 0 #[.val (.ref x0), .val (.long x1), .second] [] := by first | (simp [entryFrame, mkF, argsToLocals, Value.category]; done) | rfl
def Q1 (Z : State) (p0 : Addr) (q1 : Int64) (h0 : Heap) (n0 : Nat) (v : Option Value) (h : Heap) (L : List Loc) : Prop := v = none ∧ Fr n0 L ∧ Keep h0 h [p0] ∧ Exa Z h p0 "com/example/receivant/receivant/money/Amount" ∧ Fld Z h p0 "com/example/receivant/receivant/money/Amount" "cents" "J" (.long q1)
theorem d1_0 : decode prog_22_method_1_code 0 = .ok (.aload_n 0, 1) := by decide +kernel
theorem d1_1 : decode prog_22_method_1_code 1 = .ok (.invokespecial 1, 3) := by decide +kernel
theorem d1_4 : decode prog_22_method_1_code 4 = .ok (.lload_n 1, 1) := by decide +kernel
theorem d1_5 : decode prog_22_method_1_code 5 = .ok (.ldc2_w 9, 3) := by decide +kernel
theorem d1_8 : decode prog_22_method_1_code 8 = .ok (.lcmp, 1) := by decide +kernel
theorem d1_9 : decode prog_22_method_1_code 9 = .ok (.ifCond .ne 13, 3) := by decide +kernel
theorem d1_22 : decode prog_22_method_1_code 22 = .ok (.aload_n 0, 1) := by decide +kernel
theorem d1_23 : decode prog_22_method_1_code 23 = .ok (.lload_n 1, 1) := by decide +kernel
theorem d1_24 : decode prog_22_method_1_code 24 = .ok (.putfield 20, 3) := by decide +kernel
theorem d1_27 : decode prog_22_method_1_code 27 = .ok (.return_, 1) := by decide +kernel
theorem pn_1 : plainName "com/example/receivant/receivant/money/Amount" = true := by first | (simp [plainName, overriddenIn]; done) | decide +kernel
theorem pd_0 : parseMethodDescriptor "()V" = some ⟨[], none⟩ := by decide +kernel
set_option maxRecDepth 65536 in
set_option maxHeartbeats 40000000 in
theorem rm1 (l : Launch) (Z : State) (a0 : Array Value) (hw : ∀ d ∈ tables_1, d.before a0 Z = true) (ws : List Jvm.Cond) (p0 : Addr) (q1 : Int64) (h0 : Heap) (n0 : Nat) (Z0 : n0 ≤ h0.size) (F8 : Fld Z h0 p0 "com/example/receivant/receivant/money/Amount" "cents" "J" (.long (0 : Int64))) (E7 : Exa Z h0 p0 "com/example/receivant/receivant/money/Amount") (g9 : n0 ≤ p0) (hne : ¬ (q1 = (-9223372036854775808 : Int64))) :
    MetFree l (⟨"com/example/receivant/receivant/money/Amount", "<init>", "(J)V"⟩ : MethodName) (head1 (Jvm.Cond.code (⟨"com/example/receivant/receivant/money/Amount", "<init>", "(J)V"⟩ : MethodName) prog_22_method_1_code 3 none :: ws) ({ frames := 2, cells := 0, slots := 0, locals := 24 } : Room)) (fun a U => a = #[(.ref p0), (.long q1)] ∧ Z.Warmed39 U.vm ∧ U.heap = h0) (fun _ _ _ _ _ => True) (fun _ U o U' => ∃ v L, o = .returned v ∧ Q1 Z p0 q1 h0 n0 v U'.heap L ∧ FrameEnd U o U' L ({ frames := 2, cells := 0, slots := 0, locals := 24 } : Room).cells ({ frames := 2, cells := 0, slots := 0, locals := 24 } : Room).slots) := by
  refine MetFree.of_bodySF (plainFor_of_name pn_1) hisR ?_
  intro p e s m args below meth c s₁ Bd hml0 hP hK
  obtain ⟨rfl, hZ, hh⟩ := hP
  have hx := Bd.exec
  have hby := Bd.bytes
  have hml : c.maxLocals = 3 := hml0
  have hown : s.vm.findClass "com/example/receivant/receivant/money/Amount" = some m.cls := findClass_of_methodNamed Bd.named
  have hnm := (name_of_methodNamed Bd.named Bd.method).1
  have X0 : Stand p l e ({ frames := 2, cells := 0, slots := 0, locals := 24 } : Room) s m #[(.ref p0), (.long q1)] below meth c s₁ [] 0 0 := Stand.of_body Bd
  have e0 : s₁.heap = h0 := by rw [← hh, Bd.state]; rfl
  have N0 := Fr.nil n0
  refine Goes.start (Q := (fun o U' => ∃ v L, o = .returned v ∧ Q1 Z p0 q1 h0 n0 v U'.heap L ∧ FrameEnd s o U' L ({ frames := 2, cells := 0, slots := 0, locals := 24 } : Room).cells ({ frames := 2, cells := 0, slots := 0, locals := 24 } : Room).slots)) (A := s₁.setTop (mkF m 0 #[.val (.ref p0), .val (.long q1), .second] [])) (fun t k => castTop (ef_1 m p0 q1) k) ?_
  refine Goes.step (A := s₁.setTop (mkF m 1 #[.val (.ref p0), .val (.long q1), .second] [(.ref p0)])) (fun t kt => ?_) ?_
  · refine XS.aloadN X0.here hx rfl (hb hby d1_0) rfl rfl ?_
    exact kt
  obtain ⟨_, _, ⟨T1, L1, k1, n1⟩, -, X1, ⟨Lc1, hQ1, l1, y1, z1⟩, st1⟩ := X0.specialBack hx (y := (⟨"java/lang/Record", "<init>", "()V"⟩ : MethodName)) rfl hown (mvT hZ (hw _ (List.mem_of_getElem? (i := 7) rfl))) (mvT hZ (hw _ (List.mem_of_getElem? (i := 8) rfl))) (mvT hZ (hw _ (List.mem_of_getElem? (i := 11) rfl))) (by decide) (backOf (W := 0) (rm2 l Z a0 hw [] p0 h0 n0 Z0) hZ (hw _ (List.mem_of_getElem? (i := 11) rfl)) (hw _ (List.mem_of_getElem? (i := 10) rfl)) (by decide) (by decide)) (g := (mkF m 1 #[.val (.ref p0), .val (.long q1), .second] [(.ref p0)])) rfl (by rw [hml]; rfl) (Steps.refl _) (a := p0) (argsL := []) (rest := []) (lenOf pd_0 rfl) rfl (by show 2 * 0 + _ ≤ _; exact Nat.le_of_eq rfl) (hb hby d1_1) (fun _ _ => ⟨rfl, e0, (by decide : 0 + 0 ≤ _), (by decide : 0 + 0 ≤ _)⟩)
  dsimp only [Pt.U, Pt.locs, Pt.cells, Pt.slots] at X1 l1 y1 z1 st1 hQ1
  subst l1 y1 z1
  obtain ⟨rfl, N1q, e1⟩ := hQ1
  have N1 := Fr.app N0 N1q
  refine Goes.step (A := T1.setTop (mkF m 4 #[.val (.ref p0), .val (.long q1), .second] [])) (fun t kt => st1.trans kt) ?_
  refine Goes.step (A := T1.setTop (mkF m 9 #[.val (.ref p0), .val (.long q1), .second] [(.int (lcmpW q1 (-9223372036854775808 : Int64)))])) (fun t kt => ?_) ?_
  · refine XS.lloadN X1.here hx rfl (hb hby d1_4) rfl ?_
    show Steps p.tables e below (T1.setTop (mkF m 5 #[.val (.ref p0), .val (.long q1), .second] [(.long q1)])) _
    refine X1.ldc2Long hx hown (mvT hZ (hw _ (List.mem_of_getElem? (i := 15) rfl))) (g := (mkF m 5 #[.val (.ref p0), .val (.long q1), .second] [(.long q1)])) rfl (hb hby d1_5) _ ?_
    show Steps p.tables e below (T1.setTop (mkF m 8 #[.val (.ref p0), .val (.long q1), .second] [(.long (-9223372036854775808 : Int64)), (.long q1)])) _
    refine XS.lcmp X1.here hx rfl (hb hby d1_8) rfl ?_
    exact kt
  refine Goes.step (A := T1.setTop (mkF m 22 #[.val (.ref p0), .val (.long q1), .second] [])) (fun t kt => XS.ifYes X1.here hx rfl (pc0 := 9) (pc' := 22) rfl (hb hby d1_9) rfl ((if0 _ _).trans (feq (fun q => (hne : ¬ (q1 = (-9223372036854775808 : Int64))) ((lw_eq _ _).mp q))).2) (by decide) (by decide) kt) ?_
  refine Goes.step (A := T1.setTop (mkF m 24 #[.val (.ref p0), .val (.long q1), .second] [(.long q1), (.ref p0)])) (fun t kt => ?_) ?_
  · refine XS.aloadN X1.here hx rfl (hb hby d1_22) rfl rfl ?_
    show Steps p.tables e below (T1.setTop (mkF m 23 #[.val (.ref p0), .val (.long q1), .second] [(.ref p0)])) _
    refine XS.lloadN X1.here hx rfl (hb hby d1_23) rfl ?_
    exact kt
  obtain ⟨T2, h2, X2, e2, W2, st2⟩ := putF X1 hx hZ hown (host := "") (Or.inl (hw _ (List.mem_of_getElem? (i := 16) rfl))) Via.refl e1 F8 E7 (Or.inr ⟨(hw _ (List.mem_of_getElem? (i := 17) rfl)), rfl, hnm⟩) (hw _ (List.mem_of_getElem? (i := 2) rfl)) (ty := .long) (by decide) rfl rfl (g := (mkF m 24 #[.val (.ref p0), .val (.long q1), .second] [(.long q1), (.ref p0)])) rfl rfl (hb hby d1_24)
  have N2 := Fr.snoc X2 N1 g9
  have E2_p0 := E7.wr W2
  have F2_p0_cents : Fld Z h2 p0 "com/example/receivant/receivant/money/Amount" "cents" "J" (.long q1) := F8.same W2
  have K2 := (Keep.refl h0 [p0]).wr W2 (Or.inl (List.mem_of_getElem? (i := 0) rfl))
  have Z2 : n0 ≤ h2.size := Nat.le_trans Z0 (Keep.of_wr W2).1
  refine Goes.step (A := T2.setTop (mkF m 27 #[.val (.ref p0), .val (.long q1), .second] [])) (fun t kt => st2 _ kt) ?_
  obtain ⟨fs, hr, hrun, hended, hW, hsame⟩ := X2.leave (v := none) (fun _ => rfl)
  refine Goes.done ?_ hrun hended ⟨_, _, rfl, ?_, ⟨_, rfl⟩, hW, hsame.mono (by decide) (by decide)⟩
  · exact X2.returnOut hx Bd.returns (hb hby d1_27) hr
  · show Q1 Z p0 q1 h0 n0 _ T2.heap _
    rw [e2]
    exact ⟨rfl, N2, K2, E2_p0, F2_p0_cents⟩
theorem ef_6 (m : MethodId) (x0 : Int64) (x1 : Int64) : entryFrame m #[(.long x0), (.long x1)] 4 = mkF m 0 #[.val (.long x0), .second, .val (.long x1), .second] [] := by first | (simp [entryFrame, mkF, argsToLocals, Value.category]; done) | rfl
def Q6 (Z : State) (q1 : Int64) (q2 : Int64) (h0 : Heap) (n0 : Nat) (v : Option Value) (h : Heap) (L : List Loc) : Prop := v = some (.int (cmpF q1 q2)) ∧ Fr n0 L ∧ h = h0
theorem d6_0 : decode jdk_35_method_42_code 0 = .ok (.lload_n 0, 1) := by decide +kernel
theorem d6_1 : decode jdk_35_method_42_code 1 = .ok (.lload_n 2, 1) := by decide +kernel
theorem d6_2 : decode jdk_35_method_42_code 2 = .ok (.lcmp, 1) := by decide +kernel
theorem d6_3 : decode jdk_35_method_42_code 3 = .ok (.ifCond .ge 7, 3) := by decide +kernel
theorem d6_6 : decode jdk_35_method_42_code 6 = .ok (.iconst (-1), 1) := by decide +kernel
theorem d6_7 : decode jdk_35_method_42_code 7 = .ok (.goto 14, 3) := by decide +kernel
theorem d6_10 : decode jdk_35_method_42_code 10 = .ok (.lload_n 0, 1) := by decide +kernel
theorem d6_11 : decode jdk_35_method_42_code 11 = .ok (.lload_n 2, 1) := by decide +kernel
theorem d6_12 : decode jdk_35_method_42_code 12 = .ok (.lcmp, 1) := by decide +kernel
theorem d6_13 : decode jdk_35_method_42_code 13 = .ok (.ifCond .ne 7, 3) := by decide +kernel
theorem d6_16 : decode jdk_35_method_42_code 16 = .ok (.iconst 0, 1) := by decide +kernel
theorem d6_17 : decode jdk_35_method_42_code 17 = .ok (.goto 4, 3) := by decide +kernel
theorem d6_20 : decode jdk_35_method_42_code 20 = .ok (.iconst 1, 1) := by decide +kernel
theorem d6_21 : decode jdk_35_method_42_code 21 = .ok (.ireturn, 1) := by decide +kernel
theorem pn_6 : plainName "java/lang/Long" = true := by first | (simp [plainName, overriddenIn]; done) | decide +kernel
set_option maxRecDepth 65536 in
set_option maxHeartbeats 40000000 in
theorem rm6 (l : Launch) (Z : State) (a0 : Array Value) (hw : ∀ d ∈ tables_1, d.before a0 Z = true) (ws : List Jvm.Cond) (q1 : Int64) (q2 : Int64) (h0 : Heap) (n0 : Nat) (Z0 : n0 ≤ h0.size) :
    MetFree l (⟨"java/lang/Long", "compare", "(JJ)I"⟩ : MethodName) (head1 (Jvm.Cond.code (⟨"java/lang/Long", "compare", "(JJ)I"⟩ : MethodName) jdk_35_method_42_code 4 (some .int) :: ws) ({ frames := 0, cells := 0, slots := 0, locals := 0 } : Room)) (fun a U => a = #[(.long q1), (.long q2)] ∧ Z.Warmed39 U.vm ∧ U.heap = h0) (fun _ _ _ _ _ => True) (fun _ U o U' => ∃ v L, o = .returned v ∧ Q6 Z q1 q2 h0 n0 v U'.heap L ∧ FrameEnd U o U' L ({ frames := 0, cells := 0, slots := 0, locals := 0 } : Room).cells ({ frames := 0, cells := 0, slots := 0, locals := 0 } : Room).slots) := by
  refine MetFree.of_bodySF (plainFor_of_name pn_6) hisR ?_
  intro p e s m args below meth c s₁ Bd hml0 hP hK
  obtain ⟨rfl, hZ, hh⟩ := hP
  have hx := Bd.exec
  have hby := Bd.bytes
  have hml : c.maxLocals = 4 := hml0
  have hown : s.vm.findClass "java/lang/Long" = some m.cls := findClass_of_methodNamed Bd.named
  have hnm := (name_of_methodNamed Bd.named Bd.method).1
  have X0 : Stand p l e ({ frames := 0, cells := 0, slots := 0, locals := 0 } : Room) s m #[(.long q1), (.long q2)] below meth c s₁ [] 0 0 := Stand.of_body Bd
  have e0 : s₁.heap = h0 := by rw [← hh, Bd.state]; rfl
  have N0 := Fr.nil n0
  refine Goes.start (Q := (fun o U' => ∃ v L, o = .returned v ∧ Q6 Z q1 q2 h0 n0 v U'.heap L ∧ FrameEnd s o U' L ({ frames := 0, cells := 0, slots := 0, locals := 0 } : Room).cells ({ frames := 0, cells := 0, slots := 0, locals := 0 } : Room).slots)) (A := s₁.setTop (mkF m 0 #[.val (.long q1), .second, .val (.long q2), .second] [])) (fun t k => castTop (ef_6 m q1 q2) k) ?_
  refine Goes.step (A := s₁.setTop (mkF m 3 #[.val (.long q1), .second, .val (.long q2), .second] [(.int (lcmpW q1 q2))])) (fun t kt => ?_) ?_
  · refine XS.lloadN X0.here hx rfl (hb hby d6_0) rfl ?_
    show Steps p.tables e below (s₁.setTop (mkF m 1 #[.val (.long q1), .second, .val (.long q2), .second] [(.long q1)])) _
    refine XS.lloadN X0.here hx rfl (hb hby d6_1) rfl ?_
    show Steps p.tables e below (s₁.setTop (mkF m 2 #[.val (.long q1), .second, .val (.long q2), .second] [(.long q2), (.long q1)])) _
    refine XS.lcmp X0.here hx rfl (hb hby d6_2) rfl ?_
    exact kt
  by_cases hc3_1 : q1 < q2
  · refine Goes.step (A := s₁.setTop (mkF m 6 #[.val (.long q1), .second, .val (.long q2), .second] [])) (fun t kt => XS.ifNo X0.here hx rfl (hb hby d6_3) rfl ((if0 _ _).trans (tlt ((lw_lt _ _).mpr hc3_1)).2.1) kt) ?_
    refine Goes.step (A := s₁.setTop (mkF m 21 #[.val (.long q1), .second, .val (.long q2), .second] [(.int (-1 : Int32))])) (fun t kt => ?_) ?_
    · refine XS.iconst X0.here hx rfl (hb hby d6_6) ?_
      show Steps p.tables e below (s₁.setTop (mkF m 7 #[.val (.long q1), .second, .val (.long q2), .second] [(.int (-1 : Int32))])) _
      refine XS.goto X0.here hx rfl (pc0 := 7) (pc' := 21) rfl (hb hby d6_7) (by decide) (by decide) ?_
      exact kt
    obtain ⟨fs, hr, hrun, hended, hW, hsame⟩ := X0.leave (v := some (.int (-1 : Int32))) (fun h => by rw [Bd.returns] at h; cases h)
    refine Goes.done ?_ hrun hended ⟨_, _, rfl, ?_, ⟨_, rfl⟩, hW, hsame.mono (by decide) (by decide)⟩
    · exact retI X0 hx Bd.returns (hb hby d6_21) hr
    · show Q6 Z q1 q2 h0 n0 _ s₁.heap _
      rw [e0]
      exact ⟨congrArg some (congrArg Value.int (by simp [cmpF, hc3_1])), N0, rfl⟩
  · refine Goes.step (A := s₁.setTop (mkF m 10 #[.val (.long q1), .second, .val (.long q2), .second] [])) (fun t kt => XS.ifYes X0.here hx rfl (pc0 := 3) (pc' := 10) rfl (hb hby d6_3) rfl ((if0 _ _).trans (flt (fun q => hc3_1 ((lw_lt _ _).mp q))).2.1) (by decide) (by decide) kt) ?_
    refine Goes.step (A := s₁.setTop (mkF m 13 #[.val (.long q1), .second, .val (.long q2), .second] [(.int (lcmpW q1 q2))])) (fun t kt => ?_) ?_
    · refine XS.lloadN X0.here hx rfl (hb hby d6_10) rfl ?_
      show Steps p.tables e below (s₁.setTop (mkF m 11 #[.val (.long q1), .second, .val (.long q2), .second] [(.long q1)])) _
      refine XS.lloadN X0.here hx rfl (hb hby d6_11) rfl ?_
      show Steps p.tables e below (s₁.setTop (mkF m 12 #[.val (.long q1), .second, .val (.long q2), .second] [(.long q2), (.long q1)])) _
      refine XS.lcmp X0.here hx rfl (hb hby d6_12) rfl ?_
      exact kt
    by_cases hc13_2 : q1 = q2
    · refine Goes.step (A := s₁.setTop (mkF m 16 #[.val (.long q1), .second, .val (.long q2), .second] [])) (fun t kt => XS.ifNo X0.here hx rfl (hb hby d6_13) rfl ((if0 _ _).trans (teq ((lw_eq _ _).mpr hc13_2)).2) kt) ?_
      refine Goes.step (A := s₁.setTop (mkF m 21 #[.val (.long q1), .second, .val (.long q2), .second] [(.int (0 : Int32))])) (fun t kt => ?_) ?_
      · refine XS.iconst X0.here hx rfl (hb hby d6_16) ?_
        show Steps p.tables e below (s₁.setTop (mkF m 17 #[.val (.long q1), .second, .val (.long q2), .second] [(.int (0 : Int32))])) _
        refine XS.goto X0.here hx rfl (pc0 := 17) (pc' := 21) rfl (hb hby d6_17) (by decide) (by decide) ?_
        exact kt
      obtain ⟨fs, hr, hrun, hended, hW, hsame⟩ := X0.leave (v := some (.int (0 : Int32))) (fun h => by rw [Bd.returns] at h; cases h)
      refine Goes.done ?_ hrun hended ⟨_, _, rfl, ?_, ⟨_, rfl⟩, hW, hsame.mono (by decide) (by decide)⟩
      · exact retI X0 hx Bd.returns (hb hby d6_21) hr
      · show Q6 Z q1 q2 h0 n0 _ s₁.heap _
        rw [e0]
        exact ⟨congrArg some (congrArg Value.int (by simp [cmpF, hc3_1, hc13_2])), N0, rfl⟩
    · refine Goes.step (A := s₁.setTop (mkF m 20 #[.val (.long q1), .second, .val (.long q2), .second] [])) (fun t kt => XS.ifYes X0.here hx rfl (pc0 := 13) (pc' := 20) rfl (hb hby d6_13) rfl ((if0 _ _).trans (feq (fun q => hc13_2 ((lw_eq _ _).mp q))).2) (by decide) (by decide) kt) ?_
      refine Goes.step (A := s₁.setTop (mkF m 21 #[.val (.long q1), .second, .val (.long q2), .second] [(.int (1 : Int32))])) (fun t kt => ?_) ?_
      · refine XS.iconst X0.here hx rfl (hb hby d6_20) ?_
        exact kt
      obtain ⟨fs, hr, hrun, hended, hW, hsame⟩ := X0.leave (v := some (.int (1 : Int32))) (fun h => by rw [Bd.returns] at h; cases h)
      refine Goes.done ?_ hrun hended ⟨_, _, rfl, ?_, ⟨_, rfl⟩, hW, hsame.mono (by decide) (by decide)⟩
      · exact retI X0 hx Bd.returns (hb hby d6_21) hr
      · show Q6 Z q1 q2 h0 n0 _ s₁.heap _
        rw [e0]
        exact ⟨congrArg some (congrArg Value.int (by simp [cmpF, hc3_1, hc13_2])), N0, rfl⟩
theorem ef_5 (m : MethodId) (x0 : Addr) (x1 : Addr) : entryFrame m #[(.ref x0), (.ref x1)] 2 = mkF m 0 #[.val (.ref x0), .val (.ref x1)] [] := by first | (simp [entryFrame, mkF, argsToLocals, Value.category]; done) | rfl
def Q5 (Z : State) (p0 : Addr) (p1 : Addr) (cx : Int64) (cy : Int64) (h0 : Heap) (n0 : Nat) (v : Option Value) (h : Heap) (L : List Loc) : Prop := v = some (.int (cmpF cx cy)) ∧ Fr n0 L ∧ h = h0
theorem d5_0 : decode prog_22_method_11_code 0 = .ok (.aload_n 0, 1) := by decide +kernel
theorem d5_1 : decode prog_22_method_11_code 1 = .ok (.getfield 20, 3) := by decide +kernel
theorem d5_4 : decode prog_22_method_11_code 4 = .ok (.aload_n 1, 1) := by decide +kernel
theorem d5_5 : decode prog_22_method_11_code 5 = .ok (.getfield 20, 3) := by decide +kernel
theorem d5_8 : decode prog_22_method_11_code 8 = .ok (.invokestatic 85, 3) := by decide +kernel
theorem d5_11 : decode prog_22_method_11_code 11 = .ok (.ireturn, 1) := by decide +kernel
theorem pn_5 : plainName "com/example/receivant/receivant/money/Amount" = true := by first | (simp [plainName, overriddenIn]; done) | decide +kernel
theorem pd_1 : parseMethodDescriptor "(JJ)I" = some ⟨[.long, .long], some .int⟩ := by decide +kernel
set_option maxRecDepth 65536 in
set_option maxHeartbeats 40000000 in
theorem rm5 (l : Launch) (Z : State) (a0 : Array Value) (hw : ∀ d ∈ tables_1, d.before a0 Z = true) (ws : List Jvm.Cond) (p0 : Addr) (p1 : Addr) (cx : Int64) (cy : Int64) (h0 : Heap) (n0 : Nat) (Z0 : n0 ≤ h0.size) (F0 : Fld Z h0 p0 "com/example/receivant/receivant/money/Amount" "cents" "J" (.long cx)) (F1 : Fld Z h0 p1 "com/example/receivant/receivant/money/Amount" "cents" "J" (.long cy)) :
    MetFree l (⟨"com/example/receivant/receivant/money/Amount", "compareTo", "(Lcom/example/receivant/receivant/money/Amount;)I"⟩ : MethodName) (head1 (Jvm.Cond.code (⟨"com/example/receivant/receivant/money/Amount", "compareTo", "(Lcom/example/receivant/receivant/money/Amount;)I"⟩ : MethodName) prog_22_method_11_code 2 (some .int) :: ws) ({ frames := 1, cells := 0, slots := 0, locals := 15 } : Room)) (fun a U => a = #[(.ref p0), (.ref p1)] ∧ Z.Warmed39 U.vm ∧ U.heap = h0) (fun _ _ _ _ _ => True) (fun _ U o U' => ∃ v L, o = .returned v ∧ Q5 Z p0 p1 cx cy h0 n0 v U'.heap L ∧ FrameEnd U o U' L ({ frames := 1, cells := 0, slots := 0, locals := 15 } : Room).cells ({ frames := 1, cells := 0, slots := 0, locals := 15 } : Room).slots) := by
  refine MetFree.of_bodySF (plainFor_of_name pn_5) hisR ?_
  intro p e s m args below meth c s₁ Bd hml0 hP hK
  obtain ⟨rfl, hZ, hh⟩ := hP
  have hx := Bd.exec
  have hby := Bd.bytes
  have hml : c.maxLocals = 2 := hml0
  have hown : s.vm.findClass "com/example/receivant/receivant/money/Amount" = some m.cls := findClass_of_methodNamed Bd.named
  have hnm := (name_of_methodNamed Bd.named Bd.method).1
  have X0 : Stand p l e ({ frames := 1, cells := 0, slots := 0, locals := 15 } : Room) s m #[(.ref p0), (.ref p1)] below meth c s₁ [] 0 0 := Stand.of_body Bd
  have e0 : s₁.heap = h0 := by rw [← hh, Bd.state]; rfl
  have N0 := Fr.nil n0
  refine Goes.start (Q := (fun o U' => ∃ v L, o = .returned v ∧ Q5 Z p0 p1 cx cy h0 n0 v U'.heap L ∧ FrameEnd s o U' L ({ frames := 1, cells := 0, slots := 0, locals := 15 } : Room).cells ({ frames := 1, cells := 0, slots := 0, locals := 15 } : Room).slots)) (A := s₁.setTop (mkF m 0 #[.val (.ref p0), .val (.ref p1)] [])) (fun t k => castTop (ef_5 m p0 p1) k) ?_
  refine Goes.step (A := s₁.setTop (mkF m 1 #[.val (.ref p0), .val (.ref p1)] [(.ref p0)])) (fun t kt => ?_) ?_
  · refine XS.aloadN X0.here hx rfl (hb hby d5_0) rfl rfl ?_
    exact kt
  obtain ⟨T1, X1, e1, st1⟩ := getF X0 hx hZ hown (host := "") (Or.inl (hw _ (List.mem_of_getElem? (i := 16) rfl))) Via.refl e0 F0 (g := (mkF m 1 #[.val (.ref p0), .val (.ref p1)] [(.ref p0)])) rfl rfl (hb hby d5_1)
  refine Goes.step (A := T1.setTop (mkF m 4 #[.val (.ref p0), .val (.ref p1)] [(.long cx)])) (fun t kt => st1 _ kt) ?_
  refine Goes.step (A := T1.setTop (mkF m 5 #[.val (.ref p0), .val (.ref p1)] [(.ref p1), (.long cx)])) (fun t kt => ?_) ?_
  · refine XS.aloadN X1.here hx rfl (hb hby d5_4) rfl rfl ?_
    exact kt
  obtain ⟨T2, X2, e2, st2⟩ := getF X1 hx hZ hown (host := "") (Or.inl (hw _ (List.mem_of_getElem? (i := 16) rfl))) Via.refl e1 F1 (g := (mkF m 5 #[.val (.ref p0), .val (.ref p1)] [(.ref p1), (.long cx)])) rfl rfl (hb hby d5_5)
  refine Goes.step (A := T2.setTop (mkF m 8 #[.val (.ref p0), .val (.ref p1)] [(.long cy), (.long cx)])) (fun t kt => st2 _ kt) ?_
  obtain ⟨_, _, ⟨T3, L3, k3, n3⟩, -, X3, ⟨Lc3, hQ3, l3, y3, z3⟩, st3⟩ := Jvm.LawKit.callS X2 hx (y := (⟨"java/lang/Long", "compare", "(JJ)I"⟩ : MethodName)) hown (mvT hZ (hw _ (List.mem_of_getElem? (i := 26) rfl))) (mvT hZ (hw _ (List.mem_of_getElem? (i := 27) rfl))) (mvT hZ (hw _ (List.mem_of_getElem? (i := 28) rfl))) (mvT hZ (hw _ (List.mem_of_getElem? (i := 29) rfl))) (by decide) (backOf (W := 0) (rm6 l Z a0 hw [] cx cy h0 n0 Z0) hZ (hw _ (List.mem_of_getElem? (i := 29) rfl)) (hw _ (List.mem_of_getElem? (i := 28) rfl)) (by decide) (by decide)) (g := (mkF m 8 #[.val (.ref p0), .val (.ref p1)] [(.long cy), (.long cx)])) rfl (by rw [hml]; rfl) (argsL := [(.long cx), (.long cy)]) (rest := []) (lenOf pd_1 rfl) rfl (by show 2 * 0 + _ ≤ _; exact Nat.le_of_eq rfl) (hb hby d5_8) (fun _ _ => ⟨rfl, e2, (by decide : 0 + 0 ≤ _), (by decide : 0 + 0 ≤ _)⟩)
  dsimp only [Pt.U, Pt.locs, Pt.cells, Pt.slots] at X3 l3 y3 z3 st3 hQ3
  subst l3 y3 z3
  obtain ⟨rfl, N3q, e3⟩ := hQ3
  have N3 := Fr.app N0 N3q
  refine Goes.step (A := T3.setTop (mkF m 11 #[.val (.ref p0), .val (.ref p1)] [(.int (cmpF cx cy))])) (fun t kt => st3 _ kt) ?_
  obtain ⟨fs, hr, hrun, hended, hW, hsame⟩ := X3.leave (v := some (.int (cmpF cx cy))) (fun h => by rw [Bd.returns] at h; cases h)
  refine Goes.done ?_ hrun hended ⟨_, _, rfl, ?_, ⟨_, rfl⟩, hW, hsame.mono (by decide) (by decide)⟩
  · exact retI X3 hx Bd.returns (hb hby d5_11) hr
  · show Q5 Z p0 p1 cx cy h0 n0 _ T3.heap _
    rw [e3]
    exact ⟨rfl, N3, rfl⟩
theorem ef_4 (m : MethodId) (x0 : Addr) (x1 : Addr) : entryFrame m #[(.ref x0), (.ref x1)] 2 = mkF m 0 #[.val (.ref x0), .val (.ref x1)] [] := by first | (simp [entryFrame, mkF, argsToLocals, Value.category]; done) | rfl
def Q4 (Z : State) (p0 : Addr) (p1 : Addr) (cx : Int64) (cy : Int64) (h0 : Heap) (n0 : Nat) (v : Option Value) (h : Heap) (L : List Loc) : Prop := v = some (.ref (pick (cmpF cx cy) p0 p1)) ∧ Fr n0 L ∧ h = h0
theorem d4_0 : decode prog_22_method_9_code 0 = .ok (.aload_n 0, 1) := by decide +kernel
theorem d4_1 : decode prog_22_method_9_code 1 = .ok (.aload_n 1, 1) := by decide +kernel
theorem d4_2 : decode prog_22_method_9_code 2 = .ok (.invokevirtual 43, 3) := by decide +kernel
theorem d4_5 : decode prog_22_method_9_code 5 = .ok (.ifCond .gt 7, 3) := by decide +kernel
theorem d4_8 : decode prog_22_method_9_code 8 = .ok (.aload_n 0, 1) := by decide +kernel
theorem d4_9 : decode prog_22_method_9_code 9 = .ok (.goto 4, 3) := by decide +kernel
theorem d4_12 : decode prog_22_method_9_code 12 = .ok (.aload_n 1, 1) := by decide +kernel
theorem d4_13 : decode prog_22_method_9_code 13 = .ok (.areturn, 1) := by decide +kernel
theorem pn_4 : plainName "com/example/receivant/receivant/money/Amount" = true := by first | (simp [plainName, overriddenIn]; done) | decide +kernel
theorem pd_2 : parseMethodDescriptor "(Lcom/example/receivant/receivant/money/Amount;)I" = some ⟨[(.object "com/example/receivant/receivant/money/Amount")], some .int⟩ := by decide +kernel
set_option maxRecDepth 65536 in
set_option maxHeartbeats 40000000 in
theorem rm4 (l : Launch) (Z : State) (a0 : Array Value) (hw : ∀ d ∈ tables_1, d.before a0 Z = true) (ws : List Jvm.Cond) (p0 : Addr) (p1 : Addr) (cx : Int64) (cy : Int64) (h0 : Heap) (n0 : Nat) (Z0 : n0 ≤ h0.size) (F0 : Fld Z h0 p0 "com/example/receivant/receivant/money/Amount" "cents" "J" (.long cx)) (F1 : Fld Z h0 p1 "com/example/receivant/receivant/money/Amount" "cents" "J" (.long cy)) (E0 : Exa Z h0 p0 "com/example/receivant/receivant/money/Amount") :
    MetFree l (⟨"com/example/receivant/receivant/money/Amount", "min", "(Lcom/example/receivant/receivant/money/Amount;Lcom/example/receivant/receivant/money/Amount;)Lcom/example/receivant/receivant/money/Amount;"⟩ : MethodName) (head1 (Jvm.Cond.code (⟨"com/example/receivant/receivant/money/Amount", "min", "(Lcom/example/receivant/receivant/money/Amount;Lcom/example/receivant/receivant/money/Amount;)Lcom/example/receivant/receivant/money/Amount;"⟩ : MethodName) prog_22_method_9_code 2 (some (.object "com/example/receivant/receivant/money/Amount")) :: ws) ({ frames := 2, cells := 0, slots := 0, locals := 28 } : Room)) (fun a U => a = #[(.ref p0), (.ref p1)] ∧ Z.Warmed39 U.vm ∧ U.heap = h0) (fun _ _ _ _ _ => True) (fun _ U o U' => ∃ v L, o = .returned v ∧ Q4 Z p0 p1 cx cy h0 n0 v U'.heap L ∧ FrameEnd U o U' L ({ frames := 2, cells := 0, slots := 0, locals := 28 } : Room).cells ({ frames := 2, cells := 0, slots := 0, locals := 28 } : Room).slots) := by
  refine MetFree.of_bodySF (plainFor_of_name pn_4) hisR ?_
  intro p e s m args below meth c s₁ Bd hml0 hP hK
  obtain ⟨rfl, hZ, hh⟩ := hP
  have hx := Bd.exec
  have hby := Bd.bytes
  have hml : c.maxLocals = 2 := hml0
  have hown : s.vm.findClass "com/example/receivant/receivant/money/Amount" = some m.cls := findClass_of_methodNamed Bd.named
  have hnm := (name_of_methodNamed Bd.named Bd.method).1
  have X0 : Stand p l e ({ frames := 2, cells := 0, slots := 0, locals := 28 } : Room) s m #[(.ref p0), (.ref p1)] below meth c s₁ [] 0 0 := Stand.of_body Bd
  have e0 : s₁.heap = h0 := by rw [← hh, Bd.state]; rfl
  have N0 := Fr.nil n0
  refine Goes.start (Q := (fun o U' => ∃ v L, o = .returned v ∧ Q4 Z p0 p1 cx cy h0 n0 v U'.heap L ∧ FrameEnd s o U' L ({ frames := 2, cells := 0, slots := 0, locals := 28 } : Room).cells ({ frames := 2, cells := 0, slots := 0, locals := 28 } : Room).slots)) (A := s₁.setTop (mkF m 0 #[.val (.ref p0), .val (.ref p1)] [])) (fun t k => castTop (ef_4 m p0 p1) k) ?_
  refine Goes.step (A := s₁.setTop (mkF m 2 #[.val (.ref p0), .val (.ref p1)] [(.ref p1), (.ref p0)])) (fun t kt => ?_) ?_
  · refine XS.aloadN X0.here hx rfl (hb hby d4_0) rfl rfl ?_
    show Steps p.tables e below (s₁.setTop (mkF m 1 #[.val (.ref p0), .val (.ref p1)] [(.ref p0)])) _
    refine XS.aloadN X0.here hx rfl (hb hby d4_1) rfl rfl ?_
    exact kt
  obtain ⟨cq1, kq1, q1a, q1b, q1c⟩ := isOf hZ e0 E0
  obtain ⟨_, _, ⟨T1, L1, k1, n1⟩, -, X1, ⟨Lc1, hQ1, l1, y1, z1⟩, st1⟩ := X0.virtualBack hx (y := (⟨"com/example/receivant/receivant/money/Amount", "compareTo", "(Lcom/example/receivant/receivant/money/Amount;)I"⟩ : MethodName)) (z := (⟨"com/example/receivant/receivant/money/Amount", "compareTo", "(Lcom/example/receivant/receivant/money/Amount;)I"⟩ : MethodName)) hown (mvT hZ (hw _ (List.mem_of_getElem? (i := 21) rfl))) (mvT hZ (hw _ (List.mem_of_getElem? (i := 22) rfl))) (notFace_of_selects (args := #[]) (mvT hZ (hw _ (List.mem_of_getElem? (i := 24) rfl)))) (mvT hZ (hw _ (List.mem_of_getElem? (i := 24) rfl))) (mvT hZ (hw _ (List.mem_of_getElem? (i := 23) rfl))) (by decide) (backOf (W := 0) (rm5 l Z a0 hw [] p0 p1 cx cy h0 n0 Z0 F0 F1) hZ (hw _ (List.mem_of_getElem? (i := 25) rfl)) (hw _ (List.mem_of_getElem? (i := 3) rfl)) (by decide) (by decide)) q1a q1c (g := (mkF m 2 #[.val (.ref p0), .val (.ref p1)] [(.ref p1), (.ref p0)])) rfl (by rw [hml]; rfl) (Steps.refl _) (argsL := [(.ref p1)]) (rest := []) (lenOf pd_2 rfl) rfl (by show 2 * 0 + _ ≤ _; exact Nat.le_of_eq rfl) (hb hby d4_2) (fun _ _ => ⟨rfl, e0, (by decide : 0 + 0 ≤ _), (by decide : 0 + 0 ≤ _)⟩)
  dsimp only [Pt.U, Pt.locs, Pt.cells, Pt.slots] at X1 l1 y1 z1 st1 hQ1
  subst l1 y1 z1
  obtain ⟨rfl, N1q, e1⟩ := hQ1
  have N1 := Fr.app N0 N1q
  refine Goes.step (A := T1.setTop (mkF m 5 #[.val (.ref p0), .val (.ref p1)] [(.int (cmpF cx cy))])) (fun t kt => st1.trans kt) ?_
  by_cases hc5_3 : (0 : Int32) < (cmpF cx cy)
  · refine Goes.step (A := T1.setTop (mkF m 12 #[.val (.ref p0), .val (.ref p1)] [])) (fun t kt => XS.ifYes X1.here hx rfl (pc0 := 5) (pc' := 12) rfl (hb hby d4_5) rfl ((if0 _ _).trans (tlt hc5_3).2.2.1) (by decide) (by decide) kt) ?_
    refine Goes.step (A := T1.setTop (mkF m 13 #[.val (.ref p0), .val (.ref p1)] [(.ref p1)])) (fun t kt => ?_) ?_
    · refine XS.aloadN X1.here hx rfl (hb hby d4_12) rfl rfl ?_
      exact kt
    obtain ⟨fs, hr, hrun, hended, hW, hsame⟩ := X1.leave (v := some (.ref p1)) (fun h => by rw [Bd.returns] at h; cases h)
    refine Goes.done ?_ hrun hended ⟨_, _, rfl, ?_, ⟨_, rfl⟩, hW, hsame.mono (by decide) (by decide)⟩
    · jvm_step X1.here [X1.here.top, hx, (hb hby d4_13), X1.method', Bd.returns, Value.isRef, FieldType.isReference]
      first | (intro acts; rw [hr _ acts rfl rfl rfl]) | rw [hr _ _ rfl rfl rfl]
      exact Steps.refl _
    · show Q4 Z p0 p1 cx cy h0 n0 _ T1.heap _
      rw [e1]
      exact ⟨congrArg some (congrArg Value.ref (by simp [pick, hc5_3])), N1, rfl⟩
  · refine Goes.step (A := T1.setTop (mkF m 8 #[.val (.ref p0), .val (.ref p1)] [])) (fun t kt => XS.ifNo X1.here hx rfl (hb hby d4_5) rfl ((if0 _ _).trans (flt hc5_3).2.2.1) kt) ?_
    refine Goes.step (A := T1.setTop (mkF m 13 #[.val (.ref p0), .val (.ref p1)] [(.ref p0)])) (fun t kt => ?_) ?_
    · refine XS.aloadN X1.here hx rfl (hb hby d4_8) rfl rfl ?_
      show Steps p.tables e below (T1.setTop (mkF m 9 #[.val (.ref p0), .val (.ref p1)] [(.ref p0)])) _
      refine XS.goto X1.here hx rfl (pc0 := 9) (pc' := 13) rfl (hb hby d4_9) (by decide) (by decide) ?_
      exact kt
    obtain ⟨fs, hr, hrun, hended, hW, hsame⟩ := X1.leave (v := some (.ref p0)) (fun h => by rw [Bd.returns] at h; cases h)
    refine Goes.done ?_ hrun hended ⟨_, _, rfl, ?_, ⟨_, rfl⟩, hW, hsame.mono (by decide) (by decide)⟩
    · jvm_step X1.here [X1.here.top, hx, (hb hby d4_13), X1.method', Bd.returns, Value.isRef, FieldType.isReference]
      first | (intro acts; rw [hr _ acts rfl rfl rfl]) | rw [hr _ _ rfl rfl rfl]
      exact Steps.refl _
    · show Q4 Z p0 p1 cx cy h0 n0 _ T1.heap _
      rw [e1]
      exact ⟨congrArg some (congrArg Value.ref (by simp [pick, hc5_3])), N1, rfl⟩
theorem ef_7 (m : MethodId) (x0 : Addr) : entryFrame m #[(.ref x0)] 1 = mkF m 0 #[.val (.ref x0)] [] := by first | (simp [entryFrame, mkF, argsToLocals, Value.category]; done) | rfl
def Q7 (Z : State) (p0 : Addr) (cx : Int64) (h0 : Heap) (n0 : Nat) (v : Option Value) (h : Heap) (L : List Loc) : Prop := v = some (.long cx) ∧ Fr n0 L ∧ h = h0
theorem d7_0 : decode prog_22_method_16_code 0 = .ok (.aload_n 0, 1) := by decide +kernel
theorem d7_1 : decode prog_22_method_16_code 1 = .ok (.getfield 20, 3) := by decide +kernel
theorem d7_4 : decode prog_22_method_16_code 4 = .ok (.lreturn, 1) := by decide +kernel
theorem pn_7 : plainName "com/example/receivant/receivant/money/Amount" = true := by first | (simp [plainName, overriddenIn]; done) | decide +kernel
set_option maxRecDepth 65536 in
set_option maxHeartbeats 40000000 in
theorem rm7 (l : Launch) (Z : State) (a0 : Array Value) (hw : ∀ d ∈ tables_1, d.before a0 Z = true) (ws : List Jvm.Cond) (p0 : Addr) (cx : Int64) (h0 : Heap) (n0 : Nat) (Z0 : n0 ≤ h0.size) (F0 : Fld Z h0 p0 "com/example/receivant/receivant/money/Amount" "cents" "J" (.long cx)) :
    MetFree l (⟨"com/example/receivant/receivant/money/Amount", "cents", "()J"⟩ : MethodName) (head1 (Jvm.Cond.code (⟨"com/example/receivant/receivant/money/Amount", "cents", "()J"⟩ : MethodName) prog_22_method_16_code 1 (some .long) :: ws) ({ frames := 0, cells := 0, slots := 0, locals := 0 } : Room)) (fun a U => a = #[(.ref p0)] ∧ Z.Warmed39 U.vm ∧ U.heap = h0) (fun _ _ _ _ _ => True) (fun _ U o U' => ∃ v L, o = .returned v ∧ Q7 Z p0 cx h0 n0 v U'.heap L ∧ FrameEnd U o U' L ({ frames := 0, cells := 0, slots := 0, locals := 0 } : Room).cells ({ frames := 0, cells := 0, slots := 0, locals := 0 } : Room).slots) := by
  refine MetFree.of_bodySF (plainFor_of_name pn_7) hisR ?_
  intro p e s m args below meth c s₁ Bd hml0 hP hK
  obtain ⟨rfl, hZ, hh⟩ := hP
  have hx := Bd.exec
  have hby := Bd.bytes
  have hml : c.maxLocals = 1 := hml0
  have hown : s.vm.findClass "com/example/receivant/receivant/money/Amount" = some m.cls := findClass_of_methodNamed Bd.named
  have hnm := (name_of_methodNamed Bd.named Bd.method).1
  have X0 : Stand p l e ({ frames := 0, cells := 0, slots := 0, locals := 0 } : Room) s m #[(.ref p0)] below meth c s₁ [] 0 0 := Stand.of_body Bd
  have e0 : s₁.heap = h0 := by rw [← hh, Bd.state]; rfl
  have N0 := Fr.nil n0
  refine Goes.start (Q := (fun o U' => ∃ v L, o = .returned v ∧ Q7 Z p0 cx h0 n0 v U'.heap L ∧ FrameEnd s o U' L ({ frames := 0, cells := 0, slots := 0, locals := 0 } : Room).cells ({ frames := 0, cells := 0, slots := 0, locals := 0 } : Room).slots)) (A := s₁.setTop (mkF m 0 #[.val (.ref p0)] [])) (fun t k => castTop (ef_7 m p0) k) ?_
  refine Goes.step (A := s₁.setTop (mkF m 1 #[.val (.ref p0)] [(.ref p0)])) (fun t kt => ?_) ?_
  · refine XS.aloadN X0.here hx rfl (hb hby d7_0) rfl rfl ?_
    exact kt
  obtain ⟨T1, X1, e1, st1⟩ := getF X0 hx hZ hown (host := "") (Or.inl (hw _ (List.mem_of_getElem? (i := 16) rfl))) Via.refl e0 F0 (g := (mkF m 1 #[.val (.ref p0)] [(.ref p0)])) rfl rfl (hb hby d7_1)
  refine Goes.step (A := T1.setTop (mkF m 4 #[.val (.ref p0)] [(.long cx)])) (fun t kt => st1 _ kt) ?_
  obtain ⟨fs, hr, hrun, hended, hW, hsame⟩ := X1.leave (v := some (.long cx)) (fun h => by rw [Bd.returns] at h; cases h)
  refine Goes.done ?_ hrun hended ⟨_, _, rfl, ?_, ⟨_, rfl⟩, hW, hsame.mono (by decide) (by decide)⟩
  · jvm_step X1.here [X1.here.top, hx, (hb hby d7_4), X1.method', Bd.returns, narrow]
    first | (intro acts; rw [hr _ acts rfl rfl rfl]) | rw [hr _ _ rfl rfl rfl]
    exact Steps.refl _
  · show Q7 Z p0 cx h0 n0 _ T1.heap _
    rw [e1]
    exact ⟨rfl, N0, rfl⟩
theorem ef_0 (m : MethodId) (x0 : Int64) (x1 : Int64) (x2 : Int32) : entryFrame m #[(.long x0), (.long x1), (.int x2)] maxLocals = mkF m 0 #[.val (.long x0), .second, .val (.long x1), .second, .val (.int x2), .unset, .unset, .unset, .unset, .unset, .unset, .unset, .unset, .unset, .unset, .unset, .unset, .unset, .unset] [] := by first | (simp [entryFrame, mkF, argsToLocals, Value.category, maxLocals]; done) | rfl
def Q0 (Z : State) (q1 : Int64) (q2 : Int64) (p3 : Int32) (h0 : Heap) (n0 : Nat) (v : Option Value) (h : Heap) (L : List Loc) : Prop := v = some (.int 1) ∧ Fr n0 L
theorem pn_0 : plainName "com/example/receivant/receivant/money/AmountMinPinLaw" = true := by first | (simp [plainName, overriddenIn]; done) | decide +kernel
theorem pd_3 : parseMethodDescriptor "(J)V" = some ⟨[.long], none⟩ := by decide +kernel
theorem pd_4 : parseMethodDescriptor "(Lcom/example/receivant/receivant/money/Amount;Lcom/example/receivant/receivant/money/Amount;)Lcom/example/receivant/receivant/money/Amount;" = some ⟨[(.object "com/example/receivant/receivant/money/Amount"), (.object "com/example/receivant/receivant/money/Amount")], some (.object "com/example/receivant/receivant/money/Amount")⟩ := by decide +kernel
theorem pd_5 : parseMethodDescriptor "()J" = some ⟨[], some .long⟩ := by decide +kernel
set_option maxRecDepth 65536 in
set_option maxHeartbeats 40000000 in
theorem rm0 (l : Launch) (Z : State) (a0 : Array Value) (hw : ∀ d ∈ tables_1, d.before a0 Z = true) (ws : List Jvm.Cond) (q1 : Int64) (q2 : Int64) (p3 : Int32) (h0 : Heap) (n0 : Nat) (Z0 : n0 ≤ h0.size) :
    MetFree l x (head1 (Jvm.Cond.code x code maxLocals ret :: ws) room_1) (fun a U => a = #[(.long q1), (.long q2), (.int p3)] ∧ Z.Warmed39 U.vm ∧ U.heap = h0) (fun _ _ _ _ _ => True) (fun _ U o U' => ∃ v L, o = .returned v ∧ Q0 Z q1 q2 p3 h0 n0 v U'.heap L ∧ FrameEnd U o U' L room_1.cells room_1.slots) := by
  refine MetFree.of_bodySF (plainFor_of_name pn_0) hisR ?_
  intro p e s m args below meth c s₁ Bd hml0 hP hK
  obtain ⟨rfl, hZ, hh⟩ := hP
  have hx := Bd.exec
  have hby := Bd.bytes
  have hml : c.maxLocals = 19 := hml0
  have hown : s.vm.findClass "com/example/receivant/receivant/money/AmountMinPinLaw" = some m.cls := findClass_of_methodNamed Bd.named
  have hnm := (name_of_methodNamed Bd.named Bd.method).1
  have X0 : Stand p l e room_1 s m #[(.long q1), (.long q2), (.int p3)] below meth c s₁ [] 0 0 := Stand.of_body Bd
  have e0 : s₁.heap = h0 := by rw [← hh, Bd.state]; rfl
  have N0 := Fr.nil n0
  refine Goes.start (Q := (fun o U' => ∃ v L, o = .returned v ∧ Q0 Z q1 q2 p3 h0 n0 v U'.heap L ∧ FrameEnd s o U' L room_1.cells room_1.slots)) (A := s₁.setTop (mkF m 0 #[.val (.long q1), .second, .val (.long q2), .second, .val (.int p3), .unset, .unset, .unset, .unset, .unset, .unset, .unset, .unset, .unset, .unset, .unset, .unset, .unset, .unset] [])) (fun t k => castTop (ef_0 m q1 q2 p3) k) ?_
  have cont : ∀ (av b0v bv : Int64) (hx0 : ¬ (av = (-9223372036854775808 : Int64))) (hy0 : ¬ (bv = (-9223372036854775808 : Int64))), Goes p.tables e below (fun o U' => ∃ v L, o = .returned v ∧ Q0 Z q1 q2 p3 h0 n0 v U'.heap L ∧ FrameEnd s o U' L room_1.cells room_1.slots) (s₁.setTop (mkF m 51 #[.val (.long q1), .second, .val (.long q2), .second, .val (.int p3), .val (.long av), .second, .val (.long b0v), .second, .val (.long bv), .second, .unset, .unset, .unset, .unset, .unset, .unset, .unset, .unset] [])) := by
    intro av b0v bv hx0 hy0
    by_cases hq1 : bv < av
    · obtain ⟨T1, h1, X1, e1, E1, A1, D1, -, st1⟩ := newO X0 hx hZ hown (hw _ (List.mem_of_getElem? (i := 1) rfl)) (hw _ (List.mem_of_getElem? (i := 2) rfl)) (hw _ (List.mem_of_getElem? (i := 3) rfl)) e0 (g := (mkF m 51 #[.val (.long q1), .second, .val (.long q2), .second, .val (.int p3), .val (.long av), .second, .val (.long b0v), .second, .val (.long bv), .second, .unset, .unset, .unset, .unset, .unset, .unset, .unset, .unset] [])) rfl (hb hby at_51) (by decide) (by decide)
      obtain ⟨b1, g1⟩ : ∃ z, z = h0.size := ⟨_, rfl⟩
      rw [← g1] at A1 D1 st1
      have gb_b1 : n0 ≤ b1 := Nat.le_trans Z0 (Nat.le_of_eq g1.symm)
      have Z1 : n0 ≤ h1.size := Nat.le_trans Z0 E1.1
      have F1_cents : Fld Z h1 b1 "com/example/receivant/receivant/money/Amount" "cents" "J" (.long (0 : Int64)) := D1 (Or.inr (hw _ (List.mem_of_getElem? (i := 17) rfl))) (ty := .long) (by decide)
      refine Goes.step (A := T1.setTop (mkF m 54 #[.val (.long q1), .second, .val (.long q2), .second, .val (.int p3), .val (.long av), .second, .val (.long b0v), .second, .val (.long bv), .second, .unset, .unset, .unset, .unset, .unset, .unset, .unset, .unset] [(.ref b1)])) (fun t kt => st1 _ kt) ?_
      refine Goes.step (A := T1.setTop (mkF m 57 #[.val (.long q1), .second, .val (.long q2), .second, .val (.int p3), .val (.long av), .second, .val (.long b0v), .second, .val (.long bv), .second, .unset, .unset, .unset, .unset, .unset, .unset, .unset, .unset] [(.long av), (.ref b1), (.ref b1)])) (fun t kt => ?_) ?_
      · refine XS.dup X1.here hx rfl (hb hby at_54) rfl rfl ?_
        show Steps p.tables e below (T1.setTop (mkF m 55 #[.val (.long q1), .second, .val (.long q2), .second, .val (.int p3), .val (.long av), .second, .val (.long b0v), .second, .val (.long bv), .second, .unset, .unset, .unset, .unset, .unset, .unset, .unset, .unset] [(.ref b1), (.ref b1)])) _
        refine XS.lload X1.here hx rfl (hb hby at_55) rfl ?_
        exact kt
      obtain ⟨_, _, ⟨T2, L2, k2, n2⟩, -, X2, ⟨Lc2, hQ2, l2, y2, z2⟩, st2⟩ := X1.specialBack hx (y := (⟨"com/example/receivant/receivant/money/Amount", "<init>", "(J)V"⟩ : MethodName)) rfl hown (mvT hZ (hw _ (List.mem_of_getElem? (i := 4) rfl))) (mvT hZ (hw _ (List.mem_of_getElem? (i := 5) rfl))) (mvT hZ (hw _ (List.mem_of_getElem? (i := 6) rfl))) (by decide) (backOf (W := 1) (rm1 l Z a0 hw [] b1 av h1 n0 Z1 F1_cents A1 gb_b1 hx0) hZ (hw _ (List.mem_of_getElem? (i := 6) rfl)) (hw _ (List.mem_of_getElem? (i := 3) rfl)) (by decide) (by decide)) (g := (mkF m 57 #[.val (.long q1), .second, .val (.long q2), .second, .val (.int p3), .val (.long av), .second, .val (.long b0v), .second, .val (.long bv), .second, .unset, .unset, .unset, .unset, .unset, .unset, .unset, .unset] [(.long av), (.ref b1), (.ref b1)])) rfl (by rw [hml]; rfl) (Steps.refl _) (a := b1) (argsL := [(.long av)]) (rest := [(.ref b1)]) (lenOf pd_3 rfl) rfl (by show 2 * 0 + _ ≤ _; exact Nat.le_of_eq rfl) (hb hby at_57) (fun _ _ => ⟨rfl, e1, (by decide : 1 + 0 ≤ _), (by decide : 1 + 0 ≤ _)⟩)
      dsimp only [Pt.U, Pt.locs, Pt.cells, Pt.slots] at X2 l2 y2 z2 st2 hQ2
      subst l2 y2 z2
      obtain ⟨rfl, N2q, K2q, E2q, F2q⟩ := hQ2
      have N2 := Fr.app N0 N2q
      refine Goes.step (A := T2.setTop (mkF m 60 #[.val (.long q1), .second, .val (.long q2), .second, .val (.int p3), .val (.long av), .second, .val (.long b0v), .second, .val (.long bv), .second, .unset, .unset, .unset, .unset, .unset, .unset, .unset, .unset] [(.ref b1)])) (fun t kt => st2.trans kt) ?_
      have Z2 : n0 ≤ T2.heap.size := Nat.le_trans Z1 K2q.1
      refine Goes.step (A := T2.setTop (mkF m 62 #[.val (.long q1), .second, .val (.long q2), .second, .val (.int p3), .val (.long av), .second, .val (.long b0v), .second, .val (.long bv), .second, .val (.ref b1), .unset, .unset, .unset, .unset, .unset, .unset, .unset] [])) (fun t kt => ?_) ?_
      · refine XS.astore X2.here hx rfl (hb hby at_60) rfl rfl (l' := #[.val (.long q1), .second, .val (.long q2), .second, .val (.int p3), .val (.long av), .second, .val (.long b0v), .second, .val (.long bv), .second, .val (.ref b1), .unset, .unset, .unset, .unset, .unset, .unset, .unset]) rfl ?_
        exact kt
      obtain ⟨T3, h3, X3, e3, E3, A3, D3, -, st3⟩ := newO X2 hx hZ hown (hw _ (List.mem_of_getElem? (i := 1) rfl)) (hw _ (List.mem_of_getElem? (i := 2) rfl)) (hw _ (List.mem_of_getElem? (i := 3) rfl)) rfl (g := (mkF m 62 #[.val (.long q1), .second, .val (.long q2), .second, .val (.int p3), .val (.long av), .second, .val (.long b0v), .second, .val (.long bv), .second, .val (.ref b1), .unset, .unset, .unset, .unset, .unset, .unset, .unset] [])) rfl (hb hby at_62) (by decide) (by decide)
      obtain ⟨b3, g3⟩ : ∃ z, z = T2.heap.size := ⟨_, rfl⟩
      rw [← g3] at A3 D3 st3
      have gb_b3 : n0 ≤ b3 := Nat.le_trans Z2 (Nat.le_of_eq g3.symm)
      have E3_b1 := E2q.ext E3
      have F3_b1_cents := F2q.ext E3
      have Z3 : n0 ≤ h3.size := Nat.le_trans Z2 E3.1
      have ne3_b1 : b1 ≠ b3 := Nat.ne_of_lt (Nat.lt_of_lt_of_le E2q.lt (Nat.le_of_eq g3.symm))
      have F3_cents : Fld Z h3 b3 "com/example/receivant/receivant/money/Amount" "cents" "J" (.long (0 : Int64)) := D3 (Or.inr (hw _ (List.mem_of_getElem? (i := 17) rfl))) (ty := .long) (by decide)
      refine Goes.step (A := T3.setTop (mkF m 65 #[.val (.long q1), .second, .val (.long q2), .second, .val (.int p3), .val (.long av), .second, .val (.long b0v), .second, .val (.long bv), .second, .val (.ref b1), .unset, .unset, .unset, .unset, .unset, .unset, .unset] [(.ref b3)])) (fun t kt => st3 _ kt) ?_
      refine Goes.step (A := T3.setTop (mkF m 68 #[.val (.long q1), .second, .val (.long q2), .second, .val (.int p3), .val (.long av), .second, .val (.long b0v), .second, .val (.long bv), .second, .val (.ref b1), .unset, .unset, .unset, .unset, .unset, .unset, .unset] [(.long bv), (.ref b3), (.ref b3)])) (fun t kt => ?_) ?_
      · refine XS.dup X3.here hx rfl (hb hby at_65) rfl rfl ?_
        show Steps p.tables e below (T3.setTop (mkF m 66 #[.val (.long q1), .second, .val (.long q2), .second, .val (.int p3), .val (.long av), .second, .val (.long b0v), .second, .val (.long bv), .second, .val (.ref b1), .unset, .unset, .unset, .unset, .unset, .unset, .unset] [(.ref b3), (.ref b3)])) _
        refine XS.lload X3.here hx rfl (hb hby at_66) rfl ?_
        exact kt
      obtain ⟨_, _, ⟨T4, L4, k4, n4⟩, -, X4, ⟨Lc4, hQ4, l4, y4, z4⟩, st4⟩ := X3.specialBack hx (y := (⟨"com/example/receivant/receivant/money/Amount", "<init>", "(J)V"⟩ : MethodName)) rfl hown (mvT hZ (hw _ (List.mem_of_getElem? (i := 4) rfl))) (mvT hZ (hw _ (List.mem_of_getElem? (i := 5) rfl))) (mvT hZ (hw _ (List.mem_of_getElem? (i := 6) rfl))) (by decide) (backOf (W := 1) (rm1 l Z a0 hw [] b3 bv h3 n0 Z3 F3_cents A3 gb_b3 hy0) hZ (hw _ (List.mem_of_getElem? (i := 6) rfl)) (hw _ (List.mem_of_getElem? (i := 3) rfl)) (by decide) (by decide)) (g := (mkF m 68 #[.val (.long q1), .second, .val (.long q2), .second, .val (.int p3), .val (.long av), .second, .val (.long b0v), .second, .val (.long bv), .second, .val (.ref b1), .unset, .unset, .unset, .unset, .unset, .unset, .unset] [(.long bv), (.ref b3), (.ref b3)])) rfl (by rw [hml]; rfl) (Steps.refl _) (a := b3) (argsL := [(.long bv)]) (rest := [(.ref b3)]) (lenOf pd_3 rfl) rfl (by show 2 * 0 + _ ≤ _; exact Nat.le_of_eq rfl) (hb hby at_68) (fun _ _ => ⟨rfl, e3, (by decide : 2 + 0 ≤ _), (by decide : 2 + 0 ≤ _)⟩)
      dsimp only [Pt.U, Pt.locs, Pt.cells, Pt.slots] at X4 l4 y4 z4 st4 hQ4
      subst l4 y4 z4
      obtain ⟨rfl, N4q, K4q, E4q, F4q⟩ := hQ4
      have N4 := Fr.app N2 N4q
      refine Goes.step (A := T4.setTop (mkF m 71 #[.val (.long q1), .second, .val (.long q2), .second, .val (.int p3), .val (.long av), .second, .val (.long b0v), .second, .val (.long bv), .second, .val (.ref b1), .unset, .unset, .unset, .unset, .unset, .unset, .unset] [(.ref b3)])) (fun t kt => st4.trans kt) ?_
      have E4_b1 := E3_b1.keep K4q
      have F4_b1_cents := F3_b1_cents.keep K4q (ninS ne3_b1 nin0)
      have Z4 : n0 ≤ T4.heap.size := Nat.le_trans Z3 K4q.1
      refine Goes.step (A := T4.setTop (mkF m 77 #[.val (.long q1), .second, .val (.long q2), .second, .val (.int p3), .val (.long av), .second, .val (.long b0v), .second, .val (.long bv), .second, .val (.ref b1), .val (.ref b3), .unset, .unset, .unset, .unset, .unset, .unset] [(.ref b3), (.ref b1)])) (fun t kt => ?_) ?_
      · refine XS.astore X4.here hx rfl (hb hby at_71) rfl rfl (l' := #[.val (.long q1), .second, .val (.long q2), .second, .val (.int p3), .val (.long av), .second, .val (.long b0v), .second, .val (.long bv), .second, .val (.ref b1), .val (.ref b3), .unset, .unset, .unset, .unset, .unset, .unset]) rfl ?_
        show Steps p.tables e below (T4.setTop (mkF m 73 #[.val (.long q1), .second, .val (.long q2), .second, .val (.int p3), .val (.long av), .second, .val (.long b0v), .second, .val (.long bv), .second, .val (.ref b1), .val (.ref b3), .unset, .unset, .unset, .unset, .unset, .unset] [])) _
        refine XS.aload X4.here hx rfl (hb hby at_73) rfl rfl ?_
        show Steps p.tables e below (T4.setTop (mkF m 75 #[.val (.long q1), .second, .val (.long q2), .second, .val (.int p3), .val (.long av), .second, .val (.long b0v), .second, .val (.long bv), .second, .val (.ref b1), .val (.ref b3), .unset, .unset, .unset, .unset, .unset, .unset] [(.ref b1)])) _
        refine XS.aload X4.here hx rfl (hb hby at_75) rfl rfl ?_
        exact kt
      obtain ⟨_, _, ⟨T5, L5, k5, n5⟩, -, X5, ⟨Lc5, hQ5, l5, y5, z5⟩, st5⟩ := Jvm.LawKit.callS X4 hx (y := (⟨"com/example/receivant/receivant/money/Amount", "min", "(Lcom/example/receivant/receivant/money/Amount;Lcom/example/receivant/receivant/money/Amount;)Lcom/example/receivant/receivant/money/Amount;"⟩ : MethodName)) hown (mvT hZ (hw _ (List.mem_of_getElem? (i := 18) rfl))) (mvT hZ (hw _ (List.mem_of_getElem? (i := 19) rfl))) (mvT hZ (hw _ (List.mem_of_getElem? (i := 3) rfl))) (mvT hZ (hw _ (List.mem_of_getElem? (i := 20) rfl))) (by decide) (backOf (W := 0) (rm4 l Z a0 hw [] b1 b3 av bv T4.heap n0 Z4 F4_b1_cents F4q E4_b1) hZ (hw _ (List.mem_of_getElem? (i := 20) rfl)) (hw _ (List.mem_of_getElem? (i := 3) rfl)) (by decide) (by decide)) (g := (mkF m 77 #[.val (.long q1), .second, .val (.long q2), .second, .val (.int p3), .val (.long av), .second, .val (.long b0v), .second, .val (.long bv), .second, .val (.ref b1), .val (.ref b3), .unset, .unset, .unset, .unset, .unset, .unset] [(.ref b3), (.ref b1)])) rfl (by rw [hml]; rfl) (argsL := [(.ref b1), (.ref b3)]) (rest := []) (lenOf pd_4 rfl) rfl (by show 2 * 0 + _ ≤ _; exact Nat.le_of_eq rfl) (hb hby at_77) (fun _ _ => ⟨rfl, rfl, (by decide : 2 + 0 ≤ _), (by decide : 2 + 0 ≤ _)⟩)
      dsimp only [Pt.U, Pt.locs, Pt.cells, Pt.slots] at X5 l5 y5 z5 st5 hQ5
      subst l5 y5 z5
      have hQ5' := hQ5
      unfold Q4 at hQ5'
      rw [own_pick1 av bv b1 b3 hq1] at hQ5'
      clear hQ5
      have hQ5 := hQ5'
      clear hQ5'
      obtain ⟨rfl, N5q, e5⟩ := hQ5
      have N5 := Fr.app N4 N5q
      refine Goes.step (A := T5.setTop (mkF m 80 #[.val (.long q1), .second, .val (.long q2), .second, .val (.int p3), .val (.long av), .second, .val (.long b0v), .second, .val (.long bv), .second, .val (.ref b1), .val (.ref b3), .unset, .unset, .unset, .unset, .unset, .unset] [(.ref b3)])) (fun t kt => st5 _ kt) ?_
      refine Goes.step (A := T5.setTop (mkF m 86 #[.val (.long q1), .second, .val (.long q2), .second, .val (.int p3), .val (.long av), .second, .val (.long b0v), .second, .val (.long bv), .second, .val (.ref b1), .val (.ref b3), .val (.ref b3), .unset, .unset, .unset, .unset, .unset] [(.ref b1), (.ref b3)])) (fun t kt => ?_) ?_
      · refine XS.astore X5.here hx rfl (hb hby at_80) rfl rfl (l' := #[.val (.long q1), .second, .val (.long q2), .second, .val (.int p3), .val (.long av), .second, .val (.long b0v), .second, .val (.long bv), .second, .val (.ref b1), .val (.ref b3), .val (.ref b3), .unset, .unset, .unset, .unset, .unset]) rfl ?_
        show Steps p.tables e below (T5.setTop (mkF m 82 #[.val (.long q1), .second, .val (.long q2), .second, .val (.int p3), .val (.long av), .second, .val (.long b0v), .second, .val (.long bv), .second, .val (.ref b1), .val (.ref b3), .val (.ref b3), .unset, .unset, .unset, .unset, .unset] [])) _
        refine XS.aload X5.here hx rfl (hb hby at_82) rfl rfl ?_
        show Steps p.tables e below (T5.setTop (mkF m 84 #[.val (.long q1), .second, .val (.long q2), .second, .val (.int p3), .val (.long av), .second, .val (.long b0v), .second, .val (.long bv), .second, .val (.ref b1), .val (.ref b3), .val (.ref b3), .unset, .unset, .unset, .unset, .unset] [(.ref b3)])) _
        refine XS.aload X5.here hx rfl (hb hby at_84) rfl rfl ?_
        exact kt
      obtain ⟨_, _, ⟨T6, L6, k6, n6⟩, -, X6, ⟨Lc6, hQ6, l6, y6, z6⟩, st6⟩ := Jvm.LawKit.callS X5 hx (y := (⟨"com/example/receivant/receivant/money/Amount", "min", "(Lcom/example/receivant/receivant/money/Amount;Lcom/example/receivant/receivant/money/Amount;)Lcom/example/receivant/receivant/money/Amount;"⟩ : MethodName)) hown (mvT hZ (hw _ (List.mem_of_getElem? (i := 18) rfl))) (mvT hZ (hw _ (List.mem_of_getElem? (i := 19) rfl))) (mvT hZ (hw _ (List.mem_of_getElem? (i := 3) rfl))) (mvT hZ (hw _ (List.mem_of_getElem? (i := 20) rfl))) (by decide) (backOf (W := 0) (rm4 l Z a0 hw [] b3 b1 bv av T4.heap n0 Z4 F4q F4_b1_cents E4q) hZ (hw _ (List.mem_of_getElem? (i := 20) rfl)) (hw _ (List.mem_of_getElem? (i := 3) rfl)) (by decide) (by decide)) (g := (mkF m 86 #[.val (.long q1), .second, .val (.long q2), .second, .val (.int p3), .val (.long av), .second, .val (.long b0v), .second, .val (.long bv), .second, .val (.ref b1), .val (.ref b3), .val (.ref b3), .unset, .unset, .unset, .unset, .unset] [(.ref b1), (.ref b3)])) rfl (by rw [hml]; rfl) (argsL := [(.ref b3), (.ref b1)]) (rest := []) (lenOf pd_4 rfl) rfl (by show 2 * 0 + _ ≤ _; exact Nat.le_of_eq rfl) (hb hby at_86) (fun _ _ => ⟨rfl, e5, (by decide : 2 + 0 ≤ _), (by decide : 2 + 0 ≤ _)⟩)
      dsimp only [Pt.U, Pt.locs, Pt.cells, Pt.slots] at X6 l6 y6 z6 st6 hQ6
      subst l6 y6 z6
      have hQ6' := hQ6
      unfold Q4 at hQ6'
      rw [own_pick0 bv av b3 b1 (own_asym _ _ hq1)] at hQ6'
      clear hQ6
      have hQ6 := hQ6'
      clear hQ6'
      obtain ⟨rfl, N6q, e6⟩ := hQ6
      have N6 := Fr.app N5 N6q
      refine Goes.step (A := T6.setTop (mkF m 89 #[.val (.long q1), .second, .val (.long q2), .second, .val (.int p3), .val (.long av), .second, .val (.long b0v), .second, .val (.long bv), .second, .val (.ref b1), .val (.ref b3), .val (.ref b3), .unset, .unset, .unset, .unset, .unset] [(.ref b3)])) (fun t kt => st6 _ kt) ?_
      refine Goes.step (A := T6.setTop (mkF m 96 #[.val (.long q1), .second, .val (.long q2), .second, .val (.int p3), .val (.long av), .second, .val (.long b0v), .second, .val (.long bv), .second, .val (.ref b1), .val (.ref b3), .val (.ref b3), .val (.ref b3), .unset, .unset, .unset, .unset] [(.int (lcmpW av bv))])) (fun t kt => ?_) ?_
      · refine XS.astore X6.here hx rfl (hb hby at_89) rfl rfl (l' := #[.val (.long q1), .second, .val (.long q2), .second, .val (.int p3), .val (.long av), .second, .val (.long b0v), .second, .val (.long bv), .second, .val (.ref b1), .val (.ref b3), .val (.ref b3), .val (.ref b3), .unset, .unset, .unset, .unset]) rfl ?_
        show Steps p.tables e below (T6.setTop (mkF m 91 #[.val (.long q1), .second, .val (.long q2), .second, .val (.int p3), .val (.long av), .second, .val (.long b0v), .second, .val (.long bv), .second, .val (.ref b1), .val (.ref b3), .val (.ref b3), .val (.ref b3), .unset, .unset, .unset, .unset] [])) _
        refine XS.lload X6.here hx rfl (hb hby at_91) rfl ?_
        show Steps p.tables e below (T6.setTop (mkF m 93 #[.val (.long q1), .second, .val (.long q2), .second, .val (.int p3), .val (.long av), .second, .val (.long b0v), .second, .val (.long bv), .second, .val (.ref b1), .val (.ref b3), .val (.ref b3), .val (.ref b3), .unset, .unset, .unset, .unset] [(.long av)])) _
        refine XS.lload X6.here hx rfl (hb hby at_93) rfl ?_
        show Steps p.tables e below (T6.setTop (mkF m 95 #[.val (.long q1), .second, .val (.long q2), .second, .val (.int p3), .val (.long av), .second, .val (.long b0v), .second, .val (.long bv), .second, .val (.ref b1), .val (.ref b3), .val (.ref b3), .val (.ref b3), .unset, .unset, .unset, .unset] [(.long bv), (.long av)])) _
        refine XS.lcmp X6.here hx rfl (hb hby at_95) rfl ?_
        exact kt
      refine Goes.step (A := T6.setTop (mkF m 104 #[.val (.long q1), .second, .val (.long q2), .second, .val (.int p3), .val (.long av), .second, .val (.long b0v), .second, .val (.long bv), .second, .val (.ref b1), .val (.ref b3), .val (.ref b3), .val (.ref b3), .unset, .unset, .unset, .unset] [])) (fun t kt => XS.ifYes X6.here hx rfl (pc0 := 96) (pc' := 104) rfl (hb hby at_96) rfl ((if0 _ _).trans (tlt ((lw_gt _ _).mpr (hq1 : bv < av))).2.2.1) (by decide) (by decide) kt) ?_
      refine Goes.step (A := T6.setTop (mkF m 112 #[.val (.long q1), .second, .val (.long q2), .second, .val (.int p3), .val (.long av), .second, .val (.long b0v), .second, .val (.long bv), .second, .val (.ref b1), .val (.ref b3), .val (.ref b3), .val (.ref b3), .val (.long bv), .second, .unset, .unset] [(.ref b1), (.ref b3)])) (fun t kt => ?_) ?_
      · refine XS.lload X6.here hx rfl (hb hby at_104) rfl ?_
        show Steps p.tables e below (T6.setTop (mkF m 106 #[.val (.long q1), .second, .val (.long q2), .second, .val (.int p3), .val (.long av), .second, .val (.long b0v), .second, .val (.long bv), .second, .val (.ref b1), .val (.ref b3), .val (.ref b3), .val (.ref b3), .unset, .unset, .unset, .unset] [(.long bv)])) _
        refine XS.lstore X6.here hx rfl (hb hby at_106) rfl (l' := #[.val (.long q1), .second, .val (.long q2), .second, .val (.int p3), .val (.long av), .second, .val (.long b0v), .second, .val (.long bv), .second, .val (.ref b1), .val (.ref b3), .val (.ref b3), .val (.ref b3), .val (.long bv), .second, .unset, .unset]) rfl ?_
        show Steps p.tables e below (T6.setTop (mkF m 108 #[.val (.long q1), .second, .val (.long q2), .second, .val (.int p3), .val (.long av), .second, .val (.long b0v), .second, .val (.long bv), .second, .val (.ref b1), .val (.ref b3), .val (.ref b3), .val (.ref b3), .val (.long bv), .second, .unset, .unset] [])) _
        refine XS.aload X6.here hx rfl (hb hby at_108) rfl rfl ?_
        show Steps p.tables e below (T6.setTop (mkF m 110 #[.val (.long q1), .second, .val (.long q2), .second, .val (.int p3), .val (.long av), .second, .val (.long b0v), .second, .val (.long bv), .second, .val (.ref b1), .val (.ref b3), .val (.ref b3), .val (.ref b3), .val (.long bv), .second, .unset, .unset] [(.ref b3)])) _
        refine XS.aload X6.here hx rfl (hb hby at_110) rfl rfl ?_
        exact kt
      refine Goes.step (A := T6.setTop (mkF m 115 #[.val (.long q1), .second, .val (.long q2), .second, .val (.int p3), .val (.long av), .second, .val (.long b0v), .second, .val (.long bv), .second, .val (.ref b1), .val (.ref b3), .val (.ref b3), .val (.ref b3), .val (.long bv), .second, .unset, .unset] [])) (fun t kt => Jvm.RoadKit.acmp (g := (mkF m 112 #[.val (.long q1), .second, .val (.long q2), .second, .val (.int p3), .val (.long av), .second, .val (.long b0v), .second, .val (.long bv), .second, .val (.ref b1), .val (.ref b3), .val (.ref b3), .val (.ref b3), .val (.long bv), .second, .unset, .unset] [(.ref b1), (.ref b3)])) X6 hx rfl rfl rfl (pc0 := 112) (pc' := 115) (same := false) rfl (hb hby at_112) rfl (decide_eq_false fun q => (ne3_b1.symm : ¬ (b3 = b1)) (Value.ref.inj q)) (by decide) (by decide) kt) ?_
      refine Goes.step (A := T6.setTop (mkF m 119 #[.val (.long q1), .second, .val (.long q2), .second, .val (.int p3), .val (.long av), .second, .val (.long b0v), .second, .val (.long bv), .second, .val (.ref b1), .val (.ref b3), .val (.ref b3), .val (.ref b3), .val (.long bv), .second, .unset, .unset] [(.ref b3), (.ref b3)])) (fun t kt => ?_) ?_
      · refine XS.aload X6.here hx rfl (hb hby at_115) rfl rfl ?_
        show Steps p.tables e below (T6.setTop (mkF m 117 #[.val (.long q1), .second, .val (.long q2), .second, .val (.int p3), .val (.long av), .second, .val (.long b0v), .second, .val (.long bv), .second, .val (.ref b1), .val (.ref b3), .val (.ref b3), .val (.ref b3), .val (.long bv), .second, .unset, .unset] [(.ref b3)])) _
        refine XS.aload X6.here hx rfl (hb hby at_117) rfl rfl ?_
        exact kt
      refine Goes.step (A := T6.setTop (mkF m 122 #[.val (.long q1), .second, .val (.long q2), .second, .val (.int p3), .val (.long av), .second, .val (.long b0v), .second, .val (.long bv), .second, .val (.ref b1), .val (.ref b3), .val (.ref b3), .val (.ref b3), .val (.long bv), .second, .unset, .unset] [])) (fun t kt => Jvm.RoadKit.acmp (g := (mkF m 119 #[.val (.long q1), .second, .val (.long q2), .second, .val (.int p3), .val (.long av), .second, .val (.long b0v), .second, .val (.long bv), .second, .val (.ref b1), .val (.ref b3), .val (.ref b3), .val (.ref b3), .val (.long bv), .second, .unset, .unset] [(.ref b3), (.ref b3)])) X6 hx rfl rfl rfl (pc0 := 119) (pc' := 122) (same := true) rfl (hb hby at_119) rfl (decide_eq_true (congrArg Value.ref (rfl : b3 = b3))) (by decide) (by decide) kt) ?_
      refine Goes.step (A := T6.setTop (mkF m 133 #[.val (.long q1), .second, .val (.long q2), .second, .val (.int p3), .val (.long av), .second, .val (.long b0v), .second, .val (.long bv), .second, .val (.ref b1), .val (.ref b3), .val (.ref b3), .val (.ref b3), .val (.long bv), .second, .val (.int (1 : Int32)), .unset] [(.ref b1), (.ref b3)])) (fun t kt => ?_) ?_
      · refine XS.iconst X6.here hx rfl (hb hby at_122) ?_
        show Steps p.tables e below (T6.setTop (mkF m 123 #[.val (.long q1), .second, .val (.long q2), .second, .val (.int p3), .val (.long av), .second, .val (.long b0v), .second, .val (.long bv), .second, .val (.ref b1), .val (.ref b3), .val (.ref b3), .val (.ref b3), .val (.long bv), .second, .unset, .unset] [(.int (1 : Int32))])) _
        refine XS.goto X6.here hx rfl (pc0 := 123) (pc' := 127) rfl (hb hby at_123) (by decide) (by decide) ?_
        show Steps p.tables e below (T6.setTop (mkF m 127 #[.val (.long q1), .second, .val (.long q2), .second, .val (.int p3), .val (.long av), .second, .val (.long b0v), .second, .val (.long bv), .second, .val (.ref b1), .val (.ref b3), .val (.ref b3), .val (.ref b3), .val (.long bv), .second, .unset, .unset] [(.int (1 : Int32))])) _
        refine XS.istore X6.here hx rfl (hb hby at_127) rfl (l' := #[.val (.long q1), .second, .val (.long q2), .second, .val (.int p3), .val (.long av), .second, .val (.long b0v), .second, .val (.long bv), .second, .val (.ref b1), .val (.ref b3), .val (.ref b3), .val (.ref b3), .val (.long bv), .second, .val (.int (1 : Int32)), .unset]) rfl ?_
        show Steps p.tables e below (T6.setTop (mkF m 129 #[.val (.long q1), .second, .val (.long q2), .second, .val (.int p3), .val (.long av), .second, .val (.long b0v), .second, .val (.long bv), .second, .val (.ref b1), .val (.ref b3), .val (.ref b3), .val (.ref b3), .val (.long bv), .second, .val (.int (1 : Int32)), .unset] [])) _
        refine XS.aload X6.here hx rfl (hb hby at_129) rfl rfl ?_
        show Steps p.tables e below (T6.setTop (mkF m 131 #[.val (.long q1), .second, .val (.long q2), .second, .val (.int p3), .val (.long av), .second, .val (.long b0v), .second, .val (.long bv), .second, .val (.ref b1), .val (.ref b3), .val (.ref b3), .val (.ref b3), .val (.long bv), .second, .val (.int (1 : Int32)), .unset] [(.ref b3)])) _
        refine XS.aload X6.here hx rfl (hb hby at_131) rfl rfl ?_
        exact kt
      refine Goes.step (A := T6.setTop (mkF m 136 #[.val (.long q1), .second, .val (.long q2), .second, .val (.int p3), .val (.long av), .second, .val (.long b0v), .second, .val (.long bv), .second, .val (.ref b1), .val (.ref b3), .val (.ref b3), .val (.ref b3), .val (.long bv), .second, .val (.int (1 : Int32)), .unset] [])) (fun t kt => Jvm.RoadKit.acmp (g := (mkF m 133 #[.val (.long q1), .second, .val (.long q2), .second, .val (.int p3), .val (.long av), .second, .val (.long b0v), .second, .val (.long bv), .second, .val (.ref b1), .val (.ref b3), .val (.ref b3), .val (.ref b3), .val (.long bv), .second, .val (.int (1 : Int32)), .unset] [(.ref b1), (.ref b3)])) X6 hx rfl rfl rfl (pc0 := 133) (pc' := 136) (same := false) rfl (hb hby at_133) rfl (decide_eq_false fun q => (ne3_b1.symm : ¬ (b3 = b1)) (Value.ref.inj q)) (by decide) (by decide) kt) ?_
      refine Goes.step (A := T6.setTop (mkF m 140 #[.val (.long q1), .second, .val (.long q2), .second, .val (.int p3), .val (.long av), .second, .val (.long b0v), .second, .val (.long bv), .second, .val (.ref b1), .val (.ref b3), .val (.ref b3), .val (.ref b3), .val (.long bv), .second, .val (.int (1 : Int32)), .unset] [(.ref b3), (.ref b3)])) (fun t kt => ?_) ?_
      · refine XS.aload X6.here hx rfl (hb hby at_136) rfl rfl ?_
        show Steps p.tables e below (T6.setTop (mkF m 138 #[.val (.long q1), .second, .val (.long q2), .second, .val (.int p3), .val (.long av), .second, .val (.long b0v), .second, .val (.long bv), .second, .val (.ref b1), .val (.ref b3), .val (.ref b3), .val (.ref b3), .val (.long bv), .second, .val (.int (1 : Int32)), .unset] [(.ref b3)])) _
        refine XS.aload X6.here hx rfl (hb hby at_138) rfl rfl ?_
        exact kt
      refine Goes.step (A := T6.setTop (mkF m 143 #[.val (.long q1), .second, .val (.long q2), .second, .val (.int p3), .val (.long av), .second, .val (.long b0v), .second, .val (.long bv), .second, .val (.ref b1), .val (.ref b3), .val (.ref b3), .val (.ref b3), .val (.long bv), .second, .val (.int (1 : Int32)), .unset] [])) (fun t kt => Jvm.RoadKit.acmp (g := (mkF m 140 #[.val (.long q1), .second, .val (.long q2), .second, .val (.int p3), .val (.long av), .second, .val (.long b0v), .second, .val (.long bv), .second, .val (.ref b1), .val (.ref b3), .val (.ref b3), .val (.ref b3), .val (.long bv), .second, .val (.int (1 : Int32)), .unset] [(.ref b3), (.ref b3)])) X6 hx rfl rfl rfl (pc0 := 140) (pc' := 143) (same := true) rfl (hb hby at_140) rfl (decide_eq_true (congrArg Value.ref (rfl : b3 = b3))) (by decide) (by decide) kt) ?_
      refine Goes.step (A := T6.setTop (mkF m 152 #[.val (.long q1), .second, .val (.long q2), .second, .val (.int p3), .val (.long av), .second, .val (.long b0v), .second, .val (.long bv), .second, .val (.ref b1), .val (.ref b3), .val (.ref b3), .val (.ref b3), .val (.long bv), .second, .val (.int (1 : Int32)), .val (.int (1 : Int32))] [(.int (1 : Int32))])) (fun t kt => ?_) ?_
      · refine XS.iconst X6.here hx rfl (hb hby at_143) ?_
        show Steps p.tables e below (T6.setTop (mkF m 144 #[.val (.long q1), .second, .val (.long q2), .second, .val (.int p3), .val (.long av), .second, .val (.long b0v), .second, .val (.long bv), .second, .val (.ref b1), .val (.ref b3), .val (.ref b3), .val (.ref b3), .val (.long bv), .second, .val (.int (1 : Int32)), .unset] [(.int (1 : Int32))])) _
        refine XS.goto X6.here hx rfl (pc0 := 144) (pc' := 148) rfl (hb hby at_144) (by decide) (by decide) ?_
        show Steps p.tables e below (T6.setTop (mkF m 148 #[.val (.long q1), .second, .val (.long q2), .second, .val (.int p3), .val (.long av), .second, .val (.long b0v), .second, .val (.long bv), .second, .val (.ref b1), .val (.ref b3), .val (.ref b3), .val (.ref b3), .val (.long bv), .second, .val (.int (1 : Int32)), .unset] [(.int (1 : Int32))])) _
        refine XS.istore X6.here hx rfl (hb hby at_148) rfl (l' := #[.val (.long q1), .second, .val (.long q2), .second, .val (.int p3), .val (.long av), .second, .val (.long b0v), .second, .val (.long bv), .second, .val (.ref b1), .val (.ref b3), .val (.ref b3), .val (.ref b3), .val (.long bv), .second, .val (.int (1 : Int32)), .val (.int (1 : Int32))]) rfl ?_
        show Steps p.tables e below (T6.setTop (mkF m 150 #[.val (.long q1), .second, .val (.long q2), .second, .val (.int p3), .val (.long av), .second, .val (.long b0v), .second, .val (.long bv), .second, .val (.ref b1), .val (.ref b3), .val (.ref b3), .val (.ref b3), .val (.long bv), .second, .val (.int (1 : Int32)), .val (.int (1 : Int32))] [])) _
        refine XS.iload X6.here hx rfl (hb hby at_150) rfl ?_
        exact kt
      refine Goes.step (A := T6.setTop (mkF m 155 #[.val (.long q1), .second, .val (.long q2), .second, .val (.int p3), .val (.long av), .second, .val (.long b0v), .second, .val (.long bv), .second, .val (.ref b1), .val (.ref b3), .val (.ref b3), .val (.ref b3), .val (.long bv), .second, .val (.int (1 : Int32)), .val (.int (1 : Int32))] [])) (fun t kt => XS.ifNo X6.here hx rfl (hb hby at_152) rfl ((if0 _ _).trans (feq ((by decide) : ¬ ((1 : Int32) = (0 : Int32)))).1) kt) ?_
      refine Goes.step (A := T6.setTop (mkF m 157 #[.val (.long q1), .second, .val (.long q2), .second, .val (.int p3), .val (.long av), .second, .val (.long b0v), .second, .val (.long bv), .second, .val (.ref b1), .val (.ref b3), .val (.ref b3), .val (.ref b3), .val (.long bv), .second, .val (.int (1 : Int32)), .val (.int (1 : Int32))] [(.int (1 : Int32))])) (fun t kt => ?_) ?_
      · refine XS.iload X6.here hx rfl (hb hby at_155) rfl ?_
        exact kt
      refine Goes.step (A := T6.setTop (mkF m 160 #[.val (.long q1), .second, .val (.long q2), .second, .val (.int p3), .val (.long av), .second, .val (.long b0v), .second, .val (.long bv), .second, .val (.ref b1), .val (.ref b3), .val (.ref b3), .val (.ref b3), .val (.long bv), .second, .val (.int (1 : Int32)), .val (.int (1 : Int32))] [])) (fun t kt => XS.ifNo X6.here hx rfl (hb hby at_157) rfl ((if0 _ _).trans (feq ((by decide) : ¬ ((1 : Int32) = (0 : Int32)))).1) kt) ?_
      refine Goes.step (A := T6.setTop (mkF m 162 #[.val (.long q1), .second, .val (.long q2), .second, .val (.int p3), .val (.long av), .second, .val (.long b0v), .second, .val (.long bv), .second, .val (.ref b1), .val (.ref b3), .val (.ref b3), .val (.ref b3), .val (.long bv), .second, .val (.int (1 : Int32)), .val (.int (1 : Int32))] [(.ref b3)])) (fun t kt => ?_) ?_
      · refine XS.aload X6.here hx rfl (hb hby at_160) rfl rfl ?_
        exact kt
      obtain ⟨cq7, kq7, q7a, q7b, q7c⟩ := isOf hZ e6 E4q
      obtain ⟨_, _, ⟨T7, L7, k7, n7⟩, -, X7, ⟨Lc7, hQ7, l7, y7, z7⟩, st7⟩ := X6.virtualBack hx (y := (⟨"com/example/receivant/receivant/money/Amount", "cents", "()J"⟩ : MethodName)) (z := (⟨"com/example/receivant/receivant/money/Amount", "cents", "()J"⟩ : MethodName)) hown (mvT hZ (hw _ (List.mem_of_getElem? (i := 30) rfl))) (mvT hZ (hw _ (List.mem_of_getElem? (i := 31) rfl))) (notFace_of_selects (args := #[]) (mvT hZ (hw _ (List.mem_of_getElem? (i := 33) rfl)))) (mvT hZ (hw _ (List.mem_of_getElem? (i := 33) rfl))) (mvT hZ (hw _ (List.mem_of_getElem? (i := 32) rfl))) (by decide) (backOf (W := 0) (rm7 l Z a0 hw [] b3 bv T4.heap n0 Z4 F4q) hZ (hw _ (List.mem_of_getElem? (i := 34) rfl)) (hw _ (List.mem_of_getElem? (i := 3) rfl)) (by decide) (by decide)) q7a q7c (g := (mkF m 162 #[.val (.long q1), .second, .val (.long q2), .second, .val (.int p3), .val (.long av), .second, .val (.long b0v), .second, .val (.long bv), .second, .val (.ref b1), .val (.ref b3), .val (.ref b3), .val (.ref b3), .val (.long bv), .second, .val (.int (1 : Int32)), .val (.int (1 : Int32))] [(.ref b3)])) rfl (by rw [hml]; rfl) (Steps.refl _) (argsL := []) (rest := []) (lenOf pd_5 rfl) rfl (by show 2 * 0 + _ ≤ _; exact Nat.le_of_eq rfl) (hb hby at_162) (fun _ _ => ⟨rfl, e6, (by decide : 2 + 0 ≤ _), (by decide : 2 + 0 ≤ _)⟩)
      dsimp only [Pt.U, Pt.locs, Pt.cells, Pt.slots] at X7 l7 y7 z7 st7 hQ7
      subst l7 y7 z7
      obtain ⟨rfl, N7q, e7⟩ := hQ7
      have N7 := Fr.app N6 N7q
      refine Goes.step (A := T7.setTop (mkF m 165 #[.val (.long q1), .second, .val (.long q2), .second, .val (.int p3), .val (.long av), .second, .val (.long b0v), .second, .val (.long bv), .second, .val (.ref b1), .val (.ref b3), .val (.ref b3), .val (.ref b3), .val (.long bv), .second, .val (.int (1 : Int32)), .val (.int (1 : Int32))] [(.long bv)])) (fun t kt => st7.trans kt) ?_
      refine Goes.step (A := T7.setTop (mkF m 168 #[.val (.long q1), .second, .val (.long q2), .second, .val (.int p3), .val (.long av), .second, .val (.long b0v), .second, .val (.long bv), .second, .val (.ref b1), .val (.ref b3), .val (.ref b3), .val (.ref b3), .val (.long bv), .second, .val (.int (1 : Int32)), .val (.int (1 : Int32))] [(.int (lcmpW bv bv))])) (fun t kt => ?_) ?_
      · refine XS.lload X7.here hx rfl (hb hby at_165) rfl ?_
        show Steps p.tables e below (T7.setTop (mkF m 167 #[.val (.long q1), .second, .val (.long q2), .second, .val (.int p3), .val (.long av), .second, .val (.long b0v), .second, .val (.long bv), .second, .val (.ref b1), .val (.ref b3), .val (.ref b3), .val (.ref b3), .val (.long bv), .second, .val (.int (1 : Int32)), .val (.int (1 : Int32))] [(.long bv), (.long bv)])) _
        refine XS.lcmp X7.here hx rfl (hb hby at_167) rfl ?_
        exact kt
      refine Goes.step (A := T7.setTop (mkF m 171 #[.val (.long q1), .second, .val (.long q2), .second, .val (.int p3), .val (.long av), .second, .val (.long b0v), .second, .val (.long bv), .second, .val (.ref b1), .val (.ref b3), .val (.ref b3), .val (.ref b3), .val (.long bv), .second, .val (.int (1 : Int32)), .val (.int (1 : Int32))] [])) (fun t kt => XS.ifNo X7.here hx rfl (hb hby at_168) rfl ((if0 _ _).trans (teq ((lw_eq _ _).mpr (rfl : bv = bv))).2) kt) ?_
      refine Goes.step (A := T7.setTop (mkF m 173 #[.val (.long q1), .second, .val (.long q2), .second, .val (.int p3), .val (.long av), .second, .val (.long b0v), .second, .val (.long bv), .second, .val (.ref b1), .val (.ref b3), .val (.ref b3), .val (.ref b3), .val (.long bv), .second, .val (.int (1 : Int32)), .val (.int (1 : Int32))] [(.ref b3)])) (fun t kt => ?_) ?_
      · refine XS.aload X7.here hx rfl (hb hby at_171) rfl rfl ?_
        exact kt
      obtain ⟨cq8, kq8, q8a, q8b, q8c⟩ := isOf hZ e7 E4q
      obtain ⟨_, _, ⟨T8, L8, k8, n8⟩, -, X8, ⟨Lc8, hQ8, l8, y8, z8⟩, st8⟩ := X7.virtualBack hx (y := (⟨"com/example/receivant/receivant/money/Amount", "cents", "()J"⟩ : MethodName)) (z := (⟨"com/example/receivant/receivant/money/Amount", "cents", "()J"⟩ : MethodName)) hown (mvT hZ (hw _ (List.mem_of_getElem? (i := 30) rfl))) (mvT hZ (hw _ (List.mem_of_getElem? (i := 31) rfl))) (notFace_of_selects (args := #[]) (mvT hZ (hw _ (List.mem_of_getElem? (i := 33) rfl)))) (mvT hZ (hw _ (List.mem_of_getElem? (i := 33) rfl))) (mvT hZ (hw _ (List.mem_of_getElem? (i := 32) rfl))) (by decide) (backOf (W := 0) (rm7 l Z a0 hw [] b3 bv T4.heap n0 Z4 F4q) hZ (hw _ (List.mem_of_getElem? (i := 34) rfl)) (hw _ (List.mem_of_getElem? (i := 3) rfl)) (by decide) (by decide)) q8a q8c (g := (mkF m 173 #[.val (.long q1), .second, .val (.long q2), .second, .val (.int p3), .val (.long av), .second, .val (.long b0v), .second, .val (.long bv), .second, .val (.ref b1), .val (.ref b3), .val (.ref b3), .val (.ref b3), .val (.long bv), .second, .val (.int (1 : Int32)), .val (.int (1 : Int32))] [(.ref b3)])) rfl (by rw [hml]; rfl) (Steps.refl _) (argsL := []) (rest := []) (lenOf pd_5 rfl) rfl (by show 2 * 0 + _ ≤ _; exact Nat.le_of_eq rfl) (hb hby at_173) (fun _ _ => ⟨rfl, e7, (by decide : 2 + 0 ≤ _), (by decide : 2 + 0 ≤ _)⟩)
      dsimp only [Pt.U, Pt.locs, Pt.cells, Pt.slots] at X8 l8 y8 z8 st8 hQ8
      subst l8 y8 z8
      obtain ⟨rfl, N8q, e8⟩ := hQ8
      have N8 := Fr.app N7 N8q
      refine Goes.step (A := T8.setTop (mkF m 176 #[.val (.long q1), .second, .val (.long q2), .second, .val (.int p3), .val (.long av), .second, .val (.long b0v), .second, .val (.long bv), .second, .val (.ref b1), .val (.ref b3), .val (.ref b3), .val (.ref b3), .val (.long bv), .second, .val (.int (1 : Int32)), .val (.int (1 : Int32))] [(.long bv)])) (fun t kt => st8.trans kt) ?_
      refine Goes.step (A := T8.setTop (mkF m 179 #[.val (.long q1), .second, .val (.long q2), .second, .val (.int p3), .val (.long av), .second, .val (.long b0v), .second, .val (.long bv), .second, .val (.ref b1), .val (.ref b3), .val (.ref b3), .val (.ref b3), .val (.long bv), .second, .val (.int (1 : Int32)), .val (.int (1 : Int32))] [(.int (lcmpW bv bv))])) (fun t kt => ?_) ?_
      · refine XS.lload X8.here hx rfl (hb hby at_176) rfl ?_
        show Steps p.tables e below (T8.setTop (mkF m 178 #[.val (.long q1), .second, .val (.long q2), .second, .val (.int p3), .val (.long av), .second, .val (.long b0v), .second, .val (.long bv), .second, .val (.ref b1), .val (.ref b3), .val (.ref b3), .val (.ref b3), .val (.long bv), .second, .val (.int (1 : Int32)), .val (.int (1 : Int32))] [(.long bv), (.long bv)])) _
        refine XS.lcmp X8.here hx rfl (hb hby at_178) rfl ?_
        exact kt
      refine Goes.step (A := T8.setTop (mkF m 182 #[.val (.long q1), .second, .val (.long q2), .second, .val (.int p3), .val (.long av), .second, .val (.long b0v), .second, .val (.long bv), .second, .val (.ref b1), .val (.ref b3), .val (.ref b3), .val (.ref b3), .val (.long bv), .second, .val (.int (1 : Int32)), .val (.int (1 : Int32))] [])) (fun t kt => XS.ifNo X8.here hx rfl (hb hby at_179) rfl ((if0 _ _).trans (teq ((lw_eq _ _).mpr (rfl : bv = bv))).2) kt) ?_
      refine Goes.step (A := T8.setTop (mkF m 187 #[.val (.long q1), .second, .val (.long q2), .second, .val (.int p3), .val (.long av), .second, .val (.long b0v), .second, .val (.long bv), .second, .val (.ref b1), .val (.ref b3), .val (.ref b3), .val (.ref b3), .val (.long bv), .second, .val (.int (1 : Int32)), .val (.int (1 : Int32))] [(.int (1 : Int32))])) (fun t kt => ?_) ?_
      · refine XS.iconst X8.here hx rfl (hb hby at_182) ?_
        show Steps p.tables e below (T8.setTop (mkF m 183 #[.val (.long q1), .second, .val (.long q2), .second, .val (.int p3), .val (.long av), .second, .val (.long b0v), .second, .val (.long bv), .second, .val (.ref b1), .val (.ref b3), .val (.ref b3), .val (.ref b3), .val (.long bv), .second, .val (.int (1 : Int32)), .val (.int (1 : Int32))] [(.int (1 : Int32))])) _
        refine XS.goto X8.here hx rfl (pc0 := 183) (pc' := 187) rfl (hb hby at_183) (by decide) (by decide) ?_
        exact kt
      obtain ⟨fs, hr, hrun, hended, hW, hsame⟩ := X8.leave (v := some (.int (1 : Int32))) (fun h => by rw [Bd.returns] at h; cases h)
      refine Goes.done ?_ hrun hended ⟨_, _, rfl, ?_, ⟨_, rfl⟩, hW, hsame.mono (by decide) (by decide)⟩
      · exact retN X8 hx (t := .boolean) Bd.returns (by simp) (hb hby at_187) hr
      · show Q0 Z q1 q2 p3 h0 n0 _ T8.heap _
        rw [e8]
        exact ⟨rfl, N8⟩
    · by_cases hq2 : av < bv
      · obtain ⟨T9, h9, X9, e9, E9, A9, D9, -, st9⟩ := newO X0 hx hZ hown (hw _ (List.mem_of_getElem? (i := 1) rfl)) (hw _ (List.mem_of_getElem? (i := 2) rfl)) (hw _ (List.mem_of_getElem? (i := 3) rfl)) e0 (g := (mkF m 51 #[.val (.long q1), .second, .val (.long q2), .second, .val (.int p3), .val (.long av), .second, .val (.long b0v), .second, .val (.long bv), .second, .unset, .unset, .unset, .unset, .unset, .unset, .unset, .unset] [])) rfl (hb hby at_51) (by decide) (by decide)
        obtain ⟨b9, g9⟩ : ∃ z, z = h0.size := ⟨_, rfl⟩
        rw [← g9] at A9 D9 st9
        have gb_b9 : n0 ≤ b9 := Nat.le_trans Z0 (Nat.le_of_eq g9.symm)
        have Z9 : n0 ≤ h9.size := Nat.le_trans Z0 E9.1
        have F9_cents : Fld Z h9 b9 "com/example/receivant/receivant/money/Amount" "cents" "J" (.long (0 : Int64)) := D9 (Or.inr (hw _ (List.mem_of_getElem? (i := 17) rfl))) (ty := .long) (by decide)
        refine Goes.step (A := T9.setTop (mkF m 54 #[.val (.long q1), .second, .val (.long q2), .second, .val (.int p3), .val (.long av), .second, .val (.long b0v), .second, .val (.long bv), .second, .unset, .unset, .unset, .unset, .unset, .unset, .unset, .unset] [(.ref b9)])) (fun t kt => st9 _ kt) ?_
        refine Goes.step (A := T9.setTop (mkF m 57 #[.val (.long q1), .second, .val (.long q2), .second, .val (.int p3), .val (.long av), .second, .val (.long b0v), .second, .val (.long bv), .second, .unset, .unset, .unset, .unset, .unset, .unset, .unset, .unset] [(.long av), (.ref b9), (.ref b9)])) (fun t kt => ?_) ?_
        · refine XS.dup X9.here hx rfl (hb hby at_54) rfl rfl ?_
          show Steps p.tables e below (T9.setTop (mkF m 55 #[.val (.long q1), .second, .val (.long q2), .second, .val (.int p3), .val (.long av), .second, .val (.long b0v), .second, .val (.long bv), .second, .unset, .unset, .unset, .unset, .unset, .unset, .unset, .unset] [(.ref b9), (.ref b9)])) _
          refine XS.lload X9.here hx rfl (hb hby at_55) rfl ?_
          exact kt
        obtain ⟨_, _, ⟨T10, L10, k10, n10⟩, -, X10, ⟨Lc10, hQ10, l10, y10, z10⟩, st10⟩ := X9.specialBack hx (y := (⟨"com/example/receivant/receivant/money/Amount", "<init>", "(J)V"⟩ : MethodName)) rfl hown (mvT hZ (hw _ (List.mem_of_getElem? (i := 4) rfl))) (mvT hZ (hw _ (List.mem_of_getElem? (i := 5) rfl))) (mvT hZ (hw _ (List.mem_of_getElem? (i := 6) rfl))) (by decide) (backOf (W := 1) (rm1 l Z a0 hw [] b9 av h9 n0 Z9 F9_cents A9 gb_b9 hx0) hZ (hw _ (List.mem_of_getElem? (i := 6) rfl)) (hw _ (List.mem_of_getElem? (i := 3) rfl)) (by decide) (by decide)) (g := (mkF m 57 #[.val (.long q1), .second, .val (.long q2), .second, .val (.int p3), .val (.long av), .second, .val (.long b0v), .second, .val (.long bv), .second, .unset, .unset, .unset, .unset, .unset, .unset, .unset, .unset] [(.long av), (.ref b9), (.ref b9)])) rfl (by rw [hml]; rfl) (Steps.refl _) (a := b9) (argsL := [(.long av)]) (rest := [(.ref b9)]) (lenOf pd_3 rfl) rfl (by show 2 * 0 + _ ≤ _; exact Nat.le_of_eq rfl) (hb hby at_57) (fun _ _ => ⟨rfl, e9, (by decide : 1 + 0 ≤ _), (by decide : 1 + 0 ≤ _)⟩)
        dsimp only [Pt.U, Pt.locs, Pt.cells, Pt.slots] at X10 l10 y10 z10 st10 hQ10
        subst l10 y10 z10
        obtain ⟨rfl, N10q, K10q, E10q, F10q⟩ := hQ10
        have N10 := Fr.app N0 N10q
        refine Goes.step (A := T10.setTop (mkF m 60 #[.val (.long q1), .second, .val (.long q2), .second, .val (.int p3), .val (.long av), .second, .val (.long b0v), .second, .val (.long bv), .second, .unset, .unset, .unset, .unset, .unset, .unset, .unset, .unset] [(.ref b9)])) (fun t kt => st10.trans kt) ?_
        have Z10 : n0 ≤ T10.heap.size := Nat.le_trans Z9 K10q.1
        refine Goes.step (A := T10.setTop (mkF m 62 #[.val (.long q1), .second, .val (.long q2), .second, .val (.int p3), .val (.long av), .second, .val (.long b0v), .second, .val (.long bv), .second, .val (.ref b9), .unset, .unset, .unset, .unset, .unset, .unset, .unset] [])) (fun t kt => ?_) ?_
        · refine XS.astore X10.here hx rfl (hb hby at_60) rfl rfl (l' := #[.val (.long q1), .second, .val (.long q2), .second, .val (.int p3), .val (.long av), .second, .val (.long b0v), .second, .val (.long bv), .second, .val (.ref b9), .unset, .unset, .unset, .unset, .unset, .unset, .unset]) rfl ?_
          exact kt
        obtain ⟨T11, h11, X11, e11, E11, A11, D11, -, st11⟩ := newO X10 hx hZ hown (hw _ (List.mem_of_getElem? (i := 1) rfl)) (hw _ (List.mem_of_getElem? (i := 2) rfl)) (hw _ (List.mem_of_getElem? (i := 3) rfl)) rfl (g := (mkF m 62 #[.val (.long q1), .second, .val (.long q2), .second, .val (.int p3), .val (.long av), .second, .val (.long b0v), .second, .val (.long bv), .second, .val (.ref b9), .unset, .unset, .unset, .unset, .unset, .unset, .unset] [])) rfl (hb hby at_62) (by decide) (by decide)
        obtain ⟨b11, g11⟩ : ∃ z, z = T10.heap.size := ⟨_, rfl⟩
        rw [← g11] at A11 D11 st11
        have gb_b11 : n0 ≤ b11 := Nat.le_trans Z10 (Nat.le_of_eq g11.symm)
        have E11_b9 := E10q.ext E11
        have F11_b9_cents := F10q.ext E11
        have Z11 : n0 ≤ h11.size := Nat.le_trans Z10 E11.1
        have ne11_b9 : b9 ≠ b11 := Nat.ne_of_lt (Nat.lt_of_lt_of_le E10q.lt (Nat.le_of_eq g11.symm))
        have F11_cents : Fld Z h11 b11 "com/example/receivant/receivant/money/Amount" "cents" "J" (.long (0 : Int64)) := D11 (Or.inr (hw _ (List.mem_of_getElem? (i := 17) rfl))) (ty := .long) (by decide)
        refine Goes.step (A := T11.setTop (mkF m 65 #[.val (.long q1), .second, .val (.long q2), .second, .val (.int p3), .val (.long av), .second, .val (.long b0v), .second, .val (.long bv), .second, .val (.ref b9), .unset, .unset, .unset, .unset, .unset, .unset, .unset] [(.ref b11)])) (fun t kt => st11 _ kt) ?_
        refine Goes.step (A := T11.setTop (mkF m 68 #[.val (.long q1), .second, .val (.long q2), .second, .val (.int p3), .val (.long av), .second, .val (.long b0v), .second, .val (.long bv), .second, .val (.ref b9), .unset, .unset, .unset, .unset, .unset, .unset, .unset] [(.long bv), (.ref b11), (.ref b11)])) (fun t kt => ?_) ?_
        · refine XS.dup X11.here hx rfl (hb hby at_65) rfl rfl ?_
          show Steps p.tables e below (T11.setTop (mkF m 66 #[.val (.long q1), .second, .val (.long q2), .second, .val (.int p3), .val (.long av), .second, .val (.long b0v), .second, .val (.long bv), .second, .val (.ref b9), .unset, .unset, .unset, .unset, .unset, .unset, .unset] [(.ref b11), (.ref b11)])) _
          refine XS.lload X11.here hx rfl (hb hby at_66) rfl ?_
          exact kt
        obtain ⟨_, _, ⟨T12, L12, k12, n12⟩, -, X12, ⟨Lc12, hQ12, l12, y12, z12⟩, st12⟩ := X11.specialBack hx (y := (⟨"com/example/receivant/receivant/money/Amount", "<init>", "(J)V"⟩ : MethodName)) rfl hown (mvT hZ (hw _ (List.mem_of_getElem? (i := 4) rfl))) (mvT hZ (hw _ (List.mem_of_getElem? (i := 5) rfl))) (mvT hZ (hw _ (List.mem_of_getElem? (i := 6) rfl))) (by decide) (backOf (W := 1) (rm1 l Z a0 hw [] b11 bv h11 n0 Z11 F11_cents A11 gb_b11 hy0) hZ (hw _ (List.mem_of_getElem? (i := 6) rfl)) (hw _ (List.mem_of_getElem? (i := 3) rfl)) (by decide) (by decide)) (g := (mkF m 68 #[.val (.long q1), .second, .val (.long q2), .second, .val (.int p3), .val (.long av), .second, .val (.long b0v), .second, .val (.long bv), .second, .val (.ref b9), .unset, .unset, .unset, .unset, .unset, .unset, .unset] [(.long bv), (.ref b11), (.ref b11)])) rfl (by rw [hml]; rfl) (Steps.refl _) (a := b11) (argsL := [(.long bv)]) (rest := [(.ref b11)]) (lenOf pd_3 rfl) rfl (by show 2 * 0 + _ ≤ _; exact Nat.le_of_eq rfl) (hb hby at_68) (fun _ _ => ⟨rfl, e11, (by decide : 2 + 0 ≤ _), (by decide : 2 + 0 ≤ _)⟩)
        dsimp only [Pt.U, Pt.locs, Pt.cells, Pt.slots] at X12 l12 y12 z12 st12 hQ12
        subst l12 y12 z12
        obtain ⟨rfl, N12q, K12q, E12q, F12q⟩ := hQ12
        have N12 := Fr.app N10 N12q
        refine Goes.step (A := T12.setTop (mkF m 71 #[.val (.long q1), .second, .val (.long q2), .second, .val (.int p3), .val (.long av), .second, .val (.long b0v), .second, .val (.long bv), .second, .val (.ref b9), .unset, .unset, .unset, .unset, .unset, .unset, .unset] [(.ref b11)])) (fun t kt => st12.trans kt) ?_
        have E12_b9 := E11_b9.keep K12q
        have F12_b9_cents := F11_b9_cents.keep K12q (ninS ne11_b9 nin0)
        have Z12 : n0 ≤ T12.heap.size := Nat.le_trans Z11 K12q.1
        refine Goes.step (A := T12.setTop (mkF m 77 #[.val (.long q1), .second, .val (.long q2), .second, .val (.int p3), .val (.long av), .second, .val (.long b0v), .second, .val (.long bv), .second, .val (.ref b9), .val (.ref b11), .unset, .unset, .unset, .unset, .unset, .unset] [(.ref b11), (.ref b9)])) (fun t kt => ?_) ?_
        · refine XS.astore X12.here hx rfl (hb hby at_71) rfl rfl (l' := #[.val (.long q1), .second, .val (.long q2), .second, .val (.int p3), .val (.long av), .second, .val (.long b0v), .second, .val (.long bv), .second, .val (.ref b9), .val (.ref b11), .unset, .unset, .unset, .unset, .unset, .unset]) rfl ?_
          show Steps p.tables e below (T12.setTop (mkF m 73 #[.val (.long q1), .second, .val (.long q2), .second, .val (.int p3), .val (.long av), .second, .val (.long b0v), .second, .val (.long bv), .second, .val (.ref b9), .val (.ref b11), .unset, .unset, .unset, .unset, .unset, .unset] [])) _
          refine XS.aload X12.here hx rfl (hb hby at_73) rfl rfl ?_
          show Steps p.tables e below (T12.setTop (mkF m 75 #[.val (.long q1), .second, .val (.long q2), .second, .val (.int p3), .val (.long av), .second, .val (.long b0v), .second, .val (.long bv), .second, .val (.ref b9), .val (.ref b11), .unset, .unset, .unset, .unset, .unset, .unset] [(.ref b9)])) _
          refine XS.aload X12.here hx rfl (hb hby at_75) rfl rfl ?_
          exact kt
        obtain ⟨_, _, ⟨T13, L13, k13, n13⟩, -, X13, ⟨Lc13, hQ13, l13, y13, z13⟩, st13⟩ := Jvm.LawKit.callS X12 hx (y := (⟨"com/example/receivant/receivant/money/Amount", "min", "(Lcom/example/receivant/receivant/money/Amount;Lcom/example/receivant/receivant/money/Amount;)Lcom/example/receivant/receivant/money/Amount;"⟩ : MethodName)) hown (mvT hZ (hw _ (List.mem_of_getElem? (i := 18) rfl))) (mvT hZ (hw _ (List.mem_of_getElem? (i := 19) rfl))) (mvT hZ (hw _ (List.mem_of_getElem? (i := 3) rfl))) (mvT hZ (hw _ (List.mem_of_getElem? (i := 20) rfl))) (by decide) (backOf (W := 0) (rm4 l Z a0 hw [] b9 b11 av bv T12.heap n0 Z12 F12_b9_cents F12q E12_b9) hZ (hw _ (List.mem_of_getElem? (i := 20) rfl)) (hw _ (List.mem_of_getElem? (i := 3) rfl)) (by decide) (by decide)) (g := (mkF m 77 #[.val (.long q1), .second, .val (.long q2), .second, .val (.int p3), .val (.long av), .second, .val (.long b0v), .second, .val (.long bv), .second, .val (.ref b9), .val (.ref b11), .unset, .unset, .unset, .unset, .unset, .unset] [(.ref b11), (.ref b9)])) rfl (by rw [hml]; rfl) (argsL := [(.ref b9), (.ref b11)]) (rest := []) (lenOf pd_4 rfl) rfl (by show 2 * 0 + _ ≤ _; exact Nat.le_of_eq rfl) (hb hby at_77) (fun _ _ => ⟨rfl, rfl, (by decide : 2 + 0 ≤ _), (by decide : 2 + 0 ≤ _)⟩)
        dsimp only [Pt.U, Pt.locs, Pt.cells, Pt.slots] at X13 l13 y13 z13 st13 hQ13
        subst l13 y13 z13
        have hQ13' := hQ13
        unfold Q4 at hQ13'
        rw [own_pick0 av bv b9 b11 hq1] at hQ13'
        clear hQ13
        have hQ13 := hQ13'
        clear hQ13'
        obtain ⟨rfl, N13q, e13⟩ := hQ13
        have N13 := Fr.app N12 N13q
        refine Goes.step (A := T13.setTop (mkF m 80 #[.val (.long q1), .second, .val (.long q2), .second, .val (.int p3), .val (.long av), .second, .val (.long b0v), .second, .val (.long bv), .second, .val (.ref b9), .val (.ref b11), .unset, .unset, .unset, .unset, .unset, .unset] [(.ref b9)])) (fun t kt => st13 _ kt) ?_
        refine Goes.step (A := T13.setTop (mkF m 86 #[.val (.long q1), .second, .val (.long q2), .second, .val (.int p3), .val (.long av), .second, .val (.long b0v), .second, .val (.long bv), .second, .val (.ref b9), .val (.ref b11), .val (.ref b9), .unset, .unset, .unset, .unset, .unset] [(.ref b9), (.ref b11)])) (fun t kt => ?_) ?_
        · refine XS.astore X13.here hx rfl (hb hby at_80) rfl rfl (l' := #[.val (.long q1), .second, .val (.long q2), .second, .val (.int p3), .val (.long av), .second, .val (.long b0v), .second, .val (.long bv), .second, .val (.ref b9), .val (.ref b11), .val (.ref b9), .unset, .unset, .unset, .unset, .unset]) rfl ?_
          show Steps p.tables e below (T13.setTop (mkF m 82 #[.val (.long q1), .second, .val (.long q2), .second, .val (.int p3), .val (.long av), .second, .val (.long b0v), .second, .val (.long bv), .second, .val (.ref b9), .val (.ref b11), .val (.ref b9), .unset, .unset, .unset, .unset, .unset] [])) _
          refine XS.aload X13.here hx rfl (hb hby at_82) rfl rfl ?_
          show Steps p.tables e below (T13.setTop (mkF m 84 #[.val (.long q1), .second, .val (.long q2), .second, .val (.int p3), .val (.long av), .second, .val (.long b0v), .second, .val (.long bv), .second, .val (.ref b9), .val (.ref b11), .val (.ref b9), .unset, .unset, .unset, .unset, .unset] [(.ref b11)])) _
          refine XS.aload X13.here hx rfl (hb hby at_84) rfl rfl ?_
          exact kt
        obtain ⟨_, _, ⟨T14, L14, k14, n14⟩, -, X14, ⟨Lc14, hQ14, l14, y14, z14⟩, st14⟩ := Jvm.LawKit.callS X13 hx (y := (⟨"com/example/receivant/receivant/money/Amount", "min", "(Lcom/example/receivant/receivant/money/Amount;Lcom/example/receivant/receivant/money/Amount;)Lcom/example/receivant/receivant/money/Amount;"⟩ : MethodName)) hown (mvT hZ (hw _ (List.mem_of_getElem? (i := 18) rfl))) (mvT hZ (hw _ (List.mem_of_getElem? (i := 19) rfl))) (mvT hZ (hw _ (List.mem_of_getElem? (i := 3) rfl))) (mvT hZ (hw _ (List.mem_of_getElem? (i := 20) rfl))) (by decide) (backOf (W := 0) (rm4 l Z a0 hw [] b11 b9 bv av T12.heap n0 Z12 F12q F12_b9_cents E12q) hZ (hw _ (List.mem_of_getElem? (i := 20) rfl)) (hw _ (List.mem_of_getElem? (i := 3) rfl)) (by decide) (by decide)) (g := (mkF m 86 #[.val (.long q1), .second, .val (.long q2), .second, .val (.int p3), .val (.long av), .second, .val (.long b0v), .second, .val (.long bv), .second, .val (.ref b9), .val (.ref b11), .val (.ref b9), .unset, .unset, .unset, .unset, .unset] [(.ref b9), (.ref b11)])) rfl (by rw [hml]; rfl) (argsL := [(.ref b11), (.ref b9)]) (rest := []) (lenOf pd_4 rfl) rfl (by show 2 * 0 + _ ≤ _; exact Nat.le_of_eq rfl) (hb hby at_86) (fun _ _ => ⟨rfl, e13, (by decide : 2 + 0 ≤ _), (by decide : 2 + 0 ≤ _)⟩)
        dsimp only [Pt.U, Pt.locs, Pt.cells, Pt.slots] at X14 l14 y14 z14 st14 hQ14
        subst l14 y14 z14
        have hQ14' := hQ14
        unfold Q4 at hQ14'
        rw [own_pick1 bv av b11 b9 hq2] at hQ14'
        clear hQ14
        have hQ14 := hQ14'
        clear hQ14'
        obtain ⟨rfl, N14q, e14⟩ := hQ14
        have N14 := Fr.app N13 N14q
        refine Goes.step (A := T14.setTop (mkF m 89 #[.val (.long q1), .second, .val (.long q2), .second, .val (.int p3), .val (.long av), .second, .val (.long b0v), .second, .val (.long bv), .second, .val (.ref b9), .val (.ref b11), .val (.ref b9), .unset, .unset, .unset, .unset, .unset] [(.ref b9)])) (fun t kt => st14 _ kt) ?_
        refine Goes.step (A := T14.setTop (mkF m 96 #[.val (.long q1), .second, .val (.long q2), .second, .val (.int p3), .val (.long av), .second, .val (.long b0v), .second, .val (.long bv), .second, .val (.ref b9), .val (.ref b11), .val (.ref b9), .val (.ref b9), .unset, .unset, .unset, .unset] [(.int (lcmpW av bv))])) (fun t kt => ?_) ?_
        · refine XS.astore X14.here hx rfl (hb hby at_89) rfl rfl (l' := #[.val (.long q1), .second, .val (.long q2), .second, .val (.int p3), .val (.long av), .second, .val (.long b0v), .second, .val (.long bv), .second, .val (.ref b9), .val (.ref b11), .val (.ref b9), .val (.ref b9), .unset, .unset, .unset, .unset]) rfl ?_
          show Steps p.tables e below (T14.setTop (mkF m 91 #[.val (.long q1), .second, .val (.long q2), .second, .val (.int p3), .val (.long av), .second, .val (.long b0v), .second, .val (.long bv), .second, .val (.ref b9), .val (.ref b11), .val (.ref b9), .val (.ref b9), .unset, .unset, .unset, .unset] [])) _
          refine XS.lload X14.here hx rfl (hb hby at_91) rfl ?_
          show Steps p.tables e below (T14.setTop (mkF m 93 #[.val (.long q1), .second, .val (.long q2), .second, .val (.int p3), .val (.long av), .second, .val (.long b0v), .second, .val (.long bv), .second, .val (.ref b9), .val (.ref b11), .val (.ref b9), .val (.ref b9), .unset, .unset, .unset, .unset] [(.long av)])) _
          refine XS.lload X14.here hx rfl (hb hby at_93) rfl ?_
          show Steps p.tables e below (T14.setTop (mkF m 95 #[.val (.long q1), .second, .val (.long q2), .second, .val (.int p3), .val (.long av), .second, .val (.long b0v), .second, .val (.long bv), .second, .val (.ref b9), .val (.ref b11), .val (.ref b9), .val (.ref b9), .unset, .unset, .unset, .unset] [(.long bv), (.long av)])) _
          refine XS.lcmp X14.here hx rfl (hb hby at_95) rfl ?_
          exact kt
        refine Goes.step (A := T14.setTop (mkF m 99 #[.val (.long q1), .second, .val (.long q2), .second, .val (.int p3), .val (.long av), .second, .val (.long b0v), .second, .val (.long bv), .second, .val (.ref b9), .val (.ref b11), .val (.ref b9), .val (.ref b9), .unset, .unset, .unset, .unset] [])) (fun t kt => XS.ifNo X14.here hx rfl (hb hby at_96) rfl ((if0 _ _).trans (flt (fun q => (hq1 : ¬ (bv < av)) ((lw_gt _ _).mp q))).2.2.1) kt) ?_
        refine Goes.step (A := T14.setTop (mkF m 112 #[.val (.long q1), .second, .val (.long q2), .second, .val (.int p3), .val (.long av), .second, .val (.long b0v), .second, .val (.long bv), .second, .val (.ref b9), .val (.ref b11), .val (.ref b9), .val (.ref b9), .val (.long av), .second, .unset, .unset] [(.ref b9), (.ref b9)])) (fun t kt => ?_) ?_
        · refine XS.lload X14.here hx rfl (hb hby at_99) rfl ?_
          show Steps p.tables e below (T14.setTop (mkF m 101 #[.val (.long q1), .second, .val (.long q2), .second, .val (.int p3), .val (.long av), .second, .val (.long b0v), .second, .val (.long bv), .second, .val (.ref b9), .val (.ref b11), .val (.ref b9), .val (.ref b9), .unset, .unset, .unset, .unset] [(.long av)])) _
          refine XS.goto X14.here hx rfl (pc0 := 101) (pc' := 106) rfl (hb hby at_101) (by decide) (by decide) ?_
          show Steps p.tables e below (T14.setTop (mkF m 106 #[.val (.long q1), .second, .val (.long q2), .second, .val (.int p3), .val (.long av), .second, .val (.long b0v), .second, .val (.long bv), .second, .val (.ref b9), .val (.ref b11), .val (.ref b9), .val (.ref b9), .unset, .unset, .unset, .unset] [(.long av)])) _
          refine XS.lstore X14.here hx rfl (hb hby at_106) rfl (l' := #[.val (.long q1), .second, .val (.long q2), .second, .val (.int p3), .val (.long av), .second, .val (.long b0v), .second, .val (.long bv), .second, .val (.ref b9), .val (.ref b11), .val (.ref b9), .val (.ref b9), .val (.long av), .second, .unset, .unset]) rfl ?_
          show Steps p.tables e below (T14.setTop (mkF m 108 #[.val (.long q1), .second, .val (.long q2), .second, .val (.int p3), .val (.long av), .second, .val (.long b0v), .second, .val (.long bv), .second, .val (.ref b9), .val (.ref b11), .val (.ref b9), .val (.ref b9), .val (.long av), .second, .unset, .unset] [])) _
          refine XS.aload X14.here hx rfl (hb hby at_108) rfl rfl ?_
          show Steps p.tables e below (T14.setTop (mkF m 110 #[.val (.long q1), .second, .val (.long q2), .second, .val (.int p3), .val (.long av), .second, .val (.long b0v), .second, .val (.long bv), .second, .val (.ref b9), .val (.ref b11), .val (.ref b9), .val (.ref b9), .val (.long av), .second, .unset, .unset] [(.ref b9)])) _
          refine XS.aload X14.here hx rfl (hb hby at_110) rfl rfl ?_
          exact kt
        refine Goes.step (A := T14.setTop (mkF m 122 #[.val (.long q1), .second, .val (.long q2), .second, .val (.int p3), .val (.long av), .second, .val (.long b0v), .second, .val (.long bv), .second, .val (.ref b9), .val (.ref b11), .val (.ref b9), .val (.ref b9), .val (.long av), .second, .unset, .unset] [])) (fun t kt => Jvm.RoadKit.acmp (g := (mkF m 112 #[.val (.long q1), .second, .val (.long q2), .second, .val (.int p3), .val (.long av), .second, .val (.long b0v), .second, .val (.long bv), .second, .val (.ref b9), .val (.ref b11), .val (.ref b9), .val (.ref b9), .val (.long av), .second, .unset, .unset] [(.ref b9), (.ref b9)])) X14 hx rfl rfl rfl (pc0 := 112) (pc' := 122) (same := true) rfl (hb hby at_112) rfl (decide_eq_true (congrArg Value.ref (rfl : b9 = b9))) (by decide) (by decide) kt) ?_
        refine Goes.step (A := T14.setTop (mkF m 133 #[.val (.long q1), .second, .val (.long q2), .second, .val (.int p3), .val (.long av), .second, .val (.long b0v), .second, .val (.long bv), .second, .val (.ref b9), .val (.ref b11), .val (.ref b9), .val (.ref b9), .val (.long av), .second, .val (.int (1 : Int32)), .unset] [(.ref b9), (.ref b9)])) (fun t kt => ?_) ?_
        · refine XS.iconst X14.here hx rfl (hb hby at_122) ?_
          show Steps p.tables e below (T14.setTop (mkF m 123 #[.val (.long q1), .second, .val (.long q2), .second, .val (.int p3), .val (.long av), .second, .val (.long b0v), .second, .val (.long bv), .second, .val (.ref b9), .val (.ref b11), .val (.ref b9), .val (.ref b9), .val (.long av), .second, .unset, .unset] [(.int (1 : Int32))])) _
          refine XS.goto X14.here hx rfl (pc0 := 123) (pc' := 127) rfl (hb hby at_123) (by decide) (by decide) ?_
          show Steps p.tables e below (T14.setTop (mkF m 127 #[.val (.long q1), .second, .val (.long q2), .second, .val (.int p3), .val (.long av), .second, .val (.long b0v), .second, .val (.long bv), .second, .val (.ref b9), .val (.ref b11), .val (.ref b9), .val (.ref b9), .val (.long av), .second, .unset, .unset] [(.int (1 : Int32))])) _
          refine XS.istore X14.here hx rfl (hb hby at_127) rfl (l' := #[.val (.long q1), .second, .val (.long q2), .second, .val (.int p3), .val (.long av), .second, .val (.long b0v), .second, .val (.long bv), .second, .val (.ref b9), .val (.ref b11), .val (.ref b9), .val (.ref b9), .val (.long av), .second, .val (.int (1 : Int32)), .unset]) rfl ?_
          show Steps p.tables e below (T14.setTop (mkF m 129 #[.val (.long q1), .second, .val (.long q2), .second, .val (.int p3), .val (.long av), .second, .val (.long b0v), .second, .val (.long bv), .second, .val (.ref b9), .val (.ref b11), .val (.ref b9), .val (.ref b9), .val (.long av), .second, .val (.int (1 : Int32)), .unset] [])) _
          refine XS.aload X14.here hx rfl (hb hby at_129) rfl rfl ?_
          show Steps p.tables e below (T14.setTop (mkF m 131 #[.val (.long q1), .second, .val (.long q2), .second, .val (.int p3), .val (.long av), .second, .val (.long b0v), .second, .val (.long bv), .second, .val (.ref b9), .val (.ref b11), .val (.ref b9), .val (.ref b9), .val (.long av), .second, .val (.int (1 : Int32)), .unset] [(.ref b9)])) _
          refine XS.aload X14.here hx rfl (hb hby at_131) rfl rfl ?_
          exact kt
        refine Goes.step (A := T14.setTop (mkF m 143 #[.val (.long q1), .second, .val (.long q2), .second, .val (.int p3), .val (.long av), .second, .val (.long b0v), .second, .val (.long bv), .second, .val (.ref b9), .val (.ref b11), .val (.ref b9), .val (.ref b9), .val (.long av), .second, .val (.int (1 : Int32)), .unset] [])) (fun t kt => Jvm.RoadKit.acmp (g := (mkF m 133 #[.val (.long q1), .second, .val (.long q2), .second, .val (.int p3), .val (.long av), .second, .val (.long b0v), .second, .val (.long bv), .second, .val (.ref b9), .val (.ref b11), .val (.ref b9), .val (.ref b9), .val (.long av), .second, .val (.int (1 : Int32)), .unset] [(.ref b9), (.ref b9)])) X14 hx rfl rfl rfl (pc0 := 133) (pc' := 143) (same := true) rfl (hb hby at_133) rfl (decide_eq_true (congrArg Value.ref (rfl : b9 = b9))) (by decide) (by decide) kt) ?_
        refine Goes.step (A := T14.setTop (mkF m 152 #[.val (.long q1), .second, .val (.long q2), .second, .val (.int p3), .val (.long av), .second, .val (.long b0v), .second, .val (.long bv), .second, .val (.ref b9), .val (.ref b11), .val (.ref b9), .val (.ref b9), .val (.long av), .second, .val (.int (1 : Int32)), .val (.int (1 : Int32))] [(.int (1 : Int32))])) (fun t kt => ?_) ?_
        · refine XS.iconst X14.here hx rfl (hb hby at_143) ?_
          show Steps p.tables e below (T14.setTop (mkF m 144 #[.val (.long q1), .second, .val (.long q2), .second, .val (.int p3), .val (.long av), .second, .val (.long b0v), .second, .val (.long bv), .second, .val (.ref b9), .val (.ref b11), .val (.ref b9), .val (.ref b9), .val (.long av), .second, .val (.int (1 : Int32)), .unset] [(.int (1 : Int32))])) _
          refine XS.goto X14.here hx rfl (pc0 := 144) (pc' := 148) rfl (hb hby at_144) (by decide) (by decide) ?_
          show Steps p.tables e below (T14.setTop (mkF m 148 #[.val (.long q1), .second, .val (.long q2), .second, .val (.int p3), .val (.long av), .second, .val (.long b0v), .second, .val (.long bv), .second, .val (.ref b9), .val (.ref b11), .val (.ref b9), .val (.ref b9), .val (.long av), .second, .val (.int (1 : Int32)), .unset] [(.int (1 : Int32))])) _
          refine XS.istore X14.here hx rfl (hb hby at_148) rfl (l' := #[.val (.long q1), .second, .val (.long q2), .second, .val (.int p3), .val (.long av), .second, .val (.long b0v), .second, .val (.long bv), .second, .val (.ref b9), .val (.ref b11), .val (.ref b9), .val (.ref b9), .val (.long av), .second, .val (.int (1 : Int32)), .val (.int (1 : Int32))]) rfl ?_
          show Steps p.tables e below (T14.setTop (mkF m 150 #[.val (.long q1), .second, .val (.long q2), .second, .val (.int p3), .val (.long av), .second, .val (.long b0v), .second, .val (.long bv), .second, .val (.ref b9), .val (.ref b11), .val (.ref b9), .val (.ref b9), .val (.long av), .second, .val (.int (1 : Int32)), .val (.int (1 : Int32))] [])) _
          refine XS.iload X14.here hx rfl (hb hby at_150) rfl ?_
          exact kt
        refine Goes.step (A := T14.setTop (mkF m 155 #[.val (.long q1), .second, .val (.long q2), .second, .val (.int p3), .val (.long av), .second, .val (.long b0v), .second, .val (.long bv), .second, .val (.ref b9), .val (.ref b11), .val (.ref b9), .val (.ref b9), .val (.long av), .second, .val (.int (1 : Int32)), .val (.int (1 : Int32))] [])) (fun t kt => XS.ifNo X14.here hx rfl (hb hby at_152) rfl ((if0 _ _).trans (feq ((by decide) : ¬ ((1 : Int32) = (0 : Int32)))).1) kt) ?_
        refine Goes.step (A := T14.setTop (mkF m 157 #[.val (.long q1), .second, .val (.long q2), .second, .val (.int p3), .val (.long av), .second, .val (.long b0v), .second, .val (.long bv), .second, .val (.ref b9), .val (.ref b11), .val (.ref b9), .val (.ref b9), .val (.long av), .second, .val (.int (1 : Int32)), .val (.int (1 : Int32))] [(.int (1 : Int32))])) (fun t kt => ?_) ?_
        · refine XS.iload X14.here hx rfl (hb hby at_155) rfl ?_
          exact kt
        refine Goes.step (A := T14.setTop (mkF m 160 #[.val (.long q1), .second, .val (.long q2), .second, .val (.int p3), .val (.long av), .second, .val (.long b0v), .second, .val (.long bv), .second, .val (.ref b9), .val (.ref b11), .val (.ref b9), .val (.ref b9), .val (.long av), .second, .val (.int (1 : Int32)), .val (.int (1 : Int32))] [])) (fun t kt => XS.ifNo X14.here hx rfl (hb hby at_157) rfl ((if0 _ _).trans (feq ((by decide) : ¬ ((1 : Int32) = (0 : Int32)))).1) kt) ?_
        refine Goes.step (A := T14.setTop (mkF m 162 #[.val (.long q1), .second, .val (.long q2), .second, .val (.int p3), .val (.long av), .second, .val (.long b0v), .second, .val (.long bv), .second, .val (.ref b9), .val (.ref b11), .val (.ref b9), .val (.ref b9), .val (.long av), .second, .val (.int (1 : Int32)), .val (.int (1 : Int32))] [(.ref b9)])) (fun t kt => ?_) ?_
        · refine XS.aload X14.here hx rfl (hb hby at_160) rfl rfl ?_
          exact kt
        obtain ⟨cq15, kq15, q15a, q15b, q15c⟩ := isOf hZ e14 E12_b9
        obtain ⟨_, _, ⟨T15, L15, k15, n15⟩, -, X15, ⟨Lc15, hQ15, l15, y15, z15⟩, st15⟩ := X14.virtualBack hx (y := (⟨"com/example/receivant/receivant/money/Amount", "cents", "()J"⟩ : MethodName)) (z := (⟨"com/example/receivant/receivant/money/Amount", "cents", "()J"⟩ : MethodName)) hown (mvT hZ (hw _ (List.mem_of_getElem? (i := 30) rfl))) (mvT hZ (hw _ (List.mem_of_getElem? (i := 31) rfl))) (notFace_of_selects (args := #[]) (mvT hZ (hw _ (List.mem_of_getElem? (i := 33) rfl)))) (mvT hZ (hw _ (List.mem_of_getElem? (i := 33) rfl))) (mvT hZ (hw _ (List.mem_of_getElem? (i := 32) rfl))) (by decide) (backOf (W := 0) (rm7 l Z a0 hw [] b9 av T12.heap n0 Z12 F12_b9_cents) hZ (hw _ (List.mem_of_getElem? (i := 34) rfl)) (hw _ (List.mem_of_getElem? (i := 3) rfl)) (by decide) (by decide)) q15a q15c (g := (mkF m 162 #[.val (.long q1), .second, .val (.long q2), .second, .val (.int p3), .val (.long av), .second, .val (.long b0v), .second, .val (.long bv), .second, .val (.ref b9), .val (.ref b11), .val (.ref b9), .val (.ref b9), .val (.long av), .second, .val (.int (1 : Int32)), .val (.int (1 : Int32))] [(.ref b9)])) rfl (by rw [hml]; rfl) (Steps.refl _) (argsL := []) (rest := []) (lenOf pd_5 rfl) rfl (by show 2 * 0 + _ ≤ _; exact Nat.le_of_eq rfl) (hb hby at_162) (fun _ _ => ⟨rfl, e14, (by decide : 2 + 0 ≤ _), (by decide : 2 + 0 ≤ _)⟩)
        dsimp only [Pt.U, Pt.locs, Pt.cells, Pt.slots] at X15 l15 y15 z15 st15 hQ15
        subst l15 y15 z15
        obtain ⟨rfl, N15q, e15⟩ := hQ15
        have N15 := Fr.app N14 N15q
        refine Goes.step (A := T15.setTop (mkF m 165 #[.val (.long q1), .second, .val (.long q2), .second, .val (.int p3), .val (.long av), .second, .val (.long b0v), .second, .val (.long bv), .second, .val (.ref b9), .val (.ref b11), .val (.ref b9), .val (.ref b9), .val (.long av), .second, .val (.int (1 : Int32)), .val (.int (1 : Int32))] [(.long av)])) (fun t kt => st15.trans kt) ?_
        refine Goes.step (A := T15.setTop (mkF m 168 #[.val (.long q1), .second, .val (.long q2), .second, .val (.int p3), .val (.long av), .second, .val (.long b0v), .second, .val (.long bv), .second, .val (.ref b9), .val (.ref b11), .val (.ref b9), .val (.ref b9), .val (.long av), .second, .val (.int (1 : Int32)), .val (.int (1 : Int32))] [(.int (lcmpW av av))])) (fun t kt => ?_) ?_
        · refine XS.lload X15.here hx rfl (hb hby at_165) rfl ?_
          show Steps p.tables e below (T15.setTop (mkF m 167 #[.val (.long q1), .second, .val (.long q2), .second, .val (.int p3), .val (.long av), .second, .val (.long b0v), .second, .val (.long bv), .second, .val (.ref b9), .val (.ref b11), .val (.ref b9), .val (.ref b9), .val (.long av), .second, .val (.int (1 : Int32)), .val (.int (1 : Int32))] [(.long av), (.long av)])) _
          refine XS.lcmp X15.here hx rfl (hb hby at_167) rfl ?_
          exact kt
        refine Goes.step (A := T15.setTop (mkF m 171 #[.val (.long q1), .second, .val (.long q2), .second, .val (.int p3), .val (.long av), .second, .val (.long b0v), .second, .val (.long bv), .second, .val (.ref b9), .val (.ref b11), .val (.ref b9), .val (.ref b9), .val (.long av), .second, .val (.int (1 : Int32)), .val (.int (1 : Int32))] [])) (fun t kt => XS.ifNo X15.here hx rfl (hb hby at_168) rfl ((if0 _ _).trans (teq ((lw_eq _ _).mpr (rfl : av = av))).2) kt) ?_
        refine Goes.step (A := T15.setTop (mkF m 173 #[.val (.long q1), .second, .val (.long q2), .second, .val (.int p3), .val (.long av), .second, .val (.long b0v), .second, .val (.long bv), .second, .val (.ref b9), .val (.ref b11), .val (.ref b9), .val (.ref b9), .val (.long av), .second, .val (.int (1 : Int32)), .val (.int (1 : Int32))] [(.ref b9)])) (fun t kt => ?_) ?_
        · refine XS.aload X15.here hx rfl (hb hby at_171) rfl rfl ?_
          exact kt
        obtain ⟨cq16, kq16, q16a, q16b, q16c⟩ := isOf hZ e15 E12_b9
        obtain ⟨_, _, ⟨T16, L16, k16, n16⟩, -, X16, ⟨Lc16, hQ16, l16, y16, z16⟩, st16⟩ := X15.virtualBack hx (y := (⟨"com/example/receivant/receivant/money/Amount", "cents", "()J"⟩ : MethodName)) (z := (⟨"com/example/receivant/receivant/money/Amount", "cents", "()J"⟩ : MethodName)) hown (mvT hZ (hw _ (List.mem_of_getElem? (i := 30) rfl))) (mvT hZ (hw _ (List.mem_of_getElem? (i := 31) rfl))) (notFace_of_selects (args := #[]) (mvT hZ (hw _ (List.mem_of_getElem? (i := 33) rfl)))) (mvT hZ (hw _ (List.mem_of_getElem? (i := 33) rfl))) (mvT hZ (hw _ (List.mem_of_getElem? (i := 32) rfl))) (by decide) (backOf (W := 0) (rm7 l Z a0 hw [] b9 av T12.heap n0 Z12 F12_b9_cents) hZ (hw _ (List.mem_of_getElem? (i := 34) rfl)) (hw _ (List.mem_of_getElem? (i := 3) rfl)) (by decide) (by decide)) q16a q16c (g := (mkF m 173 #[.val (.long q1), .second, .val (.long q2), .second, .val (.int p3), .val (.long av), .second, .val (.long b0v), .second, .val (.long bv), .second, .val (.ref b9), .val (.ref b11), .val (.ref b9), .val (.ref b9), .val (.long av), .second, .val (.int (1 : Int32)), .val (.int (1 : Int32))] [(.ref b9)])) rfl (by rw [hml]; rfl) (Steps.refl _) (argsL := []) (rest := []) (lenOf pd_5 rfl) rfl (by show 2 * 0 + _ ≤ _; exact Nat.le_of_eq rfl) (hb hby at_173) (fun _ _ => ⟨rfl, e15, (by decide : 2 + 0 ≤ _), (by decide : 2 + 0 ≤ _)⟩)
        dsimp only [Pt.U, Pt.locs, Pt.cells, Pt.slots] at X16 l16 y16 z16 st16 hQ16
        subst l16 y16 z16
        obtain ⟨rfl, N16q, e16⟩ := hQ16
        have N16 := Fr.app N15 N16q
        refine Goes.step (A := T16.setTop (mkF m 176 #[.val (.long q1), .second, .val (.long q2), .second, .val (.int p3), .val (.long av), .second, .val (.long b0v), .second, .val (.long bv), .second, .val (.ref b9), .val (.ref b11), .val (.ref b9), .val (.ref b9), .val (.long av), .second, .val (.int (1 : Int32)), .val (.int (1 : Int32))] [(.long av)])) (fun t kt => st16.trans kt) ?_
        refine Goes.step (A := T16.setTop (mkF m 179 #[.val (.long q1), .second, .val (.long q2), .second, .val (.int p3), .val (.long av), .second, .val (.long b0v), .second, .val (.long bv), .second, .val (.ref b9), .val (.ref b11), .val (.ref b9), .val (.ref b9), .val (.long av), .second, .val (.int (1 : Int32)), .val (.int (1 : Int32))] [(.int (lcmpW av av))])) (fun t kt => ?_) ?_
        · refine XS.lload X16.here hx rfl (hb hby at_176) rfl ?_
          show Steps p.tables e below (T16.setTop (mkF m 178 #[.val (.long q1), .second, .val (.long q2), .second, .val (.int p3), .val (.long av), .second, .val (.long b0v), .second, .val (.long bv), .second, .val (.ref b9), .val (.ref b11), .val (.ref b9), .val (.ref b9), .val (.long av), .second, .val (.int (1 : Int32)), .val (.int (1 : Int32))] [(.long av), (.long av)])) _
          refine XS.lcmp X16.here hx rfl (hb hby at_178) rfl ?_
          exact kt
        refine Goes.step (A := T16.setTop (mkF m 182 #[.val (.long q1), .second, .val (.long q2), .second, .val (.int p3), .val (.long av), .second, .val (.long b0v), .second, .val (.long bv), .second, .val (.ref b9), .val (.ref b11), .val (.ref b9), .val (.ref b9), .val (.long av), .second, .val (.int (1 : Int32)), .val (.int (1 : Int32))] [])) (fun t kt => XS.ifNo X16.here hx rfl (hb hby at_179) rfl ((if0 _ _).trans (teq ((lw_eq _ _).mpr (rfl : av = av))).2) kt) ?_
        refine Goes.step (A := T16.setTop (mkF m 187 #[.val (.long q1), .second, .val (.long q2), .second, .val (.int p3), .val (.long av), .second, .val (.long b0v), .second, .val (.long bv), .second, .val (.ref b9), .val (.ref b11), .val (.ref b9), .val (.ref b9), .val (.long av), .second, .val (.int (1 : Int32)), .val (.int (1 : Int32))] [(.int (1 : Int32))])) (fun t kt => ?_) ?_
        · refine XS.iconst X16.here hx rfl (hb hby at_182) ?_
          show Steps p.tables e below (T16.setTop (mkF m 183 #[.val (.long q1), .second, .val (.long q2), .second, .val (.int p3), .val (.long av), .second, .val (.long b0v), .second, .val (.long bv), .second, .val (.ref b9), .val (.ref b11), .val (.ref b9), .val (.ref b9), .val (.long av), .second, .val (.int (1 : Int32)), .val (.int (1 : Int32))] [(.int (1 : Int32))])) _
          refine XS.goto X16.here hx rfl (pc0 := 183) (pc' := 187) rfl (hb hby at_183) (by decide) (by decide) ?_
          exact kt
        obtain ⟨fs, hr, hrun, hended, hW, hsame⟩ := X16.leave (v := some (.int (1 : Int32))) (fun h => by rw [Bd.returns] at h; cases h)
        refine Goes.done ?_ hrun hended ⟨_, _, rfl, ?_, ⟨_, rfl⟩, hW, hsame.mono (by decide) (by decide)⟩
        · exact retN X16 hx (t := .boolean) Bd.returns (by simp) (hb hby at_187) hr
        · show Q0 Z q1 q2 p3 h0 n0 _ T16.heap _
          rw [e16]
          exact ⟨rfl, N16⟩
      · obtain ⟨T17, h17, X17, e17, E17, A17, D17, -, st17⟩ := newO X0 hx hZ hown (hw _ (List.mem_of_getElem? (i := 1) rfl)) (hw _ (List.mem_of_getElem? (i := 2) rfl)) (hw _ (List.mem_of_getElem? (i := 3) rfl)) e0 (g := (mkF m 51 #[.val (.long q1), .second, .val (.long q2), .second, .val (.int p3), .val (.long av), .second, .val (.long b0v), .second, .val (.long bv), .second, .unset, .unset, .unset, .unset, .unset, .unset, .unset, .unset] [])) rfl (hb hby at_51) (by decide) (by decide)
        obtain ⟨b17, g17⟩ : ∃ z, z = h0.size := ⟨_, rfl⟩
        rw [← g17] at A17 D17 st17
        have gb_b17 : n0 ≤ b17 := Nat.le_trans Z0 (Nat.le_of_eq g17.symm)
        have Z17 : n0 ≤ h17.size := Nat.le_trans Z0 E17.1
        have F17_cents : Fld Z h17 b17 "com/example/receivant/receivant/money/Amount" "cents" "J" (.long (0 : Int64)) := D17 (Or.inr (hw _ (List.mem_of_getElem? (i := 17) rfl))) (ty := .long) (by decide)
        refine Goes.step (A := T17.setTop (mkF m 54 #[.val (.long q1), .second, .val (.long q2), .second, .val (.int p3), .val (.long av), .second, .val (.long b0v), .second, .val (.long bv), .second, .unset, .unset, .unset, .unset, .unset, .unset, .unset, .unset] [(.ref b17)])) (fun t kt => st17 _ kt) ?_
        refine Goes.step (A := T17.setTop (mkF m 57 #[.val (.long q1), .second, .val (.long q2), .second, .val (.int p3), .val (.long av), .second, .val (.long b0v), .second, .val (.long bv), .second, .unset, .unset, .unset, .unset, .unset, .unset, .unset, .unset] [(.long av), (.ref b17), (.ref b17)])) (fun t kt => ?_) ?_
        · refine XS.dup X17.here hx rfl (hb hby at_54) rfl rfl ?_
          show Steps p.tables e below (T17.setTop (mkF m 55 #[.val (.long q1), .second, .val (.long q2), .second, .val (.int p3), .val (.long av), .second, .val (.long b0v), .second, .val (.long bv), .second, .unset, .unset, .unset, .unset, .unset, .unset, .unset, .unset] [(.ref b17), (.ref b17)])) _
          refine XS.lload X17.here hx rfl (hb hby at_55) rfl ?_
          exact kt
        obtain ⟨_, _, ⟨T18, L18, k18, n18⟩, -, X18, ⟨Lc18, hQ18, l18, y18, z18⟩, st18⟩ := X17.specialBack hx (y := (⟨"com/example/receivant/receivant/money/Amount", "<init>", "(J)V"⟩ : MethodName)) rfl hown (mvT hZ (hw _ (List.mem_of_getElem? (i := 4) rfl))) (mvT hZ (hw _ (List.mem_of_getElem? (i := 5) rfl))) (mvT hZ (hw _ (List.mem_of_getElem? (i := 6) rfl))) (by decide) (backOf (W := 1) (rm1 l Z a0 hw [] b17 av h17 n0 Z17 F17_cents A17 gb_b17 hx0) hZ (hw _ (List.mem_of_getElem? (i := 6) rfl)) (hw _ (List.mem_of_getElem? (i := 3) rfl)) (by decide) (by decide)) (g := (mkF m 57 #[.val (.long q1), .second, .val (.long q2), .second, .val (.int p3), .val (.long av), .second, .val (.long b0v), .second, .val (.long bv), .second, .unset, .unset, .unset, .unset, .unset, .unset, .unset, .unset] [(.long av), (.ref b17), (.ref b17)])) rfl (by rw [hml]; rfl) (Steps.refl _) (a := b17) (argsL := [(.long av)]) (rest := [(.ref b17)]) (lenOf pd_3 rfl) rfl (by show 2 * 0 + _ ≤ _; exact Nat.le_of_eq rfl) (hb hby at_57) (fun _ _ => ⟨rfl, e17, (by decide : 1 + 0 ≤ _), (by decide : 1 + 0 ≤ _)⟩)
        dsimp only [Pt.U, Pt.locs, Pt.cells, Pt.slots] at X18 l18 y18 z18 st18 hQ18
        subst l18 y18 z18
        obtain ⟨rfl, N18q, K18q, E18q, F18q⟩ := hQ18
        have N18 := Fr.app N0 N18q
        refine Goes.step (A := T18.setTop (mkF m 60 #[.val (.long q1), .second, .val (.long q2), .second, .val (.int p3), .val (.long av), .second, .val (.long b0v), .second, .val (.long bv), .second, .unset, .unset, .unset, .unset, .unset, .unset, .unset, .unset] [(.ref b17)])) (fun t kt => st18.trans kt) ?_
        have Z18 : n0 ≤ T18.heap.size := Nat.le_trans Z17 K18q.1
        refine Goes.step (A := T18.setTop (mkF m 62 #[.val (.long q1), .second, .val (.long q2), .second, .val (.int p3), .val (.long av), .second, .val (.long b0v), .second, .val (.long bv), .second, .val (.ref b17), .unset, .unset, .unset, .unset, .unset, .unset, .unset] [])) (fun t kt => ?_) ?_
        · refine XS.astore X18.here hx rfl (hb hby at_60) rfl rfl (l' := #[.val (.long q1), .second, .val (.long q2), .second, .val (.int p3), .val (.long av), .second, .val (.long b0v), .second, .val (.long bv), .second, .val (.ref b17), .unset, .unset, .unset, .unset, .unset, .unset, .unset]) rfl ?_
          exact kt
        obtain ⟨T19, h19, X19, e19, E19, A19, D19, -, st19⟩ := newO X18 hx hZ hown (hw _ (List.mem_of_getElem? (i := 1) rfl)) (hw _ (List.mem_of_getElem? (i := 2) rfl)) (hw _ (List.mem_of_getElem? (i := 3) rfl)) rfl (g := (mkF m 62 #[.val (.long q1), .second, .val (.long q2), .second, .val (.int p3), .val (.long av), .second, .val (.long b0v), .second, .val (.long bv), .second, .val (.ref b17), .unset, .unset, .unset, .unset, .unset, .unset, .unset] [])) rfl (hb hby at_62) (by decide) (by decide)
        obtain ⟨b19, g19⟩ : ∃ z, z = T18.heap.size := ⟨_, rfl⟩
        rw [← g19] at A19 D19 st19
        have gb_b19 : n0 ≤ b19 := Nat.le_trans Z18 (Nat.le_of_eq g19.symm)
        have E19_b17 := E18q.ext E19
        have F19_b17_cents := F18q.ext E19
        have Z19 : n0 ≤ h19.size := Nat.le_trans Z18 E19.1
        have ne19_b17 : b17 ≠ b19 := Nat.ne_of_lt (Nat.lt_of_lt_of_le E18q.lt (Nat.le_of_eq g19.symm))
        have F19_cents : Fld Z h19 b19 "com/example/receivant/receivant/money/Amount" "cents" "J" (.long (0 : Int64)) := D19 (Or.inr (hw _ (List.mem_of_getElem? (i := 17) rfl))) (ty := .long) (by decide)
        refine Goes.step (A := T19.setTop (mkF m 65 #[.val (.long q1), .second, .val (.long q2), .second, .val (.int p3), .val (.long av), .second, .val (.long b0v), .second, .val (.long bv), .second, .val (.ref b17), .unset, .unset, .unset, .unset, .unset, .unset, .unset] [(.ref b19)])) (fun t kt => st19 _ kt) ?_
        refine Goes.step (A := T19.setTop (mkF m 68 #[.val (.long q1), .second, .val (.long q2), .second, .val (.int p3), .val (.long av), .second, .val (.long b0v), .second, .val (.long bv), .second, .val (.ref b17), .unset, .unset, .unset, .unset, .unset, .unset, .unset] [(.long bv), (.ref b19), (.ref b19)])) (fun t kt => ?_) ?_
        · refine XS.dup X19.here hx rfl (hb hby at_65) rfl rfl ?_
          show Steps p.tables e below (T19.setTop (mkF m 66 #[.val (.long q1), .second, .val (.long q2), .second, .val (.int p3), .val (.long av), .second, .val (.long b0v), .second, .val (.long bv), .second, .val (.ref b17), .unset, .unset, .unset, .unset, .unset, .unset, .unset] [(.ref b19), (.ref b19)])) _
          refine XS.lload X19.here hx rfl (hb hby at_66) rfl ?_
          exact kt
        obtain ⟨_, _, ⟨T20, L20, k20, n20⟩, -, X20, ⟨Lc20, hQ20, l20, y20, z20⟩, st20⟩ := X19.specialBack hx (y := (⟨"com/example/receivant/receivant/money/Amount", "<init>", "(J)V"⟩ : MethodName)) rfl hown (mvT hZ (hw _ (List.mem_of_getElem? (i := 4) rfl))) (mvT hZ (hw _ (List.mem_of_getElem? (i := 5) rfl))) (mvT hZ (hw _ (List.mem_of_getElem? (i := 6) rfl))) (by decide) (backOf (W := 1) (rm1 l Z a0 hw [] b19 bv h19 n0 Z19 F19_cents A19 gb_b19 hy0) hZ (hw _ (List.mem_of_getElem? (i := 6) rfl)) (hw _ (List.mem_of_getElem? (i := 3) rfl)) (by decide) (by decide)) (g := (mkF m 68 #[.val (.long q1), .second, .val (.long q2), .second, .val (.int p3), .val (.long av), .second, .val (.long b0v), .second, .val (.long bv), .second, .val (.ref b17), .unset, .unset, .unset, .unset, .unset, .unset, .unset] [(.long bv), (.ref b19), (.ref b19)])) rfl (by rw [hml]; rfl) (Steps.refl _) (a := b19) (argsL := [(.long bv)]) (rest := [(.ref b19)]) (lenOf pd_3 rfl) rfl (by show 2 * 0 + _ ≤ _; exact Nat.le_of_eq rfl) (hb hby at_68) (fun _ _ => ⟨rfl, e19, (by decide : 2 + 0 ≤ _), (by decide : 2 + 0 ≤ _)⟩)
        dsimp only [Pt.U, Pt.locs, Pt.cells, Pt.slots] at X20 l20 y20 z20 st20 hQ20
        subst l20 y20 z20
        obtain ⟨rfl, N20q, K20q, E20q, F20q⟩ := hQ20
        have N20 := Fr.app N18 N20q
        refine Goes.step (A := T20.setTop (mkF m 71 #[.val (.long q1), .second, .val (.long q2), .second, .val (.int p3), .val (.long av), .second, .val (.long b0v), .second, .val (.long bv), .second, .val (.ref b17), .unset, .unset, .unset, .unset, .unset, .unset, .unset] [(.ref b19)])) (fun t kt => st20.trans kt) ?_
        have E20_b17 := E19_b17.keep K20q
        have F20_b17_cents := F19_b17_cents.keep K20q (ninS ne19_b17 nin0)
        have Z20 : n0 ≤ T20.heap.size := Nat.le_trans Z19 K20q.1
        refine Goes.step (A := T20.setTop (mkF m 77 #[.val (.long q1), .second, .val (.long q2), .second, .val (.int p3), .val (.long av), .second, .val (.long b0v), .second, .val (.long bv), .second, .val (.ref b17), .val (.ref b19), .unset, .unset, .unset, .unset, .unset, .unset] [(.ref b19), (.ref b17)])) (fun t kt => ?_) ?_
        · refine XS.astore X20.here hx rfl (hb hby at_71) rfl rfl (l' := #[.val (.long q1), .second, .val (.long q2), .second, .val (.int p3), .val (.long av), .second, .val (.long b0v), .second, .val (.long bv), .second, .val (.ref b17), .val (.ref b19), .unset, .unset, .unset, .unset, .unset, .unset]) rfl ?_
          show Steps p.tables e below (T20.setTop (mkF m 73 #[.val (.long q1), .second, .val (.long q2), .second, .val (.int p3), .val (.long av), .second, .val (.long b0v), .second, .val (.long bv), .second, .val (.ref b17), .val (.ref b19), .unset, .unset, .unset, .unset, .unset, .unset] [])) _
          refine XS.aload X20.here hx rfl (hb hby at_73) rfl rfl ?_
          show Steps p.tables e below (T20.setTop (mkF m 75 #[.val (.long q1), .second, .val (.long q2), .second, .val (.int p3), .val (.long av), .second, .val (.long b0v), .second, .val (.long bv), .second, .val (.ref b17), .val (.ref b19), .unset, .unset, .unset, .unset, .unset, .unset] [(.ref b17)])) _
          refine XS.aload X20.here hx rfl (hb hby at_75) rfl rfl ?_
          exact kt
        obtain ⟨_, _, ⟨T21, L21, k21, n21⟩, -, X21, ⟨Lc21, hQ21, l21, y21, z21⟩, st21⟩ := Jvm.LawKit.callS X20 hx (y := (⟨"com/example/receivant/receivant/money/Amount", "min", "(Lcom/example/receivant/receivant/money/Amount;Lcom/example/receivant/receivant/money/Amount;)Lcom/example/receivant/receivant/money/Amount;"⟩ : MethodName)) hown (mvT hZ (hw _ (List.mem_of_getElem? (i := 18) rfl))) (mvT hZ (hw _ (List.mem_of_getElem? (i := 19) rfl))) (mvT hZ (hw _ (List.mem_of_getElem? (i := 3) rfl))) (mvT hZ (hw _ (List.mem_of_getElem? (i := 20) rfl))) (by decide) (backOf (W := 0) (rm4 l Z a0 hw [] b17 b19 av bv T20.heap n0 Z20 F20_b17_cents F20q E20_b17) hZ (hw _ (List.mem_of_getElem? (i := 20) rfl)) (hw _ (List.mem_of_getElem? (i := 3) rfl)) (by decide) (by decide)) (g := (mkF m 77 #[.val (.long q1), .second, .val (.long q2), .second, .val (.int p3), .val (.long av), .second, .val (.long b0v), .second, .val (.long bv), .second, .val (.ref b17), .val (.ref b19), .unset, .unset, .unset, .unset, .unset, .unset] [(.ref b19), (.ref b17)])) rfl (by rw [hml]; rfl) (argsL := [(.ref b17), (.ref b19)]) (rest := []) (lenOf pd_4 rfl) rfl (by show 2 * 0 + _ ≤ _; exact Nat.le_of_eq rfl) (hb hby at_77) (fun _ _ => ⟨rfl, rfl, (by decide : 2 + 0 ≤ _), (by decide : 2 + 0 ≤ _)⟩)
        dsimp only [Pt.U, Pt.locs, Pt.cells, Pt.slots] at X21 l21 y21 z21 st21 hQ21
        subst l21 y21 z21
        have hQ21' := hQ21
        unfold Q4 at hQ21'
        rw [own_pick0 av bv b17 b19 hq1] at hQ21'
        clear hQ21
        have hQ21 := hQ21'
        clear hQ21'
        obtain ⟨rfl, N21q, e21⟩ := hQ21
        have N21 := Fr.app N20 N21q
        refine Goes.step (A := T21.setTop (mkF m 80 #[.val (.long q1), .second, .val (.long q2), .second, .val (.int p3), .val (.long av), .second, .val (.long b0v), .second, .val (.long bv), .second, .val (.ref b17), .val (.ref b19), .unset, .unset, .unset, .unset, .unset, .unset] [(.ref b17)])) (fun t kt => st21 _ kt) ?_
        refine Goes.step (A := T21.setTop (mkF m 86 #[.val (.long q1), .second, .val (.long q2), .second, .val (.int p3), .val (.long av), .second, .val (.long b0v), .second, .val (.long bv), .second, .val (.ref b17), .val (.ref b19), .val (.ref b17), .unset, .unset, .unset, .unset, .unset] [(.ref b17), (.ref b19)])) (fun t kt => ?_) ?_
        · refine XS.astore X21.here hx rfl (hb hby at_80) rfl rfl (l' := #[.val (.long q1), .second, .val (.long q2), .second, .val (.int p3), .val (.long av), .second, .val (.long b0v), .second, .val (.long bv), .second, .val (.ref b17), .val (.ref b19), .val (.ref b17), .unset, .unset, .unset, .unset, .unset]) rfl ?_
          show Steps p.tables e below (T21.setTop (mkF m 82 #[.val (.long q1), .second, .val (.long q2), .second, .val (.int p3), .val (.long av), .second, .val (.long b0v), .second, .val (.long bv), .second, .val (.ref b17), .val (.ref b19), .val (.ref b17), .unset, .unset, .unset, .unset, .unset] [])) _
          refine XS.aload X21.here hx rfl (hb hby at_82) rfl rfl ?_
          show Steps p.tables e below (T21.setTop (mkF m 84 #[.val (.long q1), .second, .val (.long q2), .second, .val (.int p3), .val (.long av), .second, .val (.long b0v), .second, .val (.long bv), .second, .val (.ref b17), .val (.ref b19), .val (.ref b17), .unset, .unset, .unset, .unset, .unset] [(.ref b19)])) _
          refine XS.aload X21.here hx rfl (hb hby at_84) rfl rfl ?_
          exact kt
        obtain ⟨_, _, ⟨T22, L22, k22, n22⟩, -, X22, ⟨Lc22, hQ22, l22, y22, z22⟩, st22⟩ := Jvm.LawKit.callS X21 hx (y := (⟨"com/example/receivant/receivant/money/Amount", "min", "(Lcom/example/receivant/receivant/money/Amount;Lcom/example/receivant/receivant/money/Amount;)Lcom/example/receivant/receivant/money/Amount;"⟩ : MethodName)) hown (mvT hZ (hw _ (List.mem_of_getElem? (i := 18) rfl))) (mvT hZ (hw _ (List.mem_of_getElem? (i := 19) rfl))) (mvT hZ (hw _ (List.mem_of_getElem? (i := 3) rfl))) (mvT hZ (hw _ (List.mem_of_getElem? (i := 20) rfl))) (by decide) (backOf (W := 0) (rm4 l Z a0 hw [] b19 b17 bv av T20.heap n0 Z20 F20q F20_b17_cents E20q) hZ (hw _ (List.mem_of_getElem? (i := 20) rfl)) (hw _ (List.mem_of_getElem? (i := 3) rfl)) (by decide) (by decide)) (g := (mkF m 86 #[.val (.long q1), .second, .val (.long q2), .second, .val (.int p3), .val (.long av), .second, .val (.long b0v), .second, .val (.long bv), .second, .val (.ref b17), .val (.ref b19), .val (.ref b17), .unset, .unset, .unset, .unset, .unset] [(.ref b17), (.ref b19)])) rfl (by rw [hml]; rfl) (argsL := [(.ref b19), (.ref b17)]) (rest := []) (lenOf pd_4 rfl) rfl (by show 2 * 0 + _ ≤ _; exact Nat.le_of_eq rfl) (hb hby at_86) (fun _ _ => ⟨rfl, e21, (by decide : 2 + 0 ≤ _), (by decide : 2 + 0 ≤ _)⟩)
        dsimp only [Pt.U, Pt.locs, Pt.cells, Pt.slots] at X22 l22 y22 z22 st22 hQ22
        subst l22 y22 z22
        have hQ22' := hQ22
        unfold Q4 at hQ22'
        rw [own_pick0 bv av b19 b17 hq2] at hQ22'
        clear hQ22
        have hQ22 := hQ22'
        clear hQ22'
        obtain ⟨rfl, N22q, e22⟩ := hQ22
        have N22 := Fr.app N21 N22q
        refine Goes.step (A := T22.setTop (mkF m 89 #[.val (.long q1), .second, .val (.long q2), .second, .val (.int p3), .val (.long av), .second, .val (.long b0v), .second, .val (.long bv), .second, .val (.ref b17), .val (.ref b19), .val (.ref b17), .unset, .unset, .unset, .unset, .unset] [(.ref b19)])) (fun t kt => st22 _ kt) ?_
        refine Goes.step (A := T22.setTop (mkF m 96 #[.val (.long q1), .second, .val (.long q2), .second, .val (.int p3), .val (.long av), .second, .val (.long b0v), .second, .val (.long bv), .second, .val (.ref b17), .val (.ref b19), .val (.ref b17), .val (.ref b19), .unset, .unset, .unset, .unset] [(.int (lcmpW av bv))])) (fun t kt => ?_) ?_
        · refine XS.astore X22.here hx rfl (hb hby at_89) rfl rfl (l' := #[.val (.long q1), .second, .val (.long q2), .second, .val (.int p3), .val (.long av), .second, .val (.long b0v), .second, .val (.long bv), .second, .val (.ref b17), .val (.ref b19), .val (.ref b17), .val (.ref b19), .unset, .unset, .unset, .unset]) rfl ?_
          show Steps p.tables e below (T22.setTop (mkF m 91 #[.val (.long q1), .second, .val (.long q2), .second, .val (.int p3), .val (.long av), .second, .val (.long b0v), .second, .val (.long bv), .second, .val (.ref b17), .val (.ref b19), .val (.ref b17), .val (.ref b19), .unset, .unset, .unset, .unset] [])) _
          refine XS.lload X22.here hx rfl (hb hby at_91) rfl ?_
          show Steps p.tables e below (T22.setTop (mkF m 93 #[.val (.long q1), .second, .val (.long q2), .second, .val (.int p3), .val (.long av), .second, .val (.long b0v), .second, .val (.long bv), .second, .val (.ref b17), .val (.ref b19), .val (.ref b17), .val (.ref b19), .unset, .unset, .unset, .unset] [(.long av)])) _
          refine XS.lload X22.here hx rfl (hb hby at_93) rfl ?_
          show Steps p.tables e below (T22.setTop (mkF m 95 #[.val (.long q1), .second, .val (.long q2), .second, .val (.int p3), .val (.long av), .second, .val (.long b0v), .second, .val (.long bv), .second, .val (.ref b17), .val (.ref b19), .val (.ref b17), .val (.ref b19), .unset, .unset, .unset, .unset] [(.long bv), (.long av)])) _
          refine XS.lcmp X22.here hx rfl (hb hby at_95) rfl ?_
          exact kt
        refine Goes.step (A := T22.setTop (mkF m 99 #[.val (.long q1), .second, .val (.long q2), .second, .val (.int p3), .val (.long av), .second, .val (.long b0v), .second, .val (.long bv), .second, .val (.ref b17), .val (.ref b19), .val (.ref b17), .val (.ref b19), .unset, .unset, .unset, .unset] [])) (fun t kt => XS.ifNo X22.here hx rfl (hb hby at_96) rfl ((if0 _ _).trans (flt (fun q => (hq1 : ¬ (bv < av)) ((lw_gt _ _).mp q))).2.2.1) kt) ?_
        refine Goes.step (A := T22.setTop (mkF m 112 #[.val (.long q1), .second, .val (.long q2), .second, .val (.int p3), .val (.long av), .second, .val (.long b0v), .second, .val (.long bv), .second, .val (.ref b17), .val (.ref b19), .val (.ref b17), .val (.ref b19), .val (.long av), .second, .unset, .unset] [(.ref b17), (.ref b17)])) (fun t kt => ?_) ?_
        · refine XS.lload X22.here hx rfl (hb hby at_99) rfl ?_
          show Steps p.tables e below (T22.setTop (mkF m 101 #[.val (.long q1), .second, .val (.long q2), .second, .val (.int p3), .val (.long av), .second, .val (.long b0v), .second, .val (.long bv), .second, .val (.ref b17), .val (.ref b19), .val (.ref b17), .val (.ref b19), .unset, .unset, .unset, .unset] [(.long av)])) _
          refine XS.goto X22.here hx rfl (pc0 := 101) (pc' := 106) rfl (hb hby at_101) (by decide) (by decide) ?_
          show Steps p.tables e below (T22.setTop (mkF m 106 #[.val (.long q1), .second, .val (.long q2), .second, .val (.int p3), .val (.long av), .second, .val (.long b0v), .second, .val (.long bv), .second, .val (.ref b17), .val (.ref b19), .val (.ref b17), .val (.ref b19), .unset, .unset, .unset, .unset] [(.long av)])) _
          refine XS.lstore X22.here hx rfl (hb hby at_106) rfl (l' := #[.val (.long q1), .second, .val (.long q2), .second, .val (.int p3), .val (.long av), .second, .val (.long b0v), .second, .val (.long bv), .second, .val (.ref b17), .val (.ref b19), .val (.ref b17), .val (.ref b19), .val (.long av), .second, .unset, .unset]) rfl ?_
          show Steps p.tables e below (T22.setTop (mkF m 108 #[.val (.long q1), .second, .val (.long q2), .second, .val (.int p3), .val (.long av), .second, .val (.long b0v), .second, .val (.long bv), .second, .val (.ref b17), .val (.ref b19), .val (.ref b17), .val (.ref b19), .val (.long av), .second, .unset, .unset] [])) _
          refine XS.aload X22.here hx rfl (hb hby at_108) rfl rfl ?_
          show Steps p.tables e below (T22.setTop (mkF m 110 #[.val (.long q1), .second, .val (.long q2), .second, .val (.int p3), .val (.long av), .second, .val (.long b0v), .second, .val (.long bv), .second, .val (.ref b17), .val (.ref b19), .val (.ref b17), .val (.ref b19), .val (.long av), .second, .unset, .unset] [(.ref b17)])) _
          refine XS.aload X22.here hx rfl (hb hby at_110) rfl rfl ?_
          exact kt
        refine Goes.step (A := T22.setTop (mkF m 122 #[.val (.long q1), .second, .val (.long q2), .second, .val (.int p3), .val (.long av), .second, .val (.long b0v), .second, .val (.long bv), .second, .val (.ref b17), .val (.ref b19), .val (.ref b17), .val (.ref b19), .val (.long av), .second, .unset, .unset] [])) (fun t kt => Jvm.RoadKit.acmp (g := (mkF m 112 #[.val (.long q1), .second, .val (.long q2), .second, .val (.int p3), .val (.long av), .second, .val (.long b0v), .second, .val (.long bv), .second, .val (.ref b17), .val (.ref b19), .val (.ref b17), .val (.ref b19), .val (.long av), .second, .unset, .unset] [(.ref b17), (.ref b17)])) X22 hx rfl rfl rfl (pc0 := 112) (pc' := 122) (same := true) rfl (hb hby at_112) rfl (decide_eq_true (congrArg Value.ref (rfl : b17 = b17))) (by decide) (by decide) kt) ?_
        refine Goes.step (A := T22.setTop (mkF m 133 #[.val (.long q1), .second, .val (.long q2), .second, .val (.int p3), .val (.long av), .second, .val (.long b0v), .second, .val (.long bv), .second, .val (.ref b17), .val (.ref b19), .val (.ref b17), .val (.ref b19), .val (.long av), .second, .val (.int (1 : Int32)), .unset] [(.ref b17), (.ref b19)])) (fun t kt => ?_) ?_
        · refine XS.iconst X22.here hx rfl (hb hby at_122) ?_
          show Steps p.tables e below (T22.setTop (mkF m 123 #[.val (.long q1), .second, .val (.long q2), .second, .val (.int p3), .val (.long av), .second, .val (.long b0v), .second, .val (.long bv), .second, .val (.ref b17), .val (.ref b19), .val (.ref b17), .val (.ref b19), .val (.long av), .second, .unset, .unset] [(.int (1 : Int32))])) _
          refine XS.goto X22.here hx rfl (pc0 := 123) (pc' := 127) rfl (hb hby at_123) (by decide) (by decide) ?_
          show Steps p.tables e below (T22.setTop (mkF m 127 #[.val (.long q1), .second, .val (.long q2), .second, .val (.int p3), .val (.long av), .second, .val (.long b0v), .second, .val (.long bv), .second, .val (.ref b17), .val (.ref b19), .val (.ref b17), .val (.ref b19), .val (.long av), .second, .unset, .unset] [(.int (1 : Int32))])) _
          refine XS.istore X22.here hx rfl (hb hby at_127) rfl (l' := #[.val (.long q1), .second, .val (.long q2), .second, .val (.int p3), .val (.long av), .second, .val (.long b0v), .second, .val (.long bv), .second, .val (.ref b17), .val (.ref b19), .val (.ref b17), .val (.ref b19), .val (.long av), .second, .val (.int (1 : Int32)), .unset]) rfl ?_
          show Steps p.tables e below (T22.setTop (mkF m 129 #[.val (.long q1), .second, .val (.long q2), .second, .val (.int p3), .val (.long av), .second, .val (.long b0v), .second, .val (.long bv), .second, .val (.ref b17), .val (.ref b19), .val (.ref b17), .val (.ref b19), .val (.long av), .second, .val (.int (1 : Int32)), .unset] [])) _
          refine XS.aload X22.here hx rfl (hb hby at_129) rfl rfl ?_
          show Steps p.tables e below (T22.setTop (mkF m 131 #[.val (.long q1), .second, .val (.long q2), .second, .val (.int p3), .val (.long av), .second, .val (.long b0v), .second, .val (.long bv), .second, .val (.ref b17), .val (.ref b19), .val (.ref b17), .val (.ref b19), .val (.long av), .second, .val (.int (1 : Int32)), .unset] [(.ref b19)])) _
          refine XS.aload X22.here hx rfl (hb hby at_131) rfl rfl ?_
          exact kt
        refine Goes.step (A := T22.setTop (mkF m 136 #[.val (.long q1), .second, .val (.long q2), .second, .val (.int p3), .val (.long av), .second, .val (.long b0v), .second, .val (.long bv), .second, .val (.ref b17), .val (.ref b19), .val (.ref b17), .val (.ref b19), .val (.long av), .second, .val (.int (1 : Int32)), .unset] [])) (fun t kt => Jvm.RoadKit.acmp (g := (mkF m 133 #[.val (.long q1), .second, .val (.long q2), .second, .val (.int p3), .val (.long av), .second, .val (.long b0v), .second, .val (.long bv), .second, .val (.ref b17), .val (.ref b19), .val (.ref b17), .val (.ref b19), .val (.long av), .second, .val (.int (1 : Int32)), .unset] [(.ref b17), (.ref b19)])) X22 hx rfl rfl rfl (pc0 := 133) (pc' := 136) (same := false) rfl (hb hby at_133) rfl (decide_eq_false fun q => (ne19_b17.symm : ¬ (b19 = b17)) (Value.ref.inj q)) (by decide) (by decide) kt) ?_
        refine Goes.step (A := T22.setTop (mkF m 140 #[.val (.long q1), .second, .val (.long q2), .second, .val (.int p3), .val (.long av), .second, .val (.long b0v), .second, .val (.long bv), .second, .val (.ref b17), .val (.ref b19), .val (.ref b17), .val (.ref b19), .val (.long av), .second, .val (.int (1 : Int32)), .unset] [(.ref b19), (.ref b19)])) (fun t kt => ?_) ?_
        · refine XS.aload X22.here hx rfl (hb hby at_136) rfl rfl ?_
          show Steps p.tables e below (T22.setTop (mkF m 138 #[.val (.long q1), .second, .val (.long q2), .second, .val (.int p3), .val (.long av), .second, .val (.long b0v), .second, .val (.long bv), .second, .val (.ref b17), .val (.ref b19), .val (.ref b17), .val (.ref b19), .val (.long av), .second, .val (.int (1 : Int32)), .unset] [(.ref b19)])) _
          refine XS.aload X22.here hx rfl (hb hby at_138) rfl rfl ?_
          exact kt
        refine Goes.step (A := T22.setTop (mkF m 143 #[.val (.long q1), .second, .val (.long q2), .second, .val (.int p3), .val (.long av), .second, .val (.long b0v), .second, .val (.long bv), .second, .val (.ref b17), .val (.ref b19), .val (.ref b17), .val (.ref b19), .val (.long av), .second, .val (.int (1 : Int32)), .unset] [])) (fun t kt => Jvm.RoadKit.acmp (g := (mkF m 140 #[.val (.long q1), .second, .val (.long q2), .second, .val (.int p3), .val (.long av), .second, .val (.long b0v), .second, .val (.long bv), .second, .val (.ref b17), .val (.ref b19), .val (.ref b17), .val (.ref b19), .val (.long av), .second, .val (.int (1 : Int32)), .unset] [(.ref b19), (.ref b19)])) X22 hx rfl rfl rfl (pc0 := 140) (pc' := 143) (same := true) rfl (hb hby at_140) rfl (decide_eq_true (congrArg Value.ref (rfl : b19 = b19))) (by decide) (by decide) kt) ?_
        refine Goes.step (A := T22.setTop (mkF m 152 #[.val (.long q1), .second, .val (.long q2), .second, .val (.int p3), .val (.long av), .second, .val (.long b0v), .second, .val (.long bv), .second, .val (.ref b17), .val (.ref b19), .val (.ref b17), .val (.ref b19), .val (.long av), .second, .val (.int (1 : Int32)), .val (.int (1 : Int32))] [(.int (1 : Int32))])) (fun t kt => ?_) ?_
        · refine XS.iconst X22.here hx rfl (hb hby at_143) ?_
          show Steps p.tables e below (T22.setTop (mkF m 144 #[.val (.long q1), .second, .val (.long q2), .second, .val (.int p3), .val (.long av), .second, .val (.long b0v), .second, .val (.long bv), .second, .val (.ref b17), .val (.ref b19), .val (.ref b17), .val (.ref b19), .val (.long av), .second, .val (.int (1 : Int32)), .unset] [(.int (1 : Int32))])) _
          refine XS.goto X22.here hx rfl (pc0 := 144) (pc' := 148) rfl (hb hby at_144) (by decide) (by decide) ?_
          show Steps p.tables e below (T22.setTop (mkF m 148 #[.val (.long q1), .second, .val (.long q2), .second, .val (.int p3), .val (.long av), .second, .val (.long b0v), .second, .val (.long bv), .second, .val (.ref b17), .val (.ref b19), .val (.ref b17), .val (.ref b19), .val (.long av), .second, .val (.int (1 : Int32)), .unset] [(.int (1 : Int32))])) _
          refine XS.istore X22.here hx rfl (hb hby at_148) rfl (l' := #[.val (.long q1), .second, .val (.long q2), .second, .val (.int p3), .val (.long av), .second, .val (.long b0v), .second, .val (.long bv), .second, .val (.ref b17), .val (.ref b19), .val (.ref b17), .val (.ref b19), .val (.long av), .second, .val (.int (1 : Int32)), .val (.int (1 : Int32))]) rfl ?_
          show Steps p.tables e below (T22.setTop (mkF m 150 #[.val (.long q1), .second, .val (.long q2), .second, .val (.int p3), .val (.long av), .second, .val (.long b0v), .second, .val (.long bv), .second, .val (.ref b17), .val (.ref b19), .val (.ref b17), .val (.ref b19), .val (.long av), .second, .val (.int (1 : Int32)), .val (.int (1 : Int32))] [])) _
          refine XS.iload X22.here hx rfl (hb hby at_150) rfl ?_
          exact kt
        refine Goes.step (A := T22.setTop (mkF m 155 #[.val (.long q1), .second, .val (.long q2), .second, .val (.int p3), .val (.long av), .second, .val (.long b0v), .second, .val (.long bv), .second, .val (.ref b17), .val (.ref b19), .val (.ref b17), .val (.ref b19), .val (.long av), .second, .val (.int (1 : Int32)), .val (.int (1 : Int32))] [])) (fun t kt => XS.ifNo X22.here hx rfl (hb hby at_152) rfl ((if0 _ _).trans (feq ((by decide) : ¬ ((1 : Int32) = (0 : Int32)))).1) kt) ?_
        refine Goes.step (A := T22.setTop (mkF m 157 #[.val (.long q1), .second, .val (.long q2), .second, .val (.int p3), .val (.long av), .second, .val (.long b0v), .second, .val (.long bv), .second, .val (.ref b17), .val (.ref b19), .val (.ref b17), .val (.ref b19), .val (.long av), .second, .val (.int (1 : Int32)), .val (.int (1 : Int32))] [(.int (1 : Int32))])) (fun t kt => ?_) ?_
        · refine XS.iload X22.here hx rfl (hb hby at_155) rfl ?_
          exact kt
        refine Goes.step (A := T22.setTop (mkF m 160 #[.val (.long q1), .second, .val (.long q2), .second, .val (.int p3), .val (.long av), .second, .val (.long b0v), .second, .val (.long bv), .second, .val (.ref b17), .val (.ref b19), .val (.ref b17), .val (.ref b19), .val (.long av), .second, .val (.int (1 : Int32)), .val (.int (1 : Int32))] [])) (fun t kt => XS.ifNo X22.here hx rfl (hb hby at_157) rfl ((if0 _ _).trans (feq ((by decide) : ¬ ((1 : Int32) = (0 : Int32)))).1) kt) ?_
        refine Goes.step (A := T22.setTop (mkF m 162 #[.val (.long q1), .second, .val (.long q2), .second, .val (.int p3), .val (.long av), .second, .val (.long b0v), .second, .val (.long bv), .second, .val (.ref b17), .val (.ref b19), .val (.ref b17), .val (.ref b19), .val (.long av), .second, .val (.int (1 : Int32)), .val (.int (1 : Int32))] [(.ref b17)])) (fun t kt => ?_) ?_
        · refine XS.aload X22.here hx rfl (hb hby at_160) rfl rfl ?_
          exact kt
        obtain ⟨cq23, kq23, q23a, q23b, q23c⟩ := isOf hZ e22 E20_b17
        obtain ⟨_, _, ⟨T23, L23, k23, n23⟩, -, X23, ⟨Lc23, hQ23, l23, y23, z23⟩, st23⟩ := X22.virtualBack hx (y := (⟨"com/example/receivant/receivant/money/Amount", "cents", "()J"⟩ : MethodName)) (z := (⟨"com/example/receivant/receivant/money/Amount", "cents", "()J"⟩ : MethodName)) hown (mvT hZ (hw _ (List.mem_of_getElem? (i := 30) rfl))) (mvT hZ (hw _ (List.mem_of_getElem? (i := 31) rfl))) (notFace_of_selects (args := #[]) (mvT hZ (hw _ (List.mem_of_getElem? (i := 33) rfl)))) (mvT hZ (hw _ (List.mem_of_getElem? (i := 33) rfl))) (mvT hZ (hw _ (List.mem_of_getElem? (i := 32) rfl))) (by decide) (backOf (W := 0) (rm7 l Z a0 hw [] b17 av T20.heap n0 Z20 F20_b17_cents) hZ (hw _ (List.mem_of_getElem? (i := 34) rfl)) (hw _ (List.mem_of_getElem? (i := 3) rfl)) (by decide) (by decide)) q23a q23c (g := (mkF m 162 #[.val (.long q1), .second, .val (.long q2), .second, .val (.int p3), .val (.long av), .second, .val (.long b0v), .second, .val (.long bv), .second, .val (.ref b17), .val (.ref b19), .val (.ref b17), .val (.ref b19), .val (.long av), .second, .val (.int (1 : Int32)), .val (.int (1 : Int32))] [(.ref b17)])) rfl (by rw [hml]; rfl) (Steps.refl _) (argsL := []) (rest := []) (lenOf pd_5 rfl) rfl (by show 2 * 0 + _ ≤ _; exact Nat.le_of_eq rfl) (hb hby at_162) (fun _ _ => ⟨rfl, e22, (by decide : 2 + 0 ≤ _), (by decide : 2 + 0 ≤ _)⟩)
        dsimp only [Pt.U, Pt.locs, Pt.cells, Pt.slots] at X23 l23 y23 z23 st23 hQ23
        subst l23 y23 z23
        obtain ⟨rfl, N23q, e23⟩ := hQ23
        have N23 := Fr.app N22 N23q
        refine Goes.step (A := T23.setTop (mkF m 165 #[.val (.long q1), .second, .val (.long q2), .second, .val (.int p3), .val (.long av), .second, .val (.long b0v), .second, .val (.long bv), .second, .val (.ref b17), .val (.ref b19), .val (.ref b17), .val (.ref b19), .val (.long av), .second, .val (.int (1 : Int32)), .val (.int (1 : Int32))] [(.long av)])) (fun t kt => st23.trans kt) ?_
        refine Goes.step (A := T23.setTop (mkF m 168 #[.val (.long q1), .second, .val (.long q2), .second, .val (.int p3), .val (.long av), .second, .val (.long b0v), .second, .val (.long bv), .second, .val (.ref b17), .val (.ref b19), .val (.ref b17), .val (.ref b19), .val (.long av), .second, .val (.int (1 : Int32)), .val (.int (1 : Int32))] [(.int (lcmpW av av))])) (fun t kt => ?_) ?_
        · refine XS.lload X23.here hx rfl (hb hby at_165) rfl ?_
          show Steps p.tables e below (T23.setTop (mkF m 167 #[.val (.long q1), .second, .val (.long q2), .second, .val (.int p3), .val (.long av), .second, .val (.long b0v), .second, .val (.long bv), .second, .val (.ref b17), .val (.ref b19), .val (.ref b17), .val (.ref b19), .val (.long av), .second, .val (.int (1 : Int32)), .val (.int (1 : Int32))] [(.long av), (.long av)])) _
          refine XS.lcmp X23.here hx rfl (hb hby at_167) rfl ?_
          exact kt
        refine Goes.step (A := T23.setTop (mkF m 171 #[.val (.long q1), .second, .val (.long q2), .second, .val (.int p3), .val (.long av), .second, .val (.long b0v), .second, .val (.long bv), .second, .val (.ref b17), .val (.ref b19), .val (.ref b17), .val (.ref b19), .val (.long av), .second, .val (.int (1 : Int32)), .val (.int (1 : Int32))] [])) (fun t kt => XS.ifNo X23.here hx rfl (hb hby at_168) rfl ((if0 _ _).trans (teq ((lw_eq _ _).mpr (rfl : av = av))).2) kt) ?_
        refine Goes.step (A := T23.setTop (mkF m 173 #[.val (.long q1), .second, .val (.long q2), .second, .val (.int p3), .val (.long av), .second, .val (.long b0v), .second, .val (.long bv), .second, .val (.ref b17), .val (.ref b19), .val (.ref b17), .val (.ref b19), .val (.long av), .second, .val (.int (1 : Int32)), .val (.int (1 : Int32))] [(.ref b19)])) (fun t kt => ?_) ?_
        · refine XS.aload X23.here hx rfl (hb hby at_171) rfl rfl ?_
          exact kt
        obtain ⟨cq24, kq24, q24a, q24b, q24c⟩ := isOf hZ e23 E20q
        obtain ⟨_, _, ⟨T24, L24, k24, n24⟩, -, X24, ⟨Lc24, hQ24, l24, y24, z24⟩, st24⟩ := X23.virtualBack hx (y := (⟨"com/example/receivant/receivant/money/Amount", "cents", "()J"⟩ : MethodName)) (z := (⟨"com/example/receivant/receivant/money/Amount", "cents", "()J"⟩ : MethodName)) hown (mvT hZ (hw _ (List.mem_of_getElem? (i := 30) rfl))) (mvT hZ (hw _ (List.mem_of_getElem? (i := 31) rfl))) (notFace_of_selects (args := #[]) (mvT hZ (hw _ (List.mem_of_getElem? (i := 33) rfl)))) (mvT hZ (hw _ (List.mem_of_getElem? (i := 33) rfl))) (mvT hZ (hw _ (List.mem_of_getElem? (i := 32) rfl))) (by decide) (backOf (W := 0) (rm7 l Z a0 hw [] b19 bv T20.heap n0 Z20 F20q) hZ (hw _ (List.mem_of_getElem? (i := 34) rfl)) (hw _ (List.mem_of_getElem? (i := 3) rfl)) (by decide) (by decide)) q24a q24c (g := (mkF m 173 #[.val (.long q1), .second, .val (.long q2), .second, .val (.int p3), .val (.long av), .second, .val (.long b0v), .second, .val (.long bv), .second, .val (.ref b17), .val (.ref b19), .val (.ref b17), .val (.ref b19), .val (.long av), .second, .val (.int (1 : Int32)), .val (.int (1 : Int32))] [(.ref b19)])) rfl (by rw [hml]; rfl) (Steps.refl _) (argsL := []) (rest := []) (lenOf pd_5 rfl) rfl (by show 2 * 0 + _ ≤ _; exact Nat.le_of_eq rfl) (hb hby at_173) (fun _ _ => ⟨rfl, e23, (by decide : 2 + 0 ≤ _), (by decide : 2 + 0 ≤ _)⟩)
        dsimp only [Pt.U, Pt.locs, Pt.cells, Pt.slots] at X24 l24 y24 z24 st24 hQ24
        subst l24 y24 z24
        obtain ⟨rfl, N24q, e24⟩ := hQ24
        have N24 := Fr.app N23 N24q
        refine Goes.step (A := T24.setTop (mkF m 176 #[.val (.long q1), .second, .val (.long q2), .second, .val (.int p3), .val (.long av), .second, .val (.long b0v), .second, .val (.long bv), .second, .val (.ref b17), .val (.ref b19), .val (.ref b17), .val (.ref b19), .val (.long av), .second, .val (.int (1 : Int32)), .val (.int (1 : Int32))] [(.long bv)])) (fun t kt => st24.trans kt) ?_
        refine Goes.step (A := T24.setTop (mkF m 179 #[.val (.long q1), .second, .val (.long q2), .second, .val (.int p3), .val (.long av), .second, .val (.long b0v), .second, .val (.long bv), .second, .val (.ref b17), .val (.ref b19), .val (.ref b17), .val (.ref b19), .val (.long av), .second, .val (.int (1 : Int32)), .val (.int (1 : Int32))] [(.int (lcmpW bv av))])) (fun t kt => ?_) ?_
        · refine XS.lload X24.here hx rfl (hb hby at_176) rfl ?_
          show Steps p.tables e below (T24.setTop (mkF m 178 #[.val (.long q1), .second, .val (.long q2), .second, .val (.int p3), .val (.long av), .second, .val (.long b0v), .second, .val (.long bv), .second, .val (.ref b17), .val (.ref b19), .val (.ref b17), .val (.ref b19), .val (.long av), .second, .val (.int (1 : Int32)), .val (.int (1 : Int32))] [(.long av), (.long bv)])) _
          refine XS.lcmp X24.here hx rfl (hb hby at_178) rfl ?_
          exact kt
        refine Goes.step (A := T24.setTop (mkF m 182 #[.val (.long q1), .second, .val (.long q2), .second, .val (.int p3), .val (.long av), .second, .val (.long b0v), .second, .val (.long bv), .second, .val (.ref b17), .val (.ref b19), .val (.ref b17), .val (.ref b19), .val (.long av), .second, .val (.int (1 : Int32)), .val (.int (1 : Int32))] [])) (fun t kt => XS.ifNo X24.here hx rfl (hb hby at_179) rfl ((if0 _ _).trans (teq ((lw_eq _ _).mpr (own_eq av bv hq1 hq2 : bv = av))).2) kt) ?_
        refine Goes.step (A := T24.setTop (mkF m 187 #[.val (.long q1), .second, .val (.long q2), .second, .val (.int p3), .val (.long av), .second, .val (.long b0v), .second, .val (.long bv), .second, .val (.ref b17), .val (.ref b19), .val (.ref b17), .val (.ref b19), .val (.long av), .second, .val (.int (1 : Int32)), .val (.int (1 : Int32))] [(.int (1 : Int32))])) (fun t kt => ?_) ?_
        · refine XS.iconst X24.here hx rfl (hb hby at_182) ?_
          show Steps p.tables e below (T24.setTop (mkF m 183 #[.val (.long q1), .second, .val (.long q2), .second, .val (.int p3), .val (.long av), .second, .val (.long b0v), .second, .val (.long bv), .second, .val (.ref b17), .val (.ref b19), .val (.ref b17), .val (.ref b19), .val (.long av), .second, .val (.int (1 : Int32)), .val (.int (1 : Int32))] [(.int (1 : Int32))])) _
          refine XS.goto X24.here hx rfl (pc0 := 183) (pc' := 187) rfl (hb hby at_183) (by decide) (by decide) ?_
          exact kt
        obtain ⟨fs, hr, hrun, hended, hW, hsame⟩ := X24.leave (v := some (.int (1 : Int32))) (fun h => by rw [Bd.returns] at h; cases h)
        refine Goes.done ?_ hrun hended ⟨_, _, rfl, ?_, ⟨_, rfl⟩, hW, hsame.mono (by decide) (by decide)⟩
        · exact retN X24 hx (t := .boolean) Bd.returns (by simp) (hb hby at_187) hr
        · show Q0 Z q1 q2 p3 h0 n0 _ T24.heap _
          rw [e24]
          exact ⟨rfl, N24⟩
  refine Goes.step (A := s₁.setTop (mkF m 5 #[.val (.long q1), .second, .val (.long q2), .second, .val (.int p3), .unset, .unset, .unset, .unset, .unset, .unset, .unset, .unset, .unset, .unset, .unset, .unset, .unset, .unset] [(.int (lcmpW q1 (-9223372036854775808 : Int64)))])) (fun t kt => ?_) ?_
  · refine XS.lloadN X0.here hx rfl (hb hby at_0) rfl ?_
    show Steps p.tables e below (s₁.setTop (mkF m 1 #[.val (.long q1), .second, .val (.long q2), .second, .val (.int p3), .unset, .unset, .unset, .unset, .unset, .unset, .unset, .unset, .unset, .unset, .unset, .unset, .unset, .unset] [(.long q1)])) _
    refine X0.ldc2Long hx hown (mvT hZ (hw _ (List.mem_of_getElem? (i := 0) rfl))) (g := (mkF m 1 #[.val (.long q1), .second, .val (.long q2), .second, .val (.int p3), .unset, .unset, .unset, .unset, .unset, .unset, .unset, .unset, .unset, .unset, .unset, .unset, .unset, .unset] [(.long q1)])) rfl (hb hby at_1) _ ?_
    show Steps p.tables e below (s₁.setTop (mkF m 4 #[.val (.long q1), .second, .val (.long q2), .second, .val (.int p3), .unset, .unset, .unset, .unset, .unset, .unset, .unset, .unset, .unset, .unset, .unset, .unset, .unset, .unset] [(.long (-9223372036854775808 : Int64)), (.long q1)])) _
    refine XS.lcmp X0.here hx rfl (hb hby at_4) rfl ?_
    exact kt
  by_cases hc5_4 : q1 = (-9223372036854775808 : Int64)
  · refine Goes.step (A := s₁.setTop (mkF m 8 #[.val (.long q1), .second, .val (.long q2), .second, .val (.int p3), .unset, .unset, .unset, .unset, .unset, .unset, .unset, .unset, .unset, .unset, .unset, .unset, .unset, .unset] [])) (fun t kt => XS.ifNo X0.here hx rfl (hb hby at_5) rfl ((if0 _ _).trans (teq ((lw_eq _ _).mpr hc5_4)).2) kt) ?_
    refine Goes.step (A := s₁.setTop (mkF m 21 #[.val (.long q1), .second, .val (.long q2), .second, .val (.int p3), .val (.long (9223372036854775807 : Int64)), .second, .unset, .unset, .unset, .unset, .unset, .unset, .unset, .unset, .unset, .unset, .unset, .unset] [(.int (p3 &&& (1 : Int32)))])) (fun t kt => ?_) ?_
    · refine X0.ldc2Long hx hown (mvT hZ (hw _ (List.mem_of_getElem? (i := 35) rfl))) (g := (mkF m 8 #[.val (.long q1), .second, .val (.long q2), .second, .val (.int p3), .unset, .unset, .unset, .unset, .unset, .unset, .unset, .unset, .unset, .unset, .unset, .unset, .unset, .unset] [])) rfl (hb hby at_8) _ ?_
      show Steps p.tables e below (s₁.setTop (mkF m 11 #[.val (.long q1), .second, .val (.long q2), .second, .val (.int p3), .unset, .unset, .unset, .unset, .unset, .unset, .unset, .unset, .unset, .unset, .unset, .unset, .unset, .unset] [(.long (9223372036854775807 : Int64))])) _
      refine XS.goto X0.here hx rfl (pc0 := 11) (pc' := 15) rfl (hb hby at_11) (by decide) (by decide) ?_
      show Steps p.tables e below (s₁.setTop (mkF m 15 #[.val (.long q1), .second, .val (.long q2), .second, .val (.int p3), .unset, .unset, .unset, .unset, .unset, .unset, .unset, .unset, .unset, .unset, .unset, .unset, .unset, .unset] [(.long (9223372036854775807 : Int64))])) _
      refine XS.lstore X0.here hx rfl (hb hby at_15) rfl (l' := #[.val (.long q1), .second, .val (.long q2), .second, .val (.int p3), .val (.long (9223372036854775807 : Int64)), .second, .unset, .unset, .unset, .unset, .unset, .unset, .unset, .unset, .unset, .unset, .unset, .unset]) rfl ?_
      show Steps p.tables e below (s₁.setTop (mkF m 17 #[.val (.long q1), .second, .val (.long q2), .second, .val (.int p3), .val (.long (9223372036854775807 : Int64)), .second, .unset, .unset, .unset, .unset, .unset, .unset, .unset, .unset, .unset, .unset, .unset, .unset] [])) _
      refine XS.iload X0.here hx rfl (hb hby at_17) rfl ?_
      show Steps p.tables e below (s₁.setTop (mkF m 19 #[.val (.long q1), .second, .val (.long q2), .second, .val (.int p3), .val (.long (9223372036854775807 : Int64)), .second, .unset, .unset, .unset, .unset, .unset, .unset, .unset, .unset, .unset, .unset, .unset, .unset] [(.int p3)])) _
      refine XS.iconst X0.here hx rfl (hb hby at_19) ?_
      show Steps p.tables e below (s₁.setTop (mkF m 20 #[.val (.long q1), .second, .val (.long q2), .second, .val (.int p3), .val (.long (9223372036854775807 : Int64)), .second, .unset, .unset, .unset, .unset, .unset, .unset, .unset, .unset, .unset, .unset, .unset, .unset] [(.int (1 : Int32)), (.int p3)])) _
      refine XS.iand X0.here hx rfl (hb hby at_20) rfl ?_
      exact kt
    by_cases hc21_5 : (p3 &&& (1 : Int32)) = (0 : Int32)
    · refine Goes.step (A := s₁.setTop (mkF m 29 #[.val (.long q1), .second, .val (.long q2), .second, .val (.int p3), .val (.long (9223372036854775807 : Int64)), .second, .unset, .unset, .unset, .unset, .unset, .unset, .unset, .unset, .unset, .unset, .unset, .unset] [])) (fun t kt => XS.ifYes X0.here hx rfl (pc0 := 21) (pc' := 29) rfl (hb hby at_21) rfl ((if0 _ _).trans (teq hc21_5).1) (by decide) (by decide) kt) ?_
      refine Goes.step (A := s₁.setTop (mkF m 38 #[.val (.long q1), .second, .val (.long q2), .second, .val (.int p3), .val (.long (9223372036854775807 : Int64)), .second, .val (.long q2), .second, .unset, .unset, .unset, .unset, .unset, .unset, .unset, .unset, .unset, .unset] [(.int (lcmpW q2 (-9223372036854775808 : Int64)))])) (fun t kt => ?_) ?_
      · refine XS.lloadN X0.here hx rfl (hb hby at_29) rfl ?_
        show Steps p.tables e below (s₁.setTop (mkF m 30 #[.val (.long q1), .second, .val (.long q2), .second, .val (.int p3), .val (.long (9223372036854775807 : Int64)), .second, .unset, .unset, .unset, .unset, .unset, .unset, .unset, .unset, .unset, .unset, .unset, .unset] [(.long q2)])) _
        refine XS.lstore X0.here hx rfl (hb hby at_30) rfl (l' := #[.val (.long q1), .second, .val (.long q2), .second, .val (.int p3), .val (.long (9223372036854775807 : Int64)), .second, .val (.long q2), .second, .unset, .unset, .unset, .unset, .unset, .unset, .unset, .unset, .unset, .unset]) rfl ?_
        show Steps p.tables e below (s₁.setTop (mkF m 32 #[.val (.long q1), .second, .val (.long q2), .second, .val (.int p3), .val (.long (9223372036854775807 : Int64)), .second, .val (.long q2), .second, .unset, .unset, .unset, .unset, .unset, .unset, .unset, .unset, .unset, .unset] [])) _
        refine XS.lload X0.here hx rfl (hb hby at_32) rfl ?_
        show Steps p.tables e below (s₁.setTop (mkF m 34 #[.val (.long q1), .second, .val (.long q2), .second, .val (.int p3), .val (.long (9223372036854775807 : Int64)), .second, .val (.long q2), .second, .unset, .unset, .unset, .unset, .unset, .unset, .unset, .unset, .unset, .unset] [(.long q2)])) _
        refine X0.ldc2Long hx hown (mvT hZ (hw _ (List.mem_of_getElem? (i := 0) rfl))) (g := (mkF m 34 #[.val (.long q1), .second, .val (.long q2), .second, .val (.int p3), .val (.long (9223372036854775807 : Int64)), .second, .val (.long q2), .second, .unset, .unset, .unset, .unset, .unset, .unset, .unset, .unset, .unset, .unset] [(.long q2)])) rfl (hb hby at_34) _ ?_
        show Steps p.tables e below (s₁.setTop (mkF m 37 #[.val (.long q1), .second, .val (.long q2), .second, .val (.int p3), .val (.long (9223372036854775807 : Int64)), .second, .val (.long q2), .second, .unset, .unset, .unset, .unset, .unset, .unset, .unset, .unset, .unset, .unset] [(.long (-9223372036854775808 : Int64)), (.long q2)])) _
        refine XS.lcmp X0.here hx rfl (hb hby at_37) rfl ?_
        exact kt
      by_cases hc38_6 : q2 = (-9223372036854775808 : Int64)
      · refine Goes.step (A := s₁.setTop (mkF m 41 #[.val (.long q1), .second, .val (.long q2), .second, .val (.int p3), .val (.long (9223372036854775807 : Int64)), .second, .val (.long q2), .second, .unset, .unset, .unset, .unset, .unset, .unset, .unset, .unset, .unset, .unset] [])) (fun t kt => XS.ifNo X0.here hx rfl (hb hby at_38) rfl ((if0 _ _).trans (teq ((lw_eq _ _).mpr hc38_6)).2) kt) ?_
        refine Goes.step (A := s₁.setTop (mkF m 51 #[.val (.long q1), .second, .val (.long q2), .second, .val (.int p3), .val (.long (9223372036854775807 : Int64)), .second, .val (.long q2), .second, .val (.long (-9223372036854775807 : Int64)), .second, .unset, .unset, .unset, .unset, .unset, .unset, .unset, .unset] [])) (fun t kt => ?_) ?_
        · refine X0.ldc2Long hx hown (mvT hZ (hw _ (List.mem_of_getElem? (i := 36) rfl))) (g := (mkF m 41 #[.val (.long q1), .second, .val (.long q2), .second, .val (.int p3), .val (.long (9223372036854775807 : Int64)), .second, .val (.long q2), .second, .unset, .unset, .unset, .unset, .unset, .unset, .unset, .unset, .unset, .unset] [])) rfl (hb hby at_41) _ ?_
          show Steps p.tables e below (s₁.setTop (mkF m 44 #[.val (.long q1), .second, .val (.long q2), .second, .val (.int p3), .val (.long (9223372036854775807 : Int64)), .second, .val (.long q2), .second, .unset, .unset, .unset, .unset, .unset, .unset, .unset, .unset, .unset, .unset] [(.long (-9223372036854775807 : Int64))])) _
          refine XS.goto X0.here hx rfl (pc0 := 44) (pc' := 49) rfl (hb hby at_44) (by decide) (by decide) ?_
          show Steps p.tables e below (s₁.setTop (mkF m 49 #[.val (.long q1), .second, .val (.long q2), .second, .val (.int p3), .val (.long (9223372036854775807 : Int64)), .second, .val (.long q2), .second, .unset, .unset, .unset, .unset, .unset, .unset, .unset, .unset, .unset, .unset] [(.long (-9223372036854775807 : Int64))])) _
          refine XS.lstore X0.here hx rfl (hb hby at_49) rfl (l' := #[.val (.long q1), .second, .val (.long q2), .second, .val (.int p3), .val (.long (9223372036854775807 : Int64)), .second, .val (.long q2), .second, .val (.long (-9223372036854775807 : Int64)), .second, .unset, .unset, .unset, .unset, .unset, .unset, .unset, .unset]) rfl ?_
          exact kt
        exact cont _ _ _ (by decide) (by decide)
      · refine Goes.step (A := s₁.setTop (mkF m 47 #[.val (.long q1), .second, .val (.long q2), .second, .val (.int p3), .val (.long (9223372036854775807 : Int64)), .second, .val (.long q2), .second, .unset, .unset, .unset, .unset, .unset, .unset, .unset, .unset, .unset, .unset] [])) (fun t kt => XS.ifYes X0.here hx rfl (pc0 := 38) (pc' := 47) rfl (hb hby at_38) rfl ((if0 _ _).trans (feq (fun q => hc38_6 ((lw_eq _ _).mp q))).2) (by decide) (by decide) kt) ?_
        refine Goes.step (A := s₁.setTop (mkF m 51 #[.val (.long q1), .second, .val (.long q2), .second, .val (.int p3), .val (.long (9223372036854775807 : Int64)), .second, .val (.long q2), .second, .val (.long q2), .second, .unset, .unset, .unset, .unset, .unset, .unset, .unset, .unset] [])) (fun t kt => ?_) ?_
        · refine XS.lload X0.here hx rfl (hb hby at_47) rfl ?_
          show Steps p.tables e below (s₁.setTop (mkF m 49 #[.val (.long q1), .second, .val (.long q2), .second, .val (.int p3), .val (.long (9223372036854775807 : Int64)), .second, .val (.long q2), .second, .unset, .unset, .unset, .unset, .unset, .unset, .unset, .unset, .unset, .unset] [(.long q2)])) _
          refine XS.lstore X0.here hx rfl (hb hby at_49) rfl (l' := #[.val (.long q1), .second, .val (.long q2), .second, .val (.int p3), .val (.long (9223372036854775807 : Int64)), .second, .val (.long q2), .second, .val (.long q2), .second, .unset, .unset, .unset, .unset, .unset, .unset, .unset, .unset]) rfl ?_
          exact kt
        exact cont _ _ _ (by decide) hc38_6
    · refine Goes.step (A := s₁.setTop (mkF m 24 #[.val (.long q1), .second, .val (.long q2), .second, .val (.int p3), .val (.long (9223372036854775807 : Int64)), .second, .unset, .unset, .unset, .unset, .unset, .unset, .unset, .unset, .unset, .unset, .unset, .unset] [])) (fun t kt => XS.ifNo X0.here hx rfl (hb hby at_21) rfl ((if0 _ _).trans (feq hc21_5).1) kt) ?_
      refine Goes.step (A := s₁.setTop (mkF m 38 #[.val (.long q1), .second, .val (.long q2), .second, .val (.int p3), .val (.long (9223372036854775807 : Int64)), .second, .val (.long (9223372036854775807 : Int64)), .second, .unset, .unset, .unset, .unset, .unset, .unset, .unset, .unset, .unset, .unset] [(.int (lcmpW (9223372036854775807 : Int64) (-9223372036854775808 : Int64)))])) (fun t kt => ?_) ?_
      · refine XS.lload X0.here hx rfl (hb hby at_24) rfl ?_
        show Steps p.tables e below (s₁.setTop (mkF m 26 #[.val (.long q1), .second, .val (.long q2), .second, .val (.int p3), .val (.long (9223372036854775807 : Int64)), .second, .unset, .unset, .unset, .unset, .unset, .unset, .unset, .unset, .unset, .unset, .unset, .unset] [(.long (9223372036854775807 : Int64))])) _
        refine XS.goto X0.here hx rfl (pc0 := 26) (pc' := 30) rfl (hb hby at_26) (by decide) (by decide) ?_
        show Steps p.tables e below (s₁.setTop (mkF m 30 #[.val (.long q1), .second, .val (.long q2), .second, .val (.int p3), .val (.long (9223372036854775807 : Int64)), .second, .unset, .unset, .unset, .unset, .unset, .unset, .unset, .unset, .unset, .unset, .unset, .unset] [(.long (9223372036854775807 : Int64))])) _
        refine XS.lstore X0.here hx rfl (hb hby at_30) rfl (l' := #[.val (.long q1), .second, .val (.long q2), .second, .val (.int p3), .val (.long (9223372036854775807 : Int64)), .second, .val (.long (9223372036854775807 : Int64)), .second, .unset, .unset, .unset, .unset, .unset, .unset, .unset, .unset, .unset, .unset]) rfl ?_
        show Steps p.tables e below (s₁.setTop (mkF m 32 #[.val (.long q1), .second, .val (.long q2), .second, .val (.int p3), .val (.long (9223372036854775807 : Int64)), .second, .val (.long (9223372036854775807 : Int64)), .second, .unset, .unset, .unset, .unset, .unset, .unset, .unset, .unset, .unset, .unset] [])) _
        refine XS.lload X0.here hx rfl (hb hby at_32) rfl ?_
        show Steps p.tables e below (s₁.setTop (mkF m 34 #[.val (.long q1), .second, .val (.long q2), .second, .val (.int p3), .val (.long (9223372036854775807 : Int64)), .second, .val (.long (9223372036854775807 : Int64)), .second, .unset, .unset, .unset, .unset, .unset, .unset, .unset, .unset, .unset, .unset] [(.long (9223372036854775807 : Int64))])) _
        refine X0.ldc2Long hx hown (mvT hZ (hw _ (List.mem_of_getElem? (i := 0) rfl))) (g := (mkF m 34 #[.val (.long q1), .second, .val (.long q2), .second, .val (.int p3), .val (.long (9223372036854775807 : Int64)), .second, .val (.long (9223372036854775807 : Int64)), .second, .unset, .unset, .unset, .unset, .unset, .unset, .unset, .unset, .unset, .unset] [(.long (9223372036854775807 : Int64))])) rfl (hb hby at_34) _ ?_
        show Steps p.tables e below (s₁.setTop (mkF m 37 #[.val (.long q1), .second, .val (.long q2), .second, .val (.int p3), .val (.long (9223372036854775807 : Int64)), .second, .val (.long (9223372036854775807 : Int64)), .second, .unset, .unset, .unset, .unset, .unset, .unset, .unset, .unset, .unset, .unset] [(.long (-9223372036854775808 : Int64)), (.long (9223372036854775807 : Int64))])) _
        refine XS.lcmp X0.here hx rfl (hb hby at_37) rfl ?_
        exact kt
      refine Goes.step (A := s₁.setTop (mkF m 47 #[.val (.long q1), .second, .val (.long q2), .second, .val (.int p3), .val (.long (9223372036854775807 : Int64)), .second, .val (.long (9223372036854775807 : Int64)), .second, .unset, .unset, .unset, .unset, .unset, .unset, .unset, .unset, .unset, .unset] [])) (fun t kt => XS.ifYes X0.here hx rfl (pc0 := 38) (pc' := 47) rfl (hb hby at_38) rfl ((if0 _ _).trans (feq (fun q => ((by decide) : ¬ ((9223372036854775807 : Int64) = (-9223372036854775808 : Int64))) ((lw_eq _ _).mp q))).2) (by decide) (by decide) kt) ?_
      refine Goes.step (A := s₁.setTop (mkF m 51 #[.val (.long q1), .second, .val (.long q2), .second, .val (.int p3), .val (.long (9223372036854775807 : Int64)), .second, .val (.long (9223372036854775807 : Int64)), .second, .val (.long (9223372036854775807 : Int64)), .second, .unset, .unset, .unset, .unset, .unset, .unset, .unset, .unset] [])) (fun t kt => ?_) ?_
      · refine XS.lload X0.here hx rfl (hb hby at_47) rfl ?_
        show Steps p.tables e below (s₁.setTop (mkF m 49 #[.val (.long q1), .second, .val (.long q2), .second, .val (.int p3), .val (.long (9223372036854775807 : Int64)), .second, .val (.long (9223372036854775807 : Int64)), .second, .unset, .unset, .unset, .unset, .unset, .unset, .unset, .unset, .unset, .unset] [(.long (9223372036854775807 : Int64))])) _
        refine XS.lstore X0.here hx rfl (hb hby at_49) rfl (l' := #[.val (.long q1), .second, .val (.long q2), .second, .val (.int p3), .val (.long (9223372036854775807 : Int64)), .second, .val (.long (9223372036854775807 : Int64)), .second, .val (.long (9223372036854775807 : Int64)), .second, .unset, .unset, .unset, .unset, .unset, .unset, .unset, .unset]) rfl ?_
        exact kt
      exact cont _ _ _ (by decide) (by decide)
  · refine Goes.step (A := s₁.setTop (mkF m 14 #[.val (.long q1), .second, .val (.long q2), .second, .val (.int p3), .unset, .unset, .unset, .unset, .unset, .unset, .unset, .unset, .unset, .unset, .unset, .unset, .unset, .unset] [])) (fun t kt => XS.ifYes X0.here hx rfl (pc0 := 5) (pc' := 14) rfl (hb hby at_5) rfl ((if0 _ _).trans (feq (fun q => hc5_4 ((lw_eq _ _).mp q))).2) (by decide) (by decide) kt) ?_
    refine Goes.step (A := s₁.setTop (mkF m 21 #[.val (.long q1), .second, .val (.long q2), .second, .val (.int p3), .val (.long q1), .second, .unset, .unset, .unset, .unset, .unset, .unset, .unset, .unset, .unset, .unset, .unset, .unset] [(.int (p3 &&& (1 : Int32)))])) (fun t kt => ?_) ?_
    · refine XS.lloadN X0.here hx rfl (hb hby at_14) rfl ?_
      show Steps p.tables e below (s₁.setTop (mkF m 15 #[.val (.long q1), .second, .val (.long q2), .second, .val (.int p3), .unset, .unset, .unset, .unset, .unset, .unset, .unset, .unset, .unset, .unset, .unset, .unset, .unset, .unset] [(.long q1)])) _
      refine XS.lstore X0.here hx rfl (hb hby at_15) rfl (l' := #[.val (.long q1), .second, .val (.long q2), .second, .val (.int p3), .val (.long q1), .second, .unset, .unset, .unset, .unset, .unset, .unset, .unset, .unset, .unset, .unset, .unset, .unset]) rfl ?_
      show Steps p.tables e below (s₁.setTop (mkF m 17 #[.val (.long q1), .second, .val (.long q2), .second, .val (.int p3), .val (.long q1), .second, .unset, .unset, .unset, .unset, .unset, .unset, .unset, .unset, .unset, .unset, .unset, .unset] [])) _
      refine XS.iload X0.here hx rfl (hb hby at_17) rfl ?_
      show Steps p.tables e below (s₁.setTop (mkF m 19 #[.val (.long q1), .second, .val (.long q2), .second, .val (.int p3), .val (.long q1), .second, .unset, .unset, .unset, .unset, .unset, .unset, .unset, .unset, .unset, .unset, .unset, .unset] [(.int p3)])) _
      refine XS.iconst X0.here hx rfl (hb hby at_19) ?_
      show Steps p.tables e below (s₁.setTop (mkF m 20 #[.val (.long q1), .second, .val (.long q2), .second, .val (.int p3), .val (.long q1), .second, .unset, .unset, .unset, .unset, .unset, .unset, .unset, .unset, .unset, .unset, .unset, .unset] [(.int (1 : Int32)), (.int p3)])) _
      refine XS.iand X0.here hx rfl (hb hby at_20) rfl ?_
      exact kt
    by_cases hc21_7 : (p3 &&& (1 : Int32)) = (0 : Int32)
    · refine Goes.step (A := s₁.setTop (mkF m 29 #[.val (.long q1), .second, .val (.long q2), .second, .val (.int p3), .val (.long q1), .second, .unset, .unset, .unset, .unset, .unset, .unset, .unset, .unset, .unset, .unset, .unset, .unset] [])) (fun t kt => XS.ifYes X0.here hx rfl (pc0 := 21) (pc' := 29) rfl (hb hby at_21) rfl ((if0 _ _).trans (teq hc21_7).1) (by decide) (by decide) kt) ?_
      refine Goes.step (A := s₁.setTop (mkF m 38 #[.val (.long q1), .second, .val (.long q2), .second, .val (.int p3), .val (.long q1), .second, .val (.long q2), .second, .unset, .unset, .unset, .unset, .unset, .unset, .unset, .unset, .unset, .unset] [(.int (lcmpW q2 (-9223372036854775808 : Int64)))])) (fun t kt => ?_) ?_
      · refine XS.lloadN X0.here hx rfl (hb hby at_29) rfl ?_
        show Steps p.tables e below (s₁.setTop (mkF m 30 #[.val (.long q1), .second, .val (.long q2), .second, .val (.int p3), .val (.long q1), .second, .unset, .unset, .unset, .unset, .unset, .unset, .unset, .unset, .unset, .unset, .unset, .unset] [(.long q2)])) _
        refine XS.lstore X0.here hx rfl (hb hby at_30) rfl (l' := #[.val (.long q1), .second, .val (.long q2), .second, .val (.int p3), .val (.long q1), .second, .val (.long q2), .second, .unset, .unset, .unset, .unset, .unset, .unset, .unset, .unset, .unset, .unset]) rfl ?_
        show Steps p.tables e below (s₁.setTop (mkF m 32 #[.val (.long q1), .second, .val (.long q2), .second, .val (.int p3), .val (.long q1), .second, .val (.long q2), .second, .unset, .unset, .unset, .unset, .unset, .unset, .unset, .unset, .unset, .unset] [])) _
        refine XS.lload X0.here hx rfl (hb hby at_32) rfl ?_
        show Steps p.tables e below (s₁.setTop (mkF m 34 #[.val (.long q1), .second, .val (.long q2), .second, .val (.int p3), .val (.long q1), .second, .val (.long q2), .second, .unset, .unset, .unset, .unset, .unset, .unset, .unset, .unset, .unset, .unset] [(.long q2)])) _
        refine X0.ldc2Long hx hown (mvT hZ (hw _ (List.mem_of_getElem? (i := 0) rfl))) (g := (mkF m 34 #[.val (.long q1), .second, .val (.long q2), .second, .val (.int p3), .val (.long q1), .second, .val (.long q2), .second, .unset, .unset, .unset, .unset, .unset, .unset, .unset, .unset, .unset, .unset] [(.long q2)])) rfl (hb hby at_34) _ ?_
        show Steps p.tables e below (s₁.setTop (mkF m 37 #[.val (.long q1), .second, .val (.long q2), .second, .val (.int p3), .val (.long q1), .second, .val (.long q2), .second, .unset, .unset, .unset, .unset, .unset, .unset, .unset, .unset, .unset, .unset] [(.long (-9223372036854775808 : Int64)), (.long q2)])) _
        refine XS.lcmp X0.here hx rfl (hb hby at_37) rfl ?_
        exact kt
      by_cases hc38_8 : q2 = (-9223372036854775808 : Int64)
      · refine Goes.step (A := s₁.setTop (mkF m 41 #[.val (.long q1), .second, .val (.long q2), .second, .val (.int p3), .val (.long q1), .second, .val (.long q2), .second, .unset, .unset, .unset, .unset, .unset, .unset, .unset, .unset, .unset, .unset] [])) (fun t kt => XS.ifNo X0.here hx rfl (hb hby at_38) rfl ((if0 _ _).trans (teq ((lw_eq _ _).mpr hc38_8)).2) kt) ?_
        refine Goes.step (A := s₁.setTop (mkF m 51 #[.val (.long q1), .second, .val (.long q2), .second, .val (.int p3), .val (.long q1), .second, .val (.long q2), .second, .val (.long (-9223372036854775807 : Int64)), .second, .unset, .unset, .unset, .unset, .unset, .unset, .unset, .unset] [])) (fun t kt => ?_) ?_
        · refine X0.ldc2Long hx hown (mvT hZ (hw _ (List.mem_of_getElem? (i := 36) rfl))) (g := (mkF m 41 #[.val (.long q1), .second, .val (.long q2), .second, .val (.int p3), .val (.long q1), .second, .val (.long q2), .second, .unset, .unset, .unset, .unset, .unset, .unset, .unset, .unset, .unset, .unset] [])) rfl (hb hby at_41) _ ?_
          show Steps p.tables e below (s₁.setTop (mkF m 44 #[.val (.long q1), .second, .val (.long q2), .second, .val (.int p3), .val (.long q1), .second, .val (.long q2), .second, .unset, .unset, .unset, .unset, .unset, .unset, .unset, .unset, .unset, .unset] [(.long (-9223372036854775807 : Int64))])) _
          refine XS.goto X0.here hx rfl (pc0 := 44) (pc' := 49) rfl (hb hby at_44) (by decide) (by decide) ?_
          show Steps p.tables e below (s₁.setTop (mkF m 49 #[.val (.long q1), .second, .val (.long q2), .second, .val (.int p3), .val (.long q1), .second, .val (.long q2), .second, .unset, .unset, .unset, .unset, .unset, .unset, .unset, .unset, .unset, .unset] [(.long (-9223372036854775807 : Int64))])) _
          refine XS.lstore X0.here hx rfl (hb hby at_49) rfl (l' := #[.val (.long q1), .second, .val (.long q2), .second, .val (.int p3), .val (.long q1), .second, .val (.long q2), .second, .val (.long (-9223372036854775807 : Int64)), .second, .unset, .unset, .unset, .unset, .unset, .unset, .unset, .unset]) rfl ?_
          exact kt
        exact cont _ _ _ hc5_4 (by decide)
      · refine Goes.step (A := s₁.setTop (mkF m 47 #[.val (.long q1), .second, .val (.long q2), .second, .val (.int p3), .val (.long q1), .second, .val (.long q2), .second, .unset, .unset, .unset, .unset, .unset, .unset, .unset, .unset, .unset, .unset] [])) (fun t kt => XS.ifYes X0.here hx rfl (pc0 := 38) (pc' := 47) rfl (hb hby at_38) rfl ((if0 _ _).trans (feq (fun q => hc38_8 ((lw_eq _ _).mp q))).2) (by decide) (by decide) kt) ?_
        refine Goes.step (A := s₁.setTop (mkF m 51 #[.val (.long q1), .second, .val (.long q2), .second, .val (.int p3), .val (.long q1), .second, .val (.long q2), .second, .val (.long q2), .second, .unset, .unset, .unset, .unset, .unset, .unset, .unset, .unset] [])) (fun t kt => ?_) ?_
        · refine XS.lload X0.here hx rfl (hb hby at_47) rfl ?_
          show Steps p.tables e below (s₁.setTop (mkF m 49 #[.val (.long q1), .second, .val (.long q2), .second, .val (.int p3), .val (.long q1), .second, .val (.long q2), .second, .unset, .unset, .unset, .unset, .unset, .unset, .unset, .unset, .unset, .unset] [(.long q2)])) _
          refine XS.lstore X0.here hx rfl (hb hby at_49) rfl (l' := #[.val (.long q1), .second, .val (.long q2), .second, .val (.int p3), .val (.long q1), .second, .val (.long q2), .second, .val (.long q2), .second, .unset, .unset, .unset, .unset, .unset, .unset, .unset, .unset]) rfl ?_
          exact kt
        exact cont _ _ _ hc5_4 hc38_8
    · refine Goes.step (A := s₁.setTop (mkF m 24 #[.val (.long q1), .second, .val (.long q2), .second, .val (.int p3), .val (.long q1), .second, .unset, .unset, .unset, .unset, .unset, .unset, .unset, .unset, .unset, .unset, .unset, .unset] [])) (fun t kt => XS.ifNo X0.here hx rfl (hb hby at_21) rfl ((if0 _ _).trans (feq hc21_7).1) kt) ?_
      refine Goes.step (A := s₁.setTop (mkF m 38 #[.val (.long q1), .second, .val (.long q2), .second, .val (.int p3), .val (.long q1), .second, .val (.long q1), .second, .unset, .unset, .unset, .unset, .unset, .unset, .unset, .unset, .unset, .unset] [(.int (lcmpW q1 (-9223372036854775808 : Int64)))])) (fun t kt => ?_) ?_
      · refine XS.lload X0.here hx rfl (hb hby at_24) rfl ?_
        show Steps p.tables e below (s₁.setTop (mkF m 26 #[.val (.long q1), .second, .val (.long q2), .second, .val (.int p3), .val (.long q1), .second, .unset, .unset, .unset, .unset, .unset, .unset, .unset, .unset, .unset, .unset, .unset, .unset] [(.long q1)])) _
        refine XS.goto X0.here hx rfl (pc0 := 26) (pc' := 30) rfl (hb hby at_26) (by decide) (by decide) ?_
        show Steps p.tables e below (s₁.setTop (mkF m 30 #[.val (.long q1), .second, .val (.long q2), .second, .val (.int p3), .val (.long q1), .second, .unset, .unset, .unset, .unset, .unset, .unset, .unset, .unset, .unset, .unset, .unset, .unset] [(.long q1)])) _
        refine XS.lstore X0.here hx rfl (hb hby at_30) rfl (l' := #[.val (.long q1), .second, .val (.long q2), .second, .val (.int p3), .val (.long q1), .second, .val (.long q1), .second, .unset, .unset, .unset, .unset, .unset, .unset, .unset, .unset, .unset, .unset]) rfl ?_
        show Steps p.tables e below (s₁.setTop (mkF m 32 #[.val (.long q1), .second, .val (.long q2), .second, .val (.int p3), .val (.long q1), .second, .val (.long q1), .second, .unset, .unset, .unset, .unset, .unset, .unset, .unset, .unset, .unset, .unset] [])) _
        refine XS.lload X0.here hx rfl (hb hby at_32) rfl ?_
        show Steps p.tables e below (s₁.setTop (mkF m 34 #[.val (.long q1), .second, .val (.long q2), .second, .val (.int p3), .val (.long q1), .second, .val (.long q1), .second, .unset, .unset, .unset, .unset, .unset, .unset, .unset, .unset, .unset, .unset] [(.long q1)])) _
        refine X0.ldc2Long hx hown (mvT hZ (hw _ (List.mem_of_getElem? (i := 0) rfl))) (g := (mkF m 34 #[.val (.long q1), .second, .val (.long q2), .second, .val (.int p3), .val (.long q1), .second, .val (.long q1), .second, .unset, .unset, .unset, .unset, .unset, .unset, .unset, .unset, .unset, .unset] [(.long q1)])) rfl (hb hby at_34) _ ?_
        show Steps p.tables e below (s₁.setTop (mkF m 37 #[.val (.long q1), .second, .val (.long q2), .second, .val (.int p3), .val (.long q1), .second, .val (.long q1), .second, .unset, .unset, .unset, .unset, .unset, .unset, .unset, .unset, .unset, .unset] [(.long (-9223372036854775808 : Int64)), (.long q1)])) _
        refine XS.lcmp X0.here hx rfl (hb hby at_37) rfl ?_
        exact kt
      refine Goes.step (A := s₁.setTop (mkF m 47 #[.val (.long q1), .second, .val (.long q2), .second, .val (.int p3), .val (.long q1), .second, .val (.long q1), .second, .unset, .unset, .unset, .unset, .unset, .unset, .unset, .unset, .unset, .unset] [])) (fun t kt => XS.ifYes X0.here hx rfl (pc0 := 38) (pc' := 47) rfl (hb hby at_38) rfl ((if0 _ _).trans (feq (fun q => (hc5_4 : ¬ (q1 = (-9223372036854775808 : Int64))) ((lw_eq _ _).mp q))).2) (by decide) (by decide) kt) ?_
      refine Goes.step (A := s₁.setTop (mkF m 51 #[.val (.long q1), .second, .val (.long q2), .second, .val (.int p3), .val (.long q1), .second, .val (.long q1), .second, .val (.long q1), .second, .unset, .unset, .unset, .unset, .unset, .unset, .unset, .unset] [])) (fun t kt => ?_) ?_
      · refine XS.lload X0.here hx rfl (hb hby at_47) rfl ?_
        show Steps p.tables e below (s₁.setTop (mkF m 49 #[.val (.long q1), .second, .val (.long q2), .second, .val (.int p3), .val (.long q1), .second, .val (.long q1), .second, .unset, .unset, .unset, .unset, .unset, .unset, .unset, .unset, .unset, .unset] [(.long q1)])) _
        refine XS.lstore X0.here hx rfl (hb hby at_49) rfl (l' := #[.val (.long q1), .second, .val (.long q2), .second, .val (.int p3), .val (.long q1), .second, .val (.long q1), .second, .val (.long q1), .second, .unset, .unset, .unset, .unset, .unset, .unset, .unset, .unset]) rfl ?_
        exact kt
      exact cont _ _ _ hc5_4 hc5_4
set_option maxRecDepth 65536 in
set_option maxHeartbeats 40000000 in
theorem comes_1 {Post : Tables → Env → Array Value → State → Outcome → State → Prop} (hpost : ∀ tb e args s v u, (limb_1_1.after args s (.returned v) u = true ∧ limb_1_2.after args s (.returned v) u = true ∧ True) → FrameEnd s (.returned v) u (Jvm.fieldLocs frame_1_writes args s ++ Jvm.arrayLocs frame_1_arrays args s ++ Jvm.staticLocs frame_1_statics s) 16 128 → Post tb e args s (.returned v) u) :
    ArmFor flags0 classFile x code maxLocals ret World_1 tables_1 room_1 Calls_1 rest_1 Pre_1 Post := by
  intro l hfl _ _ p e ha hc hk s m args below hf hA hF happ hP
  obtain ⟨hcalls, hrest, hpre⟩ := hP
  obtain ⟨-, -, -, hnamed, -, -, -, hat⟩ := (Spec.applies_iff hf).mp happ
  obtain ⟨hg, hn⟩ := and_e (Cond.before_iff.mp (show (Jvm.Cond.and given_1 narrow_1).before args s = true from hpre))
  obtain ⟨hcnt, hr0⟩ := and_e hg
  obtain ⟨ha0, hr1⟩ := and_e hr0
  obtain ⟨ha1, hr2⟩ := and_e hr1
  obtain ⟨w0, w1, w2, rfl⟩ : ∃ w0 w1 w2 : Value, args = #[w0, w1, w2] := by
    have hs : args.size = 3 := by simpa [Cond.value, given_1] using hcnt
    obtain ⟨L⟩ := args
    match L, hs with
    | [w0, w1, w2], _ => exact ⟨w0, w1, w2, rfl⟩
  have hw := fun d (hd : d ∈ tables_1) => atoms_spec (ws := Jvm.Cond.code x code maxLocals ret :: tables_1) hat d (List.mem_cons_of_mem _ hd)
  obtain ⟨i0, ei0⟩ := isL_v ha0
  obtain rfl : w0 = (.long i0) := Option.some.inj ei0
  obtain ⟨i1, ei1⟩ := isL_v ha1
  obtain rfl : w1 = (.long i1) := Option.some.inj ei1
  obtain ⟨i2, ei2⟩ := is_v hr2
  obtain rfl : w2 = (.int i2) := Option.some.inj ei2
  obtain ⟨n, o, h1, h2, h3, _, L, rfl, ⟨rfl, N⟩, hq⟩ := rm0 l s _ hw tables_1 i0 i1 i2 s.heap s.heap.size (Nat.le_refl _) p e ha hc hk s m _ below hf ((Spec.applies_iff_loose hf).mp happ).1 ⟨rfl, State.Warmed39.refl s, rfl⟩ trivial
  refine ⟨n, _, h1, h2, h3, hpost _ _ _ _ _ _ ⟨Cond.after_iff.mpr rfl, Cond.after_iff.mpr (eq_i res_at (Term.int_eval (1)) rfl), trivial⟩ ⟨hq.1, hq.2.1, (hq.2.2.sift fun y hy => Or.inr (N y hy)).mono (by decide) (by decide)⟩⟩
theorem main_1_1 : Claimed_1_1 := comes_1 fun _ _ _ _ _ _ h hF => ⟨h.1, hF⟩
theorem main_1_2 : Claimed_1_2 := comes_1 fun _ _ _ _ _ _ h hF => ⟨h.2.1, hF⟩
end Jvm.Pilot.@@N@@
namespace Jvm.Pilot.@@N@@
open Jvm Jvm.ClassFile Sem Op Lib Jvm.Free Jvm.Stand Jvm.Pilot.@@N@@.Jvm.D
/-! MADE BY PROGRAM (witnessworld.py) out of the Statement's table words and the real class files: 15 classes; the members and pool entries that the words name. The judged class is class 1, her method 1. -/
namespace start1
open Jvm.ClassFile
def u (s : String) : CpInfo := .utf8 (stringToUtf16 s)
/-- a pool by its gaps: so many unusable entries, then the entry; so many at the end -/
def gap : Nat → List CpInfo → List CpInfo
  | 0, r => r
  | n + 1, r => .unusable :: gap n r
def poolList (es : List (Nat × CpInfo)) (last : Nat) : List CpInfo := es.foldr (fun e r => gap e.1 (e.2 :: r)) (gap last [])
def pool (es : List (Nat × CpInfo)) (last : Nat) : Array CpInfo := ⟨poolList es last⟩
def fileOf (pool : Array CpInfo) (this : Nat) (attrs : Array Attribute := #[]) (ms : Array MethodInfo := #[]) (fl : Nat := 33) (sup : Nat := 0) (ifs : Array Nat := #[]) (fds : Array FieldInfo := #[]) : ClassFile where
  minorVersion := 0
  majorVersion := 65
  constantPool := pool
  accessFlags := fl
  thisClass := this
  superClass := sup
  interfaces := ifs
  fields := fds
  methods := ms
  attributes := attrs
def plain (name : String) (sup : Option ClassId) : Class where
  name := name
  kind := .ordinary
  loader := none
  accessFlags := 33
  super := sup
  interfaces := #[]
  cf := none
  fields := #[]
  methods := #[]
  instanceTypes := #[]
  staticTypes := #[]
  resolved := #[]
  callSites := []
  init := .initialized
  statics := none
  mirror := none

def pool0 : Array CpInfo := pool [(5, u "<init>"), (0, u "()V"), (1, .class_ 10), (1, u "java/lang/Object")] 113

def k0c0 : Code := { maxStack := 0, maxLocals := 1, code := object_method_1_code, exceptionTable := #[], attributes := #[] }
def k0m0 : Method := { name := "<init>", desc := "()V", sig := { parameters := [], returnType := none }, accessFlags := 1, code := some k0c0 }
/-- java/lang/Object -/
def k0 : Class := { plain "java/lang/Object" none with
  accessFlags := 33
  interfaces := #[]
  cf := some (fileOf pool0 8 #[] #[{ accessFlags := 1, nameIndex := 5, descriptorIndex := 6, attributes := #[] }] 33 0 #[] #[])
  fields := #[]
  methods := #[k0m0]
  instanceTypes := #[]
  staticTypes := #[]
  resolved := Array.replicate 124 none
  statics := none }

def pool1 : Array CpInfo := pool [(2, .class_ 4), (1, u "java/lang/Object"), (0, u "<init>"), (0, u "()V"), (2, .long 9223372036854775808), (1, .long 9223372036854775807), (1, .long 9223372036854775809), (1, .class_ 16), (0, u "com/example/receivant/receivant/money/Amount"), (0, .methodref 15 18), (0, .nameAndType 5 19), (0, u "(J)V"), (0, .methodref 15 21), (0, .nameAndType 22 23), (0, u "min"), (0, u "(Lcom/example/receivant/receivant/money/Amount;Lcom/example/receivant/receivant/money/Amount;)Lcom/example/receivant/receivant/money/Amount;"), (0, .methodref 15 25), (0, .nameAndType 26 27), (0, u "cents"), (0, u "()J"), (0, .class_ 29), (0, u "com/example/receivant/receivant/money/AmountMinPinLaw"), (2, u "law"), (0, u "(JJI)Z")] 3

def k1m0 : Method := { name := "<init>", desc := "()V", sig := { parameters := [], returnType := none }, accessFlags := 1, code := none }
def k1c1 : Code := { maxStack := 4, maxLocals := 19, code := code, exceptionTable := #[], attributes := #[] }
def k1m1 : Method := { name := "law", desc := "(JJI)Z", sig := { parameters := [.long, .long, .int], returnType := some .boolean }, accessFlags := 9, code := some k1c1 }
/-- com/example/receivant/receivant/money/AmountMinPinLaw -/
def k1 : Class := { plain "com/example/receivant/receivant/money/AmountMinPinLaw" (some 0) with
  accessFlags := 49
  interfaces := #[]
  cf := some (fileOf pool1 28 #[] #[{ accessFlags := 1, nameIndex := 5, descriptorIndex := 6, attributes := #[] }, { accessFlags := 9, nameIndex := 32, descriptorIndex := 33, attributes := #[] }] 49 2 #[] #[])
  fields := #[]
  methods := #[k1m0, k1m1]
  instanceTypes := #[]
  staticTypes := #[]
  resolved := Array.replicate 37 none
  statics := none }

def pool2 : Array CpInfo := pool [(1, .methodref 2 3), (0, .class_ 4), (0, .nameAndType 5 6), (0, u "java/lang/Object"), (0, u "<init>"), (0, u "()V"), (0, .class_ 8), (0, u "java/lang/Record")] 13

def k2c0 : Code := { maxStack := 1, maxLocals := 1, code := jdk_30_method_1_code, exceptionTable := #[], attributes := #[] }
def k2m0 : Method := { name := "<init>", desc := "()V", sig := { parameters := [], returnType := none }, accessFlags := 4, code := some k2c0 }
/-- java/lang/Record -/
def k2 : Class := { plain "java/lang/Record" (some 0) with
  accessFlags := 1057
  interfaces := #[]
  cf := some (fileOf pool2 7 #[] #[{ accessFlags := 4, nameIndex := 5, descriptorIndex := 6, attributes := #[] }] 1057 2 #[] #[])
  fields := #[]
  methods := #[k2m0]
  instanceTypes := #[]
  staticTypes := #[]
  resolved := Array.replicate 22 none
  statics := none }

def pool3 : Array CpInfo := pool [(1, .class_ 2), (0, u "java/lang/Comparable"), (0, .class_ 4), (0, u "java/lang/Object")] 7

/-- java/lang/Comparable -/
def k3 : Class := { plain "java/lang/Comparable" (some 0) with
  accessFlags := 1537
  interfaces := #[]
  cf := some (fileOf pool3 1 #[] #[] 1537 3 #[] #[])
  fields := #[]
  methods := #[]
  instanceTypes := #[]
  staticTypes := #[]
  resolved := Array.replicate 12 none
  statics := none }

def pool4 : Array CpInfo := pool [(1, .methodref 2 3), (0, .class_ 4), (0, .nameAndType 5 6), (0, u "java/lang/Record"), (0, u "<init>"), (0, u "()V"), (0, .class_ 8), (0, u "java/lang/Long"), (0, .long 9223372036854775808), (3, .class_ 14), (0, u "com/example/receivant/receivant/money/Amount"), (5, .fieldref 13 21), (0, .nameAndType 22 23), (0, u "cents"), (0, u "J"), (10, u "(J)V"), (6, u "ZERO"), (0, u "Lcom/example/receivant/receivant/money/Amount;"), (0, .methodref 13 44), (0, .nameAndType 45 46), (0, u "compareTo"), (0, u "(Lcom/example/receivant/receivant/money/Amount;)I"), (38, .methodref 7 86), (0, .nameAndType 87 88), (0, u "compare"), (0, u "(JJ)I"), (17, u "()J"), (11, u "MAX"), (0, .class_ 120), (0, u "java/lang/Comparable"), (0, u "DECIMALS"), (0, u "I"), (2, u "OUT_OF_RANGE"), (0, u "Ljava/lang/String;"), (13, u "min"), (0, u "(Lcom/example/receivant/receivant/money/Amount;Lcom/example/receivant/receivant/money/Amount;)Lcom/example/receivant/receivant/money/Amount;")] 26

def k4c0 : Code := { maxStack := 4, maxLocals := 3, code := prog_22_method_1_code, exceptionTable := #[], attributes := #[] }
def k4m0 : Method := { name := "<init>", desc := "(J)V", sig := { parameters := [.long], returnType := none }, accessFlags := 1, code := some k4c0 }
def k4c1 : Code := { maxStack := 2, maxLocals := 2, code := prog_22_method_9_code, exceptionTable := #[], attributes := #[] }
def k4m1 : Method := { name := "min", desc := "(Lcom/example/receivant/receivant/money/Amount;Lcom/example/receivant/receivant/money/Amount;)Lcom/example/receivant/receivant/money/Amount;", sig := { parameters := [(.object "com/example/receivant/receivant/money/Amount"), (.object "com/example/receivant/receivant/money/Amount")], returnType := some (.object "com/example/receivant/receivant/money/Amount") }, accessFlags := 9, code := some k4c1 }
def k4c2 : Code := { maxStack := 4, maxLocals := 2, code := prog_22_method_11_code, exceptionTable := #[], attributes := #[] }
def k4m2 : Method := { name := "compareTo", desc := "(Lcom/example/receivant/receivant/money/Amount;)I", sig := { parameters := [(.object "com/example/receivant/receivant/money/Amount")], returnType := some .int }, accessFlags := 1, code := some k4c2 }
def k4c3 : Code := { maxStack := 2, maxLocals := 1, code := prog_22_method_16_code, exceptionTable := #[], attributes := #[] }
def k4m3 : Method := { name := "cents", desc := "()J", sig := { parameters := [], returnType := some .long }, accessFlags := 1, code := some k4c3 }
/-- com/example/receivant/receivant/money/Amount -/
def k4 : Class := { plain "com/example/receivant/receivant/money/Amount" (some 2) with
  accessFlags := 49
  interfaces := #[3]
  cf := some (fileOf pool4 13 #[] #[{ accessFlags := 1, nameIndex := 5, descriptorIndex := 34, attributes := #[] }, { accessFlags := 9, nameIndex := 140, descriptorIndex := 141, attributes := #[] }, { accessFlags := 1, nameIndex := 45, descriptorIndex := 46, attributes := #[] }, { accessFlags := 1, nameIndex := 22, descriptorIndex := 106, attributes := #[] }] 49 2 #[119] #[{ accessFlags := 18, nameIndex := 22, descriptorIndex := 23, attributes := #[] }, { accessFlags := 25, nameIndex := 41, descriptorIndex := 42, attributes := #[] }, { accessFlags := 25, nameIndex := 118, descriptorIndex := 42, attributes := #[] }, { accessFlags := 26, nameIndex := 121, descriptorIndex := 122, attributes := #[] }, { accessFlags := 26, nameIndex := 125, descriptorIndex := 126, attributes := #[] }])
  fields := #[{ name := "cents", type := .long, accessFlags := 18, slot := 0, constantValue := 0 }, { name := "ZERO", type := (.object "com/example/receivant/receivant/money/Amount"), accessFlags := 25, slot := 0, constantValue := 0 }, { name := "MAX", type := (.object "com/example/receivant/receivant/money/Amount"), accessFlags := 25, slot := 1, constantValue := 0 }, { name := "DECIMALS", type := .int, accessFlags := 26, slot := 2, constantValue := 0 }, { name := "OUT_OF_RANGE", type := (.object "java/lang/String"), accessFlags := 26, slot := 3, constantValue := 0 }]
  methods := #[k4m0, k4m1, k4m2, k4m3]
  instanceTypes := #[.long]
  staticTypes := #[(.object "com/example/receivant/receivant/money/Amount"), (.object "com/example/receivant/receivant/money/Amount"), .int, (.object "java/lang/String")]
  resolved := Array.replicate 168 none
  statics := none }

def pool5 : Array CpInfo := pool [(1, .class_ 2), (0, u "java/io/Serializable"), (0, .class_ 4), (0, u "java/lang/Object")] 2

/-- java/io/Serializable -/
def k5 : Class := { plain "java/io/Serializable" (some 0) with
  accessFlags := 1537
  interfaces := #[]
  cf := some (fileOf pool5 1 #[] #[] 1537 3 #[] #[])
  fields := #[]
  methods := #[]
  instanceTypes := #[]
  staticTypes := #[]
  resolved := Array.replicate 7 none
  statics := none }

def pool6 : Array CpInfo := pool [(2, .class_ 4), (1, u "java/lang/Object"), (0, u "<init>"), (0, u "()V"), (1, .class_ 10), (1, u "java/lang/Number"), (2, .class_ 14), (0, u "java/io/Serializable"), (0, u "serialVersionUID"), (0, u "J")] 20

def k6m0 : Method := { name := "<init>", desc := "()V", sig := { parameters := [], returnType := none }, accessFlags := 1, code := none }
/-- java/lang/Number -/
def k6 : Class := { plain "java/lang/Number" (some 0) with
  accessFlags := 1057
  interfaces := #[5]
  cf := some (fileOf pool6 8 #[] #[{ accessFlags := 1, nameIndex := 5, descriptorIndex := 6, attributes := #[] }] 1057 2 #[13] #[{ accessFlags := 26, nameIndex := 15, descriptorIndex := 16, attributes := #[] }])
  fields := #[{ name := "serialVersionUID", type := .long, accessFlags := 26, slot := 0, constantValue := 0 }]
  methods := #[k6m0]
  instanceTypes := #[]
  staticTypes := #[.long]
  resolved := Array.replicate 37 none
  statics := none }

def pool7 : Array CpInfo := pool [(1, .class_ 2), (0, u "java/lang/constant/Constable"), (0, .class_ 4), (0, u "java/lang/Object")] 6

/-- java/lang/constant/Constable -/
def k7 : Class := { plain "java/lang/constant/Constable" (some 0) with
  accessFlags := 1537
  interfaces := #[]
  cf := some (fileOf pool7 1 #[] #[] 1537 3 #[] #[])
  fields := #[]
  methods := #[]
  instanceTypes := #[]
  staticTypes := #[]
  resolved := Array.replicate 11 none
  statics := none }

def pool8 : Array CpInfo := pool [(1, .class_ 2), (0, u "java/lang/constant/ConstantDesc"), (0, .class_ 4), (0, u "java/lang/Object")] 32

/-- java/lang/constant/ConstantDesc -/
def k8 : Class := { plain "java/lang/constant/ConstantDesc" (some 0) with
  accessFlags := 1537
  interfaces := #[]
  cf := some (fileOf pool8 1 #[] #[] 1537 3 #[] #[])
  fields := #[]
  methods := #[]
  instanceTypes := #[]
  staticTypes := #[]
  resolved := Array.replicate 37 none
  statics := none }

def pool9 : Array CpInfo := pool [(1, .class_ 2), (0, u "java/lang/Long"), (232, .class_ 237), (1, u "java/lang/Long$LongCache"), (33, .class_ 272), (0, u "java/lang/Number"), (2, u "value"), (0, u "J"), (27, u "compare"), (0, u "(JJ)I"), (55, u "TYPE"), (0, u "Ljava/lang/Class;"), (0, .class_ 364), (0, u "java/lang/Comparable"), (0, .class_ 366), (0, u "java/lang/constant/Constable"), (0, .class_ 368), (0, u "java/lang/constant/ConstantDesc"), (0, u "MIN_VALUE"), (1, u "MAX_VALUE"), (4, u "SIZE"), (0, u "I"), (1, u "BYTES"), (1, u "serialVersionUID")] 142

def k9c0 : Code := { maxStack := 4, maxLocals := 4, code := jdk_35_method_42_code, exceptionTable := #[], attributes := #[] }
def k9m0 : Method := { name := "compare", desc := "(JJ)I", sig := { parameters := [.long, .long], returnType := some .int }, accessFlags := 9, code := some k9c0 }
/-- java/lang/Long -/
def k9 : Class := { plain "java/lang/Long" (some 6) with
  accessFlags := 49
  interfaces := #[3, 7, 8]
  cf := some (fileOf pool9 1 #[.nestMembers #[235]] #[{ accessFlags := 9, nameIndex := 304, descriptorIndex := 305, attributes := #[] }] 49 271 #[363, 365, 367] #[{ accessFlags := 25, nameIndex := 369, descriptorIndex := 276, attributes := #[] }, { accessFlags := 25, nameIndex := 371, descriptorIndex := 276, attributes := #[] }, { accessFlags := 25, nameIndex := 361, descriptorIndex := 362, attributes := #[] }, { accessFlags := 18, nameIndex := 275, descriptorIndex := 276, attributes := #[] }, { accessFlags := 25, nameIndex := 376, descriptorIndex := 377, attributes := #[] }, { accessFlags := 25, nameIndex := 379, descriptorIndex := 377, attributes := #[] }, { accessFlags := 26, nameIndex := 381, descriptorIndex := 276, attributes := #[] }])
  fields := #[{ name := "MIN_VALUE", type := .long, accessFlags := 25, slot := 0, constantValue := 0 }, { name := "MAX_VALUE", type := .long, accessFlags := 25, slot := 1, constantValue := 0 }, { name := "TYPE", type := (.object "java/lang/Class"), accessFlags := 25, slot := 2, constantValue := 0 }, { name := "value", type := .long, accessFlags := 18, slot := 0, constantValue := 0 }, { name := "SIZE", type := .int, accessFlags := 25, slot := 3, constantValue := 0 }, { name := "BYTES", type := .int, accessFlags := 25, slot := 4, constantValue := 0 }, { name := "serialVersionUID", type := .long, accessFlags := 26, slot := 5, constantValue := 0 }]
  methods := #[k9m0]
  instanceTypes := #[.long]
  staticTypes := #[.long, .long, (.object "java/lang/Class"), .int, .int, .long]
  resolved := Array.replicate 524 none
  statics := none }

def pool10 : Array CpInfo := pool [(1, u "java/lang/Cloneable"), (0, .class_ 1), (0, u "java/lang/Object"), (0, .class_ 3)] 3

/-- java/lang/Cloneable -/
def k10 : Class := { plain "java/lang/Cloneable" (some 0) with
  accessFlags := 1537
  interfaces := #[]
  cf := some (fileOf pool10 2 #[] #[] 1537 4 #[] #[])
  fields := #[]
  methods := #[]
  instanceTypes := #[]
  staticTypes := #[]
  resolved := Array.replicate 8 none
  statics := none }

/-- the primitive byte -/
def k11 : Class := { plain "byte" none with kind := .primitive 'B', accessFlags := 0x411 }
/-- [B -/
def k12 : Class := { plain "[B" (some 0) with kind := .array 11 .byte, interfaces := #[10, 5], accessFlags := 1041 }

/-- the primitive int -/
def k13 : Class := { plain "int" none with kind := .primitive 'I', accessFlags := 0x411 }
/-- [I -/
def k14 : Class := { plain "[I" (some 0) with kind := .array 13 .int, interfaces := #[10, 5], accessFlags := 1041 }

def heap : Heap := #[]
def classes : Array Class := #[k0, k1, k2, k3, k4, k5, k6, k7, k8, k9, k10, k11, k12, k13, k14]
def interned : List (Array UInt16 × Addr) := []
def slotsUsed : Nat := 0
def theMethod : MethodId := ⟨1, 1⟩
def args0 : Array Value := #[.long 5, .long 7, .int 3]
def aboutOver (below : List Frame) : State where
  vm := { classes := classes, interned := interned.toArray }
  heap := heap
  slotsUsed := slotsUsed
  threads := #[{ frames := .invoking theMethod args0 :: below }]
def below0 : List Frame := [.native { method := ⟨0, 0⟩, args := #[] }]
def about1 : State := aboutOver below0
def p0 : Program := .bare "" "" ""
def e0 : Env := launch0.env 0 0 0
theorem w_frames : about1.frames = Frame.invoking theMethod args0 :: below0 := rfl
set_option maxRecDepth 65536 in
theorem w_args : argsFit about1.vm theMethod args0 = true := by decide +kernel
set_option maxRecDepth 65536 in
theorem w_heap : heapFits about1 = true := by decide +kernel
set_option maxRecDepth 65536 in
theorem w_runnable : about1.curStatus? = some .runnable := by decide +kernel
set_option maxRecDepth 65536 in
theorem w_alone : about1.alone = true := by decide +kernel
set_option maxRecDepth 65536 in
theorem w_named : about1.methodNamed? x = some theMethod := by decide +kernel
set_option maxRecDepth 65536 in
theorem w_hears : about1.hears theMethod below0 = true := by decide +kernel
set_option maxRecDepth 65536 in
theorem w_ripe : about1.ripe theMethod args0 below0 = true := by decide +kernel
theorem w_running : about1.status = .running := rfl
set_option maxRecDepth 65536 in
theorem w_room : about1.hasRoom e0.platform room_1 = true :=
  launch0.hasRoom_least _ room_1 (by decide +kernel) (by decide +kernel) (by decide +kernel) (by decide +kernel) (by decide +kernel) (by decide +kernel)
theorem allAtoms_all (ts : List Jvm.Cond) (a : Array Jvm.Value) (st : Jvm.State) : (allAtoms ts).before a st = ts.all (fun c => c.before a st) := by
  induction ts with
  | nil => rfl
  | cons c t ih =>
    show (Jvm.Cond.and c (allAtoms t)).before a st = _
    rw [Jvm.Cond.before_and, ih, List.all_cons]
def words1 : List Jvm.Cond := Jvm.Cond.code x code maxLocals ret :: tables_1
/-- a 'code' word, met by the world's own term for the bytes: nothing is compared byte by byte -/
theorem code_word {y : MethodName} {bytes : ByteArray} {mx : Nat} {rt : Option FieldType} {a : Array Value} {s : State} {m : MethodId} {meth : Method} {c : Code} (h1 : s.methodNamed? y = some m) (h2 : s.vm.method? m = some meth) (h3 : meth.code = some c) (h4 : c.code = bytes)
    (h5 : (c.maxLocals == mx && c.exceptionTable.isEmpty && decide (c.maxStack ≤ mostOperands) && decide (meth.sig.returnType = rt) && !meth.locks && decide (parseMethodDescriptor y.desc = some meth.sig)) = true) : (Jvm.Cond.code y bytes mx rt).before a s = true := by
  simp only [Bool.and_eq_true, beq_iff_eq, Bool.not_eq_true', decide_eq_true_eq] at h5
  obtain ⟨⟨⟨⟨⟨g1, g2⟩, g3⟩, g4⟩, g5⟩, g6⟩ := h5
  simp [Cond.before, Cond.holds, Cond.value, h1, h2, h3, h4, g1, g2, g3, g4, g5, g6]
def isCode : Jvm.Cond → Bool
  | .code _ _ _ _ => true
  | _ => false
theorem all_split {L : List Jvm.Cond} {P : Jvm.Cond → Bool} (h1 : L.all (fun c => isCode c || P c) = true) (h2 : ∀ c ∈ L.filter isCode, P c = true) : L.all P = true := by
  refine List.all_eq_true.mpr fun c hc => ?_
  have h := List.all_eq_true.mp h1 c hc
  rcases Bool.eq_false_or_eq_true (isCode c) with hi | hi
  · exact h2 c (List.mem_filter.mpr ⟨hc, hi⟩)
  · simpa [hi] using h
set_option maxRecDepth 65536 in
theorem w_c0 : (Jvm.Cond.code x code maxLocals ret).before args0 about1 = true := code_word (m := ⟨1, 1⟩) (meth := k1m1) (c := k1c1) (by decide +kernel) rfl rfl rfl (by decide +kernel)
set_option maxRecDepth 65536 in
theorem w_c1 : (Jvm.Cond.code ({ cls := "com/example/receivant/receivant/money/Amount", name := "<init>", desc := "(J)V" } : Jvm.MethodName) prog_22_method_1_code (3 : Nat) (Option.none : Option Jvm.ClassFile.FieldType)).before args0 about1 = true := code_word (m := ⟨4, 0⟩) (meth := k4m0) (c := k4c0) (by decide +kernel) rfl rfl rfl (by decide +kernel)
set_option maxRecDepth 65536 in
theorem w_c2 : (Jvm.Cond.code ({ cls := "java/lang/Record", name := "<init>", desc := "()V" } : Jvm.MethodName) jdk_30_method_1_code (1 : Nat) (Option.none : Option Jvm.ClassFile.FieldType)).before args0 about1 = true := code_word (m := ⟨2, 0⟩) (meth := k2m0) (c := k2c0) (by decide +kernel) rfl rfl rfl (by decide +kernel)
set_option maxRecDepth 65536 in
theorem w_c3 : (Jvm.Cond.code ({ cls := "java/lang/Object", name := "<init>", desc := "()V" } : Jvm.MethodName) object_method_1_code (1 : Nat) (Option.none : Option Jvm.ClassFile.FieldType)).before args0 about1 = true := code_word (m := ⟨0, 0⟩) (meth := k0m0) (c := k0c0) (by decide +kernel) rfl rfl rfl (by decide +kernel)
set_option maxRecDepth 65536 in
theorem w_c4 : (Jvm.Cond.code ({ cls := "com/example/receivant/receivant/money/Amount", name := "min", desc := "(Lcom/example/receivant/receivant/money/Amount;Lcom/example/receivant/receivant/money/Amount;)Lcom/example/receivant/receivant/money/Amount;" } : Jvm.MethodName) prog_22_method_9_code (2 : Nat) (Option.some (Jvm.ClassFile.FieldType.object "com/example/receivant/receivant/money/Amount"))).before args0 about1 = true := code_word (m := ⟨4, 1⟩) (meth := k4m1) (c := k4c1) (by decide +kernel) rfl rfl rfl (by decide +kernel)
set_option maxRecDepth 65536 in
theorem w_c5 : (Jvm.Cond.code ({ cls := "com/example/receivant/receivant/money/Amount", name := "compareTo", desc := "(Lcom/example/receivant/receivant/money/Amount;)I" } : Jvm.MethodName) prog_22_method_11_code (2 : Nat) (Option.some Jvm.ClassFile.FieldType.int)).before args0 about1 = true := code_word (m := ⟨4, 2⟩) (meth := k4m2) (c := k4c2) (by decide +kernel) rfl rfl rfl (by decide +kernel)
set_option maxRecDepth 65536 in
theorem w_c6 : (Jvm.Cond.code ({ cls := "java/lang/Long", name := "compare", desc := "(JJ)I" } : Jvm.MethodName) jdk_35_method_42_code (4 : Nat) (Option.some Jvm.ClassFile.FieldType.int)).before args0 about1 = true := code_word (m := ⟨9, 0⟩) (meth := k9m0) (c := k9c0) (by decide +kernel) rfl rfl rfl (by decide +kernel)
set_option maxRecDepth 65536 in
theorem w_c7 : (Jvm.Cond.code ({ cls := "com/example/receivant/receivant/money/Amount", name := "cents", desc := "()J" } : Jvm.MethodName) prog_22_method_16_code (1 : Nat) (Option.some Jvm.ClassFile.FieldType.long)).before args0 about1 = true := code_word (m := ⟨4, 3⟩) (meth := k4m3) (c := k4c3) (by decide +kernel) rfl rfl rfl (by decide +kernel)
def codes1 : List Jvm.Cond := [Jvm.Cond.code x code maxLocals ret, Jvm.Cond.code ({ cls := "com/example/receivant/receivant/money/Amount", name := "<init>", desc := "(J)V" } : Jvm.MethodName) prog_22_method_1_code (3 : Nat) (Option.none : Option Jvm.ClassFile.FieldType), Jvm.Cond.code ({ cls := "java/lang/Record", name := "<init>", desc := "()V" } : Jvm.MethodName) jdk_30_method_1_code (1 : Nat) (Option.none : Option Jvm.ClassFile.FieldType), Jvm.Cond.code ({ cls := "java/lang/Object", name := "<init>", desc := "()V" } : Jvm.MethodName) object_method_1_code (1 : Nat) (Option.none : Option Jvm.ClassFile.FieldType), Jvm.Cond.code ({ cls := "com/example/receivant/receivant/money/Amount", name := "min", desc := "(Lcom/example/receivant/receivant/money/Amount;Lcom/example/receivant/receivant/money/Amount;)Lcom/example/receivant/receivant/money/Amount;" } : Jvm.MethodName) prog_22_method_9_code (2 : Nat) (Option.some (Jvm.ClassFile.FieldType.object "com/example/receivant/receivant/money/Amount")), Jvm.Cond.code ({ cls := "com/example/receivant/receivant/money/Amount", name := "compareTo", desc := "(Lcom/example/receivant/receivant/money/Amount;)I" } : Jvm.MethodName) prog_22_method_11_code (2 : Nat) (Option.some Jvm.ClassFile.FieldType.int), Jvm.Cond.code ({ cls := "java/lang/Long", name := "compare", desc := "(JJ)I" } : Jvm.MethodName) jdk_35_method_42_code (4 : Nat) (Option.some Jvm.ClassFile.FieldType.int), Jvm.Cond.code ({ cls := "com/example/receivant/receivant/money/Amount", name := "cents", desc := "()J" } : Jvm.MethodName) prog_22_method_16_code (1 : Nat) (Option.some Jvm.ClassFile.FieldType.long)]
set_option maxRecDepth 65536 in
theorem codes_eq : words1.filter isCode = codes1 := rfl
theorem w_codes : ∀ c ∈ words1.filter isCode, c.before args0 about1 = true := by
  rw [codes_eq]
  intro c hc
  simp only [codes1, List.mem_cons, List.not_mem_nil, or_false] at hc
  rcases hc with rfl | rfl | rfl | rfl | rfl | rfl | rfl | rfl
  · exact w_c0
  · exact w_c1
  · exact w_c2
  · exact w_c3
  · exact w_c4
  · exact w_c5
  · exact w_c6
  · exact w_c7
set_option maxRecDepth 65536 in
theorem w_t1 : (words1.take 24).all (fun c => isCode c || c.before args0 about1) = true := by decide +kernel
set_option maxRecDepth 65536 in
theorem w_t2 : (words1.drop 24).all (fun c => isCode c || c.before args0 about1) = true := by decide +kernel
theorem w_tables : (allAtoms (Jvm.Cond.code x code maxLocals ret :: tables_1)).before args0 about1 = true := by
  rw [allAtoms_all]
  show words1.all (fun c => c.before args0 about1) = true
  refine all_split ?_ w_codes
  rw [← List.take_append_drop 24 words1, List.all_append, w_t1, w_t2]
  rfl
set_option maxRecDepth 65536 in
theorem w_case : (Jvm.Cond.and given_1 narrow_1).before args0 about1 = true := by decide +kernel
theorem w_applies : (headSpec (Jvm.Cond.code x code maxLocals ret :: tables_1) room_1).applies x e0.platform about1 = true :=
  (Spec.applies_iff w_frames).mpr ⟨w_running, w_runnable, w_alone, w_named, w_hears, w_ripe, w_room, w_tables⟩
theorem atStart : AtStart classFile x code maxLocals ret World_1 tables_1 room_1 Calls_1 rest_1 Pre_1 launch0 p0 e0 about1 theMethod args0 below0 :=
  ⟨lists_1, trivial, launch0.admits_env _ _ _, launch0.least_env, fairChoices_fair.cas, fairChoices_fair.clock, w_frames, w_args, w_heap, w_applies, trivial, trivial, w_case⟩
end start1
theorem witness_1 : WitnessClaimed_1 := ⟨start1.p0, start1.e0, start1.about1, start1.theMethod, start1.args0, start1.below0, start1.atStart⟩
end Jvm.Pilot.@@N@@
