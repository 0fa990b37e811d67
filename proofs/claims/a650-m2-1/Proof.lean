import JvmDerived
import JvmDerived.Pilot.@@N@@Statement
import JvmDerived.Pilot.@@N@@Code
set_option linter.unusedVariables false
set_option linter.unusedSimpArgs false
namespace Jvm.RoadKit
open Sem ClassFile Op Lib Jvm.Stand Jvm.Free Jvm.LawKit
section New
variable {p : Program} {l : Launch} {e : Env} {R : Room} {s : State} {m : MethodId} {args : Array Value} {below : List Frame} {meth : Method} {c : Code} {T : State} {locs : List Loc} {cells slots : Nat}
theorem retI (X : Stand p l e R s m args below meth c T locs cells slots) (hx : p.tables.exec = Jvm.exec) {pc : Nat} {Ls : Array Slot} {z : Int32} {rest : List Value} (hret : meth.sig.returnType = some .int) (hd : decode c.code pc = .ok (.ireturn, 1)) {fs : List Frame}
    (hl : ∀ (f : JFrame) (acts : List Action), f.method = m → f.locked = none → f.entered = [] → (doReturn e (T.setTop f) acts (some (.int z))).1 = T.setFrames fs) : Steps p.tables e below (T.setTop (mkF m pc Ls (.int z :: rest))) (T.setFrames fs) := by
  have hm' : T.vm.method? m = some meth := X.method'
  have hn : narrow .int (.int z) = .int z := rfl
  show Steps p.tables e below (T.setTop { method := m, pc := pc, locals := Ls, stack := _ :: rest, locked := none }) _
  jvm_step X.here [X.here.top, hx, hd, hm', hret, hn]
  first | (intro acts; rw [hl _ acts rfl rfl rfl]) | rw [hl _ _ rfl rfl rfl]
  exact Steps.refl _
end New
end Jvm.RoadKit
namespace Jvm.Pilot.@@N@@
open Jvm Jvm.ClassFile Sem Op Lib Jvm.Free Jvm.Stand Jvm.LawKit Jvm.RoadKit Bundle Jvm.Pilot.@@N@@.Jvm.D
def Goes (tb : Tables) (e : Env) (below : List Frame) (Q : Outcome → State → Prop) (A : State) : Prop := ∃ s₂ o, Steps tb e below A s₂ ∧ s₂.status = .running ∧ Ended s₂ below o ∧ Q o s₂
theorem Goes.step {tb : Tables} {e : Env} {below : List Frame} {Q : Outcome → State → Prop} {A B : State} (h : ∀ t, Steps tb e below A t → Steps tb e below B t) (k : Goes tb e below Q A) : Goes tb e below Q B := by
  obtain ⟨s₂, o, h1, h2⟩ := k
  exact ⟨s₂, o, h _ h1, h2⟩
theorem Goes.start {tb : Tables} {e : Env} {below : List Frame} {Q : Outcome → State → Prop} {A B : State} (h : ∀ t, Steps tb e below A t → Steps tb e below B t) (k : Goes tb e below Q A) : ∃ s₂ o, Steps tb e below B s₂ ∧ s₂.status = .running ∧ Ended s₂ below o ∧ Q o s₂ := Goes.step h k
theorem Goes.done {tb : Tables} {e : Env} {below : List Frame} {Q : Outcome → State → Prop} {A s₂ : State} {o : Outcome} (h1 : Steps tb e below A s₂) (h2 : s₂.status = .running) (h3 : Ended s₂ below o) (h4 : Q o s₂) : Goes tb e below Q A := ⟨s₂, o, h1, h2, h3, h4⟩
def nevF (x : Int64) : Int32 := if x = (9223372036854775807 : Int64) then 1 else 0
theorem own_nn (x : Int64) : ¬ ((x &&& (9223372036854775807 : Int64)) < (0 : Int64)) := by
  have e := c_maskL x 9223372036854775807 63 (by decide) (by decide)
  have z : (0 : Int64).toInt = 0 := by decide
  rw [Int64.lt_iff_toInt_lt, e, z]; have r := rng64 x; omega
theorem ef_2 (m : MethodId) (x0 : Addr) (x1 : Int32) (x2 : Int64) (x3 : Int64) (x4 : Int32) : entryFrame m #[(.ref x0), (.int x1), (.long x2), (.long x3), (.int x4)] 7 = mkF m 0 #[.val (.ref x0), .val (.int x1), .val (.long x2), .second, .val (.long x3), .second, .val (.int x4)] [] := by first | (simp [entryFrame, mkF, argsToLocals, Value.category]; done) | rfl
def Q2 (Z : State) (p0 : Addr) (p1 : Int32) (q2 : Int64) (q3 : Int64) (p4 : Int32) (h0 : Heap) (n0 : Nat) (v : Option Value) (h : Heap) (L : List Loc) : Prop := v = none ∧ Fr n0 L ∧ Keep h0 h [p0] ∧ Exa Z h p0 "com/example/inching_window/inchingwindow/Decision" ∧ Fld Z h p0 "com/example/inching_window/inchingwindow/Decision" "allowed" "Z" (.int (nar .boolean p1)) ∧ Fld Z h p0 "com/example/inching_window/inchingwindow/Decision" "remaining" "J" (.long q2) ∧ Fld Z h p0 "com/example/inching_window/inchingwindow/Decision" "retryAfterMillis" "J" (.long q3) ∧ Fld Z h p0 "com/example/inching_window/inchingwindow/Decision" "decidedByStore" "Z" (.int (nar .boolean p4))
theorem d2_0 : decode prog_2_method_1_code 0 = .ok (.aload_n 0, 1) := by decide +kernel
theorem d2_1 : decode prog_2_method_1_code 1 = .ok (.invokespecial 3, 3) := by decide +kernel
theorem d2_4 : decode prog_2_method_1_code 4 = .ok (.lload_n 2, 1) := by decide +kernel
theorem d2_5 : decode prog_2_method_1_code 5 = .ok (.lconst 0, 1) := by decide +kernel
theorem d2_6 : decode prog_2_method_1_code 6 = .ok (.lcmp, 1) := by decide +kernel
theorem d2_7 : decode prog_2_method_1_code 7 = .ok (.ifCond .ge 17, 3) := by decide +kernel
theorem d2_24 : decode prog_2_method_1_code 24 = .ok (.aload_n 0, 1) := by decide +kernel
theorem d2_25 : decode prog_2_method_1_code 25 = .ok (.iload_n 1, 1) := by decide +kernel
theorem d2_26 : decode prog_2_method_1_code 26 = .ok (.putfield 18, 3) := by decide +kernel
theorem d2_29 : decode prog_2_method_1_code 29 = .ok (.aload_n 0, 1) := by decide +kernel
theorem d2_30 : decode prog_2_method_1_code 30 = .ok (.lload_n 2, 1) := by decide +kernel
theorem d2_31 : decode prog_2_method_1_code 31 = .ok (.putfield 24, 3) := by decide +kernel
theorem d2_34 : decode prog_2_method_1_code 34 = .ok (.aload_n 0, 1) := by decide +kernel
theorem d2_35 : decode prog_2_method_1_code 35 = .ok (.lload 4, 2) := by decide +kernel
theorem d2_37 : decode prog_2_method_1_code 37 = .ok (.putfield 28, 3) := by decide +kernel
theorem d2_40 : decode prog_2_method_1_code 40 = .ok (.aload_n 0, 1) := by decide +kernel
theorem d2_41 : decode prog_2_method_1_code 41 = .ok (.iload 6, 2) := by decide +kernel
theorem d2_43 : decode prog_2_method_1_code 43 = .ok (.putfield 31, 3) := by decide +kernel
theorem d2_46 : decode prog_2_method_1_code 46 = .ok (.return_, 1) := by decide +kernel
theorem pn_2 : plainName "com/example/inching_window/inchingwindow/Decision" = true := by first | (simp [plainName, overriddenIn]; done) | decide +kernel
set_option maxRecDepth 65536 in
set_option maxHeartbeats 40000000 in
theorem rm2 (l : Launch) (Z : State) (a0 : Array Value) (hw : ∀ d ∈ tables_1, d.before a0 Z = true) (ws : List Jvm.Cond) (p0 : Addr) (p1 : Int32) (q2 : Int64) (q3 : Int64) (p4 : Int32) (h0 : Heap) (n0 : Nat) (Z0 : n0 ≤ h0.size) (F_allowed : Fld Z h0 p0 "com/example/inching_window/inchingwindow/Decision" "allowed" "Z" (.int (0 : Int32))) (F_remaining : Fld Z h0 p0 "com/example/inching_window/inchingwindow/Decision" "remaining" "J" (.long (0 : Int64))) (F_retryAfterMillis : Fld Z h0 p0 "com/example/inching_window/inchingwindow/Decision" "retryAfterMillis" "J" (.long (0 : Int64))) (F_decidedByStore : Fld Z h0 p0 "com/example/inching_window/inchingwindow/Decision" "decidedByStore" "Z" (.int (0 : Int32))) (E7 : Exa Z h0 p0 "com/example/inching_window/inchingwindow/Decision") (g9 : n0 ≤ p0) (hne : ¬ (q2 < (0 : Int64))) :
    MetFree l (⟨"com/example/inching_window/inchingwindow/Decision", "<init>", "(ZJJZ)V"⟩ : MethodName) (head1 (Jvm.Cond.code (⟨"com/example/inching_window/inchingwindow/Decision", "<init>", "(ZJJZ)V"⟩ : MethodName) prog_2_method_1_code 7 none :: ws) ({ frames := 1, cells := 0, slots := 0, locals := 12 } : Room)) (fun a U => a = #[(.ref p0), (.int p1), (.long q2), (.long q3), (.int p4)] ∧ Z.Warmed39 U.vm ∧ U.heap = h0) (fun _ _ _ _ _ => True) (fun _ U o U' => ∃ v L, o = .returned v ∧ Q2 Z p0 p1 q2 q3 p4 h0 n0 v U'.heap L ∧ FrameEnd U o U' L ({ frames := 1, cells := 0, slots := 0, locals := 12 } : Room).cells ({ frames := 1, cells := 0, slots := 0, locals := 12 } : Room).slots) := by
  refine MetFree.of_bodySF (plainFor_of_name pn_2) hisR ?_
  intro p e s m args below meth c s₁ Bd hml0 hP hK
  obtain ⟨rfl, hZ, hh⟩ := hP
  have hx := Bd.exec
  have hby := Bd.bytes
  have hml : c.maxLocals = 7 := hml0
  have hown : s.vm.findClass "com/example/inching_window/inchingwindow/Decision" = some m.cls := findClass_of_methodNamed Bd.named
  have hnm := (name_of_methodNamed Bd.named Bd.method).1
  have X0 : Stand p l e ({ frames := 1, cells := 0, slots := 0, locals := 12 } : Room) s m #[(.ref p0), (.int p1), (.long q2), (.long q3), (.int p4)] below meth c s₁ [] 0 0 := Stand.of_body Bd
  have e0 : s₁.heap = h0 := by rw [← hh, Bd.state]; rfl
  have N0 := Fr.nil n0
  refine Goes.start (Q := (fun o U' => ∃ v L, o = .returned v ∧ Q2 Z p0 p1 q2 q3 p4 h0 n0 v U'.heap L ∧ FrameEnd s o U' L ({ frames := 1, cells := 0, slots := 0, locals := 12 } : Room).cells ({ frames := 1, cells := 0, slots := 0, locals := 12 } : Room).slots)) (A := s₁.setTop (mkF m 0 #[.val (.ref p0), .val (.int p1), .val (.long q2), .second, .val (.long q3), .second, .val (.int p4)] [])) (fun t k => castTop (ef_2 m p0 p1 q2 q3 p4) k) ?_
  refine Goes.step (A := s₁.setTop (mkF m 1 #[.val (.ref p0), .val (.int p1), .val (.long q2), .second, .val (.long q3), .second, .val (.int p4)] [(.ref p0)])) (fun t kt => ?_) ?_
  · refine XS.aloadN X0.here hx rfl (hb hby d2_0) rfl rfl ?_
    exact kt
  obtain ⟨T1, X1, e1, st1⟩ := initO X0 hx hZ hown (hw _ (List.mem_of_getElem? (i := 11) rfl)) (hw _ (List.mem_of_getElem? (i := 12) rfl)) (hw _ (List.mem_of_getElem? (i := 13) rfl)) e0 (g := (mkF m 1 #[.val (.ref p0), .val (.int p1), .val (.long q2), .second, .val (.long q3), .second, .val (.int p4)] [(.ref p0)])) rfl (by rw [hml]; rfl) rfl (hb hby d2_1) (by decide) (W := 0) (by show 2 * 0 + _ ≤ _; exact Nat.le_of_eq rfl) (by decide)
  refine Goes.step (A := T1.setTop (mkF m 4 #[.val (.ref p0), .val (.int p1), .val (.long q2), .second, .val (.long q3), .second, .val (.int p4)] [])) (fun t kt => st1 _ kt) ?_
  refine Goes.step (A := T1.setTop (mkF m 7 #[.val (.ref p0), .val (.int p1), .val (.long q2), .second, .val (.long q3), .second, .val (.int p4)] [(.int (lcmpW q2 (0 : Int64)))])) (fun t kt => ?_) ?_
  · refine XS.lloadN X1.here hx rfl (hb hby d2_4) rfl ?_
    show Steps p.tables e below (T1.setTop (mkF m 5 #[.val (.ref p0), .val (.int p1), .val (.long q2), .second, .val (.long q3), .second, .val (.int p4)] [(.long q2)])) _
    refine XS.lconst X1.here hx rfl (hb hby d2_5) ?_
    show Steps p.tables e below (T1.setTop (mkF m 6 #[.val (.ref p0), .val (.int p1), .val (.long q2), .second, .val (.long q3), .second, .val (.int p4)] [(.long (0 : Int64)), (.long q2)])) _
    refine XS.lcmp X1.here hx rfl (hb hby d2_6) rfl ?_
    exact kt
  refine Goes.step (A := T1.setTop (mkF m 24 #[.val (.ref p0), .val (.int p1), .val (.long q2), .second, .val (.long q3), .second, .val (.int p4)] [])) (fun t kt => XS.ifYes X1.here hx rfl (pc0 := 7) (pc' := 24) rfl (hb hby d2_7) rfl ((if0 _ _).trans (flt (fun q => (hne : ¬ (q2 < (0 : Int64))) ((lw_lt _ _).mp q))).2.1) (by decide) (by decide) kt) ?_
  refine Goes.step (A := T1.setTop (mkF m 26 #[.val (.ref p0), .val (.int p1), .val (.long q2), .second, .val (.long q3), .second, .val (.int p4)] [(.int p1), (.ref p0)])) (fun t kt => ?_) ?_
  · refine XS.aloadN X1.here hx rfl (hb hby d2_24) rfl rfl ?_
    show Steps p.tables e below (T1.setTop (mkF m 25 #[.val (.ref p0), .val (.int p1), .val (.long q2), .second, .val (.long q3), .second, .val (.int p4)] [(.ref p0)])) _
    refine XS.iloadN X1.here hx rfl (hb hby d2_25) rfl ?_
    exact kt
  obtain ⟨T2, h2, X2, e2, W2, st2⟩ := putFN X1 hx hZ hown (hw _ (List.mem_of_getElem? (i := 14) rfl)) Via.refl e1 F_allowed E7 (Or.inr ⟨(hw _ (List.mem_of_getElem? (i := 15) rfl)), rfl, hnm⟩) (hw _ (List.mem_of_getElem? (i := 6) rfl)) (ty := .boolean) (v' := (.int (nar .boolean p1))) (by decide) rfl (fits_nar_bool _) (g := (mkF m 26 #[.val (.ref p0), .val (.int p1), .val (.long q2), .second, .val (.long q3), .second, .val (.int p4)] [(.int p1), (.ref p0)])) rfl rfl (hb hby d2_26)
  have N2 := Fr.snoc X2 N0 g9
  have E2_p0 := E7.wr W2
  have K2 := (Keep.refl h0 [p0]).wr W2 (Or.inl (List.mem_of_getElem? (i := 0) rfl))
  have F2_p0_allowed : Fld Z h2 p0 "com/example/inching_window/inchingwindow/Decision" "allowed" "Z" (.int (nar .boolean p1)) := F_allowed.same W2
  have F2_p0_remaining := F_remaining.other W2 (Or.inr (slot_ne (Or.inr (hw _ (List.mem_of_getElem? (i := 17) rfl))) (Or.inr (hw _ (List.mem_of_getElem? (i := 15) rfl))) (by decide) (t := .long) (t' := .boolean) (by decide) (by decide)))
  have F2_p0_retryAfterMillis := F_retryAfterMillis.other W2 (Or.inr (slot_ne (Or.inr (hw _ (List.mem_of_getElem? (i := 19) rfl))) (Or.inr (hw _ (List.mem_of_getElem? (i := 15) rfl))) (by decide) (t := .long) (t' := .boolean) (by decide) (by decide)))
  have F2_p0_decidedByStore := F_decidedByStore.other W2 (Or.inr (slot_ne (Or.inr (hw _ (List.mem_of_getElem? (i := 21) rfl))) (Or.inr (hw _ (List.mem_of_getElem? (i := 15) rfl))) (by decide) (t := .boolean) (t' := .boolean) (by decide) (by decide)))
  have Z2 : n0 ≤ h2.size := Nat.le_trans Z0 (Keep.of_wr W2).1
  refine Goes.step (A := T2.setTop (mkF m 29 #[.val (.ref p0), .val (.int p1), .val (.long q2), .second, .val (.long q3), .second, .val (.int p4)] [])) (fun t kt => st2 _ kt) ?_
  refine Goes.step (A := T2.setTop (mkF m 31 #[.val (.ref p0), .val (.int p1), .val (.long q2), .second, .val (.long q3), .second, .val (.int p4)] [(.long q2), (.ref p0)])) (fun t kt => ?_) ?_
  · refine XS.aloadN X2.here hx rfl (hb hby d2_29) rfl rfl ?_
    show Steps p.tables e below (T2.setTop (mkF m 30 #[.val (.ref p0), .val (.int p1), .val (.long q2), .second, .val (.long q3), .second, .val (.int p4)] [(.ref p0)])) _
    refine XS.lloadN X2.here hx rfl (hb hby d2_30) rfl ?_
    exact kt
  obtain ⟨T3, h3, X3, e3, W3, st3⟩ := putF X2 hx hZ hown (host := "") (Or.inl (hw _ (List.mem_of_getElem? (i := 16) rfl))) Via.refl e2 F2_p0_remaining E2_p0 (Or.inr ⟨(hw _ (List.mem_of_getElem? (i := 17) rfl)), rfl, hnm⟩) (hw _ (List.mem_of_getElem? (i := 6) rfl)) (ty := .long) (by decide) rfl rfl (g := (mkF m 31 #[.val (.ref p0), .val (.int p1), .val (.long q2), .second, .val (.long q3), .second, .val (.int p4)] [(.long q2), (.ref p0)])) rfl rfl (hb hby d2_31)
  have N3 := Fr.snoc X3 N2 g9
  have E3_p0 := E2_p0.wr W3
  have K3 := K2.wr W3 (Or.inl (List.mem_of_getElem? (i := 0) rfl))
  have F3_p0_allowed := F2_p0_allowed.other W3 (Or.inr (slot_ne (Or.inr (hw _ (List.mem_of_getElem? (i := 15) rfl))) (Or.inr (hw _ (List.mem_of_getElem? (i := 17) rfl))) (by decide) (t := .boolean) (t' := .long) (by decide) (by decide)))
  have F3_p0_remaining : Fld Z h3 p0 "com/example/inching_window/inchingwindow/Decision" "remaining" "J" (.long q2) := F2_p0_remaining.same W3
  have F3_p0_retryAfterMillis := F2_p0_retryAfterMillis.other W3 (Or.inr (slot_ne (Or.inr (hw _ (List.mem_of_getElem? (i := 19) rfl))) (Or.inr (hw _ (List.mem_of_getElem? (i := 17) rfl))) (by decide) (t := .long) (t' := .long) (by decide) (by decide)))
  have F3_p0_decidedByStore := F2_p0_decidedByStore.other W3 (Or.inr (slot_ne (Or.inr (hw _ (List.mem_of_getElem? (i := 21) rfl))) (Or.inr (hw _ (List.mem_of_getElem? (i := 17) rfl))) (by decide) (t := .boolean) (t' := .long) (by decide) (by decide)))
  have Z3 : n0 ≤ h3.size := Nat.le_trans Z2 (Keep.of_wr W3).1
  refine Goes.step (A := T3.setTop (mkF m 34 #[.val (.ref p0), .val (.int p1), .val (.long q2), .second, .val (.long q3), .second, .val (.int p4)] [])) (fun t kt => st3 _ kt) ?_
  refine Goes.step (A := T3.setTop (mkF m 37 #[.val (.ref p0), .val (.int p1), .val (.long q2), .second, .val (.long q3), .second, .val (.int p4)] [(.long q3), (.ref p0)])) (fun t kt => ?_) ?_
  · refine XS.aloadN X3.here hx rfl (hb hby d2_34) rfl rfl ?_
    show Steps p.tables e below (T3.setTop (mkF m 35 #[.val (.ref p0), .val (.int p1), .val (.long q2), .second, .val (.long q3), .second, .val (.int p4)] [(.ref p0)])) _
    refine XS.lload X3.here hx rfl (hb hby d2_35) rfl ?_
    exact kt
  obtain ⟨T4, h4, X4, e4, W4, st4⟩ := putF X3 hx hZ hown (host := "") (Or.inl (hw _ (List.mem_of_getElem? (i := 18) rfl))) Via.refl e3 F3_p0_retryAfterMillis E3_p0 (Or.inr ⟨(hw _ (List.mem_of_getElem? (i := 19) rfl)), rfl, hnm⟩) (hw _ (List.mem_of_getElem? (i := 6) rfl)) (ty := .long) (by decide) rfl rfl (g := (mkF m 37 #[.val (.ref p0), .val (.int p1), .val (.long q2), .second, .val (.long q3), .second, .val (.int p4)] [(.long q3), (.ref p0)])) rfl rfl (hb hby d2_37)
  have N4 := Fr.snoc X4 N3 g9
  have E4_p0 := E3_p0.wr W4
  have K4 := K3.wr W4 (Or.inl (List.mem_of_getElem? (i := 0) rfl))
  have F4_p0_allowed := F3_p0_allowed.other W4 (Or.inr (slot_ne (Or.inr (hw _ (List.mem_of_getElem? (i := 15) rfl))) (Or.inr (hw _ (List.mem_of_getElem? (i := 19) rfl))) (by decide) (t := .boolean) (t' := .long) (by decide) (by decide)))
  have F4_p0_remaining := F3_p0_remaining.other W4 (Or.inr (slot_ne (Or.inr (hw _ (List.mem_of_getElem? (i := 17) rfl))) (Or.inr (hw _ (List.mem_of_getElem? (i := 19) rfl))) (by decide) (t := .long) (t' := .long) (by decide) (by decide)))
  have F4_p0_retryAfterMillis : Fld Z h4 p0 "com/example/inching_window/inchingwindow/Decision" "retryAfterMillis" "J" (.long q3) := F3_p0_retryAfterMillis.same W4
  have F4_p0_decidedByStore := F3_p0_decidedByStore.other W4 (Or.inr (slot_ne (Or.inr (hw _ (List.mem_of_getElem? (i := 21) rfl))) (Or.inr (hw _ (List.mem_of_getElem? (i := 19) rfl))) (by decide) (t := .boolean) (t' := .long) (by decide) (by decide)))
  have Z4 : n0 ≤ h4.size := Nat.le_trans Z3 (Keep.of_wr W4).1
  refine Goes.step (A := T4.setTop (mkF m 40 #[.val (.ref p0), .val (.int p1), .val (.long q2), .second, .val (.long q3), .second, .val (.int p4)] [])) (fun t kt => st4 _ kt) ?_
  refine Goes.step (A := T4.setTop (mkF m 43 #[.val (.ref p0), .val (.int p1), .val (.long q2), .second, .val (.long q3), .second, .val (.int p4)] [(.int p4), (.ref p0)])) (fun t kt => ?_) ?_
  · refine XS.aloadN X4.here hx rfl (hb hby d2_40) rfl rfl ?_
    show Steps p.tables e below (T4.setTop (mkF m 41 #[.val (.ref p0), .val (.int p1), .val (.long q2), .second, .val (.long q3), .second, .val (.int p4)] [(.ref p0)])) _
    refine XS.iload X4.here hx rfl (hb hby d2_41) rfl ?_
    exact kt
  obtain ⟨T5, h5, X5, e5, W5, st5⟩ := putFN X4 hx hZ hown (hw _ (List.mem_of_getElem? (i := 20) rfl)) Via.refl e4 F4_p0_decidedByStore E4_p0 (Or.inr ⟨(hw _ (List.mem_of_getElem? (i := 21) rfl)), rfl, hnm⟩) (hw _ (List.mem_of_getElem? (i := 6) rfl)) (ty := .boolean) (v' := (.int (nar .boolean p4))) (by decide) rfl (fits_nar_bool _) (g := (mkF m 43 #[.val (.ref p0), .val (.int p1), .val (.long q2), .second, .val (.long q3), .second, .val (.int p4)] [(.int p4), (.ref p0)])) rfl rfl (hb hby d2_43)
  have N5 := Fr.snoc X5 N4 g9
  have E5_p0 := E4_p0.wr W5
  have K5 := K4.wr W5 (Or.inl (List.mem_of_getElem? (i := 0) rfl))
  have F5_p0_allowed := F4_p0_allowed.other W5 (Or.inr (slot_ne (Or.inr (hw _ (List.mem_of_getElem? (i := 15) rfl))) (Or.inr (hw _ (List.mem_of_getElem? (i := 21) rfl))) (by decide) (t := .boolean) (t' := .boolean) (by decide) (by decide)))
  have F5_p0_remaining := F4_p0_remaining.other W5 (Or.inr (slot_ne (Or.inr (hw _ (List.mem_of_getElem? (i := 17) rfl))) (Or.inr (hw _ (List.mem_of_getElem? (i := 21) rfl))) (by decide) (t := .long) (t' := .boolean) (by decide) (by decide)))
  have F5_p0_retryAfterMillis := F4_p0_retryAfterMillis.other W5 (Or.inr (slot_ne (Or.inr (hw _ (List.mem_of_getElem? (i := 19) rfl))) (Or.inr (hw _ (List.mem_of_getElem? (i := 21) rfl))) (by decide) (t := .long) (t' := .boolean) (by decide) (by decide)))
  have F5_p0_decidedByStore : Fld Z h5 p0 "com/example/inching_window/inchingwindow/Decision" "decidedByStore" "Z" (.int (nar .boolean p4)) := F4_p0_decidedByStore.same W5
  have Z5 : n0 ≤ h5.size := Nat.le_trans Z4 (Keep.of_wr W5).1
  refine Goes.step (A := T5.setTop (mkF m 46 #[.val (.ref p0), .val (.int p1), .val (.long q2), .second, .val (.long q3), .second, .val (.int p4)] [])) (fun t kt => st5 _ kt) ?_
  obtain ⟨fs, hr, hrun, hended, hW, hsame⟩ := X5.leave (v := none) (fun _ => rfl)
  refine Goes.done ?_ hrun hended ⟨_, _, rfl, ?_, ⟨_, rfl⟩, hW, hsame.mono (by decide) (by decide)⟩
  · exact X5.returnOut hx Bd.returns (hb hby d2_46) hr
  · show Q2 Z p0 p1 q2 q3 p4 h0 n0 _ T5.heap _
    rw [e5]
    exact ⟨rfl, N5, K5, E5_p0, F5_p0_allowed, F5_p0_remaining, F5_p0_retryAfterMillis, F5_p0_decidedByStore⟩
theorem ef_1 (m : MethodId) (x0 : Int64) : entryFrame m #[(.long x0)] 2 = mkF m 0 #[.val (.long x0), .second] [] := by first | (simp [entryFrame, mkF, argsToLocals, Value.category]; done) | rfl
def Q1 (Z : State) (q1 : Int64) (h0 : Heap) (n0 : Nat) (v : Option Value) (h : Heap) (L : List Loc) : Prop := ∃ b : Addr, v = some (.ref b) ∧ Fr n0 L ∧ n0 ≤ b ∧ Keep h0 h [] ∧ Exa Z h b "com/example/inching_window/inchingwindow/Decision" ∧ Fld Z h b "com/example/inching_window/inchingwindow/Decision" "allowed" "Z" (.int (0 : Int32)) ∧ Fld Z h b "com/example/inching_window/inchingwindow/Decision" "remaining" "J" (.long q1) ∧ Fld Z h b "com/example/inching_window/inchingwindow/Decision" "retryAfterMillis" "J" (.long (9223372036854775807 : Int64)) ∧ Fld Z h b "com/example/inching_window/inchingwindow/Decision" "decidedByStore" "Z" (.int (1 : Int32))
theorem d1_0 : decode prog_2_method_5_code 0 = .ok (.new 19, 3) := by decide +kernel
theorem d1_3 : decode prog_2_method_5_code 3 = .ok (.dup, 1) := by decide +kernel
theorem d1_4 : decode prog_2_method_5_code 4 = .ok (.iconst 0, 1) := by decide +kernel
theorem d1_5 : decode prog_2_method_5_code 5 = .ok (.lload_n 0, 1) := by decide +kernel
theorem d1_6 : decode prog_2_method_5_code 6 = .ok (.ldc2_w 42, 3) := by decide +kernel
theorem d1_9 : decode prog_2_method_5_code 9 = .ok (.iconst 1, 1) := by decide +kernel
theorem d1_10 : decode prog_2_method_5_code 10 = .ok (.invokespecial 34, 3) := by decide +kernel
theorem d1_13 : decode prog_2_method_5_code 13 = .ok (.areturn, 1) := by decide +kernel
theorem pn_1 : plainName "com/example/inching_window/inchingwindow/Decision" = true := by first | (simp [plainName, overriddenIn]; done) | decide +kernel
theorem pd_0 : parseMethodDescriptor "(ZJJZ)V" = some ⟨[.boolean, .long, .long, .boolean], none⟩ := by decide +kernel
set_option maxRecDepth 65536 in
set_option maxHeartbeats 40000000 in
theorem rm1 (l : Launch) (Z : State) (a0 : Array Value) (hw : ∀ d ∈ tables_1, d.before a0 Z = true) (ws : List Jvm.Cond) (q1 : Int64) (h0 : Heap) (n0 : Nat) (Z0 : n0 ≤ h0.size) (hne : ¬ (q1 < (0 : Int64))) :
    MetFree l (⟨"com/example/inching_window/inchingwindow/Decision", "refuseNeverAllowable", "(J)Lcom/example/inching_window/inchingwindow/Decision;"⟩ : MethodName) (head1 (Jvm.Cond.code (⟨"com/example/inching_window/inchingwindow/Decision", "refuseNeverAllowable", "(J)Lcom/example/inching_window/inchingwindow/Decision;"⟩ : MethodName) prog_2_method_5_code 2 (some (.object "com/example/inching_window/inchingwindow/Decision")) :: ws) ({ frames := 2, cells := 1, slots := 4, locals := 31 } : Room)) (fun a U => a = #[(.long q1)] ∧ Z.Warmed39 U.vm ∧ U.heap = h0) (fun _ _ _ _ _ => True) (fun _ U o U' => ∃ v L, o = .returned v ∧ Q1 Z q1 h0 n0 v U'.heap L ∧ FrameEnd U o U' L ({ frames := 2, cells := 1, slots := 4, locals := 31 } : Room).cells ({ frames := 2, cells := 1, slots := 4, locals := 31 } : Room).slots) := by
  refine MetFree.of_bodySF (plainFor_of_name pn_1) hisR ?_
  intro p e s m args below meth c s₁ Bd hml0 hP hK
  obtain ⟨rfl, hZ, hh⟩ := hP
  have hx := Bd.exec
  have hby := Bd.bytes
  have hml : c.maxLocals = 2 := hml0
  have hown : s.vm.findClass "com/example/inching_window/inchingwindow/Decision" = some m.cls := findClass_of_methodNamed Bd.named
  have hnm := (name_of_methodNamed Bd.named Bd.method).1
  have X0 : Stand p l e ({ frames := 2, cells := 1, slots := 4, locals := 31 } : Room) s m #[(.long q1)] below meth c s₁ [] 0 0 := Stand.of_body Bd
  have e0 : s₁.heap = h0 := by rw [← hh, Bd.state]; rfl
  have N0 := Fr.nil n0
  refine Goes.start (Q := (fun o U' => ∃ v L, o = .returned v ∧ Q1 Z q1 h0 n0 v U'.heap L ∧ FrameEnd s o U' L ({ frames := 2, cells := 1, slots := 4, locals := 31 } : Room).cells ({ frames := 2, cells := 1, slots := 4, locals := 31 } : Room).slots)) (A := s₁.setTop (mkF m 0 #[.val (.long q1), .second] [])) (fun t k => castTop (ef_1 m q1) k) ?_
  obtain ⟨T1, h1, X1, e1, E1, A1, D1, -, st1⟩ := newO X0 hx hZ hown (hw _ (List.mem_of_getElem? (i := 5) rfl)) (hw _ (List.mem_of_getElem? (i := 6) rfl)) (hw _ (List.mem_of_getElem? (i := 3) rfl)) e0 (g := (mkF m 0 #[.val (.long q1), .second] [])) rfl (hb hby d1_0) (by decide) (by decide)
  obtain ⟨b1, g1⟩ : ∃ z, z = h0.size := ⟨_, rfl⟩
  rw [← g1] at A1 D1 st1
  have gb_b1 : n0 ≤ b1 := Nat.le_trans Z0 (Nat.le_of_eq g1.symm)
  have K1 := (Keep.refl h0 []).ext E1
  have Z1 : n0 ≤ h1.size := Nat.le_trans Z0 E1.1
  have kw_b1 : h0.size ≤ b1 := Nat.le_trans (Keep.refl h0 []).1 (Nat.le_of_eq g1.symm)
  have F1_allowed : Fld Z h1 b1 "com/example/inching_window/inchingwindow/Decision" "allowed" "Z" (.int (0 : Int32)) := D1 (Or.inr (hw _ (List.mem_of_getElem? (i := 15) rfl))) (ty := .boolean) (by decide)
  have F1_remaining : Fld Z h1 b1 "com/example/inching_window/inchingwindow/Decision" "remaining" "J" (.long (0 : Int64)) := D1 (Or.inr (hw _ (List.mem_of_getElem? (i := 17) rfl))) (ty := .long) (by decide)
  have F1_retryAfterMillis : Fld Z h1 b1 "com/example/inching_window/inchingwindow/Decision" "retryAfterMillis" "J" (.long (0 : Int64)) := D1 (Or.inr (hw _ (List.mem_of_getElem? (i := 19) rfl))) (ty := .long) (by decide)
  have F1_decidedByStore : Fld Z h1 b1 "com/example/inching_window/inchingwindow/Decision" "decidedByStore" "Z" (.int (0 : Int32)) := D1 (Or.inr (hw _ (List.mem_of_getElem? (i := 21) rfl))) (ty := .boolean) (by decide)
  refine Goes.step (A := T1.setTop (mkF m 3 #[.val (.long q1), .second] [(.ref b1)])) (fun t kt => st1 _ kt) ?_
  refine Goes.step (A := T1.setTop (mkF m 10 #[.val (.long q1), .second] [(.int (1 : Int32)), (.long (9223372036854775807 : Int64)), (.long q1), (.int (0 : Int32)), (.ref b1), (.ref b1)])) (fun t kt => ?_) ?_
  · refine XS.dup X1.here hx rfl (hb hby d1_3) rfl rfl ?_
    show Steps p.tables e below (T1.setTop (mkF m 4 #[.val (.long q1), .second] [(.ref b1), (.ref b1)])) _
    refine XS.iconst X1.here hx rfl (hb hby d1_4) ?_
    show Steps p.tables e below (T1.setTop (mkF m 5 #[.val (.long q1), .second] [(.int (0 : Int32)), (.ref b1), (.ref b1)])) _
    refine XS.lloadN X1.here hx rfl (hb hby d1_5) rfl ?_
    show Steps p.tables e below (T1.setTop (mkF m 6 #[.val (.long q1), .second] [(.long q1), (.int (0 : Int32)), (.ref b1), (.ref b1)])) _
    refine X1.ldc2Long hx hown (mvT hZ (hw _ (List.mem_of_getElem? (i := 7) rfl))) (g := (mkF m 6 #[.val (.long q1), .second] [(.long q1), (.int (0 : Int32)), (.ref b1), (.ref b1)])) rfl (hb hby d1_6) _ ?_
    show Steps p.tables e below (T1.setTop (mkF m 9 #[.val (.long q1), .second] [(.long (9223372036854775807 : Int64)), (.long q1), (.int (0 : Int32)), (.ref b1), (.ref b1)])) _
    refine XS.iconst X1.here hx rfl (hb hby d1_9) ?_
    exact kt
  obtain ⟨_, _, ⟨T2, L2, k2, n2⟩, -, X2, ⟨Lc2, hQ2, l2, y2, z2⟩, st2⟩ := X1.specialBack hx (y := (⟨"com/example/inching_window/inchingwindow/Decision", "<init>", "(ZJJZ)V"⟩ : MethodName)) rfl hown (mvT hZ (hw _ (List.mem_of_getElem? (i := 8) rfl))) (mvT hZ (hw _ (List.mem_of_getElem? (i := 9) rfl))) (mvT hZ (hw _ (List.mem_of_getElem? (i := 10) rfl))) (by decide) (backOf (W := 1) (rm2 l Z a0 hw [] b1 (0 : Int32) q1 (9223372036854775807 : Int64) (1 : Int32) h1 n0 Z1 F1_allowed F1_remaining F1_retryAfterMillis F1_decidedByStore A1 gb_b1 hne) hZ (hw _ (List.mem_of_getElem? (i := 10) rfl)) (hw _ (List.mem_of_getElem? (i := 3) rfl)) (by decide) (by decide)) (g := (mkF m 10 #[.val (.long q1), .second] [(.int (1 : Int32)), (.long (9223372036854775807 : Int64)), (.long q1), (.int (0 : Int32)), (.ref b1), (.ref b1)])) rfl (by rw [hml]; rfl) (Steps.refl _) (a := b1) (argsL := [(.int (0 : Int32)), (.long q1), (.long (9223372036854775807 : Int64)), (.int (1 : Int32))]) (rest := [(.ref b1)]) (lenOf pd_0 rfl) rfl (by show 2 * 0 + _ ≤ _; exact Nat.le_of_eq rfl) (hb hby d1_10) (fun _ _ => ⟨rfl, e1, (by decide : 1 + 0 ≤ _), (by decide : 4 + 0 ≤ _)⟩)
  dsimp only [Pt.U, Pt.locs, Pt.cells, Pt.slots] at X2 l2 y2 z2 st2 hQ2
  subst l2 y2 z2
  obtain ⟨rfl, N2q, K2q, E2q, Fall2, Frem2, Fret2, Fdec2⟩ := hQ2
  have N2 := Fr.app N0 N2q
  refine Goes.step (A := T2.setTop (mkF m 13 #[.val (.long q1), .second] [(.ref b1)])) (fun t kt => st2.trans kt) ?_
  have F2_allowed : Fld Z T2.heap b1 "com/example/inching_window/inchingwindow/Decision" "allowed" "Z" (.int (0 : Int32)) := Fall2
  have F2_remaining : Fld Z T2.heap b1 "com/example/inching_window/inchingwindow/Decision" "remaining" "J" (.long q1) := Frem2
  have F2_retryAfterMillis : Fld Z T2.heap b1 "com/example/inching_window/inchingwindow/Decision" "retryAfterMillis" "J" (.long (9223372036854775807 : Int64)) := Fret2
  have F2_decidedByStore : Fld Z T2.heap b1 "com/example/inching_window/inchingwindow/Decision" "decidedByStore" "Z" (.int (1 : Int32)) := Fdec2
  have K2 := K1.trans K2q (allS (Or.inr kw_b1) all0)
  have Z2 : n0 ≤ T2.heap.size := Nat.le_trans Z1 K2q.1
  obtain ⟨fs, hr, hrun, hended, hW, hsame⟩ := X2.leave (v := some (.ref b1)) (fun h => by rw [Bd.returns] at h; cases h)
  refine Goes.done ?_ hrun hended ⟨_, _, rfl, ?_, ⟨_, rfl⟩, hW, hsame.mono (by decide) (by decide)⟩
  · jvm_step X2.here [X2.here.top, hx, (hb hby d1_13), X2.method', Bd.returns, Value.isRef, FieldType.isReference]
    first | (intro acts; rw [hr _ acts rfl rfl rfl]) | rw [hr _ _ rfl rfl rfl]
    exact Steps.refl _
  · show Q1 Z q1 h0 n0 _ T2.heap _
    exact ⟨_, rfl, N2, gb_b1, K2, E2q, F2_allowed, F2_remaining, F2_retryAfterMillis, F2_decidedByStore⟩
theorem ef_4 (m : MethodId) (x0 : Addr) : entryFrame m #[(.ref x0)] 1 = mkF m 0 #[.val (.ref x0)] [] := by first | (simp [entryFrame, mkF, argsToLocals, Value.category]; done) | rfl
def Q4 (Z : State) (p0 : Addr) (cx : Int32) (h0 : Heap) (n0 : Nat) (v : Option Value) (h : Heap) (L : List Loc) : Prop := v = some (.int cx) ∧ Fr n0 L ∧ h = h0
theorem d4_0 : decode prog_2_method_7_code 0 = .ok (.aload_n 0, 1) := by decide +kernel
theorem d4_1 : decode prog_2_method_7_code 1 = .ok (.getfield 18, 3) := by decide +kernel
theorem d4_4 : decode prog_2_method_7_code 4 = .ok (.ireturn, 1) := by decide +kernel
theorem pn_4 : plainName "com/example/inching_window/inchingwindow/Decision" = true := by first | (simp [plainName, overriddenIn]; done) | decide +kernel
set_option maxRecDepth 65536 in
set_option maxHeartbeats 40000000 in
theorem rm4 (l : Launch) (Z : State) (a0 : Array Value) (hw : ∀ d ∈ tables_1, d.before a0 Z = true) (ws : List Jvm.Cond) (p0 : Addr) (cx : Int32) (h0 : Heap) (n0 : Nat) (Z0 : n0 ≤ h0.size) (F0 : Fld Z h0 p0 "com/example/inching_window/inchingwindow/Decision" "allowed" "Z" (.int cx)) (hn : nar .boolean cx = cx) :
    MetFree l (⟨"com/example/inching_window/inchingwindow/Decision", "allowed", "()Z"⟩ : MethodName) (head1 (Jvm.Cond.code (⟨"com/example/inching_window/inchingwindow/Decision", "allowed", "()Z"⟩ : MethodName) prog_2_method_7_code 1 (some .boolean) :: ws) ({ frames := 0, cells := 0, slots := 0, locals := 0 } : Room)) (fun a U => a = #[(.ref p0)] ∧ Z.Warmed39 U.vm ∧ U.heap = h0) (fun _ _ _ _ _ => True) (fun _ U o U' => ∃ v L, o = .returned v ∧ Q4 Z p0 cx h0 n0 v U'.heap L ∧ FrameEnd U o U' L ({ frames := 0, cells := 0, slots := 0, locals := 0 } : Room).cells ({ frames := 0, cells := 0, slots := 0, locals := 0 } : Room).slots) := by
  refine MetFree.of_bodySF (plainFor_of_name pn_4) hisR ?_
  intro p e s m args below meth c s₁ Bd hml0 hP hK
  obtain ⟨rfl, hZ, hh⟩ := hP
  have hx := Bd.exec
  have hby := Bd.bytes
  have hml : c.maxLocals = 1 := hml0
  have hown : s.vm.findClass "com/example/inching_window/inchingwindow/Decision" = some m.cls := findClass_of_methodNamed Bd.named
  have hnm := (name_of_methodNamed Bd.named Bd.method).1
  have X0 : Stand p l e ({ frames := 0, cells := 0, slots := 0, locals := 0 } : Room) s m #[(.ref p0)] below meth c s₁ [] 0 0 := Stand.of_body Bd
  have e0 : s₁.heap = h0 := by rw [← hh, Bd.state]; rfl
  have N0 := Fr.nil n0
  refine Goes.start (Q := (fun o U' => ∃ v L, o = .returned v ∧ Q4 Z p0 cx h0 n0 v U'.heap L ∧ FrameEnd s o U' L ({ frames := 0, cells := 0, slots := 0, locals := 0 } : Room).cells ({ frames := 0, cells := 0, slots := 0, locals := 0 } : Room).slots)) (A := s₁.setTop (mkF m 0 #[.val (.ref p0)] [])) (fun t k => castTop (ef_4 m p0) k) ?_
  refine Goes.step (A := s₁.setTop (mkF m 1 #[.val (.ref p0)] [(.ref p0)])) (fun t kt => ?_) ?_
  · refine XS.aloadN X0.here hx rfl (hb hby d4_0) rfl rfl ?_
    exact kt
  obtain ⟨T1, X1, e1, st1⟩ := getF X0 hx hZ hown (host := "") (Or.inl (hw _ (List.mem_of_getElem? (i := 14) rfl))) Via.refl e0 F0 (g := (mkF m 1 #[.val (.ref p0)] [(.ref p0)])) rfl rfl (hb hby d4_1)
  refine Goes.step (A := T1.setTop (mkF m 4 #[.val (.ref p0)] [(.int cx)])) (fun t kt => st1 _ kt) ?_
  obtain ⟨fs, hr, hrun, hended, hW, hsame⟩ := X1.leave (v := some (.int (nar .boolean cx))) (fun h => by rw [Bd.returns] at h; cases h)
  refine Goes.done ?_ hrun hended ⟨_, _, rfl, ?_, ⟨_, rfl⟩, hW, hsame.mono (by decide) (by decide)⟩
  · exact retN X1 hx (t := .boolean) Bd.returns (by simp) (hb hby d4_4) hr
  · show Q4 Z p0 cx h0 n0 _ T1.heap _
    rw [e1]
    exact ⟨congrArg some (congrArg Value.int hn), N0, rfl⟩
theorem ef_5 (m : MethodId) (x0 : Addr) : entryFrame m #[(.ref x0)] 1 = mkF m 0 #[.val (.ref x0)] [] := by first | (simp [entryFrame, mkF, argsToLocals, Value.category]; done) | rfl
def Q5 (Z : State) (p0 : Addr) (cx : Int64) (h0 : Heap) (n0 : Nat) (v : Option Value) (h : Heap) (L : List Loc) : Prop := v = some (.long cx) ∧ Fr n0 L ∧ h = h0
theorem d5_0 : decode prog_2_method_8_code 0 = .ok (.aload_n 0, 1) := by decide +kernel
theorem d5_1 : decode prog_2_method_8_code 1 = .ok (.getfield 24, 3) := by decide +kernel
theorem d5_4 : decode prog_2_method_8_code 4 = .ok (.lreturn, 1) := by decide +kernel
theorem pn_5 : plainName "com/example/inching_window/inchingwindow/Decision" = true := by first | (simp [plainName, overriddenIn]; done) | decide +kernel
set_option maxRecDepth 65536 in
set_option maxHeartbeats 40000000 in
theorem rm5 (l : Launch) (Z : State) (a0 : Array Value) (hw : ∀ d ∈ tables_1, d.before a0 Z = true) (ws : List Jvm.Cond) (p0 : Addr) (cx : Int64) (h0 : Heap) (n0 : Nat) (Z0 : n0 ≤ h0.size) (F0 : Fld Z h0 p0 "com/example/inching_window/inchingwindow/Decision" "remaining" "J" (.long cx)) :
    MetFree l (⟨"com/example/inching_window/inchingwindow/Decision", "remaining", "()J"⟩ : MethodName) (head1 (Jvm.Cond.code (⟨"com/example/inching_window/inchingwindow/Decision", "remaining", "()J"⟩ : MethodName) prog_2_method_8_code 1 (some .long) :: ws) ({ frames := 0, cells := 0, slots := 0, locals := 0 } : Room)) (fun a U => a = #[(.ref p0)] ∧ Z.Warmed39 U.vm ∧ U.heap = h0) (fun _ _ _ _ _ => True) (fun _ U o U' => ∃ v L, o = .returned v ∧ Q5 Z p0 cx h0 n0 v U'.heap L ∧ FrameEnd U o U' L ({ frames := 0, cells := 0, slots := 0, locals := 0 } : Room).cells ({ frames := 0, cells := 0, slots := 0, locals := 0 } : Room).slots) := by
  refine MetFree.of_bodySF (plainFor_of_name pn_5) hisR ?_
  intro p e s m args below meth c s₁ Bd hml0 hP hK
  obtain ⟨rfl, hZ, hh⟩ := hP
  have hx := Bd.exec
  have hby := Bd.bytes
  have hml : c.maxLocals = 1 := hml0
  have hown : s.vm.findClass "com/example/inching_window/inchingwindow/Decision" = some m.cls := findClass_of_methodNamed Bd.named
  have hnm := (name_of_methodNamed Bd.named Bd.method).1
  have X0 : Stand p l e ({ frames := 0, cells := 0, slots := 0, locals := 0 } : Room) s m #[(.ref p0)] below meth c s₁ [] 0 0 := Stand.of_body Bd
  have e0 : s₁.heap = h0 := by rw [← hh, Bd.state]; rfl
  have N0 := Fr.nil n0
  refine Goes.start (Q := (fun o U' => ∃ v L, o = .returned v ∧ Q5 Z p0 cx h0 n0 v U'.heap L ∧ FrameEnd s o U' L ({ frames := 0, cells := 0, slots := 0, locals := 0 } : Room).cells ({ frames := 0, cells := 0, slots := 0, locals := 0 } : Room).slots)) (A := s₁.setTop (mkF m 0 #[.val (.ref p0)] [])) (fun t k => castTop (ef_5 m p0) k) ?_
  refine Goes.step (A := s₁.setTop (mkF m 1 #[.val (.ref p0)] [(.ref p0)])) (fun t kt => ?_) ?_
  · refine XS.aloadN X0.here hx rfl (hb hby d5_0) rfl rfl ?_
    exact kt
  obtain ⟨T1, X1, e1, st1⟩ := getF X0 hx hZ hown (host := "") (Or.inl (hw _ (List.mem_of_getElem? (i := 16) rfl))) Via.refl e0 F0 (g := (mkF m 1 #[.val (.ref p0)] [(.ref p0)])) rfl rfl (hb hby d5_1)
  refine Goes.step (A := T1.setTop (mkF m 4 #[.val (.ref p0)] [(.long cx)])) (fun t kt => st1 _ kt) ?_
  obtain ⟨fs, hr, hrun, hended, hW, hsame⟩ := X1.leave (v := some (.long cx)) (fun h => by rw [Bd.returns] at h; cases h)
  refine Goes.done ?_ hrun hended ⟨_, _, rfl, ?_, ⟨_, rfl⟩, hW, hsame.mono (by decide) (by decide)⟩
  · jvm_step X1.here [X1.here.top, hx, (hb hby d5_4), X1.method', Bd.returns, narrow]
    first | (intro acts; rw [hr _ acts rfl rfl rfl]) | rw [hr _ _ rfl rfl rfl]
    exact Steps.refl _
  · show Q5 Z p0 cx h0 n0 _ T1.heap _
    rw [e1]
    exact ⟨rfl, N0, rfl⟩
theorem ef_6 (m : MethodId) (x0 : Addr) : entryFrame m #[(.ref x0)] 1 = mkF m 0 #[.val (.ref x0)] [] := by first | (simp [entryFrame, mkF, argsToLocals, Value.category]; done) | rfl
def Q6 (Z : State) (p0 : Addr) (cx : Int64) (h0 : Heap) (n0 : Nat) (v : Option Value) (h : Heap) (L : List Loc) : Prop := v = some (.long cx) ∧ Fr n0 L ∧ h = h0
theorem d6_0 : decode prog_2_method_9_code 0 = .ok (.aload_n 0, 1) := by decide +kernel
theorem d6_1 : decode prog_2_method_9_code 1 = .ok (.getfield 28, 3) := by decide +kernel
theorem d6_4 : decode prog_2_method_9_code 4 = .ok (.lreturn, 1) := by decide +kernel
theorem pn_6 : plainName "com/example/inching_window/inchingwindow/Decision" = true := by first | (simp [plainName, overriddenIn]; done) | decide +kernel
set_option maxRecDepth 65536 in
set_option maxHeartbeats 40000000 in
theorem rm6 (l : Launch) (Z : State) (a0 : Array Value) (hw : ∀ d ∈ tables_1, d.before a0 Z = true) (ws : List Jvm.Cond) (p0 : Addr) (cx : Int64) (h0 : Heap) (n0 : Nat) (Z0 : n0 ≤ h0.size) (F0 : Fld Z h0 p0 "com/example/inching_window/inchingwindow/Decision" "retryAfterMillis" "J" (.long cx)) :
    MetFree l (⟨"com/example/inching_window/inchingwindow/Decision", "retryAfterMillis", "()J"⟩ : MethodName) (head1 (Jvm.Cond.code (⟨"com/example/inching_window/inchingwindow/Decision", "retryAfterMillis", "()J"⟩ : MethodName) prog_2_method_9_code 1 (some .long) :: ws) ({ frames := 0, cells := 0, slots := 0, locals := 0 } : Room)) (fun a U => a = #[(.ref p0)] ∧ Z.Warmed39 U.vm ∧ U.heap = h0) (fun _ _ _ _ _ => True) (fun _ U o U' => ∃ v L, o = .returned v ∧ Q6 Z p0 cx h0 n0 v U'.heap L ∧ FrameEnd U o U' L ({ frames := 0, cells := 0, slots := 0, locals := 0 } : Room).cells ({ frames := 0, cells := 0, slots := 0, locals := 0 } : Room).slots) := by
  refine MetFree.of_bodySF (plainFor_of_name pn_6) hisR ?_
  intro p e s m args below meth c s₁ Bd hml0 hP hK
  obtain ⟨rfl, hZ, hh⟩ := hP
  have hx := Bd.exec
  have hby := Bd.bytes
  have hml : c.maxLocals = 1 := hml0
  have hown : s.vm.findClass "com/example/inching_window/inchingwindow/Decision" = some m.cls := findClass_of_methodNamed Bd.named
  have hnm := (name_of_methodNamed Bd.named Bd.method).1
  have X0 : Stand p l e ({ frames := 0, cells := 0, slots := 0, locals := 0 } : Room) s m #[(.ref p0)] below meth c s₁ [] 0 0 := Stand.of_body Bd
  have e0 : s₁.heap = h0 := by rw [← hh, Bd.state]; rfl
  have N0 := Fr.nil n0
  refine Goes.start (Q := (fun o U' => ∃ v L, o = .returned v ∧ Q6 Z p0 cx h0 n0 v U'.heap L ∧ FrameEnd s o U' L ({ frames := 0, cells := 0, slots := 0, locals := 0 } : Room).cells ({ frames := 0, cells := 0, slots := 0, locals := 0 } : Room).slots)) (A := s₁.setTop (mkF m 0 #[.val (.ref p0)] [])) (fun t k => castTop (ef_6 m p0) k) ?_
  refine Goes.step (A := s₁.setTop (mkF m 1 #[.val (.ref p0)] [(.ref p0)])) (fun t kt => ?_) ?_
  · refine XS.aloadN X0.here hx rfl (hb hby d6_0) rfl rfl ?_
    exact kt
  obtain ⟨T1, X1, e1, st1⟩ := getF X0 hx hZ hown (host := "") (Or.inl (hw _ (List.mem_of_getElem? (i := 18) rfl))) Via.refl e0 F0 (g := (mkF m 1 #[.val (.ref p0)] [(.ref p0)])) rfl rfl (hb hby d6_1)
  refine Goes.step (A := T1.setTop (mkF m 4 #[.val (.ref p0)] [(.long cx)])) (fun t kt => st1 _ kt) ?_
  obtain ⟨fs, hr, hrun, hended, hW, hsame⟩ := X1.leave (v := some (.long cx)) (fun h => by rw [Bd.returns] at h; cases h)
  refine Goes.done ?_ hrun hended ⟨_, _, rfl, ?_, ⟨_, rfl⟩, hW, hsame.mono (by decide) (by decide)⟩
  · jvm_step X1.here [X1.here.top, hx, (hb hby d6_4), X1.method', Bd.returns, narrow]
    first | (intro acts; rw [hr _ acts rfl rfl rfl]) | rw [hr _ _ rfl rfl rfl]
    exact Steps.refl _
  · show Q6 Z p0 cx h0 n0 _ T1.heap _
    rw [e1]
    exact ⟨rfl, N0, rfl⟩
theorem ef_8 (m : MethodId) (x0 : Addr) : entryFrame m #[(.ref x0)] 1 = mkF m 0 #[.val (.ref x0)] [] := by first | (simp [entryFrame, mkF, argsToLocals, Value.category]; done) | rfl
def Q8 (Z : State) (p0 : Addr) (cx : Int32) (h0 : Heap) (n0 : Nat) (v : Option Value) (h : Heap) (L : List Loc) : Prop := v = some (.int cx) ∧ Fr n0 L ∧ h = h0
theorem d8_0 : decode prog_2_method_11_code 0 = .ok (.aload_n 0, 1) := by decide +kernel
theorem d8_1 : decode prog_2_method_11_code 1 = .ok (.getfield 31, 3) := by decide +kernel
theorem d8_4 : decode prog_2_method_11_code 4 = .ok (.ireturn, 1) := by decide +kernel
theorem pn_8 : plainName "com/example/inching_window/inchingwindow/Decision" = true := by first | (simp [plainName, overriddenIn]; done) | decide +kernel
set_option maxRecDepth 65536 in
set_option maxHeartbeats 40000000 in
theorem rm8 (l : Launch) (Z : State) (a0 : Array Value) (hw : ∀ d ∈ tables_1, d.before a0 Z = true) (ws : List Jvm.Cond) (p0 : Addr) (cx : Int32) (h0 : Heap) (n0 : Nat) (Z0 : n0 ≤ h0.size) (F0 : Fld Z h0 p0 "com/example/inching_window/inchingwindow/Decision" "decidedByStore" "Z" (.int cx)) (hn : nar .boolean cx = cx) :
    MetFree l (⟨"com/example/inching_window/inchingwindow/Decision", "decidedByStore", "()Z"⟩ : MethodName) (head1 (Jvm.Cond.code (⟨"com/example/inching_window/inchingwindow/Decision", "decidedByStore", "()Z"⟩ : MethodName) prog_2_method_11_code 1 (some .boolean) :: ws) ({ frames := 0, cells := 0, slots := 0, locals := 0 } : Room)) (fun a U => a = #[(.ref p0)] ∧ Z.Warmed39 U.vm ∧ U.heap = h0) (fun _ _ _ _ _ => True) (fun _ U o U' => ∃ v L, o = .returned v ∧ Q8 Z p0 cx h0 n0 v U'.heap L ∧ FrameEnd U o U' L ({ frames := 0, cells := 0, slots := 0, locals := 0 } : Room).cells ({ frames := 0, cells := 0, slots := 0, locals := 0 } : Room).slots) := by
  refine MetFree.of_bodySF (plainFor_of_name pn_8) hisR ?_
  intro p e s m args below meth c s₁ Bd hml0 hP hK
  obtain ⟨rfl, hZ, hh⟩ := hP
  have hx := Bd.exec
  have hby := Bd.bytes
  have hml : c.maxLocals = 1 := hml0
  have hown : s.vm.findClass "com/example/inching_window/inchingwindow/Decision" = some m.cls := findClass_of_methodNamed Bd.named
  have hnm := (name_of_methodNamed Bd.named Bd.method).1
  have X0 : Stand p l e ({ frames := 0, cells := 0, slots := 0, locals := 0 } : Room) s m #[(.ref p0)] below meth c s₁ [] 0 0 := Stand.of_body Bd
  have e0 : s₁.heap = h0 := by rw [← hh, Bd.state]; rfl
  have N0 := Fr.nil n0
  refine Goes.start (Q := (fun o U' => ∃ v L, o = .returned v ∧ Q8 Z p0 cx h0 n0 v U'.heap L ∧ FrameEnd s o U' L ({ frames := 0, cells := 0, slots := 0, locals := 0 } : Room).cells ({ frames := 0, cells := 0, slots := 0, locals := 0 } : Room).slots)) (A := s₁.setTop (mkF m 0 #[.val (.ref p0)] [])) (fun t k => castTop (ef_8 m p0) k) ?_
  refine Goes.step (A := s₁.setTop (mkF m 1 #[.val (.ref p0)] [(.ref p0)])) (fun t kt => ?_) ?_
  · refine XS.aloadN X0.here hx rfl (hb hby d8_0) rfl rfl ?_
    exact kt
  obtain ⟨T1, X1, e1, st1⟩ := getF X0 hx hZ hown (host := "") (Or.inl (hw _ (List.mem_of_getElem? (i := 20) rfl))) Via.refl e0 F0 (g := (mkF m 1 #[.val (.ref p0)] [(.ref p0)])) rfl rfl (hb hby d8_1)
  refine Goes.step (A := T1.setTop (mkF m 4 #[.val (.ref p0)] [(.int cx)])) (fun t kt => st1 _ kt) ?_
  obtain ⟨fs, hr, hrun, hended, hW, hsame⟩ := X1.leave (v := some (.int (nar .boolean cx))) (fun h => by rw [Bd.returns] at h; cases h)
  refine Goes.done ?_ hrun hended ⟨_, _, rfl, ?_, ⟨_, rfl⟩, hW, hsame.mono (by decide) (by decide)⟩
  · exact retN X1 hx (t := .boolean) Bd.returns (by simp) (hb hby d8_4) hr
  · show Q8 Z p0 cx h0 n0 _ T1.heap _
    rw [e1]
    exact ⟨congrArg some (congrArg Value.int hn), N0, rfl⟩
theorem ef_7 (m : MethodId) (x0 : Addr) : entryFrame m #[(.ref x0)] 1 = mkF m 0 #[.val (.ref x0)] [] := by first | (simp [entryFrame, mkF, argsToLocals, Value.category]; done) | rfl
def Q7 (Z : State) (p0 : Addr) (cx : Int64) (h0 : Heap) (n0 : Nat) (v : Option Value) (h : Heap) (L : List Loc) : Prop := v = some (.int (nevF cx)) ∧ Fr n0 L ∧ h = h0
theorem d7_0 : decode prog_2_method_10_code 0 = .ok (.aload_n 0, 1) := by decide +kernel
theorem d7_1 : decode prog_2_method_10_code 1 = .ok (.getfield 28, 3) := by decide +kernel
theorem d7_4 : decode prog_2_method_10_code 4 = .ok (.ldc2_w 42, 3) := by decide +kernel
theorem d7_7 : decode prog_2_method_10_code 7 = .ok (.lcmp, 1) := by decide +kernel
theorem d7_8 : decode prog_2_method_10_code 8 = .ok (.ifCond .ne 7, 3) := by decide +kernel
theorem d7_11 : decode prog_2_method_10_code 11 = .ok (.iconst 1, 1) := by decide +kernel
theorem d7_12 : decode prog_2_method_10_code 12 = .ok (.goto 4, 3) := by decide +kernel
theorem d7_15 : decode prog_2_method_10_code 15 = .ok (.iconst 0, 1) := by decide +kernel
theorem d7_16 : decode prog_2_method_10_code 16 = .ok (.ireturn, 1) := by decide +kernel
theorem pn_7 : plainName "com/example/inching_window/inchingwindow/Decision" = true := by first | (simp [plainName, overriddenIn]; done) | decide +kernel
set_option maxRecDepth 65536 in
set_option maxHeartbeats 40000000 in
theorem rm7 (l : Launch) (Z : State) (a0 : Array Value) (hw : ∀ d ∈ tables_1, d.before a0 Z = true) (ws : List Jvm.Cond) (p0 : Addr) (cx : Int64) (h0 : Heap) (n0 : Nat) (Z0 : n0 ≤ h0.size) (F0 : Fld Z h0 p0 "com/example/inching_window/inchingwindow/Decision" "retryAfterMillis" "J" (.long cx)) :
    MetFree l (⟨"com/example/inching_window/inchingwindow/Decision", "neverAllowable", "()Z"⟩ : MethodName) (head1 (Jvm.Cond.code (⟨"com/example/inching_window/inchingwindow/Decision", "neverAllowable", "()Z"⟩ : MethodName) prog_2_method_10_code 1 (some .boolean) :: ws) ({ frames := 0, cells := 0, slots := 0, locals := 0 } : Room)) (fun a U => a = #[(.ref p0)] ∧ Z.Warmed39 U.vm ∧ U.heap = h0) (fun _ _ _ _ _ => True) (fun _ U o U' => ∃ v L, o = .returned v ∧ Q7 Z p0 cx h0 n0 v U'.heap L ∧ FrameEnd U o U' L ({ frames := 0, cells := 0, slots := 0, locals := 0 } : Room).cells ({ frames := 0, cells := 0, slots := 0, locals := 0 } : Room).slots) := by
  refine MetFree.of_bodySF (plainFor_of_name pn_7) hisR ?_
  intro p e s m args below meth c s₁ Bd hml0 hP hK
  obtain ⟨rfl, hZ, hh⟩ := hP
  have hx := Bd.exec
  have hby := Bd.bytes
  have hml : c.maxLocals = 1 := hml0
  have hown : s.vm.findClass "com/example/inching_window/inchingwindow/Decision" = some m.cls := findClass_of_methodNamed Bd.named
  have hnm := (name_of_methodNamed Bd.named Bd.method).1
  have X0 : Stand p l e ({ frames := 0, cells := 0, slots := 0, locals := 0 } : Room) s m #[(.ref p0)] below meth c s₁ [] 0 0 := Stand.of_body Bd
  have e0 : s₁.heap = h0 := by rw [← hh, Bd.state]; rfl
  have N0 := Fr.nil n0
  refine Goes.start (Q := (fun o U' => ∃ v L, o = .returned v ∧ Q7 Z p0 cx h0 n0 v U'.heap L ∧ FrameEnd s o U' L ({ frames := 0, cells := 0, slots := 0, locals := 0 } : Room).cells ({ frames := 0, cells := 0, slots := 0, locals := 0 } : Room).slots)) (A := s₁.setTop (mkF m 0 #[.val (.ref p0)] [])) (fun t k => castTop (ef_7 m p0) k) ?_
  refine Goes.step (A := s₁.setTop (mkF m 1 #[.val (.ref p0)] [(.ref p0)])) (fun t kt => ?_) ?_
  · refine XS.aloadN X0.here hx rfl (hb hby d7_0) rfl rfl ?_
    exact kt
  obtain ⟨T1, X1, e1, st1⟩ := getF X0 hx hZ hown (host := "") (Or.inl (hw _ (List.mem_of_getElem? (i := 18) rfl))) Via.refl e0 F0 (g := (mkF m 1 #[.val (.ref p0)] [(.ref p0)])) rfl rfl (hb hby d7_1)
  refine Goes.step (A := T1.setTop (mkF m 4 #[.val (.ref p0)] [(.long cx)])) (fun t kt => st1 _ kt) ?_
  refine Goes.step (A := T1.setTop (mkF m 8 #[.val (.ref p0)] [(.int (lcmpW cx (9223372036854775807 : Int64)))])) (fun t kt => ?_) ?_
  · refine X1.ldc2Long hx hown (mvT hZ (hw _ (List.mem_of_getElem? (i := 7) rfl))) (g := (mkF m 4 #[.val (.ref p0)] [(.long cx)])) rfl (hb hby d7_4) _ ?_
    show Steps p.tables e below (T1.setTop (mkF m 7 #[.val (.ref p0)] [(.long (9223372036854775807 : Int64)), (.long cx)])) _
    refine XS.lcmp X1.here hx rfl (hb hby d7_7) rfl ?_
    exact kt
  by_cases hc8_1 : cx = (9223372036854775807 : Int64)
  · refine Goes.step (A := T1.setTop (mkF m 11 #[.val (.ref p0)] [])) (fun t kt => XS.ifNo X1.here hx rfl (hb hby d7_8) rfl ((if0 _ _).trans (teq ((lw_eq _ _).mpr hc8_1)).2) kt) ?_
    refine Goes.step (A := T1.setTop (mkF m 16 #[.val (.ref p0)] [(.int (1 : Int32))])) (fun t kt => ?_) ?_
    · refine XS.iconst X1.here hx rfl (hb hby d7_11) ?_
      show Steps p.tables e below (T1.setTop (mkF m 12 #[.val (.ref p0)] [(.int (1 : Int32))])) _
      refine XS.goto X1.here hx rfl (pc0 := 12) (pc' := 16) rfl (hb hby d7_12) (by decide) (by decide) ?_
      exact kt
    obtain ⟨fs, hr, hrun, hended, hW, hsame⟩ := X1.leave (v := some (.int (1 : Int32))) (fun h => by rw [Bd.returns] at h; cases h)
    refine Goes.done ?_ hrun hended ⟨_, _, rfl, ?_, ⟨_, rfl⟩, hW, hsame.mono (by decide) (by decide)⟩
    · exact retN X1 hx (t := .boolean) Bd.returns (by simp) (hb hby d7_16) hr
    · show Q7 Z p0 cx h0 n0 _ T1.heap _
      rw [e1]
      exact ⟨congrArg some (congrArg Value.int (by simp [nevF, hc8_1])), N0, rfl⟩
  · refine Goes.step (A := T1.setTop (mkF m 15 #[.val (.ref p0)] [])) (fun t kt => XS.ifYes X1.here hx rfl (pc0 := 8) (pc' := 15) rfl (hb hby d7_8) rfl ((if0 _ _).trans (feq (fun q => hc8_1 ((lw_eq _ _).mp q))).2) (by decide) (by decide) kt) ?_
    refine Goes.step (A := T1.setTop (mkF m 16 #[.val (.ref p0)] [(.int (0 : Int32))])) (fun t kt => ?_) ?_
    · refine XS.iconst X1.here hx rfl (hb hby d7_15) ?_
      exact kt
    obtain ⟨fs, hr, hrun, hended, hW, hsame⟩ := X1.leave (v := some (.int (0 : Int32))) (fun h => by rw [Bd.returns] at h; cases h)
    refine Goes.done ?_ hrun hended ⟨_, _, rfl, ?_, ⟨_, rfl⟩, hW, hsame.mono (by decide) (by decide)⟩
    · exact retN X1 hx (t := .boolean) Bd.returns (by simp) (hb hby d7_16) hr
    · show Q7 Z p0 cx h0 n0 _ T1.heap _
      rw [e1]
      exact ⟨congrArg some (congrArg Value.int (by simp [nevF, hc8_1])), N0, rfl⟩
theorem ef_0 (m : MethodId) (x0 : Int64) : entryFrame m #[(.long x0)] maxLocals = mkF m 0 #[.val (.long x0), .second, .unset, .unset, .unset, .unset, .unset, .unset, .unset, .unset] [] := by first | (simp [entryFrame, mkF, argsToLocals, Value.category, maxLocals]; done) | rfl
def Q0 (Z : State) (q1 : Int64) (h0 : Heap) (n0 : Nat) (v : Option Value) (h : Heap) (L : List Loc) : Prop := v = some (.int 1) ∧ Fr n0 L
theorem pn_0 : plainName "com/example/inching_window/inchingwindow/DecisionRefuseNeverAllowablePinLaw" = true := by first | (simp [plainName, overriddenIn]; done) | decide +kernel
theorem pd_1 : parseMethodDescriptor "(J)Lcom/example/inching_window/inchingwindow/Decision;" = some ⟨[.long], some (.object "com/example/inching_window/inchingwindow/Decision")⟩ := by decide +kernel
theorem pd_2 : parseMethodDescriptor "()Z" = some ⟨[], some .boolean⟩ := by decide +kernel
theorem pd_3 : parseMethodDescriptor "()J" = some ⟨[], some .long⟩ := by decide +kernel
set_option maxRecDepth 65536 in
set_option maxHeartbeats 40000000 in
theorem rm0 (l : Launch) (Z : State) (a0 : Array Value) (hw : ∀ d ∈ tables_1, d.before a0 Z = true) (ws : List Jvm.Cond) (q1 : Int64) (h0 : Heap) (n0 : Nat) (Z0 : n0 ≤ h0.size) :
    MetFree l x (head1 (Jvm.Cond.code x code maxLocals ret :: ws) room_1) (fun a U => a = #[(.long q1)] ∧ Z.Warmed39 U.vm ∧ U.heap = h0) (fun _ _ _ _ _ => True) (fun _ U o U' => ∃ v L, o = .returned v ∧ Q0 Z q1 h0 n0 v U'.heap L ∧ FrameEnd U o U' L room_1.cells room_1.slots) := by
  refine MetFree.of_bodySF (plainFor_of_name pn_0) hisR ?_
  intro p e s m args below meth c s₁ Bd hml0 hP hK
  obtain ⟨rfl, hZ, hh⟩ := hP
  have hx := Bd.exec
  have hby := Bd.bytes
  have hml : c.maxLocals = 10 := hml0
  have hown : s.vm.findClass "com/example/inching_window/inchingwindow/DecisionRefuseNeverAllowablePinLaw" = some m.cls := findClass_of_methodNamed Bd.named
  have hnm := (name_of_methodNamed Bd.named Bd.method).1
  have X0 : Stand p l e room_1 s m #[(.long q1)] below meth c s₁ [] 0 0 := Stand.of_body Bd
  have e0 : s₁.heap = h0 := by rw [← hh, Bd.state]; rfl
  have N0 := Fr.nil n0
  refine Goes.start (Q := (fun o U' => ∃ v L, o = .returned v ∧ Q0 Z q1 h0 n0 v U'.heap L ∧ FrameEnd s o U' L room_1.cells room_1.slots)) (A := s₁.setTop (mkF m 0 #[.val (.long q1), .second, .unset, .unset, .unset, .unset, .unset, .unset, .unset, .unset] [])) (fun t k => castTop (ef_0 m q1) k) ?_
  refine Goes.step (A := s₁.setTop (mkF m 7 #[.val (.long q1), .second, .val (.long (q1 &&& (9223372036854775807 : Int64))), .second, .unset, .unset, .unset, .unset, .unset, .unset] [(.long (q1 &&& (9223372036854775807 : Int64)))])) (fun t kt => ?_) ?_
  · refine XS.lloadN X0.here hx rfl (hb hby at_0) rfl ?_
    show Steps p.tables e below (s₁.setTop (mkF m 1 #[.val (.long q1), .second, .unset, .unset, .unset, .unset, .unset, .unset, .unset, .unset] [(.long q1)])) _
    refine X0.ldc2Long hx hown (mvT hZ (hw _ (List.mem_of_getElem? (i := 0) rfl))) (g := (mkF m 1 #[.val (.long q1), .second, .unset, .unset, .unset, .unset, .unset, .unset, .unset, .unset] [(.long q1)])) rfl (hb hby at_1) _ ?_
    show Steps p.tables e below (s₁.setTop (mkF m 4 #[.val (.long q1), .second, .unset, .unset, .unset, .unset, .unset, .unset, .unset, .unset] [(.long (9223372036854775807 : Int64)), (.long q1)])) _
    refine XS.land X0.here hx rfl (hb hby at_4) rfl ?_
    show Steps p.tables e below (s₁.setTop (mkF m 5 #[.val (.long q1), .second, .unset, .unset, .unset, .unset, .unset, .unset, .unset, .unset] [(.long (q1 &&& (9223372036854775807 : Int64)))])) _
    refine XS.lstoreN X0.here hx rfl (hb hby at_5) rfl (l' := #[.val (.long q1), .second, .val (.long (q1 &&& (9223372036854775807 : Int64))), .second, .unset, .unset, .unset, .unset, .unset, .unset]) rfl ?_
    show Steps p.tables e below (s₁.setTop (mkF m 6 #[.val (.long q1), .second, .val (.long (q1 &&& (9223372036854775807 : Int64))), .second, .unset, .unset, .unset, .unset, .unset, .unset] [])) _
    refine XS.lloadN X0.here hx rfl (hb hby at_6) rfl ?_
    exact kt
  obtain ⟨_, _, ⟨T1, L1, k1, n1⟩, -, X1, ⟨Lc1, hQ1, l1, y1, z1⟩, st1⟩ := Jvm.LawKit.callS X0 hx (y := (⟨"com/example/inching_window/inchingwindow/Decision", "refuseNeverAllowable", "(J)Lcom/example/inching_window/inchingwindow/Decision;"⟩ : MethodName)) hown (mvT hZ (hw _ (List.mem_of_getElem? (i := 1) rfl))) (mvT hZ (hw _ (List.mem_of_getElem? (i := 2) rfl))) (mvT hZ (hw _ (List.mem_of_getElem? (i := 3) rfl))) (mvT hZ (hw _ (List.mem_of_getElem? (i := 4) rfl))) (by decide) (backOf (W := 0) (rm1 l Z a0 hw [] (q1 &&& (9223372036854775807 : Int64)) h0 n0 Z0 (own_nn _)) hZ (hw _ (List.mem_of_getElem? (i := 4) rfl)) (hw _ (List.mem_of_getElem? (i := 3) rfl)) (by decide) (by decide)) (g := (mkF m 7 #[.val (.long q1), .second, .val (.long (q1 &&& (9223372036854775807 : Int64))), .second, .unset, .unset, .unset, .unset, .unset, .unset] [(.long (q1 &&& (9223372036854775807 : Int64)))])) rfl (by rw [hml]; rfl) (argsL := [(.long (q1 &&& (9223372036854775807 : Int64)))]) (rest := []) (lenOf pd_1 rfl) rfl (by show 2 * 0 + _ ≤ _; exact Nat.le_of_eq rfl) (hb hby at_7) (fun _ _ => ⟨rfl, e0, (by decide : 0 + 1 ≤ _), (by decide : 0 + 4 ≤ _)⟩)
  dsimp only [Pt.U, Pt.locs, Pt.cells, Pt.slots] at X1 l1 y1 z1 st1 hQ1
  subst l1 y1 z1
  obtain ⟨b1, rfl, N1q, g1, K1q, E1q, Fall1, Frem1, Fret1, Fdec1⟩ := hQ1
  have N1 := Fr.app N0 N1q
  refine Goes.step (A := T1.setTop (mkF m 10 #[.val (.long q1), .second, .val (.long (q1 &&& (9223372036854775807 : Int64))), .second, .unset, .unset, .unset, .unset, .unset, .unset] [(.ref b1)])) (fun t kt => st1 _ kt) ?_
  have Z1 : n0 ≤ T1.heap.size := Nat.le_trans Z0 K1q.1
  refine Goes.step (A := T1.setTop (mkF m 14 #[.val (.long q1), .second, .val (.long (q1 &&& (9223372036854775807 : Int64))), .second, .val (.ref b1), .unset, .unset, .unset, .unset, .unset] [(.ref b1)])) (fun t kt => ?_) ?_
  · refine XS.astore X1.here hx rfl (hb hby at_10) rfl rfl (l' := #[.val (.long q1), .second, .val (.long (q1 &&& (9223372036854775807 : Int64))), .second, .val (.ref b1), .unset, .unset, .unset, .unset, .unset]) rfl ?_
    show Steps p.tables e below (T1.setTop (mkF m 12 #[.val (.long q1), .second, .val (.long (q1 &&& (9223372036854775807 : Int64))), .second, .val (.ref b1), .unset, .unset, .unset, .unset, .unset] [])) _
    refine XS.aload X1.here hx rfl (hb hby at_12) rfl rfl ?_
    exact kt
  refine Goes.step (A := T1.setTop (mkF m 19 #[.val (.long q1), .second, .val (.long (q1 &&& (9223372036854775807 : Int64))), .second, .val (.ref b1), .unset, .unset, .unset, .unset, .unset] [])) (fun t kt => XS.ifnonnullYes X1.here hx rfl (pc0 := 14) (pc' := 19) rfl (hb hby at_14) rfl (by decide) (by decide) kt) ?_
  refine Goes.step (A := T1.setTop (mkF m 21 #[.val (.long q1), .second, .val (.long (q1 &&& (9223372036854775807 : Int64))), .second, .val (.ref b1), .unset, .unset, .unset, .unset, .unset] [(.ref b1)])) (fun t kt => ?_) ?_
  · refine XS.aload X1.here hx rfl (hb hby at_19) rfl rfl ?_
    exact kt
  obtain ⟨cq2, kq2, q2a, q2b, q2c⟩ := isOf hZ rfl E1q
  obtain ⟨_, _, ⟨T2, L2, k2, n2⟩, -, X2, ⟨Lc2, hQ2, l2, y2, z2⟩, st2⟩ := X1.virtualBack hx (y := (⟨"com/example/inching_window/inchingwindow/Decision", "allowed", "()Z"⟩ : MethodName)) (z := (⟨"com/example/inching_window/inchingwindow/Decision", "allowed", "()Z"⟩ : MethodName)) hown (mvT hZ (hw _ (List.mem_of_getElem? (i := 22) rfl))) (mvT hZ (hw _ (List.mem_of_getElem? (i := 23) rfl))) (notFace_of_selects (args := #[]) (mvT hZ (hw _ (List.mem_of_getElem? (i := 25) rfl)))) (mvT hZ (hw _ (List.mem_of_getElem? (i := 25) rfl))) (mvT hZ (hw _ (List.mem_of_getElem? (i := 24) rfl))) (by decide) (backOf (W := 0) (rm4 l Z a0 hw [] b1 (0 : Int32) T1.heap n0 Z1 Fall1 (by decide)) hZ (hw _ (List.mem_of_getElem? (i := 26) rfl)) (hw _ (List.mem_of_getElem? (i := 3) rfl)) (by decide) (by decide)) q2a q2c (g := (mkF m 21 #[.val (.long q1), .second, .val (.long (q1 &&& (9223372036854775807 : Int64))), .second, .val (.ref b1), .unset, .unset, .unset, .unset, .unset] [(.ref b1)])) rfl (by rw [hml]; rfl) (Steps.refl _) (argsL := []) (rest := []) (lenOf pd_2 rfl) rfl (by show 2 * 0 + _ ≤ _; exact Nat.le_of_eq rfl) (hb hby at_21) (fun _ _ => ⟨rfl, rfl, (by decide : 1 + 0 ≤ _), (by decide : 4 + 0 ≤ _)⟩)
  dsimp only [Pt.U, Pt.locs, Pt.cells, Pt.slots] at X2 l2 y2 z2 st2 hQ2
  subst l2 y2 z2
  obtain ⟨rfl, N2q, e2⟩ := hQ2
  have N2 := Fr.app N1 N2q
  refine Goes.step (A := T2.setTop (mkF m 24 #[.val (.long q1), .second, .val (.long (q1 &&& (9223372036854775807 : Int64))), .second, .val (.ref b1), .unset, .unset, .unset, .unset, .unset] [(.int (0 : Int32))])) (fun t kt => st2.trans kt) ?_
  refine Goes.step (A := T2.setTop (mkF m 27 #[.val (.long q1), .second, .val (.long (q1 &&& (9223372036854775807 : Int64))), .second, .val (.ref b1), .unset, .unset, .unset, .unset, .unset] [])) (fun t kt => XS.ifNo X2.here hx rfl (hb hby at_24) rfl ((if0 _ _).trans (teq ((by decide) : (0 : Int32) = (0 : Int32))).2) kt) ?_
  refine Goes.step (A := T2.setTop (mkF m 36 #[.val (.long q1), .second, .val (.long (q1 &&& (9223372036854775807 : Int64))), .second, .val (.ref b1), .val (.int (1 : Int32)), .unset, .unset, .unset, .unset] [(.ref b1)])) (fun t kt => ?_) ?_
  · refine XS.iconst X2.here hx rfl (hb hby at_27) ?_
    show Steps p.tables e below (T2.setTop (mkF m 28 #[.val (.long q1), .second, .val (.long (q1 &&& (9223372036854775807 : Int64))), .second, .val (.ref b1), .unset, .unset, .unset, .unset, .unset] [(.int (1 : Int32))])) _
    refine XS.goto X2.here hx rfl (pc0 := 28) (pc' := 32) rfl (hb hby at_28) (by decide) (by decide) ?_
    show Steps p.tables e below (T2.setTop (mkF m 32 #[.val (.long q1), .second, .val (.long (q1 &&& (9223372036854775807 : Int64))), .second, .val (.ref b1), .unset, .unset, .unset, .unset, .unset] [(.int (1 : Int32))])) _
    refine XS.istore X2.here hx rfl (hb hby at_32) rfl (l' := #[.val (.long q1), .second, .val (.long (q1 &&& (9223372036854775807 : Int64))), .second, .val (.ref b1), .val (.int (1 : Int32)), .unset, .unset, .unset, .unset]) rfl ?_
    show Steps p.tables e below (T2.setTop (mkF m 34 #[.val (.long q1), .second, .val (.long (q1 &&& (9223372036854775807 : Int64))), .second, .val (.ref b1), .val (.int (1 : Int32)), .unset, .unset, .unset, .unset] [])) _
    refine XS.aload X2.here hx rfl (hb hby at_34) rfl rfl ?_
    exact kt
  obtain ⟨cq3, kq3, q3a, q3b, q3c⟩ := isOf hZ e2 E1q
  obtain ⟨_, _, ⟨T3, L3, k3, n3⟩, -, X3, ⟨Lc3, hQ3, l3, y3, z3⟩, st3⟩ := X2.virtualBack hx (y := (⟨"com/example/inching_window/inchingwindow/Decision", "remaining", "()J"⟩ : MethodName)) (z := (⟨"com/example/inching_window/inchingwindow/Decision", "remaining", "()J"⟩ : MethodName)) hown (mvT hZ (hw _ (List.mem_of_getElem? (i := 27) rfl))) (mvT hZ (hw _ (List.mem_of_getElem? (i := 28) rfl))) (notFace_of_selects (args := #[]) (mvT hZ (hw _ (List.mem_of_getElem? (i := 30) rfl)))) (mvT hZ (hw _ (List.mem_of_getElem? (i := 30) rfl))) (mvT hZ (hw _ (List.mem_of_getElem? (i := 29) rfl))) (by decide) (backOf (W := 0) (rm5 l Z a0 hw [] b1 (q1 &&& (9223372036854775807 : Int64)) T1.heap n0 Z1 Frem1) hZ (hw _ (List.mem_of_getElem? (i := 31) rfl)) (hw _ (List.mem_of_getElem? (i := 3) rfl)) (by decide) (by decide)) q3a q3c (g := (mkF m 36 #[.val (.long q1), .second, .val (.long (q1 &&& (9223372036854775807 : Int64))), .second, .val (.ref b1), .val (.int (1 : Int32)), .unset, .unset, .unset, .unset] [(.ref b1)])) rfl (by rw [hml]; rfl) (Steps.refl _) (argsL := []) (rest := []) (lenOf pd_3 rfl) rfl (by show 2 * 0 + _ ≤ _; exact Nat.le_of_eq rfl) (hb hby at_36) (fun _ _ => ⟨rfl, e2, (by decide : 1 + 0 ≤ _), (by decide : 4 + 0 ≤ _)⟩)
  dsimp only [Pt.U, Pt.locs, Pt.cells, Pt.slots] at X3 l3 y3 z3 st3 hQ3
  subst l3 y3 z3
  obtain ⟨rfl, N3q, e3⟩ := hQ3
  have N3 := Fr.app N2 N3q
  refine Goes.step (A := T3.setTop (mkF m 39 #[.val (.long q1), .second, .val (.long (q1 &&& (9223372036854775807 : Int64))), .second, .val (.ref b1), .val (.int (1 : Int32)), .unset, .unset, .unset, .unset] [(.long (q1 &&& (9223372036854775807 : Int64)))])) (fun t kt => st3.trans kt) ?_
  refine Goes.step (A := T3.setTop (mkF m 41 #[.val (.long q1), .second, .val (.long (q1 &&& (9223372036854775807 : Int64))), .second, .val (.ref b1), .val (.int (1 : Int32)), .unset, .unset, .unset, .unset] [(.int (lcmpW (q1 &&& (9223372036854775807 : Int64)) (q1 &&& (9223372036854775807 : Int64))))])) (fun t kt => ?_) ?_
  · refine XS.lloadN X3.here hx rfl (hb hby at_39) rfl ?_
    show Steps p.tables e below (T3.setTop (mkF m 40 #[.val (.long q1), .second, .val (.long (q1 &&& (9223372036854775807 : Int64))), .second, .val (.ref b1), .val (.int (1 : Int32)), .unset, .unset, .unset, .unset] [(.long (q1 &&& (9223372036854775807 : Int64))), (.long (q1 &&& (9223372036854775807 : Int64)))])) _
    refine XS.lcmp X3.here hx rfl (hb hby at_40) rfl ?_
    exact kt
  refine Goes.step (A := T3.setTop (mkF m 44 #[.val (.long q1), .second, .val (.long (q1 &&& (9223372036854775807 : Int64))), .second, .val (.ref b1), .val (.int (1 : Int32)), .unset, .unset, .unset, .unset] [])) (fun t kt => XS.ifNo X3.here hx rfl (hb hby at_41) rfl ((if0 _ _).trans (teq ((lw_eq _ _).mpr (rfl : (q1 &&& (9223372036854775807 : Int64)) = (q1 &&& (9223372036854775807 : Int64))))).2) kt) ?_
  refine Goes.step (A := T3.setTop (mkF m 53 #[.val (.long q1), .second, .val (.long (q1 &&& (9223372036854775807 : Int64))), .second, .val (.ref b1), .val (.int (1 : Int32)), .val (.int (1 : Int32)), .unset, .unset, .unset] [(.ref b1)])) (fun t kt => ?_) ?_
  · refine XS.iconst X3.here hx rfl (hb hby at_44) ?_
    show Steps p.tables e below (T3.setTop (mkF m 45 #[.val (.long q1), .second, .val (.long (q1 &&& (9223372036854775807 : Int64))), .second, .val (.ref b1), .val (.int (1 : Int32)), .unset, .unset, .unset, .unset] [(.int (1 : Int32))])) _
    refine XS.goto X3.here hx rfl (pc0 := 45) (pc' := 49) rfl (hb hby at_45) (by decide) (by decide) ?_
    show Steps p.tables e below (T3.setTop (mkF m 49 #[.val (.long q1), .second, .val (.long (q1 &&& (9223372036854775807 : Int64))), .second, .val (.ref b1), .val (.int (1 : Int32)), .unset, .unset, .unset, .unset] [(.int (1 : Int32))])) _
    refine XS.istore X3.here hx rfl (hb hby at_49) rfl (l' := #[.val (.long q1), .second, .val (.long (q1 &&& (9223372036854775807 : Int64))), .second, .val (.ref b1), .val (.int (1 : Int32)), .val (.int (1 : Int32)), .unset, .unset, .unset]) rfl ?_
    show Steps p.tables e below (T3.setTop (mkF m 51 #[.val (.long q1), .second, .val (.long (q1 &&& (9223372036854775807 : Int64))), .second, .val (.ref b1), .val (.int (1 : Int32)), .val (.int (1 : Int32)), .unset, .unset, .unset] [])) _
    refine XS.aload X3.here hx rfl (hb hby at_51) rfl rfl ?_
    exact kt
  obtain ⟨cq4, kq4, q4a, q4b, q4c⟩ := isOf hZ e3 E1q
  obtain ⟨_, _, ⟨T4, L4, k4, n4⟩, -, X4, ⟨Lc4, hQ4, l4, y4, z4⟩, st4⟩ := X3.virtualBack hx (y := (⟨"com/example/inching_window/inchingwindow/Decision", "retryAfterMillis", "()J"⟩ : MethodName)) (z := (⟨"com/example/inching_window/inchingwindow/Decision", "retryAfterMillis", "()J"⟩ : MethodName)) hown (mvT hZ (hw _ (List.mem_of_getElem? (i := 32) rfl))) (mvT hZ (hw _ (List.mem_of_getElem? (i := 33) rfl))) (notFace_of_selects (args := #[]) (mvT hZ (hw _ (List.mem_of_getElem? (i := 35) rfl)))) (mvT hZ (hw _ (List.mem_of_getElem? (i := 35) rfl))) (mvT hZ (hw _ (List.mem_of_getElem? (i := 34) rfl))) (by decide) (backOf (W := 0) (rm6 l Z a0 hw [] b1 (9223372036854775807 : Int64) T1.heap n0 Z1 Fret1) hZ (hw _ (List.mem_of_getElem? (i := 36) rfl)) (hw _ (List.mem_of_getElem? (i := 3) rfl)) (by decide) (by decide)) q4a q4c (g := (mkF m 53 #[.val (.long q1), .second, .val (.long (q1 &&& (9223372036854775807 : Int64))), .second, .val (.ref b1), .val (.int (1 : Int32)), .val (.int (1 : Int32)), .unset, .unset, .unset] [(.ref b1)])) rfl (by rw [hml]; rfl) (Steps.refl _) (argsL := []) (rest := []) (lenOf pd_3 rfl) rfl (by show 2 * 0 + _ ≤ _; exact Nat.le_of_eq rfl) (hb hby at_53) (fun _ _ => ⟨rfl, e3, (by decide : 1 + 0 ≤ _), (by decide : 4 + 0 ≤ _)⟩)
  dsimp only [Pt.U, Pt.locs, Pt.cells, Pt.slots] at X4 l4 y4 z4 st4 hQ4
  subst l4 y4 z4
  obtain ⟨rfl, N4q, e4⟩ := hQ4
  have N4 := Fr.app N3 N4q
  refine Goes.step (A := T4.setTop (mkF m 56 #[.val (.long q1), .second, .val (.long (q1 &&& (9223372036854775807 : Int64))), .second, .val (.ref b1), .val (.int (1 : Int32)), .val (.int (1 : Int32)), .unset, .unset, .unset] [(.long (9223372036854775807 : Int64))])) (fun t kt => st4.trans kt) ?_
  refine Goes.step (A := T4.setTop (mkF m 60 #[.val (.long q1), .second, .val (.long (q1 &&& (9223372036854775807 : Int64))), .second, .val (.ref b1), .val (.int (1 : Int32)), .val (.int (1 : Int32)), .unset, .unset, .unset] [(.int (lcmpW (9223372036854775807 : Int64) (9223372036854775807 : Int64)))])) (fun t kt => ?_) ?_
  · refine X4.ldc2Long hx hown (mvT hZ (hw _ (List.mem_of_getElem? (i := 0) rfl))) (g := (mkF m 56 #[.val (.long q1), .second, .val (.long (q1 &&& (9223372036854775807 : Int64))), .second, .val (.ref b1), .val (.int (1 : Int32)), .val (.int (1 : Int32)), .unset, .unset, .unset] [(.long (9223372036854775807 : Int64))])) rfl (hb hby at_56) _ ?_
    show Steps p.tables e below (T4.setTop (mkF m 59 #[.val (.long q1), .second, .val (.long (q1 &&& (9223372036854775807 : Int64))), .second, .val (.ref b1), .val (.int (1 : Int32)), .val (.int (1 : Int32)), .unset, .unset, .unset] [(.long (9223372036854775807 : Int64)), (.long (9223372036854775807 : Int64))])) _
    refine XS.lcmp X4.here hx rfl (hb hby at_59) rfl ?_
    exact kt
  refine Goes.step (A := T4.setTop (mkF m 63 #[.val (.long q1), .second, .val (.long (q1 &&& (9223372036854775807 : Int64))), .second, .val (.ref b1), .val (.int (1 : Int32)), .val (.int (1 : Int32)), .unset, .unset, .unset] [])) (fun t kt => XS.ifNo X4.here hx rfl (hb hby at_60) rfl ((if0 _ _).trans (teq ((lw_eq _ _).mpr ((by decide) : (9223372036854775807 : Int64) = (9223372036854775807 : Int64)))).2) kt) ?_
  refine Goes.step (A := T4.setTop (mkF m 72 #[.val (.long q1), .second, .val (.long (q1 &&& (9223372036854775807 : Int64))), .second, .val (.ref b1), .val (.int (1 : Int32)), .val (.int (1 : Int32)), .val (.int (1 : Int32)), .unset, .unset] [(.ref b1)])) (fun t kt => ?_) ?_
  · refine XS.iconst X4.here hx rfl (hb hby at_63) ?_
    show Steps p.tables e below (T4.setTop (mkF m 64 #[.val (.long q1), .second, .val (.long (q1 &&& (9223372036854775807 : Int64))), .second, .val (.ref b1), .val (.int (1 : Int32)), .val (.int (1 : Int32)), .unset, .unset, .unset] [(.int (1 : Int32))])) _
    refine XS.goto X4.here hx rfl (pc0 := 64) (pc' := 68) rfl (hb hby at_64) (by decide) (by decide) ?_
    show Steps p.tables e below (T4.setTop (mkF m 68 #[.val (.long q1), .second, .val (.long (q1 &&& (9223372036854775807 : Int64))), .second, .val (.ref b1), .val (.int (1 : Int32)), .val (.int (1 : Int32)), .unset, .unset, .unset] [(.int (1 : Int32))])) _
    refine XS.istore X4.here hx rfl (hb hby at_68) rfl (l' := #[.val (.long q1), .second, .val (.long (q1 &&& (9223372036854775807 : Int64))), .second, .val (.ref b1), .val (.int (1 : Int32)), .val (.int (1 : Int32)), .val (.int (1 : Int32)), .unset, .unset]) rfl ?_
    show Steps p.tables e below (T4.setTop (mkF m 70 #[.val (.long q1), .second, .val (.long (q1 &&& (9223372036854775807 : Int64))), .second, .val (.ref b1), .val (.int (1 : Int32)), .val (.int (1 : Int32)), .val (.int (1 : Int32)), .unset, .unset] [])) _
    refine XS.aload X4.here hx rfl (hb hby at_70) rfl rfl ?_
    exact kt
  obtain ⟨cq5, kq5, q5a, q5b, q5c⟩ := isOf hZ e4 E1q
  obtain ⟨_, _, ⟨T5, L5, k5, n5⟩, -, X5, ⟨Lc5, hQ5, l5, y5, z5⟩, st5⟩ := X4.virtualBack hx (y := (⟨"com/example/inching_window/inchingwindow/Decision", "neverAllowable", "()Z"⟩ : MethodName)) (z := (⟨"com/example/inching_window/inchingwindow/Decision", "neverAllowable", "()Z"⟩ : MethodName)) hown (mvT hZ (hw _ (List.mem_of_getElem? (i := 37) rfl))) (mvT hZ (hw _ (List.mem_of_getElem? (i := 38) rfl))) (notFace_of_selects (args := #[]) (mvT hZ (hw _ (List.mem_of_getElem? (i := 40) rfl)))) (mvT hZ (hw _ (List.mem_of_getElem? (i := 40) rfl))) (mvT hZ (hw _ (List.mem_of_getElem? (i := 39) rfl))) (by decide) (backOf (W := 0) (rm7 l Z a0 hw [] b1 (9223372036854775807 : Int64) T1.heap n0 Z1 Fret1) hZ (hw _ (List.mem_of_getElem? (i := 41) rfl)) (hw _ (List.mem_of_getElem? (i := 3) rfl)) (by decide) (by decide)) q5a q5c (g := (mkF m 72 #[.val (.long q1), .second, .val (.long (q1 &&& (9223372036854775807 : Int64))), .second, .val (.ref b1), .val (.int (1 : Int32)), .val (.int (1 : Int32)), .val (.int (1 : Int32)), .unset, .unset] [(.ref b1)])) rfl (by rw [hml]; rfl) (Steps.refl _) (argsL := []) (rest := []) (lenOf pd_2 rfl) rfl (by show 2 * 0 + _ ≤ _; exact Nat.le_of_eq rfl) (hb hby at_72) (fun _ _ => ⟨rfl, e4, (by decide : 1 + 0 ≤ _), (by decide : 4 + 0 ≤ _)⟩)
  dsimp only [Pt.U, Pt.locs, Pt.cells, Pt.slots] at X5 l5 y5 z5 st5 hQ5
  subst l5 y5 z5
  obtain ⟨rfl, N5q, e5⟩ := hQ5
  have N5 := Fr.app N4 N5q
  refine Goes.step (A := T5.setTop (mkF m 75 #[.val (.long q1), .second, .val (.long (q1 &&& (9223372036854775807 : Int64))), .second, .val (.ref b1), .val (.int (1 : Int32)), .val (.int (1 : Int32)), .val (.int (1 : Int32)), .unset, .unset] [(.int (nevF (9223372036854775807 : Int64)))])) (fun t kt => st5.trans kt) ?_
  refine Goes.step (A := T5.setTop (mkF m 79 #[.val (.long q1), .second, .val (.long (q1 &&& (9223372036854775807 : Int64))), .second, .val (.ref b1), .val (.int (1 : Int32)), .val (.int (1 : Int32)), .val (.int (1 : Int32)), .val (.int (nevF (9223372036854775807 : Int64))), .unset] [(.ref b1)])) (fun t kt => ?_) ?_
  · refine XS.istore X5.here hx rfl (hb hby at_75) rfl (l' := #[.val (.long q1), .second, .val (.long (q1 &&& (9223372036854775807 : Int64))), .second, .val (.ref b1), .val (.int (1 : Int32)), .val (.int (1 : Int32)), .val (.int (1 : Int32)), .val (.int (nevF (9223372036854775807 : Int64))), .unset]) rfl ?_
    show Steps p.tables e below (T5.setTop (mkF m 77 #[.val (.long q1), .second, .val (.long (q1 &&& (9223372036854775807 : Int64))), .second, .val (.ref b1), .val (.int (1 : Int32)), .val (.int (1 : Int32)), .val (.int (1 : Int32)), .val (.int (nevF (9223372036854775807 : Int64))), .unset] [])) _
    refine XS.aload X5.here hx rfl (hb hby at_77) rfl rfl ?_
    exact kt
  obtain ⟨cq6, kq6, q6a, q6b, q6c⟩ := isOf hZ e5 E1q
  obtain ⟨_, _, ⟨T6, L6, k6, n6⟩, -, X6, ⟨Lc6, hQ6, l6, y6, z6⟩, st6⟩ := X5.virtualBack hx (y := (⟨"com/example/inching_window/inchingwindow/Decision", "decidedByStore", "()Z"⟩ : MethodName)) (z := (⟨"com/example/inching_window/inchingwindow/Decision", "decidedByStore", "()Z"⟩ : MethodName)) hown (mvT hZ (hw _ (List.mem_of_getElem? (i := 42) rfl))) (mvT hZ (hw _ (List.mem_of_getElem? (i := 43) rfl))) (notFace_of_selects (args := #[]) (mvT hZ (hw _ (List.mem_of_getElem? (i := 45) rfl)))) (mvT hZ (hw _ (List.mem_of_getElem? (i := 45) rfl))) (mvT hZ (hw _ (List.mem_of_getElem? (i := 44) rfl))) (by decide) (backOf (W := 0) (rm8 l Z a0 hw [] b1 (1 : Int32) T1.heap n0 Z1 Fdec1 (by decide)) hZ (hw _ (List.mem_of_getElem? (i := 46) rfl)) (hw _ (List.mem_of_getElem? (i := 3) rfl)) (by decide) (by decide)) q6a q6c (g := (mkF m 79 #[.val (.long q1), .second, .val (.long (q1 &&& (9223372036854775807 : Int64))), .second, .val (.ref b1), .val (.int (1 : Int32)), .val (.int (1 : Int32)), .val (.int (1 : Int32)), .val (.int (nevF (9223372036854775807 : Int64))), .unset] [(.ref b1)])) rfl (by rw [hml]; rfl) (Steps.refl _) (argsL := []) (rest := []) (lenOf pd_2 rfl) rfl (by show 2 * 0 + _ ≤ _; exact Nat.le_of_eq rfl) (hb hby at_79) (fun _ _ => ⟨rfl, e5, (by decide : 1 + 0 ≤ _), (by decide : 4 + 0 ≤ _)⟩)
  dsimp only [Pt.U, Pt.locs, Pt.cells, Pt.slots] at X6 l6 y6 z6 st6 hQ6
  subst l6 y6 z6
  obtain ⟨rfl, N6q, e6⟩ := hQ6
  have N6 := Fr.app N5 N6q
  refine Goes.step (A := T6.setTop (mkF m 82 #[.val (.long q1), .second, .val (.long (q1 &&& (9223372036854775807 : Int64))), .second, .val (.ref b1), .val (.int (1 : Int32)), .val (.int (1 : Int32)), .val (.int (1 : Int32)), .val (.int (nevF (9223372036854775807 : Int64))), .unset] [(.int (1 : Int32))])) (fun t kt => st6.trans kt) ?_
  refine Goes.step (A := T6.setTop (mkF m 86 #[.val (.long q1), .second, .val (.long (q1 &&& (9223372036854775807 : Int64))), .second, .val (.ref b1), .val (.int (1 : Int32)), .val (.int (1 : Int32)), .val (.int (1 : Int32)), .val (.int (nevF (9223372036854775807 : Int64))), .val (.int (1 : Int32))] [(.int (1 : Int32))])) (fun t kt => ?_) ?_
  · refine XS.istore X6.here hx rfl (hb hby at_82) rfl (l' := #[.val (.long q1), .second, .val (.long (q1 &&& (9223372036854775807 : Int64))), .second, .val (.ref b1), .val (.int (1 : Int32)), .val (.int (1 : Int32)), .val (.int (1 : Int32)), .val (.int (nevF (9223372036854775807 : Int64))), .val (.int (1 : Int32))]) rfl ?_
    show Steps p.tables e below (T6.setTop (mkF m 84 #[.val (.long q1), .second, .val (.long (q1 &&& (9223372036854775807 : Int64))), .second, .val (.ref b1), .val (.int (1 : Int32)), .val (.int (1 : Int32)), .val (.int (1 : Int32)), .val (.int (nevF (9223372036854775807 : Int64))), .val (.int (1 : Int32))] [])) _
    refine XS.iload X6.here hx rfl (hb hby at_84) rfl ?_
    exact kt
  refine Goes.step (A := T6.setTop (mkF m 89 #[.val (.long q1), .second, .val (.long (q1 &&& (9223372036854775807 : Int64))), .second, .val (.ref b1), .val (.int (1 : Int32)), .val (.int (1 : Int32)), .val (.int (1 : Int32)), .val (.int (nevF (9223372036854775807 : Int64))), .val (.int (1 : Int32))] [])) (fun t kt => XS.ifNo X6.here hx rfl (hb hby at_86) rfl ((if0 _ _).trans (feq ((by decide) : ¬ ((1 : Int32) = (0 : Int32)))).1) kt) ?_
  refine Goes.step (A := T6.setTop (mkF m 91 #[.val (.long q1), .second, .val (.long (q1 &&& (9223372036854775807 : Int64))), .second, .val (.ref b1), .val (.int (1 : Int32)), .val (.int (1 : Int32)), .val (.int (1 : Int32)), .val (.int (nevF (9223372036854775807 : Int64))), .val (.int (1 : Int32))] [(.int (1 : Int32))])) (fun t kt => ?_) ?_
  · refine XS.iload X6.here hx rfl (hb hby at_89) rfl ?_
    exact kt
  refine Goes.step (A := T6.setTop (mkF m 94 #[.val (.long q1), .second, .val (.long (q1 &&& (9223372036854775807 : Int64))), .second, .val (.ref b1), .val (.int (1 : Int32)), .val (.int (1 : Int32)), .val (.int (1 : Int32)), .val (.int (nevF (9223372036854775807 : Int64))), .val (.int (1 : Int32))] [])) (fun t kt => XS.ifNo X6.here hx rfl (hb hby at_91) rfl ((if0 _ _).trans (feq ((by decide) : ¬ ((1 : Int32) = (0 : Int32)))).1) kt) ?_
  refine Goes.step (A := T6.setTop (mkF m 96 #[.val (.long q1), .second, .val (.long (q1 &&& (9223372036854775807 : Int64))), .second, .val (.ref b1), .val (.int (1 : Int32)), .val (.int (1 : Int32)), .val (.int (1 : Int32)), .val (.int (nevF (9223372036854775807 : Int64))), .val (.int (1 : Int32))] [(.int (1 : Int32))])) (fun t kt => ?_) ?_
  · refine XS.iload X6.here hx rfl (hb hby at_94) rfl ?_
    exact kt
  refine Goes.step (A := T6.setTop (mkF m 99 #[.val (.long q1), .second, .val (.long (q1 &&& (9223372036854775807 : Int64))), .second, .val (.ref b1), .val (.int (1 : Int32)), .val (.int (1 : Int32)), .val (.int (1 : Int32)), .val (.int (nevF (9223372036854775807 : Int64))), .val (.int (1 : Int32))] [])) (fun t kt => XS.ifNo X6.here hx rfl (hb hby at_96) rfl ((if0 _ _).trans (feq ((by decide) : ¬ ((1 : Int32) = (0 : Int32)))).1) kt) ?_
  refine Goes.step (A := T6.setTop (mkF m 101 #[.val (.long q1), .second, .val (.long (q1 &&& (9223372036854775807 : Int64))), .second, .val (.ref b1), .val (.int (1 : Int32)), .val (.int (1 : Int32)), .val (.int (1 : Int32)), .val (.int (nevF (9223372036854775807 : Int64))), .val (.int (1 : Int32))] [(.int (nevF (9223372036854775807 : Int64)))])) (fun t kt => ?_) ?_
  · refine XS.iload X6.here hx rfl (hb hby at_99) rfl ?_
    exact kt
  refine Goes.step (A := T6.setTop (mkF m 104 #[.val (.long q1), .second, .val (.long (q1 &&& (9223372036854775807 : Int64))), .second, .val (.ref b1), .val (.int (1 : Int32)), .val (.int (1 : Int32)), .val (.int (1 : Int32)), .val (.int (nevF (9223372036854775807 : Int64))), .val (.int (1 : Int32))] [])) (fun t kt => XS.ifNo X6.here hx rfl (hb hby at_101) rfl ((if0 _ _).trans (feq (by decide : ¬ ((nevF (9223372036854775807 : Int64)) = (0 : Int32)))).1) kt) ?_
  refine Goes.step (A := T6.setTop (mkF m 106 #[.val (.long q1), .second, .val (.long (q1 &&& (9223372036854775807 : Int64))), .second, .val (.ref b1), .val (.int (1 : Int32)), .val (.int (1 : Int32)), .val (.int (1 : Int32)), .val (.int (nevF (9223372036854775807 : Int64))), .val (.int (1 : Int32))] [(.int (1 : Int32))])) (fun t kt => ?_) ?_
  · refine XS.iload X6.here hx rfl (hb hby at_104) rfl ?_
    exact kt
  refine Goes.step (A := T6.setTop (mkF m 109 #[.val (.long q1), .second, .val (.long (q1 &&& (9223372036854775807 : Int64))), .second, .val (.ref b1), .val (.int (1 : Int32)), .val (.int (1 : Int32)), .val (.int (1 : Int32)), .val (.int (nevF (9223372036854775807 : Int64))), .val (.int (1 : Int32))] [])) (fun t kt => XS.ifNo X6.here hx rfl (hb hby at_106) rfl ((if0 _ _).trans (feq ((by decide) : ¬ ((1 : Int32) = (0 : Int32)))).1) kt) ?_
  refine Goes.step (A := T6.setTop (mkF m 114 #[.val (.long q1), .second, .val (.long (q1 &&& (9223372036854775807 : Int64))), .second, .val (.ref b1), .val (.int (1 : Int32)), .val (.int (1 : Int32)), .val (.int (1 : Int32)), .val (.int (nevF (9223372036854775807 : Int64))), .val (.int (1 : Int32))] [(.int (1 : Int32))])) (fun t kt => ?_) ?_
  · refine XS.iconst X6.here hx rfl (hb hby at_109) ?_
    show Steps p.tables e below (T6.setTop (mkF m 110 #[.val (.long q1), .second, .val (.long (q1 &&& (9223372036854775807 : Int64))), .second, .val (.ref b1), .val (.int (1 : Int32)), .val (.int (1 : Int32)), .val (.int (1 : Int32)), .val (.int (nevF (9223372036854775807 : Int64))), .val (.int (1 : Int32))] [(.int (1 : Int32))])) _
    refine XS.goto X6.here hx rfl (pc0 := 110) (pc' := 114) rfl (hb hby at_110) (by decide) (by decide) ?_
    exact kt
  obtain ⟨fs, hr, hrun, hended, hW, hsame⟩ := X6.leave (v := some (.int (1 : Int32))) (fun h => by rw [Bd.returns] at h; cases h)
  refine Goes.done ?_ hrun hended ⟨_, _, rfl, ?_, ⟨_, rfl⟩, hW, hsame.mono (by decide) (by decide)⟩
  · exact retN X6 hx (t := .boolean) Bd.returns (by simp) (hb hby at_114) hr
  · show Q0 Z q1 h0 n0 _ T6.heap _
    rw [e6]
    exact ⟨rfl, N6⟩
set_option maxRecDepth 65536 in
set_option maxHeartbeats 40000000 in
theorem comes_1 {Post : Tables → Env → Array Value → State → Outcome → State → Prop} (hpost : ∀ tb e args s v u, (limb_1_1.after args s (.returned v) u = true ∧ limb_1_2.after args s (.returned v) u = true ∧ True) → FrameEnd s (.returned v) u (Jvm.fieldLocs frame_1_writes args s ++ Jvm.arrayLocs frame_1_arrays args s ++ Jvm.staticLocs frame_1_statics s) 16 128 → Post tb e args s (.returned v) u) :
    ArmFor flags0 classFile x code maxLocals ret World_1 tables_1 room_1 Calls_1 rest_1 Pre_1 Post := by
  intro l hfl _ _ p e ha hc hk s m args below hf hA hF happ hP
  obtain ⟨hcalls, hrest, hpre⟩ := hP
  obtain ⟨-, -, -, hnamed, -, -, -, hat⟩ := (Spec.applies_iff hf).mp happ
  obtain ⟨hg, hn⟩ := and_e (Cond.before_iff.mp (show (Jvm.Cond.and given_1 narrow_1).before args s = true from hpre))
  obtain ⟨hcnt, hr0⟩ := and_e hg
  obtain ⟨w0, rfl⟩ : ∃ w0 : Value, args = #[w0] := by
    have hs : args.size = 1 := by simpa [Cond.value, given_1] using hcnt
    obtain ⟨L⟩ := args
    match L, hs with
    | [w0], _ => exact ⟨w0, rfl⟩
  have hw := fun d (hd : d ∈ tables_1) => atoms_spec (ws := Jvm.Cond.code x code maxLocals ret :: tables_1) hat d (List.mem_cons_of_mem _ hd)
  obtain ⟨i0, ei0⟩ := isL_v hr0
  obtain rfl : w0 = (.long i0) := Option.some.inj ei0
  obtain ⟨n, o, h1, h2, h3, _, L, rfl, ⟨rfl, N⟩, hq⟩ := rm0 l s _ hw tables_1 i0 s.heap s.heap.size (Nat.le_refl _) p e ha hc hk s m _ below hf ((Spec.applies_iff_loose hf).mp happ).1 ⟨rfl, State.Warmed39.refl s, rfl⟩ trivial
  refine ⟨n, _, h1, h2, h3, hpost _ _ _ _ _ _ ⟨Cond.after_iff.mpr rfl, Cond.after_iff.mpr (eq_i res_at (Term.int_eval (1)) rfl), trivial⟩ ⟨hq.1, hq.2.1, (hq.2.2.sift fun y hy => Or.inr (N y hy)).mono (by decide) (by decide)⟩⟩
theorem main_1_1 : Claimed_1_1 := comes_1 fun _ _ _ _ _ _ h hF => ⟨h.1, hF⟩
theorem main_1_2 : Claimed_1_2 := comes_1 fun _ _ _ _ _ _ h hF => ⟨h.2.1, hF⟩
end Jvm.Pilot.@@N@@
namespace Jvm.Pilot.@@N@@
open Jvm Jvm.ClassFile Sem Op Lib Jvm.Free Jvm.Stand Jvm.Pilot.@@N@@.Jvm.D
/-! MADE BY PROGRAM (witnessworld.py) out of the Statement's table words and the real class files: 9 classes; the members and pool entries that the words name. The judged class is class 1, her method 1. -/
namespace start1
open Jvm.ClassFile
def u (s : String) : CpInfo := .utf8 (stringToUtf16 s)
/-- a pool by its gaps: so many unusable entries, then the entry; so many at the end -/
def gap : Nat → List CpInfo → List CpInfo
  | 0, r => r
  | n + 1, r => .unusable :: gap n r
def poolList (es : List (Nat × CpInfo)) (last : Nat) : List CpInfo := es.foldr (fun e r => gap e.1 (e.2 :: r)) (gap last [])
def pool (es : List (Nat × CpInfo)) (last : Nat) : Array CpInfo := ⟨poolList es last⟩
def fileOf (pool : Array CpInfo) (this : Nat) (attrs : Array Attribute := #[]) (ms : Array MethodInfo := #[]) (fl : Nat := 33) (sup : Nat := 0) (ifs : Array Nat := #[]) (fds : Array FieldInfo := #[]) : ClassFile where
  minorVersion := 0
  majorVersion := 65
  constantPool := pool
  accessFlags := fl
  thisClass := this
  superClass := sup
  interfaces := ifs
  fields := fds
  methods := ms
  attributes := attrs
def plain (name : String) (sup : Option ClassId) : Class where
  name := name
  kind := .ordinary
  loader := none
  accessFlags := 33
  super := sup
  interfaces := #[]
  cf := none
  fields := #[]
  methods := #[]
  instanceTypes := #[]
  staticTypes := #[]
  resolved := #[]
  callSites := []
  init := .initialized
  statics := none
  mirror := none

def pool0 : Array CpInfo := pool [(5, u "<init>"), (0, u "()V"), (1, .class_ 10), (1, u "java/lang/Object")] 113

def k0c0 : Code := { maxStack := 0, maxLocals := 1, code := object_method_1_code, exceptionTable := #[], attributes := #[] }
def k0m0 : Method := { name := "<init>", desc := "()V", sig := { parameters := [], returnType := none }, accessFlags := 1, code := some k0c0 }
/-- java/lang/Object -/
def k0 : Class := { plain "java/lang/Object" none with
  accessFlags := 33
  interfaces := #[]
  cf := some (fileOf pool0 8 #[] #[{ accessFlags := 1, nameIndex := 5, descriptorIndex := 6, attributes := #[] }] 33 0 #[] #[])
  fields := #[]
  methods := #[k0m0]
  instanceTypes := #[]
  staticTypes := #[]
  resolved := Array.replicate 124 none
  statics := none }

def pool1 : Array CpInfo := pool [(2, .class_ 4), (1, u "java/lang/Object"), (0, u "<init>"), (0, u "()V"), (2, .long 9223372036854775807), (1, .methodref 12 13), (0, .class_ 14), (0, .nameAndType 15 16), (0, u "com/example/inching_window/inchingwindow/Decision"), (0, u "refuseNeverAllowable"), (0, u "(J)Lcom/example/inching_window/inchingwindow/Decision;"), (0, .methodref 12 18), (0, .nameAndType 19 20), (0, u "allowed"), (0, u "()Z"), (0, .methodref 12 22), (0, .nameAndType 23 24), (0, u "remaining"), (0, u "()J"), (0, .methodref 12 26), (0, .nameAndType 27 24), (0, u "retryAfterMillis"), (0, .methodref 12 29), (0, .nameAndType 30 20), (0, u "neverAllowable"), (0, .methodref 12 32), (0, .nameAndType 33 20), (0, u "decidedByStore"), (0, .class_ 35), (0, u "com/example/inching_window/inchingwindow/DecisionRefuseNeverAllowablePinLaw"), (2, u "law"), (0, u "(J)Z")] 3

def k1m0 : Method := { name := "<init>", desc := "()V", sig := { parameters := [], returnType := none }, accessFlags := 1, code := none }
def k1c1 : Code := { maxStack := 4, maxLocals := 10, code := code, exceptionTable := #[], attributes := #[] }
def k1m1 : Method := { name := "law", desc := "(J)Z", sig := { parameters := [.long], returnType := some .boolean }, accessFlags := 9, code := some k1c1 }
/-- com/example/inching_window/inchingwindow/DecisionRefuseNeverAllowablePinLaw -/
def k1 : Class := { plain "com/example/inching_window/inchingwindow/DecisionRefuseNeverAllowablePinLaw" (some 0) with
  accessFlags := 49
  interfaces := #[]
  cf := some (fileOf pool1 34 #[] #[{ accessFlags := 1, nameIndex := 5, descriptorIndex := 6, attributes := #[] }, { accessFlags := 9, nameIndex := 38, descriptorIndex := 39, attributes := #[] }] 49 2 #[] #[])
  fields := #[]
  methods := #[k1m0, k1m1]
  instanceTypes := #[]
  staticTypes := #[]
  resolved := Array.replicate 43 none
  statics := none }

def pool2 : Array CpInfo := pool [(3, .methodref 4 5), (0, .class_ 6), (0, .nameAndType 7 8), (0, u "java/lang/Object"), (0, u "<init>"), (0, u "()V"), (9, .fieldref 19 20), (0, .class_ 21), (0, .nameAndType 22 23), (0, u "com/example/inching_window/inchingwindow/Decision"), (0, u "allowed"), (0, u "Z"), (0, .fieldref 19 25), (0, .nameAndType 26 27), (0, u "remaining"), (0, u "J"), (0, .fieldref 19 29), (0, .nameAndType 30 27), (0, u "retryAfterMillis"), (0, .fieldref 19 32), (0, .nameAndType 33 23), (0, u "decidedByStore"), (0, .methodref 19 35), (0, .nameAndType 7 36), (0, u "(ZJJZ)V"), (5, .long 9223372036854775807), (4, u "NEVER"), (5, u "(J)Lcom/example/inching_window/inchingwindow/Decision;"), (2, u "refuseNeverAllowable"), (2, u "()Z"), (0, u "()J"), (0, u "neverAllowable")] 23

def k2c0 : Code := { maxStack := 4, maxLocals := 7, code := prog_2_method_1_code, exceptionTable := #[], attributes := #[] }
def k2m0 : Method := { name := "<init>", desc := "(ZJJZ)V", sig := { parameters := [.boolean, .long, .long, .boolean], returnType := none }, accessFlags := 2, code := some k2c0 }
def k2c1 : Code := { maxStack := 8, maxLocals := 2, code := prog_2_method_5_code, exceptionTable := #[], attributes := #[] }
def k2m1 : Method := { name := "refuseNeverAllowable", desc := "(J)Lcom/example/inching_window/inchingwindow/Decision;", sig := { parameters := [.long], returnType := some (.object "com/example/inching_window/inchingwindow/Decision") }, accessFlags := 9, code := some k2c1 }
def k2c2 : Code := { maxStack := 1, maxLocals := 1, code := prog_2_method_7_code, exceptionTable := #[], attributes := #[] }
def k2m2 : Method := { name := "allowed", desc := "()Z", sig := { parameters := [], returnType := some .boolean }, accessFlags := 1, code := some k2c2 }
def k2c3 : Code := { maxStack := 2, maxLocals := 1, code := prog_2_method_8_code, exceptionTable := #[], attributes := #[] }
def k2m3 : Method := { name := "remaining", desc := "()J", sig := { parameters := [], returnType := some .long }, accessFlags := 1, code := some k2c3 }
def k2c4 : Code := { maxStack := 2, maxLocals := 1, code := prog_2_method_9_code, exceptionTable := #[], attributes := #[] }
def k2m4 : Method := { name := "retryAfterMillis", desc := "()J", sig := { parameters := [], returnType := some .long }, accessFlags := 1, code := some k2c4 }
def k2c5 : Code := { maxStack := 4, maxLocals := 1, code := prog_2_method_10_code, exceptionTable := #[], attributes := #[] }
def k2m5 : Method := { name := "neverAllowable", desc := "()Z", sig := { parameters := [], returnType := some .boolean }, accessFlags := 1, code := some k2c5 }
def k2c6 : Code := { maxStack := 1, maxLocals := 1, code := prog_2_method_11_code, exceptionTable := #[], attributes := #[] }
def k2m6 : Method := { name := "decidedByStore", desc := "()Z", sig := { parameters := [], returnType := some .boolean }, accessFlags := 1, code := some k2c6 }
/-- com/example/inching_window/inchingwindow/Decision -/
def k2 : Class := { plain "com/example/inching_window/inchingwindow/Decision" (some 0) with
  accessFlags := 33
  interfaces := #[]
  cf := some (fileOf pool2 19 #[] #[{ accessFlags := 2, nameIndex := 7, descriptorIndex := 36, attributes := #[] }, { accessFlags := 9, nameIndex := 56, descriptorIndex := 53, attributes := #[] }, { accessFlags := 1, nameIndex := 22, descriptorIndex := 59, attributes := #[] }, { accessFlags := 1, nameIndex := 26, descriptorIndex := 60, attributes := #[] }, { accessFlags := 1, nameIndex := 30, descriptorIndex := 60, attributes := #[] }, { accessFlags := 1, nameIndex := 61, descriptorIndex := 59, attributes := #[] }, { accessFlags := 1, nameIndex := 33, descriptorIndex := 59, attributes := #[] }] 33 4 #[] #[{ accessFlags := 25, nameIndex := 47, descriptorIndex := 27, attributes := #[] }, { accessFlags := 18, nameIndex := 22, descriptorIndex := 23, attributes := #[] }, { accessFlags := 18, nameIndex := 26, descriptorIndex := 27, attributes := #[] }, { accessFlags := 18, nameIndex := 30, descriptorIndex := 27, attributes := #[] }, { accessFlags := 18, nameIndex := 33, descriptorIndex := 23, attributes := #[] }])
  fields := #[{ name := "NEVER", type := .long, accessFlags := 25, slot := 0, constantValue := 0 }, { name := "allowed", type := .boolean, accessFlags := 18, slot := 0, constantValue := 0 }, { name := "remaining", type := .long, accessFlags := 18, slot := 1, constantValue := 0 }, { name := "retryAfterMillis", type := .long, accessFlags := 18, slot := 2, constantValue := 0 }, { name := "decidedByStore", type := .boolean, accessFlags := 18, slot := 3, constantValue := 0 }]
  methods := #[k2m0, k2m1, k2m2, k2m3, k2m4, k2m5, k2m6]
  instanceTypes := #[.boolean, .long, .long, .boolean]
  staticTypes := #[.long]
  resolved := Array.replicate 85 none
  statics := none }

def pool3 : Array CpInfo := pool [(1, u "java/lang/Cloneable"), (0, .class_ 1), (0, u "java/lang/Object"), (0, .class_ 3)] 3

/-- java/lang/Cloneable -/
def k3 : Class := { plain "java/lang/Cloneable" (some 0) with
  accessFlags := 1537
  interfaces := #[]
  cf := some (fileOf pool3 2 #[] #[] 1537 4 #[] #[])
  fields := #[]
  methods := #[]
  instanceTypes := #[]
  staticTypes := #[]
  resolved := Array.replicate 8 none
  statics := none }

def pool4 : Array CpInfo := pool [(1, u "java/io/Serializable"), (0, .class_ 1), (0, u "java/lang/Object"), (0, .class_ 3)] 3

/-- java/io/Serializable -/
def k4 : Class := { plain "java/io/Serializable" (some 0) with
  accessFlags := 1537
  interfaces := #[]
  cf := some (fileOf pool4 2 #[] #[] 1537 4 #[] #[])
  fields := #[]
  methods := #[]
  instanceTypes := #[]
  staticTypes := #[]
  resolved := Array.replicate 8 none
  statics := none }

/-- the primitive byte -/
def k5 : Class := { plain "byte" none with kind := .primitive 'B', accessFlags := 0x411 }
/-- [B -/
def k6 : Class := { plain "[B" (some 0) with kind := .array 5 .byte, interfaces := #[3, 4], accessFlags := 1041 }

/-- the primitive int -/
def k7 : Class := { plain "int" none with kind := .primitive 'I', accessFlags := 0x411 }
/-- [I -/
def k8 : Class := { plain "[I" (some 0) with kind := .array 7 .int, interfaces := #[3, 4], accessFlags := 1041 }

def heap : Heap := #[]
def classes : Array Class := #[k0, k1, k2, k3, k4, k5, k6, k7, k8]
def interned : List (Array UInt16 × Addr) := []
def slotsUsed : Nat := 0
def theMethod : MethodId := ⟨1, 1⟩
def args0 : Array Value := #[.long 5]
def aboutOver (below : List Frame) : State where
  vm := { classes := classes, interned := interned.toArray }
  heap := heap
  slotsUsed := slotsUsed
  threads := #[{ frames := .invoking theMethod args0 :: below }]
def below0 : List Frame := [.native { method := ⟨0, 0⟩, args := #[] }]
def about1 : State := aboutOver below0
def p0 : Program := .bare "" "" ""
def e0 : Env := launch0.env 0 0 0
theorem w_frames : about1.frames = Frame.invoking theMethod args0 :: below0 := rfl
set_option maxRecDepth 65536 in
theorem w_args : argsFit about1.vm theMethod args0 = true := by decide +kernel
set_option maxRecDepth 65536 in
theorem w_heap : heapFits about1 = true := by decide +kernel
set_option maxRecDepth 65536 in
theorem w_runnable : about1.curStatus? = some .runnable := by decide +kernel
set_option maxRecDepth 65536 in
theorem w_alone : about1.alone = true := by decide +kernel
set_option maxRecDepth 65536 in
theorem w_named : about1.methodNamed? x = some theMethod := by decide +kernel
set_option maxRecDepth 65536 in
theorem w_hears : about1.hears theMethod below0 = true := by decide +kernel
set_option maxRecDepth 65536 in
theorem w_ripe : about1.ripe theMethod args0 below0 = true := by decide +kernel
theorem w_running : about1.status = .running := rfl
set_option maxRecDepth 65536 in
theorem w_room : about1.hasRoom e0.platform room_1 = true :=
  launch0.hasRoom_least _ room_1 (by decide +kernel) (by decide +kernel) (by decide +kernel) (by decide +kernel) (by decide +kernel) (by decide +kernel)
theorem allAtoms_all (ts : List Jvm.Cond) (a : Array Jvm.Value) (st : Jvm.State) : (allAtoms ts).before a st = ts.all (fun c => c.before a st) := by
  induction ts with
  | nil => rfl
  | cons c t ih =>
    show (Jvm.Cond.and c (allAtoms t)).before a st = _
    rw [Jvm.Cond.before_and, ih, List.all_cons]
def words1 : List Jvm.Cond := Jvm.Cond.code x code maxLocals ret :: tables_1
/-- a 'code' word, met by the world's own term for the bytes: nothing is compared byte by byte -/
theorem code_word {y : MethodName} {bytes : ByteArray} {mx : Nat} {rt : Option FieldType} {a : Array Value} {s : State} {m : MethodId} {meth : Method} {c : Code} (h1 : s.methodNamed? y = some m) (h2 : s.vm.method? m = some meth) (h3 : meth.code = some c) (h4 : c.code = bytes)
    (h5 : (c.maxLocals == mx && c.exceptionTable.isEmpty && decide (c.maxStack ≤ mostOperands) && decide (meth.sig.returnType = rt) && !meth.locks && decide (parseMethodDescriptor y.desc = some meth.sig)) = true) : (Jvm.Cond.code y bytes mx rt).before a s = true := by
  simp only [Bool.and_eq_true, beq_iff_eq, Bool.not_eq_true', decide_eq_true_eq] at h5
  obtain ⟨⟨⟨⟨⟨g1, g2⟩, g3⟩, g4⟩, g5⟩, g6⟩ := h5
  simp [Cond.before, Cond.holds, Cond.value, h1, h2, h3, h4, g1, g2, g3, g4, g5, g6]
def isCode : Jvm.Cond → Bool
  | .code _ _ _ _ => true
  | _ => false
theorem all_split {L : List Jvm.Cond} {P : Jvm.Cond → Bool} (h1 : L.all (fun c => isCode c || P c) = true) (h2 : ∀ c ∈ L.filter isCode, P c = true) : L.all P = true := by
  refine List.all_eq_true.mpr fun c hc => ?_
  have h := List.all_eq_true.mp h1 c hc
  rcases Bool.eq_false_or_eq_true (isCode c) with hi | hi
  · exact h2 c (List.mem_filter.mpr ⟨hc, hi⟩)
  · simpa [hi] using h
set_option maxRecDepth 65536 in
theorem w_c0 : (Jvm.Cond.code x code maxLocals ret).before args0 about1 = true := code_word (m := ⟨1, 1⟩) (meth := k1m1) (c := k1c1) (by decide +kernel) rfl rfl rfl (by decide +kernel)
set_option maxRecDepth 65536 in
theorem w_c1 : (Jvm.Cond.code ({ cls := "com/example/inching_window/inchingwindow/Decision", name := "refuseNeverAllowable", desc := "(J)Lcom/example/inching_window/inchingwindow/Decision;" } : Jvm.MethodName) prog_2_method_5_code (2 : Nat) (Option.some (Jvm.ClassFile.FieldType.object "com/example/inching_window/inchingwindow/Decision"))).before args0 about1 = true := code_word (m := ⟨2, 1⟩) (meth := k2m1) (c := k2c1) (by decide +kernel) rfl rfl rfl (by decide +kernel)
set_option maxRecDepth 65536 in
theorem w_c2 : (Jvm.Cond.code ({ cls := "com/example/inching_window/inchingwindow/Decision", name := "<init>", desc := "(ZJJZ)V" } : Jvm.MethodName) prog_2_method_1_code (7 : Nat) (Option.none : Option Jvm.ClassFile.FieldType)).before args0 about1 = true := code_word (m := ⟨2, 0⟩) (meth := k2m0) (c := k2c0) (by decide +kernel) rfl rfl rfl (by decide +kernel)
set_option maxRecDepth 65536 in
theorem w_c3 : (Jvm.Cond.code ({ cls := "java/lang/Object", name := "<init>", desc := "()V" } : Jvm.MethodName) object_method_1_code (1 : Nat) (Option.none : Option Jvm.ClassFile.FieldType)).before args0 about1 = true := code_word (m := ⟨0, 0⟩) (meth := k0m0) (c := k0c0) (by decide +kernel) rfl rfl rfl (by decide +kernel)
set_option maxRecDepth 65536 in
theorem w_c4 : (Jvm.Cond.code ({ cls := "com/example/inching_window/inchingwindow/Decision", name := "allowed", desc := "()Z" } : Jvm.MethodName) prog_2_method_7_code (1 : Nat) (Option.some Jvm.ClassFile.FieldType.boolean)).before args0 about1 = true := code_word (m := ⟨2, 2⟩) (meth := k2m2) (c := k2c2) (by decide +kernel) rfl rfl rfl (by decide +kernel)
set_option maxRecDepth 65536 in
theorem w_c5 : (Jvm.Cond.code ({ cls := "com/example/inching_window/inchingwindow/Decision", name := "remaining", desc := "()J" } : Jvm.MethodName) prog_2_method_8_code (1 : Nat) (Option.some Jvm.ClassFile.FieldType.long)).before args0 about1 = true := code_word (m := ⟨2, 3⟩) (meth := k2m3) (c := k2c3) (by decide +kernel) rfl rfl rfl (by decide +kernel)
set_option maxRecDepth 65536 in
theorem w_c6 : (Jvm.Cond.code ({ cls := "com/example/inching_window/inchingwindow/Decision", name := "retryAfterMillis", desc := "()J" } : Jvm.MethodName) prog_2_method_9_code (1 : Nat) (Option.some Jvm.ClassFile.FieldType.long)).before args0 about1 = true := code_word (m := ⟨2, 4⟩) (meth := k2m4) (c := k2c4) (by decide +kernel) rfl rfl rfl (by decide +kernel)
set_option maxRecDepth 65536 in
theorem w_c7 : (Jvm.Cond.code ({ cls := "com/example/inching_window/inchingwindow/Decision", name := "neverAllowable", desc := "()Z" } : Jvm.MethodName) prog_2_method_10_code (1 : Nat) (Option.some Jvm.ClassFile.FieldType.boolean)).before args0 about1 = true := code_word (m := ⟨2, 5⟩) (meth := k2m5) (c := k2c5) (by decide +kernel) rfl rfl rfl (by decide +kernel)
set_option maxRecDepth 65536 in
theorem w_c8 : (Jvm.Cond.code ({ cls := "com/example/inching_window/inchingwindow/Decision", name := "decidedByStore", desc := "()Z" } : Jvm.MethodName) prog_2_method_11_code (1 : Nat) (Option.some Jvm.ClassFile.FieldType.boolean)).before args0 about1 = true := code_word (m := ⟨2, 6⟩) (meth := k2m6) (c := k2c6) (by decide +kernel) rfl rfl rfl (by decide +kernel)
def codes1 : List Jvm.Cond := [Jvm.Cond.code x code maxLocals ret, Jvm.Cond.code ({ cls := "com/example/inching_window/inchingwindow/Decision", name := "refuseNeverAllowable", desc := "(J)Lcom/example/inching_window/inchingwindow/Decision;" } : Jvm.MethodName) prog_2_method_5_code (2 : Nat) (Option.some (Jvm.ClassFile.FieldType.object "com/example/inching_window/inchingwindow/Decision")), Jvm.Cond.code ({ cls := "com/example/inching_window/inchingwindow/Decision", name := "<init>", desc := "(ZJJZ)V" } : Jvm.MethodName) prog_2_method_1_code (7 : Nat) (Option.none : Option Jvm.ClassFile.FieldType), Jvm.Cond.code ({ cls := "java/lang/Object", name := "<init>", desc := "()V" } : Jvm.MethodName) object_method_1_code (1 : Nat) (Option.none : Option Jvm.ClassFile.FieldType), Jvm.Cond.code ({ cls := "com/example/inching_window/inchingwindow/Decision", name := "allowed", desc := "()Z" } : Jvm.MethodName) prog_2_method_7_code (1 : Nat) (Option.some Jvm.ClassFile.FieldType.boolean), Jvm.Cond.code ({ cls := "com/example/inching_window/inchingwindow/Decision", name := "remaining", desc := "()J" } : Jvm.MethodName) prog_2_method_8_code (1 : Nat) (Option.some Jvm.ClassFile.FieldType.long), Jvm.Cond.code ({ cls := "com/example/inching_window/inchingwindow/Decision", name := "retryAfterMillis", desc := "()J" } : Jvm.MethodName) prog_2_method_9_code (1 : Nat) (Option.some Jvm.ClassFile.FieldType.long), Jvm.Cond.code ({ cls := "com/example/inching_window/inchingwindow/Decision", name := "neverAllowable", desc := "()Z" } : Jvm.MethodName) prog_2_method_10_code (1 : Nat) (Option.some Jvm.ClassFile.FieldType.boolean), Jvm.Cond.code ({ cls := "com/example/inching_window/inchingwindow/Decision", name := "decidedByStore", desc := "()Z" } : Jvm.MethodName) prog_2_method_11_code (1 : Nat) (Option.some Jvm.ClassFile.FieldType.boolean)]
set_option maxRecDepth 65536 in
theorem codes_eq : words1.filter isCode = codes1 := rfl
theorem w_codes : ∀ c ∈ words1.filter isCode, c.before args0 about1 = true := by
  rw [codes_eq]
  intro c hc
  simp only [codes1, List.mem_cons, List.not_mem_nil, or_false] at hc
  rcases hc with rfl | rfl | rfl | rfl | rfl | rfl | rfl | rfl | rfl
  · exact w_c0
  · exact w_c1
  · exact w_c2
  · exact w_c3
  · exact w_c4
  · exact w_c5
  · exact w_c6
  · exact w_c7
  · exact w_c8
set_option maxRecDepth 65536 in
theorem w_t1 : (words1.take 24).all (fun c => isCode c || c.before args0 about1) = true := by decide +kernel
set_option maxRecDepth 65536 in
theorem w_t2 : (words1.drop 24).all (fun c => isCode c || c.before args0 about1) = true := by decide +kernel
theorem w_tables : (allAtoms (Jvm.Cond.code x code maxLocals ret :: tables_1)).before args0 about1 = true := by
  rw [allAtoms_all]
  show words1.all (fun c => c.before args0 about1) = true
  refine all_split ?_ w_codes
  rw [← List.take_append_drop 24 words1, List.all_append, w_t1, w_t2]
  rfl
set_option maxRecDepth 65536 in
theorem w_case : (Jvm.Cond.and given_1 narrow_1).before args0 about1 = true := by decide +kernel
theorem w_applies : (headSpec (Jvm.Cond.code x code maxLocals ret :: tables_1) room_1).applies x e0.platform about1 = true :=
  (Spec.applies_iff w_frames).mpr ⟨w_running, w_runnable, w_alone, w_named, w_hears, w_ripe, w_room, w_tables⟩
theorem atStart : AtStart classFile x code maxLocals ret World_1 tables_1 room_1 Calls_1 rest_1 Pre_1 launch0 p0 e0 about1 theMethod args0 below0 :=
  ⟨lists_1, trivial, launch0.admits_env _ _ _, launch0.least_env, fairChoices_fair.cas, fairChoices_fair.clock, w_frames, w_args, w_heap, w_applies, trivial, trivial, w_case⟩
end start1
theorem witness_1 : WitnessClaimed_1 := ⟨start1.p0, start1.e0, start1.about1, start1.theMethod, start1.args0, start1.below0, start1.atStart⟩
end Jvm.Pilot.@@N@@
