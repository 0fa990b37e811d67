import JvmDerived
import JvmDerived.Pilot.@@N@@Statement
import JvmDerived.Pilot.@@N@@Code
set_option linter.unusedVariables false
set_option linter.unusedSimpArgs false
namespace Jvm.RoadKit
open Sem ClassFile Op Lib Jvm.Stand Jvm.Free Jvm.LawKit
section New
variable {p : Program} {l : Launch} {e : Env} {R : Room} {s : State} {m : MethodId} {args : Array Value} {below : List Frame} {meth : Method} {c : Code} {T : State} {locs : List Loc} {cells slots : Nat}
theorem retI (X : Stand p l e R s m args below meth c T locs cells slots) (hx : p.tables.exec = Jvm.exec) {pc : Nat} {Ls : Array Slot} {z : Int32} {rest : List Value} (hret : meth.sig.returnType = some .int) (hd : decode c.code pc = .ok (.ireturn, 1)) {fs : List Frame}
    (hl : ∀ (f : JFrame) (acts : List Action), f.method = m → f.locked = none → f.entered = [] → (doReturn e (T.setTop f) acts (some (.int z))).1 = T.setFrames fs) : Steps p.tables e below (T.setTop (mkF m pc Ls (.int z :: rest))) (T.setFrames fs) := by
  have hm' : T.vm.method? m = some meth := X.method'
  have hn : narrow .int (.int z) = .int z := rfl
  show Steps p.tables e below (T.setTop { method := m, pc := pc, locals := Ls, stack := _ :: rest, locked := none }) _
  jvm_step X.here [X.here.top, hx, hd, hm', hret, hn]
  first | (intro acts; rw [hl _ acts rfl rfl rfl]) | rw [hl _ _ rfl rfl rfl]
  exact Steps.refl _
end New
end Jvm.RoadKit
namespace Jvm.Pilot.@@N@@
open Jvm Jvm.ClassFile Sem Op Lib Jvm.Free Jvm.Stand Jvm.LawKit Jvm.RoadKit Bundle Jvm.Pilot.@@N@@.Jvm.D
def Goes (tb : Tables) (e : Env) (below : List Frame) (Q : Outcome → State → Prop) (A : State) : Prop := ∃ s₂ o, Steps tb e below A s₂ ∧ s₂.status = .running ∧ Ended s₂ below o ∧ Q o s₂
theorem Goes.step {tb : Tables} {e : Env} {below : List Frame} {Q : Outcome → State → Prop} {A B : State} (h : ∀ t, Steps tb e below A t → Steps tb e below B t) (k : Goes tb e below Q A) : Goes tb e below Q B := by
  obtain ⟨s₂, o, h1, h2⟩ := k
  exact ⟨s₂, o, h _ h1, h2⟩
theorem Goes.start {tb : Tables} {e : Env} {below : List Frame} {Q : Outcome → State → Prop} {A B : State} (h : ∀ t, Steps tb e below A t → Steps tb e below B t) (k : Goes tb e below Q A) : ∃ s₂ o, Steps tb e below B s₂ ∧ s₂.status = .running ∧ Ended s₂ below o ∧ Q o s₂ := Goes.step h k
theorem Goes.done {tb : Tables} {e : Env} {below : List Frame} {Q : Outcome → State → Prop} {A s₂ : State} {o : Outcome} (h1 : Steps tb e below A s₂) (h2 : s₂.status = .running) (h3 : Ended s₂ below o) (h4 : Q o s₂) : Goes tb e below Q A := ⟨s₂, o, h1, h2, h3, h4⟩
def drawF (x : Int32) : Int32 := if (x &&& (3 : Int32)) = 0 then 10 else if (x &&& (3 : Int32)) = 1 then 13 else x
def nlF (v : Int32) : Int32 := if v = 10 then 1 else if v = 13 then 1 else 0
def endsF (v b : Int32) : Int64 := if v = 13 then 1 else if v = 10 then (if b = 0 then 1 else 0) else 0
def lineF (v : Int32) (ln : Int64) (ac : Int32) : Int64 := if v = 13 then ln + 1 else if v = 10 then (if ac = 0 then ln + 1 else ln) else ln
def colF (v : Int32) (cl : Int64) : Int64 := if v = 10 then 1 else if v = 13 then 1 else cl + 1
def acF (v : Int32) : Int32 := if v = 13 then 1 else 0
theorem own_line (v : Int32) (ln : Int64) (ac : Int32) : lineF v ln ac = ln + endsF v ac := by
  by_cases h1 : v = 13 <;> by_cases h2 : v = 10 <;> by_cases h3 : ac = 0 <;> simp [lineF, endsF, h1, h2, h3]
theorem own_c1 (v : Int32) (cl : Int64) (h : nlF v = (0 : Int32)) : colF v cl = cl + 1 := by
  by_cases h1 : v = 13 <;> by_cases h2 : v = 10 <;> simp [nlF, colF, h1, h2] at h ⊢
theorem own_c0 (v : Int32) (cl : Int64) (h : ¬ nlF v = (0 : Int32)) : colF v cl = 1 := by
  by_cases h1 : v = 13 <;> by_cases h2 : v = 10 <;> simp [nlF, colF, h1, h2] at h ⊢
theorem own_no {v : Int32} (h : v = (10 : Int32)) : ¬ v = (13 : Int32) := by subst h; decide
theorem own_e2 : (1 : Int64) + 1 = 2 := by decide
theorem own_e3 : (2 : Int64) + 1 = 3 := by decide
theorem own_e4 : (3 : Int64) + 1 = 4 := by decide
theorem ef_1 (m : MethodId) (x0 : Int32) : entryFrame m #[(.int x0)] 2 = mkF m 0 #[.val (.int x0), .unset] [] := by first | (simp [entryFrame, mkF, argsToLocals, Value.category]; done) | rfl
def Q1 (Z : State) (p0 : Int32) (h0 : Heap) (n0 : Nat) (v : Option Value) (h : Heap) (L : List Loc) : Prop := v = some (.int (drawF p0)) ∧ Fr n0 L ∧ h = h0
theorem d1_0 : decode method_2_code 0 = .ok (.iload_n 0, 1) := by decide +kernel
theorem d1_1 : decode method_2_code 1 = .ok (.iconst 3, 1) := by decide +kernel
theorem d1_2 : decode method_2_code 2 = .ok (.iand, 1) := by decide +kernel
theorem d1_3 : decode method_2_code 3 = .ok (.istore_n 1, 1) := by decide +kernel
theorem d1_4 : decode method_2_code 4 = .ok (.iload_n 1, 1) := by decide +kernel
theorem d1_5 : decode method_2_code 5 = .ok (.ifCond .ne 6, 3) := by decide +kernel
theorem d1_8 : decode method_2_code 8 = .ok (.bipush 10, 2) := by decide +kernel
theorem d1_10 : decode method_2_code 10 = .ok (.ireturn, 1) := by decide +kernel
theorem d1_11 : decode method_2_code 11 = .ok (.iload_n 1, 1) := by decide +kernel
theorem d1_12 : decode method_2_code 12 = .ok (.iconst 1, 1) := by decide +kernel
theorem d1_13 : decode method_2_code 13 = .ok (.if_icmp .ne 6, 3) := by decide +kernel
theorem d1_16 : decode method_2_code 16 = .ok (.bipush 13, 2) := by decide +kernel
theorem d1_18 : decode method_2_code 18 = .ok (.ireturn, 1) := by decide +kernel
theorem d1_19 : decode method_2_code 19 = .ok (.iload_n 0, 1) := by decide +kernel
theorem d1_20 : decode method_2_code 20 = .ok (.ireturn, 1) := by decide +kernel
theorem pn_1 : plainName "com/example/plnr/plnr/io/BytePlacePassPinLaw" = true := by first | (simp [plainName, overriddenIn]; done) | decide +kernel
set_option maxRecDepth 65536 in
set_option maxHeartbeats 40000000 in
theorem rm1 (l : Launch) (Z : State) (a0 : Array Value) (hw : ∀ d ∈ tables_1, d.before a0 Z = true) (ws : List Jvm.Cond) (p0 : Int32) (h0 : Heap) (n0 : Nat) (Z0 : n0 ≤ h0.size) :
    MetFree l (⟨"com/example/plnr/plnr/io/BytePlacePassPinLaw", "draw", "(I)I"⟩ : MethodName) (head1 (Jvm.Cond.code (⟨"com/example/plnr/plnr/io/BytePlacePassPinLaw", "draw", "(I)I"⟩ : MethodName) method_2_code 2 (some .int) :: ws) ({ frames := 0, cells := 0, slots := 0, locals := 0 } : Room)) (fun a U => a = #[(.int p0)] ∧ Z.Warmed39 U.vm ∧ U.heap = h0) (fun _ _ _ _ _ => True) (fun _ U o U' => ∃ v L, o = .returned v ∧ Q1 Z p0 h0 n0 v U'.heap L ∧ FrameEnd U o U' L ({ frames := 0, cells := 0, slots := 0, locals := 0 } : Room).cells ({ frames := 0, cells := 0, slots := 0, locals := 0 } : Room).slots) := by
  refine MetFree.of_bodySF (plainFor_of_name pn_1) hisR ?_
  intro p e s m args below meth c s₁ Bd hml0 hP hK
  obtain ⟨rfl, hZ, hh⟩ := hP
  have hx := Bd.exec
  have hby := Bd.bytes
  have hml : c.maxLocals = 2 := hml0
  have hown : s.vm.findClass "com/example/plnr/plnr/io/BytePlacePassPinLaw" = some m.cls := findClass_of_methodNamed Bd.named
  have hnm := (name_of_methodNamed Bd.named Bd.method).1
  have X0 : Stand p l e ({ frames := 0, cells := 0, slots := 0, locals := 0 } : Room) s m #[(.int p0)] below meth c s₁ [] 0 0 := Stand.of_body Bd
  have e0 : s₁.heap = h0 := by rw [← hh, Bd.state]; rfl
  have N0 := Fr.nil n0
  refine Goes.start (Q := (fun o U' => ∃ v L, o = .returned v ∧ Q1 Z p0 h0 n0 v U'.heap L ∧ FrameEnd s o U' L ({ frames := 0, cells := 0, slots := 0, locals := 0 } : Room).cells ({ frames := 0, cells := 0, slots := 0, locals := 0 } : Room).slots)) (A := s₁.setTop (mkF m 0 #[.val (.int p0), .unset] [])) (fun t k => castTop (ef_1 m p0) k) ?_
  refine Goes.step (A := s₁.setTop (mkF m 5 #[.val (.int p0), .val (.int (p0 &&& (3 : Int32)))] [(.int (p0 &&& (3 : Int32)))])) (fun t kt => ?_) ?_
  · refine XS.iloadN X0.here hx rfl (hb hby d1_0) rfl ?_
    show Steps p.tables e below (s₁.setTop (mkF m 1 #[.val (.int p0), .unset] [(.int p0)])) _
    refine XS.iconst X0.here hx rfl (hb hby d1_1) ?_
    show Steps p.tables e below (s₁.setTop (mkF m 2 #[.val (.int p0), .unset] [(.int (3 : Int32)), (.int p0)])) _
    refine XS.iand X0.here hx rfl (hb hby d1_2) rfl ?_
    show Steps p.tables e below (s₁.setTop (mkF m 3 #[.val (.int p0), .unset] [(.int (p0 &&& (3 : Int32)))])) _
    refine XS.istoreN X0.here hx rfl (hb hby d1_3) rfl (l' := #[.val (.int p0), .val (.int (p0 &&& (3 : Int32)))]) rfl ?_
    show Steps p.tables e below (s₁.setTop (mkF m 4 #[.val (.int p0), .val (.int (p0 &&& (3 : Int32)))] [])) _
    refine XS.iloadN X0.here hx rfl (hb hby d1_4) rfl ?_
    exact kt
  by_cases hc5_1 : (p0 &&& (3 : Int32)) = (0 : Int32)
  · refine Goes.step (A := s₁.setTop (mkF m 8 #[.val (.int p0), .val (.int (p0 &&& (3 : Int32)))] [])) (fun t kt => XS.ifNo X0.here hx rfl (hb hby d1_5) rfl ((if0 _ _).trans (teq hc5_1).2) kt) ?_
    refine Goes.step (A := s₁.setTop (mkF m 10 #[.val (.int p0), .val (.int (p0 &&& (3 : Int32)))] [(.int (10 : Int32))])) (fun t kt => ?_) ?_
    · refine XS.bipush X0.here hx rfl (hb hby d1_8) ?_
      exact kt
    obtain ⟨fs, hr, hrun, hended, hW, hsame⟩ := X0.leave (v := some (.int (10 : Int32))) (fun h => by rw [Bd.returns] at h; cases h)
    refine Goes.done ?_ hrun hended ⟨_, _, rfl, ?_, ⟨_, rfl⟩, hW, hsame.mono (by decide) (by decide)⟩
    · exact retI X0 hx Bd.returns (hb hby d1_10) hr
    · show Q1 Z p0 h0 n0 _ s₁.heap _
      rw [e0]
      exact ⟨congrArg some (congrArg Value.int (by simp [drawF, hc5_1])), N0, rfl⟩
  · refine Goes.step (A := s₁.setTop (mkF m 11 #[.val (.int p0), .val (.int (p0 &&& (3 : Int32)))] [])) (fun t kt => XS.ifYes X0.here hx rfl (pc0 := 5) (pc' := 11) rfl (hb hby d1_5) rfl ((if0 _ _).trans (feq hc5_1).2) (by decide) (by decide) kt) ?_
    refine Goes.step (A := s₁.setTop (mkF m 13 #[.val (.int p0), .val (.int (p0 &&& (3 : Int32)))] [(.int (1 : Int32)), (.int (p0 &&& (3 : Int32)))])) (fun t kt => ?_) ?_
    · refine XS.iloadN X0.here hx rfl (hb hby d1_11) rfl ?_
      show Steps p.tables e below (s₁.setTop (mkF m 12 #[.val (.int p0), .val (.int (p0 &&& (3 : Int32)))] [(.int (p0 &&& (3 : Int32)))])) _
      refine XS.iconst X0.here hx rfl (hb hby d1_12) ?_
      exact kt
    by_cases hc13_2 : (p0 &&& (3 : Int32)) = (1 : Int32)
    · refine Goes.step (A := s₁.setTop (mkF m 16 #[.val (.int p0), .val (.int (p0 &&& (3 : Int32)))] [])) (fun t kt => XS.icmpNo X0.here hx rfl (hb hby d1_13) rfl (teq hc13_2).2 kt) ?_
      refine Goes.step (A := s₁.setTop (mkF m 18 #[.val (.int p0), .val (.int (p0 &&& (3 : Int32)))] [(.int (13 : Int32))])) (fun t kt => ?_) ?_
      · refine XS.bipush X0.here hx rfl (hb hby d1_16) ?_
        exact kt
      obtain ⟨fs, hr, hrun, hended, hW, hsame⟩ := X0.leave (v := some (.int (13 : Int32))) (fun h => by rw [Bd.returns] at h; cases h)
      refine Goes.done ?_ hrun hended ⟨_, _, rfl, ?_, ⟨_, rfl⟩, hW, hsame.mono (by decide) (by decide)⟩
      · exact retI X0 hx Bd.returns (hb hby d1_18) hr
      · show Q1 Z p0 h0 n0 _ s₁.heap _
        rw [e0]
        exact ⟨congrArg some (congrArg Value.int (by simp [drawF, hc5_1, hc13_2])), N0, rfl⟩
    · refine Goes.step (A := s₁.setTop (mkF m 19 #[.val (.int p0), .val (.int (p0 &&& (3 : Int32)))] [])) (fun t kt => XS.icmpYes X0.here hx rfl (pc0 := 13) (pc' := 19) rfl (hb hby d1_13) rfl (feq hc13_2).2 (by decide) (by decide) kt) ?_
      refine Goes.step (A := s₁.setTop (mkF m 20 #[.val (.int p0), .val (.int (p0 &&& (3 : Int32)))] [(.int p0)])) (fun t kt => ?_) ?_
      · refine XS.iloadN X0.here hx rfl (hb hby d1_19) rfl ?_
        exact kt
      obtain ⟨fs, hr, hrun, hended, hW, hsame⟩ := X0.leave (v := some (.int p0)) (fun h => by rw [Bd.returns] at h; cases h)
      refine Goes.done ?_ hrun hended ⟨_, _, rfl, ?_, ⟨_, rfl⟩, hW, hsame.mono (by decide) (by decide)⟩
      · exact retI X0 hx Bd.returns (hb hby d1_20) hr
      · show Q1 Z p0 h0 n0 _ s₁.heap _
        rw [e0]
        exact ⟨congrArg some (congrArg Value.int (by simp [drawF, hc5_1, hc13_2])), N0, rfl⟩
theorem ef_8 (m : MethodId) (x0 : Int32) : entryFrame m #[(.int x0)] 1 = mkF m 0 #[.val (.int x0)] [] := by first | (simp [entryFrame, mkF, argsToLocals, Value.category]; done) | rfl
def Q8 (Z : State) (p0 : Int32) (h0 : Heap) (n0 : Nat) (v : Option Value) (h : Heap) (L : List Loc) : Prop := v = some (.int (nlF p0)) ∧ Fr n0 L ∧ h = h0
theorem d8_0 : decode method_3_code 0 = .ok (.iload_n 0, 1) := by decide +kernel
theorem d8_1 : decode method_3_code 1 = .ok (.bipush 10, 2) := by decide +kernel
theorem d8_3 : decode method_3_code 3 = .ok (.if_icmp .eq 9, 3) := by decide +kernel
theorem d8_6 : decode method_3_code 6 = .ok (.iload_n 0, 1) := by decide +kernel
theorem d8_7 : decode method_3_code 7 = .ok (.bipush 13, 2) := by decide +kernel
theorem d8_9 : decode method_3_code 9 = .ok (.if_icmp .ne 7, 3) := by decide +kernel
theorem d8_12 : decode method_3_code 12 = .ok (.iconst 1, 1) := by decide +kernel
theorem d8_13 : decode method_3_code 13 = .ok (.goto 4, 3) := by decide +kernel
theorem d8_16 : decode method_3_code 16 = .ok (.iconst 0, 1) := by decide +kernel
theorem d8_17 : decode method_3_code 17 = .ok (.ireturn, 1) := by decide +kernel
theorem pn_8 : plainName "com/example/plnr/plnr/io/BytePlacePassPinLaw" = true := by first | (simp [plainName, overriddenIn]; done) | decide +kernel
set_option maxRecDepth 65536 in
set_option maxHeartbeats 40000000 in
theorem rm8 (l : Launch) (Z : State) (a0 : Array Value) (hw : ∀ d ∈ tables_1, d.before a0 Z = true) (ws : List Jvm.Cond) (p0 : Int32) (h0 : Heap) (n0 : Nat) (Z0 : n0 ≤ h0.size) :
    MetFree l (⟨"com/example/plnr/plnr/io/BytePlacePassPinLaw", "nl", "(I)Z"⟩ : MethodName) (head1 (Jvm.Cond.code (⟨"com/example/plnr/plnr/io/BytePlacePassPinLaw", "nl", "(I)Z"⟩ : MethodName) method_3_code 1 (some .boolean) :: ws) ({ frames := 0, cells := 0, slots := 0, locals := 0 } : Room)) (fun a U => a = #[(.int p0)] ∧ Z.Warmed39 U.vm ∧ U.heap = h0) (fun _ _ _ _ _ => True) (fun _ U o U' => ∃ v L, o = .returned v ∧ Q8 Z p0 h0 n0 v U'.heap L ∧ FrameEnd U o U' L ({ frames := 0, cells := 0, slots := 0, locals := 0 } : Room).cells ({ frames := 0, cells := 0, slots := 0, locals := 0 } : Room).slots) := by
  refine MetFree.of_bodySF (plainFor_of_name pn_8) hisR ?_
  intro p e s m args below meth c s₁ Bd hml0 hP hK
  obtain ⟨rfl, hZ, hh⟩ := hP
  have hx := Bd.exec
  have hby := Bd.bytes
  have hml : c.maxLocals = 1 := hml0
  have hown : s.vm.findClass "com/example/plnr/plnr/io/BytePlacePassPinLaw" = some m.cls := findClass_of_methodNamed Bd.named
  have hnm := (name_of_methodNamed Bd.named Bd.method).1
  have X0 : Stand p l e ({ frames := 0, cells := 0, slots := 0, locals := 0 } : Room) s m #[(.int p0)] below meth c s₁ [] 0 0 := Stand.of_body Bd
  have e0 : s₁.heap = h0 := by rw [← hh, Bd.state]; rfl
  have N0 := Fr.nil n0
  refine Goes.start (Q := (fun o U' => ∃ v L, o = .returned v ∧ Q8 Z p0 h0 n0 v U'.heap L ∧ FrameEnd s o U' L ({ frames := 0, cells := 0, slots := 0, locals := 0 } : Room).cells ({ frames := 0, cells := 0, slots := 0, locals := 0 } : Room).slots)) (A := s₁.setTop (mkF m 0 #[.val (.int p0)] [])) (fun t k => castTop (ef_8 m p0) k) ?_
  refine Goes.step (A := s₁.setTop (mkF m 3 #[.val (.int p0)] [(.int (10 : Int32)), (.int p0)])) (fun t kt => ?_) ?_
  · refine XS.iloadN X0.here hx rfl (hb hby d8_0) rfl ?_
    show Steps p.tables e below (s₁.setTop (mkF m 1 #[.val (.int p0)] [(.int p0)])) _
    refine XS.bipush X0.here hx rfl (hb hby d8_1) ?_
    exact kt
  by_cases hc3_3 : p0 = (10 : Int32)
  · refine Goes.step (A := s₁.setTop (mkF m 12 #[.val (.int p0)] [])) (fun t kt => XS.icmpYes X0.here hx rfl (pc0 := 3) (pc' := 12) rfl (hb hby d8_3) rfl (teq hc3_3).1 (by decide) (by decide) kt) ?_
    refine Goes.step (A := s₁.setTop (mkF m 17 #[.val (.int p0)] [(.int (1 : Int32))])) (fun t kt => ?_) ?_
    · refine XS.iconst X0.here hx rfl (hb hby d8_12) ?_
      show Steps p.tables e below (s₁.setTop (mkF m 13 #[.val (.int p0)] [(.int (1 : Int32))])) _
      refine XS.goto X0.here hx rfl (pc0 := 13) (pc' := 17) rfl (hb hby d8_13) (by decide) (by decide) ?_
      exact kt
    obtain ⟨fs, hr, hrun, hended, hW, hsame⟩ := X0.leave (v := some (.int (1 : Int32))) (fun h => by rw [Bd.returns] at h; cases h)
    refine Goes.done ?_ hrun hended ⟨_, _, rfl, ?_, ⟨_, rfl⟩, hW, hsame.mono (by decide) (by decide)⟩
    · exact retN X0 hx (t := .boolean) Bd.returns (by simp) (hb hby d8_17) hr
    · show Q8 Z p0 h0 n0 _ s₁.heap _
      rw [e0]
      exact ⟨congrArg some (congrArg Value.int (by simp [nlF, hc3_3])), N0, rfl⟩
  · refine Goes.step (A := s₁.setTop (mkF m 6 #[.val (.int p0)] [])) (fun t kt => XS.icmpNo X0.here hx rfl (hb hby d8_3) rfl (feq hc3_3).1 kt) ?_
    refine Goes.step (A := s₁.setTop (mkF m 9 #[.val (.int p0)] [(.int (13 : Int32)), (.int p0)])) (fun t kt => ?_) ?_
    · refine XS.iloadN X0.here hx rfl (hb hby d8_6) rfl ?_
      show Steps p.tables e below (s₁.setTop (mkF m 7 #[.val (.int p0)] [(.int p0)])) _
      refine XS.bipush X0.here hx rfl (hb hby d8_7) ?_
      exact kt
    by_cases hc9_4 : p0 = (13 : Int32)
    · refine Goes.step (A := s₁.setTop (mkF m 12 #[.val (.int p0)] [])) (fun t kt => XS.icmpNo X0.here hx rfl (hb hby d8_9) rfl (teq hc9_4).2 kt) ?_
      refine Goes.step (A := s₁.setTop (mkF m 17 #[.val (.int p0)] [(.int (1 : Int32))])) (fun t kt => ?_) ?_
      · refine XS.iconst X0.here hx rfl (hb hby d8_12) ?_
        show Steps p.tables e below (s₁.setTop (mkF m 13 #[.val (.int p0)] [(.int (1 : Int32))])) _
        refine XS.goto X0.here hx rfl (pc0 := 13) (pc' := 17) rfl (hb hby d8_13) (by decide) (by decide) ?_
        exact kt
      obtain ⟨fs, hr, hrun, hended, hW, hsame⟩ := X0.leave (v := some (.int (1 : Int32))) (fun h => by rw [Bd.returns] at h; cases h)
      refine Goes.done ?_ hrun hended ⟨_, _, rfl, ?_, ⟨_, rfl⟩, hW, hsame.mono (by decide) (by decide)⟩
      · exact retN X0 hx (t := .boolean) Bd.returns (by simp) (hb hby d8_17) hr
      · show Q8 Z p0 h0 n0 _ s₁.heap _
        rw [e0]
        exact ⟨congrArg some (congrArg Value.int (by simp [nlF, hc3_3, hc9_4])), N0, rfl⟩
    · refine Goes.step (A := s₁.setTop (mkF m 16 #[.val (.int p0)] [])) (fun t kt => XS.icmpYes X0.here hx rfl (pc0 := 9) (pc' := 16) rfl (hb hby d8_9) rfl (feq hc9_4).2 (by decide) (by decide) kt) ?_
      refine Goes.step (A := s₁.setTop (mkF m 17 #[.val (.int p0)] [(.int (0 : Int32))])) (fun t kt => ?_) ?_
      · refine XS.iconst X0.here hx rfl (hb hby d8_16) ?_
        exact kt
      obtain ⟨fs, hr, hrun, hended, hW, hsame⟩ := X0.leave (v := some (.int (0 : Int32))) (fun h => by rw [Bd.returns] at h; cases h)
      refine Goes.done ?_ hrun hended ⟨_, _, rfl, ?_, ⟨_, rfl⟩, hW, hsame.mono (by decide) (by decide)⟩
      · exact retN X0 hx (t := .boolean) Bd.returns (by simp) (hb hby d8_17) hr
      · show Q8 Z p0 h0 n0 _ s₁.heap _
        rw [e0]
        exact ⟨congrArg some (congrArg Value.int (by simp [nlF, hc3_3, hc9_4])), N0, rfl⟩
theorem ef_7 (m : MethodId) (x0 : Int32) (x1 : Int32) : entryFrame m #[(.int x0), (.int x1)] 2 = mkF m 0 #[.val (.int x0), .val (.int x1)] [] := by first | (simp [entryFrame, mkF, argsToLocals, Value.category]; done) | rfl
def Q7 (Z : State) (p0 : Int32) (p1 : Int32) (h0 : Heap) (n0 : Nat) (v : Option Value) (h : Heap) (L : List Loc) : Prop := v = some (.long (endsF p0 p1)) ∧ Fr n0 L ∧ h = h0
theorem d7_0 : decode method_4_code 0 = .ok (.iload_n 0, 1) := by decide +kernel
theorem d7_1 : decode method_4_code 1 = .ok (.bipush 13, 2) := by decide +kernel
theorem d7_3 : decode method_4_code 3 = .ok (.if_icmp .ne 5, 3) := by decide +kernel
theorem d7_6 : decode method_4_code 6 = .ok (.lconst 1, 1) := by decide +kernel
theorem d7_7 : decode method_4_code 7 = .ok (.lreturn, 1) := by decide +kernel
theorem d7_8 : decode method_4_code 8 = .ok (.iload_n 0, 1) := by decide +kernel
theorem d7_9 : decode method_4_code 9 = .ok (.bipush 10, 2) := by decide +kernel
theorem d7_11 : decode method_4_code 11 = .ok (.if_icmp .ne 9, 3) := by decide +kernel
theorem d7_14 : decode method_4_code 14 = .ok (.iload_n 1, 1) := by decide +kernel
theorem d7_15 : decode method_4_code 15 = .ok (.ifCond .ne 5, 3) := by decide +kernel
theorem d7_18 : decode method_4_code 18 = .ok (.lconst 1, 1) := by decide +kernel
theorem d7_19 : decode method_4_code 19 = .ok (.lreturn, 1) := by decide +kernel
theorem d7_20 : decode method_4_code 20 = .ok (.lconst 0, 1) := by decide +kernel
theorem d7_21 : decode method_4_code 21 = .ok (.lreturn, 1) := by decide +kernel
theorem pn_7 : plainName "com/example/plnr/plnr/io/BytePlacePassPinLaw" = true := by first | (simp [plainName, overriddenIn]; done) | decide +kernel
set_option maxRecDepth 65536 in
set_option maxHeartbeats 40000000 in
theorem rm7 (l : Launch) (Z : State) (a0 : Array Value) (hw : ∀ d ∈ tables_1, d.before a0 Z = true) (ws : List Jvm.Cond) (p0 : Int32) (p1 : Int32) (h0 : Heap) (n0 : Nat) (Z0 : n0 ≤ h0.size) :
    MetFree l (⟨"com/example/plnr/plnr/io/BytePlacePassPinLaw", "ends", "(IZ)J"⟩ : MethodName) (head1 (Jvm.Cond.code (⟨"com/example/plnr/plnr/io/BytePlacePassPinLaw", "ends", "(IZ)J"⟩ : MethodName) method_4_code 2 (some .long) :: ws) ({ frames := 0, cells := 0, slots := 0, locals := 0 } : Room)) (fun a U => a = #[(.int p0), (.int p1)] ∧ Z.Warmed39 U.vm ∧ U.heap = h0) (fun _ _ _ _ _ => True) (fun _ U o U' => ∃ v L, o = .returned v ∧ Q7 Z p0 p1 h0 n0 v U'.heap L ∧ FrameEnd U o U' L ({ frames := 0, cells := 0, slots := 0, locals := 0 } : Room).cells ({ frames := 0, cells := 0, slots := 0, locals := 0 } : Room).slots) := by
  refine MetFree.of_bodySF (plainFor_of_name pn_7) hisR ?_
  intro p e s m args below meth c s₁ Bd hml0 hP hK
  obtain ⟨rfl, hZ, hh⟩ := hP
  have hx := Bd.exec
  have hby := Bd.bytes
  have hml : c.maxLocals = 2 := hml0
  have hown : s.vm.findClass "com/example/plnr/plnr/io/BytePlacePassPinLaw" = some m.cls := findClass_of_methodNamed Bd.named
  have hnm := (name_of_methodNamed Bd.named Bd.method).1
  have X0 : Stand p l e ({ frames := 0, cells := 0, slots := 0, locals := 0 } : Room) s m #[(.int p0), (.int p1)] below meth c s₁ [] 0 0 := Stand.of_body Bd
  have e0 : s₁.heap = h0 := by rw [← hh, Bd.state]; rfl
  have N0 := Fr.nil n0
  refine Goes.start (Q := (fun o U' => ∃ v L, o = .returned v ∧ Q7 Z p0 p1 h0 n0 v U'.heap L ∧ FrameEnd s o U' L ({ frames := 0, cells := 0, slots := 0, locals := 0 } : Room).cells ({ frames := 0, cells := 0, slots := 0, locals := 0 } : Room).slots)) (A := s₁.setTop (mkF m 0 #[.val (.int p0), .val (.int p1)] [])) (fun t k => castTop (ef_7 m p0 p1) k) ?_
  refine Goes.step (A := s₁.setTop (mkF m 3 #[.val (.int p0), .val (.int p1)] [(.int (13 : Int32)), (.int p0)])) (fun t kt => ?_) ?_
  · refine XS.iloadN X0.here hx rfl (hb hby d7_0) rfl ?_
    show Steps p.tables e below (s₁.setTop (mkF m 1 #[.val (.int p0), .val (.int p1)] [(.int p0)])) _
    refine XS.bipush X0.here hx rfl (hb hby d7_1) ?_
    exact kt
  by_cases hc3_5 : p0 = (13 : Int32)
  · refine Goes.step (A := s₁.setTop (mkF m 6 #[.val (.int p0), .val (.int p1)] [])) (fun t kt => XS.icmpNo X0.here hx rfl (hb hby d7_3) rfl (teq hc3_5).2 kt) ?_
    refine Goes.step (A := s₁.setTop (mkF m 7 #[.val (.int p0), .val (.int p1)] [(.long (1 : Int64))])) (fun t kt => ?_) ?_
    · refine XS.lconst X0.here hx rfl (hb hby d7_6) ?_
      exact kt
    obtain ⟨fs, hr, hrun, hended, hW, hsame⟩ := X0.leave (v := some (.long (1 : Int64))) (fun h => by rw [Bd.returns] at h; cases h)
    refine Goes.done ?_ hrun hended ⟨_, _, rfl, ?_, ⟨_, rfl⟩, hW, hsame.mono (by decide) (by decide)⟩
    · jvm_step X0.here [X0.here.top, hx, (hb hby d7_7), X0.method', Bd.returns, narrow]
      first | (intro acts; rw [hr _ acts rfl rfl rfl]) | rw [hr _ _ rfl rfl rfl]
      exact Steps.refl _
    · show Q7 Z p0 p1 h0 n0 _ s₁.heap _
      rw [e0]
      exact ⟨congrArg some (congrArg Value.long (by simp [endsF, hc3_5])), N0, rfl⟩
  · refine Goes.step (A := s₁.setTop (mkF m 8 #[.val (.int p0), .val (.int p1)] [])) (fun t kt => XS.icmpYes X0.here hx rfl (pc0 := 3) (pc' := 8) rfl (hb hby d7_3) rfl (feq hc3_5).2 (by decide) (by decide) kt) ?_
    refine Goes.step (A := s₁.setTop (mkF m 11 #[.val (.int p0), .val (.int p1)] [(.int (10 : Int32)), (.int p0)])) (fun t kt => ?_) ?_
    · refine XS.iloadN X0.here hx rfl (hb hby d7_8) rfl ?_
      show Steps p.tables e below (s₁.setTop (mkF m 9 #[.val (.int p0), .val (.int p1)] [(.int p0)])) _
      refine XS.bipush X0.here hx rfl (hb hby d7_9) ?_
      exact kt
    by_cases hc11_6 : p0 = (10 : Int32)
    · refine Goes.step (A := s₁.setTop (mkF m 14 #[.val (.int p0), .val (.int p1)] [])) (fun t kt => XS.icmpNo X0.here hx rfl (hb hby d7_11) rfl (teq hc11_6).2 kt) ?_
      refine Goes.step (A := s₁.setTop (mkF m 15 #[.val (.int p0), .val (.int p1)] [(.int p1)])) (fun t kt => ?_) ?_
      · refine XS.iloadN X0.here hx rfl (hb hby d7_14) rfl ?_
        exact kt
      by_cases hc15_7 : p1 = (0 : Int32)
      · refine Goes.step (A := s₁.setTop (mkF m 18 #[.val (.int p0), .val (.int p1)] [])) (fun t kt => XS.ifNo X0.here hx rfl (hb hby d7_15) rfl ((if0 _ _).trans (teq hc15_7).2) kt) ?_
        refine Goes.step (A := s₁.setTop (mkF m 19 #[.val (.int p0), .val (.int p1)] [(.long (1 : Int64))])) (fun t kt => ?_) ?_
        · refine XS.lconst X0.here hx rfl (hb hby d7_18) ?_
          exact kt
        obtain ⟨fs, hr, hrun, hended, hW, hsame⟩ := X0.leave (v := some (.long (1 : Int64))) (fun h => by rw [Bd.returns] at h; cases h)
        refine Goes.done ?_ hrun hended ⟨_, _, rfl, ?_, ⟨_, rfl⟩, hW, hsame.mono (by decide) (by decide)⟩
        · jvm_step X0.here [X0.here.top, hx, (hb hby d7_19), X0.method', Bd.returns, narrow]
          first | (intro acts; rw [hr _ acts rfl rfl rfl]) | rw [hr _ _ rfl rfl rfl]
          exact Steps.refl _
        · show Q7 Z p0 p1 h0 n0 _ s₁.heap _
          rw [e0]
          exact ⟨congrArg some (congrArg Value.long (by simp [endsF, hc3_5, hc11_6, hc15_7])), N0, rfl⟩
      · refine Goes.step (A := s₁.setTop (mkF m 20 #[.val (.int p0), .val (.int p1)] [])) (fun t kt => XS.ifYes X0.here hx rfl (pc0 := 15) (pc' := 20) rfl (hb hby d7_15) rfl ((if0 _ _).trans (feq hc15_7).2) (by decide) (by decide) kt) ?_
        refine Goes.step (A := s₁.setTop (mkF m 21 #[.val (.int p0), .val (.int p1)] [(.long (0 : Int64))])) (fun t kt => ?_) ?_
        · refine XS.lconst X0.here hx rfl (hb hby d7_20) ?_
          exact kt
        obtain ⟨fs, hr, hrun, hended, hW, hsame⟩ := X0.leave (v := some (.long (0 : Int64))) (fun h => by rw [Bd.returns] at h; cases h)
        refine Goes.done ?_ hrun hended ⟨_, _, rfl, ?_, ⟨_, rfl⟩, hW, hsame.mono (by decide) (by decide)⟩
        · jvm_step X0.here [X0.here.top, hx, (hb hby d7_21), X0.method', Bd.returns, narrow]
          first | (intro acts; rw [hr _ acts rfl rfl rfl]) | rw [hr _ _ rfl rfl rfl]
          exact Steps.refl _
        · show Q7 Z p0 p1 h0 n0 _ s₁.heap _
          rw [e0]
          exact ⟨congrArg some (congrArg Value.long (by simp [endsF, hc3_5, hc11_6, hc15_7])), N0, rfl⟩
    · refine Goes.step (A := s₁.setTop (mkF m 20 #[.val (.int p0), .val (.int p1)] [])) (fun t kt => XS.icmpYes X0.here hx rfl (pc0 := 11) (pc' := 20) rfl (hb hby d7_11) rfl (feq hc11_6).2 (by decide) (by decide) kt) ?_
      refine Goes.step (A := s₁.setTop (mkF m 21 #[.val (.int p0), .val (.int p1)] [(.long (0 : Int64))])) (fun t kt => ?_) ?_
      · refine XS.lconst X0.here hx rfl (hb hby d7_20) ?_
        exact kt
      obtain ⟨fs, hr, hrun, hended, hW, hsame⟩ := X0.leave (v := some (.long (0 : Int64))) (fun h => by rw [Bd.returns] at h; cases h)
      refine Goes.done ?_ hrun hended ⟨_, _, rfl, ?_, ⟨_, rfl⟩, hW, hsame.mono (by decide) (by decide)⟩
      · jvm_step X0.here [X0.here.top, hx, (hb hby d7_21), X0.method', Bd.returns, narrow]
        first | (intro acts; rw [hr _ acts rfl rfl rfl]) | rw [hr _ _ rfl rfl rfl]
        exact Steps.refl _
      · show Q7 Z p0 p1 h0 n0 _ s₁.heap _
        rw [e0]
        exact ⟨congrArg some (congrArg Value.long (by simp [endsF, hc3_5, hc11_6])), N0, rfl⟩
theorem ef_2 (m : MethodId) (x0 : Addr) : entryFrame m #[(.ref x0)] 1 = mkF m 0 #[.val (.ref x0)] [] := by first | (simp [entryFrame, mkF, argsToLocals, Value.category]; done) | rfl
def Q2 (Z : State) (p0 : Addr) (h0 : Heap) (n0 : Nat) (v : Option Value) (h : Heap) (L : List Loc) : Prop := v = none ∧ Fr n0 L ∧ Keep h0 h [p0] ∧ Exa Z h p0 "com/example/plnr/plnr/io/BytePlace" ∧ Fld Z h p0 "com/example/plnr/plnr/io/BytePlace" "line" "J" (.long (1 : Int64)) ∧ Fld Z h p0 "com/example/plnr/plnr/io/BytePlace" "column" "J" (.long (1 : Int64)) ∧ Fld Z h p0 "com/example/plnr/plnr/io/BytePlace" "afterCarriageReturn" "Z" (.int (0 : Int32))
theorem d2_0 : decode prog_20_method_1_code 0 = .ok (.aload_n 0, 1) := by decide +kernel
theorem d2_1 : decode prog_20_method_1_code 1 = .ok (.invokespecial 1, 3) := by decide +kernel
theorem d2_4 : decode prog_20_method_1_code 4 = .ok (.aload_n 0, 1) := by decide +kernel
theorem d2_5 : decode prog_20_method_1_code 5 = .ok (.lconst 1, 1) := by decide +kernel
theorem d2_6 : decode prog_20_method_1_code 6 = .ok (.putfield 7, 3) := by decide +kernel
theorem d2_9 : decode prog_20_method_1_code 9 = .ok (.aload_n 0, 1) := by decide +kernel
theorem d2_10 : decode prog_20_method_1_code 10 = .ok (.lconst 1, 1) := by decide +kernel
theorem d2_11 : decode prog_20_method_1_code 11 = .ok (.putfield 13, 3) := by decide +kernel
theorem d2_14 : decode prog_20_method_1_code 14 = .ok (.return_, 1) := by decide +kernel
theorem pn_2 : plainName "com/example/plnr/plnr/io/BytePlace" = true := by first | (simp [plainName, overriddenIn]; done) | decide +kernel
set_option maxRecDepth 65536 in
set_option maxHeartbeats 40000000 in
theorem rm2 (l : Launch) (Z : State) (a0 : Array Value) (hw : ∀ d ∈ tables_1, d.before a0 Z = true) (ws : List Jvm.Cond) (p0 : Addr) (h0 : Heap) (n0 : Nat) (Z0 : n0 ≤ h0.size) (F_line : Fld Z h0 p0 "com/example/plnr/plnr/io/BytePlace" "line" "J" (.long (0 : Int64))) (F_column : Fld Z h0 p0 "com/example/plnr/plnr/io/BytePlace" "column" "J" (.long (0 : Int64))) (F_afterCarriageReturn : Fld Z h0 p0 "com/example/plnr/plnr/io/BytePlace" "afterCarriageReturn" "Z" (.int (0 : Int32))) (E7 : Exa Z h0 p0 "com/example/plnr/plnr/io/BytePlace") (g9 : n0 ≤ p0) :
    MetFree l (⟨"com/example/plnr/plnr/io/BytePlace", "<init>", "()V"⟩ : MethodName) (head1 (Jvm.Cond.code (⟨"com/example/plnr/plnr/io/BytePlace", "<init>", "()V"⟩ : MethodName) prog_20_method_1_code 1 none :: ws) ({ frames := 1, cells := 0, slots := 0, locals := 12 } : Room)) (fun a U => a = #[(.ref p0)] ∧ Z.Warmed39 U.vm ∧ U.heap = h0) (fun _ _ _ _ _ => True) (fun _ U o U' => ∃ v L, o = .returned v ∧ Q2 Z p0 h0 n0 v U'.heap L ∧ FrameEnd U o U' L ({ frames := 1, cells := 0, slots := 0, locals := 12 } : Room).cells ({ frames := 1, cells := 0, slots := 0, locals := 12 } : Room).slots) := by
  refine MetFree.of_bodySF (plainFor_of_name pn_2) hisR ?_
  intro p e s m args below meth c s₁ Bd hml0 hP hK
  obtain ⟨rfl, hZ, hh⟩ := hP
  have hx := Bd.exec
  have hby := Bd.bytes
  have hml : c.maxLocals = 1 := hml0
  have hown : s.vm.findClass "com/example/plnr/plnr/io/BytePlace" = some m.cls := findClass_of_methodNamed Bd.named
  have hnm := (name_of_methodNamed Bd.named Bd.method).1
  have X0 : Stand p l e ({ frames := 1, cells := 0, slots := 0, locals := 12 } : Room) s m #[(.ref p0)] below meth c s₁ [] 0 0 := Stand.of_body Bd
  have e0 : s₁.heap = h0 := by rw [← hh, Bd.state]; rfl
  have N0 := Fr.nil n0
  refine Goes.start (Q := (fun o U' => ∃ v L, o = .returned v ∧ Q2 Z p0 h0 n0 v U'.heap L ∧ FrameEnd s o U' L ({ frames := 1, cells := 0, slots := 0, locals := 12 } : Room).cells ({ frames := 1, cells := 0, slots := 0, locals := 12 } : Room).slots)) (A := s₁.setTop (mkF m 0 #[.val (.ref p0)] [])) (fun t k => castTop (ef_2 m p0) k) ?_
  refine Goes.step (A := s₁.setTop (mkF m 1 #[.val (.ref p0)] [(.ref p0)])) (fun t kt => ?_) ?_
  · refine XS.aloadN X0.here hx rfl (hb hby d2_0) rfl rfl ?_
    exact kt
  obtain ⟨T1, X1, e1, st1⟩ := initO X0 hx hZ hown (hw _ (List.mem_of_getElem? (i := 10) rfl)) (hw _ (List.mem_of_getElem? (i := 11) rfl)) (hw _ (List.mem_of_getElem? (i := 12) rfl)) e0 (g := (mkF m 1 #[.val (.ref p0)] [(.ref p0)])) rfl (by rw [hml]; rfl) rfl (hb hby d2_1) (by decide) (W := 0) (by show 2 * 0 + _ ≤ _; exact Nat.le_of_eq rfl) (by decide)
  refine Goes.step (A := T1.setTop (mkF m 4 #[.val (.ref p0)] [])) (fun t kt => st1 _ kt) ?_
  refine Goes.step (A := T1.setTop (mkF m 6 #[.val (.ref p0)] [(.long (1 : Int64)), (.ref p0)])) (fun t kt => ?_) ?_
  · refine XS.aloadN X1.here hx rfl (hb hby d2_4) rfl rfl ?_
    show Steps p.tables e below (T1.setTop (mkF m 5 #[.val (.ref p0)] [(.ref p0)])) _
    refine XS.lconst X1.here hx rfl (hb hby d2_5) ?_
    exact kt
  obtain ⟨T2, h2, X2, e2, W2, st2⟩ := putF X1 hx hZ hown (host := "") (Or.inl (hw _ (List.mem_of_getElem? (i := 13) rfl))) Via.refl e1 F_line E7 (Or.inl (hw _ (List.mem_of_getElem? (i := 14) rfl))) (hw _ (List.mem_of_getElem? (i := 5) rfl)) (ty := .long) (by decide) rfl rfl (g := (mkF m 6 #[.val (.ref p0)] [(.long (1 : Int64)), (.ref p0)])) rfl rfl (hb hby d2_6)
  have N2 := Fr.snoc X2 N0 g9
  have E2_p0 := E7.wr W2
  have K2 := (Keep.refl h0 [p0]).wr W2 (Or.inl (List.mem_of_getElem? (i := 0) rfl))
  have F2_p0_line : Fld Z h2 p0 "com/example/plnr/plnr/io/BytePlace" "line" "J" (.long (1 : Int64)) := F_line.same W2
  have F2_p0_column := F_column.other W2 (Or.inr (slot_ne (Or.inl (hw _ (List.mem_of_getElem? (i := 16) rfl))) (Or.inl (hw _ (List.mem_of_getElem? (i := 14) rfl))) (by decide) (t := .long) (t' := .long) (by decide) (by decide)))
  have F2_p0_afterCarriageReturn := F_afterCarriageReturn.other W2 (Or.inr (slot_ne (Or.inl (hw _ (List.mem_of_getElem? (i := 23) rfl))) (Or.inl (hw _ (List.mem_of_getElem? (i := 14) rfl))) (by decide) (t := .boolean) (t' := .long) (by decide) (by decide)))
  have Z2 : n0 ≤ h2.size := Nat.le_trans Z0 (Keep.of_wr W2).1
  refine Goes.step (A := T2.setTop (mkF m 9 #[.val (.ref p0)] [])) (fun t kt => st2 _ kt) ?_
  refine Goes.step (A := T2.setTop (mkF m 11 #[.val (.ref p0)] [(.long (1 : Int64)), (.ref p0)])) (fun t kt => ?_) ?_
  · refine XS.aloadN X2.here hx rfl (hb hby d2_9) rfl rfl ?_
    show Steps p.tables e below (T2.setTop (mkF m 10 #[.val (.ref p0)] [(.ref p0)])) _
    refine XS.lconst X2.here hx rfl (hb hby d2_10) ?_
    exact kt
  obtain ⟨T3, h3, X3, e3, W3, st3⟩ := putF X2 hx hZ hown (host := "") (Or.inl (hw _ (List.mem_of_getElem? (i := 15) rfl))) Via.refl e2 F2_p0_column E2_p0 (Or.inl (hw _ (List.mem_of_getElem? (i := 16) rfl))) (hw _ (List.mem_of_getElem? (i := 5) rfl)) (ty := .long) (by decide) rfl rfl (g := (mkF m 11 #[.val (.ref p0)] [(.long (1 : Int64)), (.ref p0)])) rfl rfl (hb hby d2_11)
  have N3 := Fr.snoc X3 N2 g9
  have E3_p0 := E2_p0.wr W3
  have K3 := K2.wr W3 (Or.inl (List.mem_of_getElem? (i := 0) rfl))
  have F3_p0_line := F2_p0_line.other W3 (Or.inr (slot_ne (Or.inl (hw _ (List.mem_of_getElem? (i := 14) rfl))) (Or.inl (hw _ (List.mem_of_getElem? (i := 16) rfl))) (by decide) (t := .long) (t' := .long) (by decide) (by decide)))
  have F3_p0_column : Fld Z h3 p0 "com/example/plnr/plnr/io/BytePlace" "column" "J" (.long (1 : Int64)) := F2_p0_column.same W3
  have F3_p0_afterCarriageReturn := F2_p0_afterCarriageReturn.other W3 (Or.inr (slot_ne (Or.inl (hw _ (List.mem_of_getElem? (i := 23) rfl))) (Or.inl (hw _ (List.mem_of_getElem? (i := 16) rfl))) (by decide) (t := .boolean) (t' := .long) (by decide) (by decide)))
  have Z3 : n0 ≤ h3.size := Nat.le_trans Z2 (Keep.of_wr W3).1
  refine Goes.step (A := T3.setTop (mkF m 14 #[.val (.ref p0)] [])) (fun t kt => st3 _ kt) ?_
  obtain ⟨fs, hr, hrun, hended, hW, hsame⟩ := X3.leave (v := none) (fun _ => rfl)
  refine Goes.done ?_ hrun hended ⟨_, _, rfl, ?_, ⟨_, rfl⟩, hW, hsame.mono (by decide) (by decide)⟩
  · exact X3.returnOut hx Bd.returns (hb hby d2_14) hr
  · show Q2 Z p0 h0 n0 _ T3.heap _
    rw [e3]
    exact ⟨rfl, N3, K3, E3_p0, F3_p0_line, F3_p0_column, F3_p0_afterCarriageReturn⟩
theorem ef_4 (m : MethodId) (x0 : Addr) (x1 : Int32) : entryFrame m #[(.ref x0), (.int x1)] 2 = mkF m 0 #[.val (.ref x0), .val (.int x1)] [] := by first | (simp [entryFrame, mkF, argsToLocals, Value.category]; done) | rfl
def Q4 (Z : State) (p0 : Addr) (p1 : Int32) (ln : Int64) (cl : Int64) (ac : Int32) (h0 : Heap) (n0 : Nat) (v : Option Value) (h : Heap) (L : List Loc) : Prop := v = none ∧ Fr n0 L ∧ Keep h0 h [p0] ∧ Exa Z h p0 "com/example/plnr/plnr/io/BytePlace" ∧ Fld Z h p0 "com/example/plnr/plnr/io/BytePlace" "line" "J" (.long (lineF p1 ln ac)) ∧ Fld Z h p0 "com/example/plnr/plnr/io/BytePlace" "column" "J" (.long (colF p1 cl)) ∧ Fld Z h p0 "com/example/plnr/plnr/io/BytePlace" "afterCarriageReturn" "Z" (.int (acF p1))
theorem d4_0 : decode prog_20_method_2_code 0 = .ok (.iload_n 1, 1) := by decide +kernel
theorem d4_1 : decode prog_20_method_2_code 1 = .ok (.bipush 10, 2) := by decide +kernel
theorem d4_3 : decode prog_20_method_2_code 3 = .ok (.if_icmp .eq 9, 3) := by decide +kernel
theorem d4_6 : decode prog_20_method_2_code 6 = .ok (.iload_n 1, 1) := by decide +kernel
theorem d4_7 : decode prog_20_method_2_code 7 = .ok (.bipush 13, 2) := by decide +kernel
theorem d4_9 : decode prog_20_method_2_code 9 = .ok (.if_icmp .ne 34, 3) := by decide +kernel
theorem d4_12 : decode prog_20_method_2_code 12 = .ok (.iload_n 1, 1) := by decide +kernel
theorem d4_13 : decode prog_20_method_2_code 13 = .ok (.bipush 13, 2) := by decide +kernel
theorem d4_15 : decode prog_20_method_2_code 15 = .ok (.if_icmp .eq 10, 3) := by decide +kernel
theorem d4_18 : decode prog_20_method_2_code 18 = .ok (.aload_n 0, 1) := by decide +kernel
theorem d4_19 : decode prog_20_method_2_code 19 = .ok (.getfield 16, 3) := by decide +kernel
theorem d4_22 : decode prog_20_method_2_code 22 = .ok (.ifCond .ne 13, 3) := by decide +kernel
theorem d4_25 : decode prog_20_method_2_code 25 = .ok (.aload_n 0, 1) := by decide +kernel
theorem d4_26 : decode prog_20_method_2_code 26 = .ok (.dup, 1) := by decide +kernel
theorem d4_27 : decode prog_20_method_2_code 27 = .ok (.getfield 7, 3) := by decide +kernel
theorem d4_30 : decode prog_20_method_2_code 30 = .ok (.lconst 1, 1) := by decide +kernel
theorem d4_31 : decode prog_20_method_2_code 31 = .ok (.ladd, 1) := by decide +kernel
theorem d4_32 : decode prog_20_method_2_code 32 = .ok (.putfield 7, 3) := by decide +kernel
theorem d4_35 : decode prog_20_method_2_code 35 = .ok (.aload_n 0, 1) := by decide +kernel
theorem d4_36 : decode prog_20_method_2_code 36 = .ok (.lconst 1, 1) := by decide +kernel
theorem d4_37 : decode prog_20_method_2_code 37 = .ok (.putfield 13, 3) := by decide +kernel
theorem d4_40 : decode prog_20_method_2_code 40 = .ok (.goto 13, 3) := by decide +kernel
theorem d4_43 : decode prog_20_method_2_code 43 = .ok (.aload_n 0, 1) := by decide +kernel
theorem d4_44 : decode prog_20_method_2_code 44 = .ok (.dup, 1) := by decide +kernel
theorem d4_45 : decode prog_20_method_2_code 45 = .ok (.getfield 13, 3) := by decide +kernel
theorem d4_48 : decode prog_20_method_2_code 48 = .ok (.lconst 1, 1) := by decide +kernel
theorem d4_49 : decode prog_20_method_2_code 49 = .ok (.ladd, 1) := by decide +kernel
theorem d4_50 : decode prog_20_method_2_code 50 = .ok (.putfield 13, 3) := by decide +kernel
theorem d4_53 : decode prog_20_method_2_code 53 = .ok (.aload_n 0, 1) := by decide +kernel
theorem d4_54 : decode prog_20_method_2_code 54 = .ok (.iload_n 1, 1) := by decide +kernel
theorem d4_55 : decode prog_20_method_2_code 55 = .ok (.bipush 13, 2) := by decide +kernel
theorem d4_57 : decode prog_20_method_2_code 57 = .ok (.if_icmp .ne 7, 3) := by decide +kernel
theorem d4_60 : decode prog_20_method_2_code 60 = .ok (.iconst 1, 1) := by decide +kernel
theorem d4_61 : decode prog_20_method_2_code 61 = .ok (.goto 4, 3) := by decide +kernel
theorem d4_64 : decode prog_20_method_2_code 64 = .ok (.iconst 0, 1) := by decide +kernel
theorem d4_65 : decode prog_20_method_2_code 65 = .ok (.putfield 16, 3) := by decide +kernel
theorem d4_68 : decode prog_20_method_2_code 68 = .ok (.return_, 1) := by decide +kernel
theorem pn_4 : plainName "com/example/plnr/plnr/io/BytePlace" = true := by first | (simp [plainName, overriddenIn]; done) | decide +kernel
set_option maxRecDepth 65536 in
set_option maxHeartbeats 40000000 in
theorem rm4 (l : Launch) (Z : State) (a0 : Array Value) (hw : ∀ d ∈ tables_1, d.before a0 Z = true) (ws : List Jvm.Cond) (p0 : Addr) (p1 : Int32) (ln : Int64) (cl : Int64) (ac : Int32) (h0 : Heap) (n0 : Nat) (Z0 : n0 ≤ h0.size) (F_line : Fld Z h0 p0 "com/example/plnr/plnr/io/BytePlace" "line" "J" (.long ln)) (F_column : Fld Z h0 p0 "com/example/plnr/plnr/io/BytePlace" "column" "J" (.long cl)) (F_afterCarriageReturn : Fld Z h0 p0 "com/example/plnr/plnr/io/BytePlace" "afterCarriageReturn" "Z" (.int ac)) (E7 : Exa Z h0 p0 "com/example/plnr/plnr/io/BytePlace") (g9 : n0 ≤ p0) :
    MetFree l (⟨"com/example/plnr/plnr/io/BytePlace", "pass", "(I)V"⟩ : MethodName) (head1 (Jvm.Cond.code (⟨"com/example/plnr/plnr/io/BytePlace", "pass", "(I)V"⟩ : MethodName) prog_20_method_2_code 2 none :: ws) ({ frames := 0, cells := 0, slots := 0, locals := 0 } : Room)) (fun a U => a = #[(.ref p0), (.int p1)] ∧ Z.Warmed39 U.vm ∧ U.heap = h0) (fun _ _ _ _ _ => True) (fun _ U o U' => ∃ v L, o = .returned v ∧ Q4 Z p0 p1 ln cl ac h0 n0 v U'.heap L ∧ FrameEnd U o U' L ({ frames := 0, cells := 0, slots := 0, locals := 0 } : Room).cells ({ frames := 0, cells := 0, slots := 0, locals := 0 } : Room).slots) := by
  refine MetFree.of_bodySF (plainFor_of_name pn_4) hisR ?_
  intro p e s m args below meth c s₁ Bd hml0 hP hK
  obtain ⟨rfl, hZ, hh⟩ := hP
  have hx := Bd.exec
  have hby := Bd.bytes
  have hml : c.maxLocals = 2 := hml0
  have hown : s.vm.findClass "com/example/plnr/plnr/io/BytePlace" = some m.cls := findClass_of_methodNamed Bd.named
  have hnm := (name_of_methodNamed Bd.named Bd.method).1
  have X0 : Stand p l e ({ frames := 0, cells := 0, slots := 0, locals := 0 } : Room) s m #[(.ref p0), (.int p1)] below meth c s₁ [] 0 0 := Stand.of_body Bd
  have e0 : s₁.heap = h0 := by rw [← hh, Bd.state]; rfl
  have N0 := Fr.nil n0
  refine Goes.start (Q := (fun o U' => ∃ v L, o = .returned v ∧ Q4 Z p0 p1 ln cl ac h0 n0 v U'.heap L ∧ FrameEnd s o U' L ({ frames := 0, cells := 0, slots := 0, locals := 0 } : Room).cells ({ frames := 0, cells := 0, slots := 0, locals := 0 } : Room).slots)) (A := s₁.setTop (mkF m 0 #[.val (.ref p0), .val (.int p1)] [])) (fun t k => castTop (ef_4 m p0 p1) k) ?_
  refine Goes.step (A := s₁.setTop (mkF m 3 #[.val (.ref p0), .val (.int p1)] [(.int (10 : Int32)), (.int p1)])) (fun t kt => ?_) ?_
  · refine XS.iloadN X0.here hx rfl (hb hby d4_0) rfl ?_
    show Steps p.tables e below (s₁.setTop (mkF m 1 #[.val (.ref p0), .val (.int p1)] [(.int p1)])) _
    refine XS.bipush X0.here hx rfl (hb hby d4_1) ?_
    exact kt
  by_cases hc3_8 : p1 = (10 : Int32)
  · refine Goes.step (A := s₁.setTop (mkF m 12 #[.val (.ref p0), .val (.int p1)] [])) (fun t kt => XS.icmpYes X0.here hx rfl (pc0 := 3) (pc' := 12) rfl (hb hby d4_3) rfl (teq hc3_8).1 (by decide) (by decide) kt) ?_
    refine Goes.step (A := s₁.setTop (mkF m 15 #[.val (.ref p0), .val (.int p1)] [(.int (13 : Int32)), (.int p1)])) (fun t kt => ?_) ?_
    · refine XS.iloadN X0.here hx rfl (hb hby d4_12) rfl ?_
      show Steps p.tables e below (s₁.setTop (mkF m 13 #[.val (.ref p0), .val (.int p1)] [(.int p1)])) _
      refine XS.bipush X0.here hx rfl (hb hby d4_13) ?_
      exact kt
    refine Goes.step (A := s₁.setTop (mkF m 18 #[.val (.ref p0), .val (.int p1)] [])) (fun t kt => XS.icmpNo X0.here hx rfl (hb hby d4_15) rfl (feq (own_no hc3_8 : ¬ (p1 = (13 : Int32)))).1 kt) ?_
    refine Goes.step (A := s₁.setTop (mkF m 19 #[.val (.ref p0), .val (.int p1)] [(.ref p0)])) (fun t kt => ?_) ?_
    · refine XS.aloadN X0.here hx rfl (hb hby d4_18) rfl rfl ?_
      exact kt
    obtain ⟨T1, X1, e1, st1⟩ := getF X0 hx hZ hown (host := "") (Or.inl (hw _ (List.mem_of_getElem? (i := 22) rfl))) Via.refl e0 F_afterCarriageReturn (g := (mkF m 19 #[.val (.ref p0), .val (.int p1)] [(.ref p0)])) rfl rfl (hb hby d4_19)
    refine Goes.step (A := T1.setTop (mkF m 22 #[.val (.ref p0), .val (.int p1)] [(.int ac)])) (fun t kt => st1 _ kt) ?_
    by_cases hc22_9 : ac = (0 : Int32)
    · refine Goes.step (A := T1.setTop (mkF m 25 #[.val (.ref p0), .val (.int p1)] [])) (fun t kt => XS.ifNo X1.here hx rfl (hb hby d4_22) rfl ((if0 _ _).trans (teq hc22_9).2) kt) ?_
      refine Goes.step (A := T1.setTop (mkF m 27 #[.val (.ref p0), .val (.int p1)] [(.ref p0), (.ref p0)])) (fun t kt => ?_) ?_
      · refine XS.aloadN X1.here hx rfl (hb hby d4_25) rfl rfl ?_
        show Steps p.tables e below (T1.setTop (mkF m 26 #[.val (.ref p0), .val (.int p1)] [(.ref p0)])) _
        refine XS.dup X1.here hx rfl (hb hby d4_26) rfl rfl ?_
        exact kt
      obtain ⟨T2, X2, e2, st2⟩ := getF X1 hx hZ hown (host := "") (Or.inl (hw _ (List.mem_of_getElem? (i := 13) rfl))) Via.refl e1 F_line (g := (mkF m 27 #[.val (.ref p0), .val (.int p1)] [(.ref p0), (.ref p0)])) rfl rfl (hb hby d4_27)
      refine Goes.step (A := T2.setTop (mkF m 30 #[.val (.ref p0), .val (.int p1)] [(.long ln), (.ref p0)])) (fun t kt => st2 _ kt) ?_
      refine Goes.step (A := T2.setTop (mkF m 32 #[.val (.ref p0), .val (.int p1)] [(.long (ln + (1 : Int64))), (.ref p0)])) (fun t kt => ?_) ?_
      · refine XS.lconst X2.here hx rfl (hb hby d4_30) ?_
        show Steps p.tables e below (T2.setTop (mkF m 31 #[.val (.ref p0), .val (.int p1)] [(.long (1 : Int64)), (.long ln), (.ref p0)])) _
        refine XS.ladd X2.here hx rfl (hb hby d4_31) rfl ?_
        exact kt
      obtain ⟨T3, h3, X3, e3, W3, st3⟩ := putF X2 hx hZ hown (host := "") (Or.inl (hw _ (List.mem_of_getElem? (i := 13) rfl))) Via.refl e2 F_line E7 (Or.inl (hw _ (List.mem_of_getElem? (i := 14) rfl))) (hw _ (List.mem_of_getElem? (i := 5) rfl)) (ty := .long) (by decide) rfl rfl (g := (mkF m 32 #[.val (.ref p0), .val (.int p1)] [(.long (ln + (1 : Int64))), (.ref p0)])) rfl rfl (hb hby d4_32)
      have N3 := Fr.snoc X3 N0 g9
      have E3_p0 := E7.wr W3
      have K3 := (Keep.refl h0 [p0]).wr W3 (Or.inl (List.mem_of_getElem? (i := 0) rfl))
      have F3_p0_line : Fld Z h3 p0 "com/example/plnr/plnr/io/BytePlace" "line" "J" (.long (ln + (1 : Int64))) := F_line.same W3
      have F3_p0_column := F_column.other W3 (Or.inr (slot_ne (Or.inl (hw _ (List.mem_of_getElem? (i := 16) rfl))) (Or.inl (hw _ (List.mem_of_getElem? (i := 14) rfl))) (by decide) (t := .long) (t' := .long) (by decide) (by decide)))
      have F3_p0_afterCarriageReturn := F_afterCarriageReturn.other W3 (Or.inr (slot_ne (Or.inl (hw _ (List.mem_of_getElem? (i := 23) rfl))) (Or.inl (hw _ (List.mem_of_getElem? (i := 14) rfl))) (by decide) (t := .boolean) (t' := .long) (by decide) (by decide)))
      have Z3 : n0 ≤ h3.size := Nat.le_trans Z0 (Keep.of_wr W3).1
      refine Goes.step (A := T3.setTop (mkF m 35 #[.val (.ref p0), .val (.int p1)] [])) (fun t kt => st3 _ kt) ?_
      refine Goes.step (A := T3.setTop (mkF m 37 #[.val (.ref p0), .val (.int p1)] [(.long (1 : Int64)), (.ref p0)])) (fun t kt => ?_) ?_
      · refine XS.aloadN X3.here hx rfl (hb hby d4_35) rfl rfl ?_
        show Steps p.tables e below (T3.setTop (mkF m 36 #[.val (.ref p0), .val (.int p1)] [(.ref p0)])) _
        refine XS.lconst X3.here hx rfl (hb hby d4_36) ?_
        exact kt
      obtain ⟨T4, h4, X4, e4, W4, st4⟩ := putF X3 hx hZ hown (host := "") (Or.inl (hw _ (List.mem_of_getElem? (i := 15) rfl))) Via.refl e3 F3_p0_column E3_p0 (Or.inl (hw _ (List.mem_of_getElem? (i := 16) rfl))) (hw _ (List.mem_of_getElem? (i := 5) rfl)) (ty := .long) (by decide) rfl rfl (g := (mkF m 37 #[.val (.ref p0), .val (.int p1)] [(.long (1 : Int64)), (.ref p0)])) rfl rfl (hb hby d4_37)
      have N4 := Fr.snoc X4 N3 g9
      have E4_p0 := E3_p0.wr W4
      have K4 := K3.wr W4 (Or.inl (List.mem_of_getElem? (i := 0) rfl))
      have F4_p0_line := F3_p0_line.other W4 (Or.inr (slot_ne (Or.inl (hw _ (List.mem_of_getElem? (i := 14) rfl))) (Or.inl (hw _ (List.mem_of_getElem? (i := 16) rfl))) (by decide) (t := .long) (t' := .long) (by decide) (by decide)))
      have F4_p0_column : Fld Z h4 p0 "com/example/plnr/plnr/io/BytePlace" "column" "J" (.long (1 : Int64)) := F3_p0_column.same W4
      have F4_p0_afterCarriageReturn := F3_p0_afterCarriageReturn.other W4 (Or.inr (slot_ne (Or.inl (hw _ (List.mem_of_getElem? (i := 23) rfl))) (Or.inl (hw _ (List.mem_of_getElem? (i := 16) rfl))) (by decide) (t := .boolean) (t' := .long) (by decide) (by decide)))
      have Z4 : n0 ≤ h4.size := Nat.le_trans Z3 (Keep.of_wr W4).1
      refine Goes.step (A := T4.setTop (mkF m 40 #[.val (.ref p0), .val (.int p1)] [])) (fun t kt => st4 _ kt) ?_
      refine Goes.step (A := T4.setTop (mkF m 57 #[.val (.ref p0), .val (.int p1)] [(.int (13 : Int32)), (.int p1), (.ref p0)])) (fun t kt => ?_) ?_
      · refine XS.goto X4.here hx rfl (pc0 := 40) (pc' := 53) rfl (hb hby d4_40) (by decide) (by decide) ?_
        show Steps p.tables e below (T4.setTop (mkF m 53 #[.val (.ref p0), .val (.int p1)] [])) _
        refine XS.aloadN X4.here hx rfl (hb hby d4_53) rfl rfl ?_
        show Steps p.tables e below (T4.setTop (mkF m 54 #[.val (.ref p0), .val (.int p1)] [(.ref p0)])) _
        refine XS.iloadN X4.here hx rfl (hb hby d4_54) rfl ?_
        show Steps p.tables e below (T4.setTop (mkF m 55 #[.val (.ref p0), .val (.int p1)] [(.int p1), (.ref p0)])) _
        refine XS.bipush X4.here hx rfl (hb hby d4_55) ?_
        exact kt
      refine Goes.step (A := T4.setTop (mkF m 64 #[.val (.ref p0), .val (.int p1)] [(.ref p0)])) (fun t kt => XS.icmpYes X4.here hx rfl (pc0 := 57) (pc' := 64) rfl (hb hby d4_57) rfl (feq (own_no hc3_8 : ¬ (p1 = (13 : Int32)))).2 (by decide) (by decide) kt) ?_
      refine Goes.step (A := T4.setTop (mkF m 65 #[.val (.ref p0), .val (.int p1)] [(.int (0 : Int32)), (.ref p0)])) (fun t kt => ?_) ?_
      · refine XS.iconst X4.here hx rfl (hb hby d4_64) ?_
        exact kt
      obtain ⟨T5, h5, X5, e5, W5, st5⟩ := putF X4 hx hZ hown (host := "") (Or.inl (hw _ (List.mem_of_getElem? (i := 22) rfl))) Via.refl e4 F4_p0_afterCarriageReturn E4_p0 (Or.inl (hw _ (List.mem_of_getElem? (i := 23) rfl))) (hw _ (List.mem_of_getElem? (i := 5) rfl)) (ty := .boolean) (by decide) rfl rfl (g := (mkF m 65 #[.val (.ref p0), .val (.int p1)] [(.int (0 : Int32)), (.ref p0)])) rfl rfl (hb hby d4_65)
      have N5 := Fr.snoc X5 N4 g9
      have E5_p0 := E4_p0.wr W5
      have K5 := K4.wr W5 (Or.inl (List.mem_of_getElem? (i := 0) rfl))
      have F5_p0_line := F4_p0_line.other W5 (Or.inr (slot_ne (Or.inl (hw _ (List.mem_of_getElem? (i := 14) rfl))) (Or.inl (hw _ (List.mem_of_getElem? (i := 23) rfl))) (by decide) (t := .long) (t' := .boolean) (by decide) (by decide)))
      have F5_p0_column := F4_p0_column.other W5 (Or.inr (slot_ne (Or.inl (hw _ (List.mem_of_getElem? (i := 16) rfl))) (Or.inl (hw _ (List.mem_of_getElem? (i := 23) rfl))) (by decide) (t := .long) (t' := .boolean) (by decide) (by decide)))
      have F5_p0_afterCarriageReturn : Fld Z h5 p0 "com/example/plnr/plnr/io/BytePlace" "afterCarriageReturn" "Z" (.int (0 : Int32)) := F4_p0_afterCarriageReturn.same W5
      have Z5 : n0 ≤ h5.size := Nat.le_trans Z4 (Keep.of_wr W5).1
      refine Goes.step (A := T5.setTop (mkF m 68 #[.val (.ref p0), .val (.int p1)] [])) (fun t kt => st5 _ kt) ?_
      obtain ⟨fs, hr, hrun, hended, hW, hsame⟩ := X5.leave (v := none) (fun _ => rfl)
      refine Goes.done ?_ hrun hended ⟨_, _, rfl, ?_, ⟨_, rfl⟩, hW, hsame.mono (by decide) (by decide)⟩
      · exact X5.returnOut hx Bd.returns (hb hby d4_68) hr
      · show Q4 Z p0 p1 ln cl ac h0 n0 _ T5.heap _
        rw [e5]
        exact ⟨rfl, N5, K5, E5_p0, (by rw [show (lineF p1 ln ac) = (ln + (1 : Int64)) from by simp [lineF, hc3_8, hc22_9, own_no hc3_8]]; exact F5_p0_line), (by rw [show (colF p1 cl) = (1 : Int64) from by simp [colF, hc3_8, hc22_9, own_no hc3_8]]; exact F5_p0_column), (by rw [show (acF p1) = (0 : Int32) from by simp [acF, hc3_8, hc22_9, own_no hc3_8]]; exact F5_p0_afterCarriageReturn)⟩
    · refine Goes.step (A := T1.setTop (mkF m 35 #[.val (.ref p0), .val (.int p1)] [])) (fun t kt => XS.ifYes X1.here hx rfl (pc0 := 22) (pc' := 35) rfl (hb hby d4_22) rfl ((if0 _ _).trans (feq hc22_9).2) (by decide) (by decide) kt) ?_
      refine Goes.step (A := T1.setTop (mkF m 37 #[.val (.ref p0), .val (.int p1)] [(.long (1 : Int64)), (.ref p0)])) (fun t kt => ?_) ?_
      · refine XS.aloadN X1.here hx rfl (hb hby d4_35) rfl rfl ?_
        show Steps p.tables e below (T1.setTop (mkF m 36 #[.val (.ref p0), .val (.int p1)] [(.ref p0)])) _
        refine XS.lconst X1.here hx rfl (hb hby d4_36) ?_
        exact kt
      obtain ⟨T6, h6, X6, e6, W6, st6⟩ := putF X1 hx hZ hown (host := "") (Or.inl (hw _ (List.mem_of_getElem? (i := 15) rfl))) Via.refl e1 F_column E7 (Or.inl (hw _ (List.mem_of_getElem? (i := 16) rfl))) (hw _ (List.mem_of_getElem? (i := 5) rfl)) (ty := .long) (by decide) rfl rfl (g := (mkF m 37 #[.val (.ref p0), .val (.int p1)] [(.long (1 : Int64)), (.ref p0)])) rfl rfl (hb hby d4_37)
      have N6 := Fr.snoc X6 N0 g9
      have E6_p0 := E7.wr W6
      have K6 := (Keep.refl h0 [p0]).wr W6 (Or.inl (List.mem_of_getElem? (i := 0) rfl))
      have F6_p0_line := F_line.other W6 (Or.inr (slot_ne (Or.inl (hw _ (List.mem_of_getElem? (i := 14) rfl))) (Or.inl (hw _ (List.mem_of_getElem? (i := 16) rfl))) (by decide) (t := .long) (t' := .long) (by decide) (by decide)))
      have F6_p0_column : Fld Z h6 p0 "com/example/plnr/plnr/io/BytePlace" "column" "J" (.long (1 : Int64)) := F_column.same W6
      have F6_p0_afterCarriageReturn := F_afterCarriageReturn.other W6 (Or.inr (slot_ne (Or.inl (hw _ (List.mem_of_getElem? (i := 23) rfl))) (Or.inl (hw _ (List.mem_of_getElem? (i := 16) rfl))) (by decide) (t := .boolean) (t' := .long) (by decide) (by decide)))
      have Z6 : n0 ≤ h6.size := Nat.le_trans Z0 (Keep.of_wr W6).1
      refine Goes.step (A := T6.setTop (mkF m 40 #[.val (.ref p0), .val (.int p1)] [])) (fun t kt => st6 _ kt) ?_
      refine Goes.step (A := T6.setTop (mkF m 57 #[.val (.ref p0), .val (.int p1)] [(.int (13 : Int32)), (.int p1), (.ref p0)])) (fun t kt => ?_) ?_
      · refine XS.goto X6.here hx rfl (pc0 := 40) (pc' := 53) rfl (hb hby d4_40) (by decide) (by decide) ?_
        show Steps p.tables e below (T6.setTop (mkF m 53 #[.val (.ref p0), .val (.int p1)] [])) _
        refine XS.aloadN X6.here hx rfl (hb hby d4_53) rfl rfl ?_
        show Steps p.tables e below (T6.setTop (mkF m 54 #[.val (.ref p0), .val (.int p1)] [(.ref p0)])) _
        refine XS.iloadN X6.here hx rfl (hb hby d4_54) rfl ?_
        show Steps p.tables e below (T6.setTop (mkF m 55 #[.val (.ref p0), .val (.int p1)] [(.int p1), (.ref p0)])) _
        refine XS.bipush X6.here hx rfl (hb hby d4_55) ?_
        exact kt
      refine Goes.step (A := T6.setTop (mkF m 64 #[.val (.ref p0), .val (.int p1)] [(.ref p0)])) (fun t kt => XS.icmpYes X6.here hx rfl (pc0 := 57) (pc' := 64) rfl (hb hby d4_57) rfl (feq (own_no hc3_8 : ¬ (p1 = (13 : Int32)))).2 (by decide) (by decide) kt) ?_
      refine Goes.step (A := T6.setTop (mkF m 65 #[.val (.ref p0), .val (.int p1)] [(.int (0 : Int32)), (.ref p0)])) (fun t kt => ?_) ?_
      · refine XS.iconst X6.here hx rfl (hb hby d4_64) ?_
        exact kt
      obtain ⟨T7, h7, X7, e7, W7, st7⟩ := putF X6 hx hZ hown (host := "") (Or.inl (hw _ (List.mem_of_getElem? (i := 22) rfl))) Via.refl e6 F6_p0_afterCarriageReturn E6_p0 (Or.inl (hw _ (List.mem_of_getElem? (i := 23) rfl))) (hw _ (List.mem_of_getElem? (i := 5) rfl)) (ty := .boolean) (by decide) rfl rfl (g := (mkF m 65 #[.val (.ref p0), .val (.int p1)] [(.int (0 : Int32)), (.ref p0)])) rfl rfl (hb hby d4_65)
      have N7 := Fr.snoc X7 N6 g9
      have E7_p0 := E6_p0.wr W7
      have K7 := K6.wr W7 (Or.inl (List.mem_of_getElem? (i := 0) rfl))
      have F7_p0_line := F6_p0_line.other W7 (Or.inr (slot_ne (Or.inl (hw _ (List.mem_of_getElem? (i := 14) rfl))) (Or.inl (hw _ (List.mem_of_getElem? (i := 23) rfl))) (by decide) (t := .long) (t' := .boolean) (by decide) (by decide)))
      have F7_p0_column := F6_p0_column.other W7 (Or.inr (slot_ne (Or.inl (hw _ (List.mem_of_getElem? (i := 16) rfl))) (Or.inl (hw _ (List.mem_of_getElem? (i := 23) rfl))) (by decide) (t := .long) (t' := .boolean) (by decide) (by decide)))
      have F7_p0_afterCarriageReturn : Fld Z h7 p0 "com/example/plnr/plnr/io/BytePlace" "afterCarriageReturn" "Z" (.int (0 : Int32)) := F6_p0_afterCarriageReturn.same W7
      have Z7 : n0 ≤ h7.size := Nat.le_trans Z6 (Keep.of_wr W7).1
      refine Goes.step (A := T7.setTop (mkF m 68 #[.val (.ref p0), .val (.int p1)] [])) (fun t kt => st7 _ kt) ?_
      obtain ⟨fs, hr, hrun, hended, hW, hsame⟩ := X7.leave (v := none) (fun _ => rfl)
      refine Goes.done ?_ hrun hended ⟨_, _, rfl, ?_, ⟨_, rfl⟩, hW, hsame.mono (by decide) (by decide)⟩
      · exact X7.returnOut hx Bd.returns (hb hby d4_68) hr
      · show Q4 Z p0 p1 ln cl ac h0 n0 _ T7.heap _
        rw [e7]
        exact ⟨rfl, N7, K7, E7_p0, (by rw [show (lineF p1 ln ac) = ln from by simp [lineF, hc3_8, hc22_9, own_no hc3_8]]; exact F7_p0_line), (by rw [show (colF p1 cl) = (1 : Int64) from by simp [colF, hc3_8, hc22_9, own_no hc3_8]]; exact F7_p0_column), (by rw [show (acF p1) = (0 : Int32) from by simp [acF, hc3_8, hc22_9, own_no hc3_8]]; exact F7_p0_afterCarriageReturn)⟩
  · refine Goes.step (A := s₁.setTop (mkF m 6 #[.val (.ref p0), .val (.int p1)] [])) (fun t kt => XS.icmpNo X0.here hx rfl (hb hby d4_3) rfl (feq hc3_8).1 kt) ?_
    refine Goes.step (A := s₁.setTop (mkF m 9 #[.val (.ref p0), .val (.int p1)] [(.int (13 : Int32)), (.int p1)])) (fun t kt => ?_) ?_
    · refine XS.iloadN X0.here hx rfl (hb hby d4_6) rfl ?_
      show Steps p.tables e below (s₁.setTop (mkF m 7 #[.val (.ref p0), .val (.int p1)] [(.int p1)])) _
      refine XS.bipush X0.here hx rfl (hb hby d4_7) ?_
      exact kt
    by_cases hc9_10 : p1 = (13 : Int32)
    · refine Goes.step (A := s₁.setTop (mkF m 12 #[.val (.ref p0), .val (.int p1)] [])) (fun t kt => XS.icmpNo X0.here hx rfl (hb hby d4_9) rfl (teq hc9_10).2 kt) ?_
      refine Goes.step (A := s₁.setTop (mkF m 15 #[.val (.ref p0), .val (.int p1)] [(.int (13 : Int32)), (.int p1)])) (fun t kt => ?_) ?_
      · refine XS.iloadN X0.here hx rfl (hb hby d4_12) rfl ?_
        show Steps p.tables e below (s₁.setTop (mkF m 13 #[.val (.ref p0), .val (.int p1)] [(.int p1)])) _
        refine XS.bipush X0.here hx rfl (hb hby d4_13) ?_
        exact kt
      refine Goes.step (A := s₁.setTop (mkF m 25 #[.val (.ref p0), .val (.int p1)] [])) (fun t kt => XS.icmpYes X0.here hx rfl (pc0 := 15) (pc' := 25) rfl (hb hby d4_15) rfl (teq (hc9_10 : p1 = (13 : Int32))).1 (by decide) (by decide) kt) ?_
      refine Goes.step (A := s₁.setTop (mkF m 27 #[.val (.ref p0), .val (.int p1)] [(.ref p0), (.ref p0)])) (fun t kt => ?_) ?_
      · refine XS.aloadN X0.here hx rfl (hb hby d4_25) rfl rfl ?_
        show Steps p.tables e below (s₁.setTop (mkF m 26 #[.val (.ref p0), .val (.int p1)] [(.ref p0)])) _
        refine XS.dup X0.here hx rfl (hb hby d4_26) rfl rfl ?_
        exact kt
      obtain ⟨T8, X8, e8, st8⟩ := getF X0 hx hZ hown (host := "") (Or.inl (hw _ (List.mem_of_getElem? (i := 13) rfl))) Via.refl e0 F_line (g := (mkF m 27 #[.val (.ref p0), .val (.int p1)] [(.ref p0), (.ref p0)])) rfl rfl (hb hby d4_27)
      refine Goes.step (A := T8.setTop (mkF m 30 #[.val (.ref p0), .val (.int p1)] [(.long ln), (.ref p0)])) (fun t kt => st8 _ kt) ?_
      refine Goes.step (A := T8.setTop (mkF m 32 #[.val (.ref p0), .val (.int p1)] [(.long (ln + (1 : Int64))), (.ref p0)])) (fun t kt => ?_) ?_
      · refine XS.lconst X8.here hx rfl (hb hby d4_30) ?_
        show Steps p.tables e below (T8.setTop (mkF m 31 #[.val (.ref p0), .val (.int p1)] [(.long (1 : Int64)), (.long ln), (.ref p0)])) _
        refine XS.ladd X8.here hx rfl (hb hby d4_31) rfl ?_
        exact kt
      obtain ⟨T9, h9, X9, e9, W9, st9⟩ := putF X8 hx hZ hown (host := "") (Or.inl (hw _ (List.mem_of_getElem? (i := 13) rfl))) Via.refl e8 F_line E7 (Or.inl (hw _ (List.mem_of_getElem? (i := 14) rfl))) (hw _ (List.mem_of_getElem? (i := 5) rfl)) (ty := .long) (by decide) rfl rfl (g := (mkF m 32 #[.val (.ref p0), .val (.int p1)] [(.long (ln + (1 : Int64))), (.ref p0)])) rfl rfl (hb hby d4_32)
      have N9 := Fr.snoc X9 N0 g9
      have E9_p0 := E7.wr W9
      have K9 := (Keep.refl h0 [p0]).wr W9 (Or.inl (List.mem_of_getElem? (i := 0) rfl))
      have F9_p0_line : Fld Z h9 p0 "com/example/plnr/plnr/io/BytePlace" "line" "J" (.long (ln + (1 : Int64))) := F_line.same W9
      have F9_p0_column := F_column.other W9 (Or.inr (slot_ne (Or.inl (hw _ (List.mem_of_getElem? (i := 16) rfl))) (Or.inl (hw _ (List.mem_of_getElem? (i := 14) rfl))) (by decide) (t := .long) (t' := .long) (by decide) (by decide)))
      have F9_p0_afterCarriageReturn := F_afterCarriageReturn.other W9 (Or.inr (slot_ne (Or.inl (hw _ (List.mem_of_getElem? (i := 23) rfl))) (Or.inl (hw _ (List.mem_of_getElem? (i := 14) rfl))) (by decide) (t := .boolean) (t' := .long) (by decide) (by decide)))
      have Z9 : n0 ≤ h9.size := Nat.le_trans Z0 (Keep.of_wr W9).1
      refine Goes.step (A := T9.setTop (mkF m 35 #[.val (.ref p0), .val (.int p1)] [])) (fun t kt => st9 _ kt) ?_
      refine Goes.step (A := T9.setTop (mkF m 37 #[.val (.ref p0), .val (.int p1)] [(.long (1 : Int64)), (.ref p0)])) (fun t kt => ?_) ?_
      · refine XS.aloadN X9.here hx rfl (hb hby d4_35) rfl rfl ?_
        show Steps p.tables e below (T9.setTop (mkF m 36 #[.val (.ref p0), .val (.int p1)] [(.ref p0)])) _
        refine XS.lconst X9.here hx rfl (hb hby d4_36) ?_
        exact kt
      obtain ⟨T10, h10, X10, e10, W10, st10⟩ := putF X9 hx hZ hown (host := "") (Or.inl (hw _ (List.mem_of_getElem? (i := 15) rfl))) Via.refl e9 F9_p0_column E9_p0 (Or.inl (hw _ (List.mem_of_getElem? (i := 16) rfl))) (hw _ (List.mem_of_getElem? (i := 5) rfl)) (ty := .long) (by decide) rfl rfl (g := (mkF m 37 #[.val (.ref p0), .val (.int p1)] [(.long (1 : Int64)), (.ref p0)])) rfl rfl (hb hby d4_37)
      have N10 := Fr.snoc X10 N9 g9
      have E10_p0 := E9_p0.wr W10
      have K10 := K9.wr W10 (Or.inl (List.mem_of_getElem? (i := 0) rfl))
      have F10_p0_line := F9_p0_line.other W10 (Or.inr (slot_ne (Or.inl (hw _ (List.mem_of_getElem? (i := 14) rfl))) (Or.inl (hw _ (List.mem_of_getElem? (i := 16) rfl))) (by decide) (t := .long) (t' := .long) (by decide) (by decide)))
      have F10_p0_column : Fld Z h10 p0 "com/example/plnr/plnr/io/BytePlace" "column" "J" (.long (1 : Int64)) := F9_p0_column.same W10
      have F10_p0_afterCarriageReturn := F9_p0_afterCarriageReturn.other W10 (Or.inr (slot_ne (Or.inl (hw _ (List.mem_of_getElem? (i := 23) rfl))) (Or.inl (hw _ (List.mem_of_getElem? (i := 16) rfl))) (by decide) (t := .boolean) (t' := .long) (by decide) (by decide)))
      have Z10 : n0 ≤ h10.size := Nat.le_trans Z9 (Keep.of_wr W10).1
      refine Goes.step (A := T10.setTop (mkF m 40 #[.val (.ref p0), .val (.int p1)] [])) (fun t kt => st10 _ kt) ?_
      refine Goes.step (A := T10.setTop (mkF m 57 #[.val (.ref p0), .val (.int p1)] [(.int (13 : Int32)), (.int p1), (.ref p0)])) (fun t kt => ?_) ?_
      · refine XS.goto X10.here hx rfl (pc0 := 40) (pc' := 53) rfl (hb hby d4_40) (by decide) (by decide) ?_
        show Steps p.tables e below (T10.setTop (mkF m 53 #[.val (.ref p0), .val (.int p1)] [])) _
        refine XS.aloadN X10.here hx rfl (hb hby d4_53) rfl rfl ?_
        show Steps p.tables e below (T10.setTop (mkF m 54 #[.val (.ref p0), .val (.int p1)] [(.ref p0)])) _
        refine XS.iloadN X10.here hx rfl (hb hby d4_54) rfl ?_
        show Steps p.tables e below (T10.setTop (mkF m 55 #[.val (.ref p0), .val (.int p1)] [(.int p1), (.ref p0)])) _
        refine XS.bipush X10.here hx rfl (hb hby d4_55) ?_
        exact kt
      refine Goes.step (A := T10.setTop (mkF m 60 #[.val (.ref p0), .val (.int p1)] [(.ref p0)])) (fun t kt => XS.icmpNo X10.here hx rfl (hb hby d4_57) rfl (teq (hc9_10 : p1 = (13 : Int32))).2 kt) ?_
      refine Goes.step (A := T10.setTop (mkF m 65 #[.val (.ref p0), .val (.int p1)] [(.int (1 : Int32)), (.ref p0)])) (fun t kt => ?_) ?_
      · refine XS.iconst X10.here hx rfl (hb hby d4_60) ?_
        show Steps p.tables e below (T10.setTop (mkF m 61 #[.val (.ref p0), .val (.int p1)] [(.int (1 : Int32)), (.ref p0)])) _
        refine XS.goto X10.here hx rfl (pc0 := 61) (pc' := 65) rfl (hb hby d4_61) (by decide) (by decide) ?_
        exact kt
      obtain ⟨T11, h11, X11, e11, W11, st11⟩ := putF X10 hx hZ hown (host := "") (Or.inl (hw _ (List.mem_of_getElem? (i := 22) rfl))) Via.refl e10 F10_p0_afterCarriageReturn E10_p0 (Or.inl (hw _ (List.mem_of_getElem? (i := 23) rfl))) (hw _ (List.mem_of_getElem? (i := 5) rfl)) (ty := .boolean) (by decide) rfl rfl (g := (mkF m 65 #[.val (.ref p0), .val (.int p1)] [(.int (1 : Int32)), (.ref p0)])) rfl rfl (hb hby d4_65)
      have N11 := Fr.snoc X11 N10 g9
      have E11_p0 := E10_p0.wr W11
      have K11 := K10.wr W11 (Or.inl (List.mem_of_getElem? (i := 0) rfl))
      have F11_p0_line := F10_p0_line.other W11 (Or.inr (slot_ne (Or.inl (hw _ (List.mem_of_getElem? (i := 14) rfl))) (Or.inl (hw _ (List.mem_of_getElem? (i := 23) rfl))) (by decide) (t := .long) (t' := .boolean) (by decide) (by decide)))
      have F11_p0_column := F10_p0_column.other W11 (Or.inr (slot_ne (Or.inl (hw _ (List.mem_of_getElem? (i := 16) rfl))) (Or.inl (hw _ (List.mem_of_getElem? (i := 23) rfl))) (by decide) (t := .long) (t' := .boolean) (by decide) (by decide)))
      have F11_p0_afterCarriageReturn : Fld Z h11 p0 "com/example/plnr/plnr/io/BytePlace" "afterCarriageReturn" "Z" (.int (1 : Int32)) := F10_p0_afterCarriageReturn.same W11
      have Z11 : n0 ≤ h11.size := Nat.le_trans Z10 (Keep.of_wr W11).1
      refine Goes.step (A := T11.setTop (mkF m 68 #[.val (.ref p0), .val (.int p1)] [])) (fun t kt => st11 _ kt) ?_
      obtain ⟨fs, hr, hrun, hended, hW, hsame⟩ := X11.leave (v := none) (fun _ => rfl)
      refine Goes.done ?_ hrun hended ⟨_, _, rfl, ?_, ⟨_, rfl⟩, hW, hsame.mono (by decide) (by decide)⟩
      · exact X11.returnOut hx Bd.returns (hb hby d4_68) hr
      · show Q4 Z p0 p1 ln cl ac h0 n0 _ T11.heap _
        rw [e11]
        exact ⟨rfl, N11, K11, E11_p0, (by rw [show (lineF p1 ln ac) = (ln + (1 : Int64)) from by simp [lineF, hc3_8, hc9_10]]; exact F11_p0_line), (by rw [show (colF p1 cl) = (1 : Int64) from by simp [colF, hc3_8, hc9_10]]; exact F11_p0_column), (by rw [show (acF p1) = (1 : Int32) from by simp [acF, hc3_8, hc9_10]]; exact F11_p0_afterCarriageReturn)⟩
    · refine Goes.step (A := s₁.setTop (mkF m 43 #[.val (.ref p0), .val (.int p1)] [])) (fun t kt => XS.icmpYes X0.here hx rfl (pc0 := 9) (pc' := 43) rfl (hb hby d4_9) rfl (feq hc9_10).2 (by decide) (by decide) kt) ?_
      refine Goes.step (A := s₁.setTop (mkF m 45 #[.val (.ref p0), .val (.int p1)] [(.ref p0), (.ref p0)])) (fun t kt => ?_) ?_
      · refine XS.aloadN X0.here hx rfl (hb hby d4_43) rfl rfl ?_
        show Steps p.tables e below (s₁.setTop (mkF m 44 #[.val (.ref p0), .val (.int p1)] [(.ref p0)])) _
        refine XS.dup X0.here hx rfl (hb hby d4_44) rfl rfl ?_
        exact kt
      obtain ⟨T12, X12, e12, st12⟩ := getF X0 hx hZ hown (host := "") (Or.inl (hw _ (List.mem_of_getElem? (i := 15) rfl))) Via.refl e0 F_column (g := (mkF m 45 #[.val (.ref p0), .val (.int p1)] [(.ref p0), (.ref p0)])) rfl rfl (hb hby d4_45)
      refine Goes.step (A := T12.setTop (mkF m 48 #[.val (.ref p0), .val (.int p1)] [(.long cl), (.ref p0)])) (fun t kt => st12 _ kt) ?_
      refine Goes.step (A := T12.setTop (mkF m 50 #[.val (.ref p0), .val (.int p1)] [(.long (cl + (1 : Int64))), (.ref p0)])) (fun t kt => ?_) ?_
      · refine XS.lconst X12.here hx rfl (hb hby d4_48) ?_
        show Steps p.tables e below (T12.setTop (mkF m 49 #[.val (.ref p0), .val (.int p1)] [(.long (1 : Int64)), (.long cl), (.ref p0)])) _
        refine XS.ladd X12.here hx rfl (hb hby d4_49) rfl ?_
        exact kt
      obtain ⟨T13, h13, X13, e13, W13, st13⟩ := putF X12 hx hZ hown (host := "") (Or.inl (hw _ (List.mem_of_getElem? (i := 15) rfl))) Via.refl e12 F_column E7 (Or.inl (hw _ (List.mem_of_getElem? (i := 16) rfl))) (hw _ (List.mem_of_getElem? (i := 5) rfl)) (ty := .long) (by decide) rfl rfl (g := (mkF m 50 #[.val (.ref p0), .val (.int p1)] [(.long (cl + (1 : Int64))), (.ref p0)])) rfl rfl (hb hby d4_50)
      have N13 := Fr.snoc X13 N0 g9
      have E13_p0 := E7.wr W13
      have K13 := (Keep.refl h0 [p0]).wr W13 (Or.inl (List.mem_of_getElem? (i := 0) rfl))
      have F13_p0_line := F_line.other W13 (Or.inr (slot_ne (Or.inl (hw _ (List.mem_of_getElem? (i := 14) rfl))) (Or.inl (hw _ (List.mem_of_getElem? (i := 16) rfl))) (by decide) (t := .long) (t' := .long) (by decide) (by decide)))
      have F13_p0_column : Fld Z h13 p0 "com/example/plnr/plnr/io/BytePlace" "column" "J" (.long (cl + (1 : Int64))) := F_column.same W13
      have F13_p0_afterCarriageReturn := F_afterCarriageReturn.other W13 (Or.inr (slot_ne (Or.inl (hw _ (List.mem_of_getElem? (i := 23) rfl))) (Or.inl (hw _ (List.mem_of_getElem? (i := 16) rfl))) (by decide) (t := .boolean) (t' := .long) (by decide) (by decide)))
      have Z13 : n0 ≤ h13.size := Nat.le_trans Z0 (Keep.of_wr W13).1
      refine Goes.step (A := T13.setTop (mkF m 53 #[.val (.ref p0), .val (.int p1)] [])) (fun t kt => st13 _ kt) ?_
      refine Goes.step (A := T13.setTop (mkF m 57 #[.val (.ref p0), .val (.int p1)] [(.int (13 : Int32)), (.int p1), (.ref p0)])) (fun t kt => ?_) ?_
      · refine XS.aloadN X13.here hx rfl (hb hby d4_53) rfl rfl ?_
        show Steps p.tables e below (T13.setTop (mkF m 54 #[.val (.ref p0), .val (.int p1)] [(.ref p0)])) _
        refine XS.iloadN X13.here hx rfl (hb hby d4_54) rfl ?_
        show Steps p.tables e below (T13.setTop (mkF m 55 #[.val (.ref p0), .val (.int p1)] [(.int p1), (.ref p0)])) _
        refine XS.bipush X13.here hx rfl (hb hby d4_55) ?_
        exact kt
      refine Goes.step (A := T13.setTop (mkF m 64 #[.val (.ref p0), .val (.int p1)] [(.ref p0)])) (fun t kt => XS.icmpYes X13.here hx rfl (pc0 := 57) (pc' := 64) rfl (hb hby d4_57) rfl (feq (hc9_10 : ¬ (p1 = (13 : Int32)))).2 (by decide) (by decide) kt) ?_
      refine Goes.step (A := T13.setTop (mkF m 65 #[.val (.ref p0), .val (.int p1)] [(.int (0 : Int32)), (.ref p0)])) (fun t kt => ?_) ?_
      · refine XS.iconst X13.here hx rfl (hb hby d4_64) ?_
        exact kt
      obtain ⟨T14, h14, X14, e14, W14, st14⟩ := putF X13 hx hZ hown (host := "") (Or.inl (hw _ (List.mem_of_getElem? (i := 22) rfl))) Via.refl e13 F13_p0_afterCarriageReturn E13_p0 (Or.inl (hw _ (List.mem_of_getElem? (i := 23) rfl))) (hw _ (List.mem_of_getElem? (i := 5) rfl)) (ty := .boolean) (by decide) rfl rfl (g := (mkF m 65 #[.val (.ref p0), .val (.int p1)] [(.int (0 : Int32)), (.ref p0)])) rfl rfl (hb hby d4_65)
      have N14 := Fr.snoc X14 N13 g9
      have E14_p0 := E13_p0.wr W14
      have K14 := K13.wr W14 (Or.inl (List.mem_of_getElem? (i := 0) rfl))
      have F14_p0_line := F13_p0_line.other W14 (Or.inr (slot_ne (Or.inl (hw _ (List.mem_of_getElem? (i := 14) rfl))) (Or.inl (hw _ (List.mem_of_getElem? (i := 23) rfl))) (by decide) (t := .long) (t' := .boolean) (by decide) (by decide)))
      have F14_p0_column := F13_p0_column.other W14 (Or.inr (slot_ne (Or.inl (hw _ (List.mem_of_getElem? (i := 16) rfl))) (Or.inl (hw _ (List.mem_of_getElem? (i := 23) rfl))) (by decide) (t := .long) (t' := .boolean) (by decide) (by decide)))
      have F14_p0_afterCarriageReturn : Fld Z h14 p0 "com/example/plnr/plnr/io/BytePlace" "afterCarriageReturn" "Z" (.int (0 : Int32)) := F13_p0_afterCarriageReturn.same W14
      have Z14 : n0 ≤ h14.size := Nat.le_trans Z13 (Keep.of_wr W14).1
      refine Goes.step (A := T14.setTop (mkF m 68 #[.val (.ref p0), .val (.int p1)] [])) (fun t kt => st14 _ kt) ?_
      obtain ⟨fs, hr, hrun, hended, hW, hsame⟩ := X14.leave (v := none) (fun _ => rfl)
      refine Goes.done ?_ hrun hended ⟨_, _, rfl, ?_, ⟨_, rfl⟩, hW, hsame.mono (by decide) (by decide)⟩
      · exact X14.returnOut hx Bd.returns (hb hby d4_68) hr
      · show Q4 Z p0 p1 ln cl ac h0 n0 _ T14.heap _
        rw [e14]
        exact ⟨rfl, N14, K14, E14_p0, (by rw [show (lineF p1 ln ac) = ln from by simp [lineF, hc3_8, hc9_10]]; exact F14_p0_line), (by rw [show (colF p1 cl) = (cl + (1 : Int64)) from by simp [colF, hc3_8, hc9_10]]; exact F14_p0_column), (by rw [show (acF p1) = (0 : Int32) from by simp [acF, hc3_8, hc9_10]]; exact F14_p0_afterCarriageReturn)⟩
theorem ef_5 (m : MethodId) (x0 : Addr) : entryFrame m #[(.ref x0)] 1 = mkF m 0 #[.val (.ref x0)] [] := by first | (simp [entryFrame, mkF, argsToLocals, Value.category]; done) | rfl
def Q5 (Z : State) (p0 : Addr) (cx : Int64) (h0 : Heap) (n0 : Nat) (v : Option Value) (h : Heap) (L : List Loc) : Prop := v = some (.long cx) ∧ Fr n0 L ∧ h = h0
theorem d5_0 : decode prog_20_method_3_code 0 = .ok (.aload_n 0, 1) := by decide +kernel
theorem d5_1 : decode prog_20_method_3_code 1 = .ok (.getfield 7, 3) := by decide +kernel
theorem d5_4 : decode prog_20_method_3_code 4 = .ok (.lreturn, 1) := by decide +kernel
theorem pn_5 : plainName "com/example/plnr/plnr/io/BytePlace" = true := by first | (simp [plainName, overriddenIn]; done) | decide +kernel
set_option maxRecDepth 65536 in
set_option maxHeartbeats 40000000 in
theorem rm5 (l : Launch) (Z : State) (a0 : Array Value) (hw : ∀ d ∈ tables_1, d.before a0 Z = true) (ws : List Jvm.Cond) (p0 : Addr) (cx : Int64) (h0 : Heap) (n0 : Nat) (Z0 : n0 ≤ h0.size) (F0 : Fld Z h0 p0 "com/example/plnr/plnr/io/BytePlace" "line" "J" (.long cx)) :
    MetFree l (⟨"com/example/plnr/plnr/io/BytePlace", "line", "()J"⟩ : MethodName) (head1 (Jvm.Cond.code (⟨"com/example/plnr/plnr/io/BytePlace", "line", "()J"⟩ : MethodName) prog_20_method_3_code 1 (some .long) :: ws) ({ frames := 0, cells := 0, slots := 0, locals := 0 } : Room)) (fun a U => a = #[(.ref p0)] ∧ Z.Warmed39 U.vm ∧ U.heap = h0) (fun _ _ _ _ _ => True) (fun _ U o U' => ∃ v L, o = .returned v ∧ Q5 Z p0 cx h0 n0 v U'.heap L ∧ FrameEnd U o U' L ({ frames := 0, cells := 0, slots := 0, locals := 0 } : Room).cells ({ frames := 0, cells := 0, slots := 0, locals := 0 } : Room).slots) := by
  refine MetFree.of_bodySF (plainFor_of_name pn_5) hisR ?_
  intro p e s m args below meth c s₁ Bd hml0 hP hK
  obtain ⟨rfl, hZ, hh⟩ := hP
  have hx := Bd.exec
  have hby := Bd.bytes
  have hml : c.maxLocals = 1 := hml0
  have hown : s.vm.findClass "com/example/plnr/plnr/io/BytePlace" = some m.cls := findClass_of_methodNamed Bd.named
  have hnm := (name_of_methodNamed Bd.named Bd.method).1
  have X0 : Stand p l e ({ frames := 0, cells := 0, slots := 0, locals := 0 } : Room) s m #[(.ref p0)] below meth c s₁ [] 0 0 := Stand.of_body Bd
  have e0 : s₁.heap = h0 := by rw [← hh, Bd.state]; rfl
  have N0 := Fr.nil n0
  refine Goes.start (Q := (fun o U' => ∃ v L, o = .returned v ∧ Q5 Z p0 cx h0 n0 v U'.heap L ∧ FrameEnd s o U' L ({ frames := 0, cells := 0, slots := 0, locals := 0 } : Room).cells ({ frames := 0, cells := 0, slots := 0, locals := 0 } : Room).slots)) (A := s₁.setTop (mkF m 0 #[.val (.ref p0)] [])) (fun t k => castTop (ef_5 m p0) k) ?_
  refine Goes.step (A := s₁.setTop (mkF m 1 #[.val (.ref p0)] [(.ref p0)])) (fun t kt => ?_) ?_
  · refine XS.aloadN X0.here hx rfl (hb hby d5_0) rfl rfl ?_
    exact kt
  obtain ⟨T1, X1, e1, st1⟩ := getF X0 hx hZ hown (host := "") (Or.inl (hw _ (List.mem_of_getElem? (i := 13) rfl))) Via.refl e0 F0 (g := (mkF m 1 #[.val (.ref p0)] [(.ref p0)])) rfl rfl (hb hby d5_1)
  refine Goes.step (A := T1.setTop (mkF m 4 #[.val (.ref p0)] [(.long cx)])) (fun t kt => st1 _ kt) ?_
  obtain ⟨fs, hr, hrun, hended, hW, hsame⟩ := X1.leave (v := some (.long cx)) (fun h => by rw [Bd.returns] at h; cases h)
  refine Goes.done ?_ hrun hended ⟨_, _, rfl, ?_, ⟨_, rfl⟩, hW, hsame.mono (by decide) (by decide)⟩
  · jvm_step X1.here [X1.here.top, hx, (hb hby d5_4), X1.method', Bd.returns, narrow]
    first | (intro acts; rw [hr _ acts rfl rfl rfl]) | rw [hr _ _ rfl rfl rfl]
    exact Steps.refl _
  · show Q5 Z p0 cx h0 n0 _ T1.heap _
    rw [e1]
    exact ⟨rfl, N0, rfl⟩
theorem ef_6 (m : MethodId) (x0 : Addr) : entryFrame m #[(.ref x0)] 1 = mkF m 0 #[.val (.ref x0)] [] := by first | (simp [entryFrame, mkF, argsToLocals, Value.category]; done) | rfl
def Q6 (Z : State) (p0 : Addr) (cx : Int64) (h0 : Heap) (n0 : Nat) (v : Option Value) (h : Heap) (L : List Loc) : Prop := v = some (.long cx) ∧ Fr n0 L ∧ h = h0
theorem d6_0 : decode prog_20_method_4_code 0 = .ok (.aload_n 0, 1) := by decide +kernel
theorem d6_1 : decode prog_20_method_4_code 1 = .ok (.getfield 13, 3) := by decide +kernel
theorem d6_4 : decode prog_20_method_4_code 4 = .ok (.lreturn, 1) := by decide +kernel
theorem pn_6 : plainName "com/example/plnr/plnr/io/BytePlace" = true := by first | (simp [plainName, overriddenIn]; done) | decide +kernel
set_option maxRecDepth 65536 in
set_option maxHeartbeats 40000000 in
theorem rm6 (l : Launch) (Z : State) (a0 : Array Value) (hw : ∀ d ∈ tables_1, d.before a0 Z = true) (ws : List Jvm.Cond) (p0 : Addr) (cx : Int64) (h0 : Heap) (n0 : Nat) (Z0 : n0 ≤ h0.size) (F0 : Fld Z h0 p0 "com/example/plnr/plnr/io/BytePlace" "column" "J" (.long cx)) :
    MetFree l (⟨"com/example/plnr/plnr/io/BytePlace", "column", "()J"⟩ : MethodName) (head1 (Jvm.Cond.code (⟨"com/example/plnr/plnr/io/BytePlace", "column", "()J"⟩ : MethodName) prog_20_method_4_code 1 (some .long) :: ws) ({ frames := 0, cells := 0, slots := 0, locals := 0 } : Room)) (fun a U => a = #[(.ref p0)] ∧ Z.Warmed39 U.vm ∧ U.heap = h0) (fun _ _ _ _ _ => True) (fun _ U o U' => ∃ v L, o = .returned v ∧ Q6 Z p0 cx h0 n0 v U'.heap L ∧ FrameEnd U o U' L ({ frames := 0, cells := 0, slots := 0, locals := 0 } : Room).cells ({ frames := 0, cells := 0, slots := 0, locals := 0 } : Room).slots) := by
  refine MetFree.of_bodySF (plainFor_of_name pn_6) hisR ?_
  intro p e s m args below meth c s₁ Bd hml0 hP hK
  obtain ⟨rfl, hZ, hh⟩ := hP
  have hx := Bd.exec
  have hby := Bd.bytes
  have hml : c.maxLocals = 1 := hml0
  have hown : s.vm.findClass "com/example/plnr/plnr/io/BytePlace" = some m.cls := findClass_of_methodNamed Bd.named
  have hnm := (name_of_methodNamed Bd.named Bd.method).1
  have X0 : Stand p l e ({ frames := 0, cells := 0, slots := 0, locals := 0 } : Room) s m #[(.ref p0)] below meth c s₁ [] 0 0 := Stand.of_body Bd
  have e0 : s₁.heap = h0 := by rw [← hh, Bd.state]; rfl
  have N0 := Fr.nil n0
  refine Goes.start (Q := (fun o U' => ∃ v L, o = .returned v ∧ Q6 Z p0 cx h0 n0 v U'.heap L ∧ FrameEnd s o U' L ({ frames := 0, cells := 0, slots := 0, locals := 0 } : Room).cells ({ frames := 0, cells := 0, slots := 0, locals := 0 } : Room).slots)) (A := s₁.setTop (mkF m 0 #[.val (.ref p0)] [])) (fun t k => castTop (ef_6 m p0) k) ?_
  refine Goes.step (A := s₁.setTop (mkF m 1 #[.val (.ref p0)] [(.ref p0)])) (fun t kt => ?_) ?_
  · refine XS.aloadN X0.here hx rfl (hb hby d6_0) rfl rfl ?_
    exact kt
  obtain ⟨T1, X1, e1, st1⟩ := getF X0 hx hZ hown (host := "") (Or.inl (hw _ (List.mem_of_getElem? (i := 15) rfl))) Via.refl e0 F0 (g := (mkF m 1 #[.val (.ref p0)] [(.ref p0)])) rfl rfl (hb hby d6_1)
  refine Goes.step (A := T1.setTop (mkF m 4 #[.val (.ref p0)] [(.long cx)])) (fun t kt => st1 _ kt) ?_
  obtain ⟨fs, hr, hrun, hended, hW, hsame⟩ := X1.leave (v := some (.long cx)) (fun h => by rw [Bd.returns] at h; cases h)
  refine Goes.done ?_ hrun hended ⟨_, _, rfl, ?_, ⟨_, rfl⟩, hW, hsame.mono (by decide) (by decide)⟩
  · jvm_step X1.here [X1.here.top, hx, (hb hby d6_4), X1.method', Bd.returns, narrow]
    first | (intro acts; rw [hr _ acts rfl rfl rfl]) | rw [hr _ _ rfl rfl rfl]
    exact Steps.refl _
  · show Q6 Z p0 cx h0 n0 _ T1.heap _
    rw [e1]
    exact ⟨rfl, N0, rfl⟩
theorem ef_0 (m : MethodId) (x0 : Int32) (x1 : Int32) (x2 : Int32) : entryFrame m #[(.int x0), (.int x1), (.int x2)] maxLocals = mkF m 0 #[.val (.int x0), .val (.int x1), .val (.int x2), .unset, .unset, .unset, .unset, .unset, .unset, .unset, .unset, .unset, .unset, .unset, .unset, .unset, .unset, .unset, .unset, .unset, .unset, .unset, .unset, .unset, .unset, .unset, .unset, .unset, .unset, .unset, .unset] [] := by first | (simp [entryFrame, mkF, argsToLocals, Value.category, maxLocals]; done) | rfl
def Q0 (Z : State) (p0 : Int32) (p1 : Int32) (p2 : Int32) (h0 : Heap) (n0 : Nat) (v : Option Value) (h : Heap) (L : List Loc) : Prop := v = some (.int 1) ∧ Fr n0 L
theorem pn_0 : plainName "com/example/plnr/plnr/io/BytePlacePassPinLaw" = true := by first | (simp [plainName, overriddenIn]; done) | decide +kernel
theorem pd_0 : parseMethodDescriptor "(I)I" = some ⟨[.int], some .int⟩ := by decide +kernel
theorem pd_1 : parseMethodDescriptor "()V" = some ⟨[], none⟩ := by decide +kernel
theorem pd_2 : parseMethodDescriptor "(I)V" = some ⟨[.int], none⟩ := by decide +kernel
theorem pd_3 : parseMethodDescriptor "()J" = some ⟨[], some .long⟩ := by decide +kernel
theorem pd_4 : parseMethodDescriptor "(IZ)J" = some ⟨[.int, .boolean], some .long⟩ := by decide +kernel
theorem pd_5 : parseMethodDescriptor "(I)Z" = some ⟨[.int], some .boolean⟩ := by decide +kernel
set_option maxRecDepth 65536 in
set_option maxHeartbeats 40000000 in
theorem rm0 (l : Launch) (Z : State) (a0 : Array Value) (hw : ∀ d ∈ tables_1, d.before a0 Z = true) (ws : List Jvm.Cond) (p0 : Int32) (p1 : Int32) (p2 : Int32) (h0 : Heap) (n0 : Nat) (Z0 : n0 ≤ h0.size) :
    MetFree l x (head1 (Jvm.Cond.code x code maxLocals ret :: ws) room_1) (fun a U => a = #[(.int p0), (.int p1), (.int p2)] ∧ Z.Warmed39 U.vm ∧ U.heap = h0) (fun _ _ _ _ _ => True) (fun _ U o U' => ∃ v L, o = .returned v ∧ Q0 Z p0 p1 p2 h0 n0 v U'.heap L ∧ FrameEnd U o U' L room_1.cells room_1.slots) := by
  refine MetFree.of_bodySF (plainFor_of_name pn_0) hisR ?_
  intro p e s m args below meth c s₁ Bd hml0 hP hK
  obtain ⟨rfl, hZ, hh⟩ := hP
  have hx := Bd.exec
  have hby := Bd.bytes
  have hml : c.maxLocals = 31 := hml0
  have hown : s.vm.findClass "com/example/plnr/plnr/io/BytePlacePassPinLaw" = some m.cls := findClass_of_methodNamed Bd.named
  have hnm := (name_of_methodNamed Bd.named Bd.method).1
  have X0 : Stand p l e room_1 s m #[(.int p0), (.int p1), (.int p2)] below meth c s₁ [] 0 0 := Stand.of_body Bd
  have e0 : s₁.heap = h0 := by rw [← hh, Bd.state]; rfl
  have N0 := Fr.nil n0
  refine Goes.start (Q := (fun o U' => ∃ v L, o = .returned v ∧ Q0 Z p0 p1 p2 h0 n0 v U'.heap L ∧ FrameEnd s o U' L room_1.cells room_1.slots)) (A := s₁.setTop (mkF m 0 #[.val (.int p0), .val (.int p1), .val (.int p2), .unset, .unset, .unset, .unset, .unset, .unset, .unset, .unset, .unset, .unset, .unset, .unset, .unset, .unset, .unset, .unset, .unset, .unset, .unset, .unset, .unset, .unset, .unset, .unset, .unset, .unset, .unset, .unset] [])) (fun t k => castTop (ef_0 m p0 p1 p2) k) ?_
  refine Goes.step (A := s₁.setTop (mkF m 1 #[.val (.int p0), .val (.int p1), .val (.int p2), .unset, .unset, .unset, .unset, .unset, .unset, .unset, .unset, .unset, .unset, .unset, .unset, .unset, .unset, .unset, .unset, .unset, .unset, .unset, .unset, .unset, .unset, .unset, .unset, .unset, .unset, .unset, .unset] [(.int p0)])) (fun t kt => ?_) ?_
  · refine XS.iloadN X0.here hx rfl (hb hby at_0) rfl ?_
    exact kt
  obtain ⟨_, _, ⟨T1, L1, k1, n1⟩, -, X1, ⟨Lc1, hQ1, l1, y1, z1⟩, st1⟩ := Jvm.LawKit.callS X0 hx (y := (⟨"com/example/plnr/plnr/io/BytePlacePassPinLaw", "draw", "(I)I"⟩ : MethodName)) hown (mvT hZ (hw _ (List.mem_of_getElem? (i := 0) rfl))) (mvT hZ (hw _ (List.mem_of_getElem? (i := 1) rfl))) (mvT hZ (hw _ (List.mem_of_getElem? (i := 2) rfl))) (mvT hZ (hw _ (List.mem_of_getElem? (i := 3) rfl))) (by decide) (backOf (W := 0) (rm1 l Z a0 hw [] p0 h0 n0 Z0) hZ (hw _ (List.mem_of_getElem? (i := 3) rfl)) (hw _ (List.mem_of_getElem? (i := 2) rfl)) (by decide) (by decide)) (g := (mkF m 1 #[.val (.int p0), .val (.int p1), .val (.int p2), .unset, .unset, .unset, .unset, .unset, .unset, .unset, .unset, .unset, .unset, .unset, .unset, .unset, .unset, .unset, .unset, .unset, .unset, .unset, .unset, .unset, .unset, .unset, .unset, .unset, .unset, .unset, .unset] [(.int p0)])) rfl (by rw [hml]; rfl) (argsL := [(.int p0)]) (rest := []) (lenOf pd_0 rfl) rfl (by show 2 * 0 + _ ≤ _; exact Nat.le_of_eq rfl) (hb hby at_1) (fun _ _ => ⟨rfl, e0, (by decide : 0 + 0 ≤ _), (by decide : 0 + 0 ≤ _)⟩)
  dsimp only [Pt.U, Pt.locs, Pt.cells, Pt.slots] at X1 l1 y1 z1 st1 hQ1
  subst l1 y1 z1
  obtain ⟨rfl, N1q, e1⟩ := hQ1
  have N1 := Fr.app N0 N1q
  refine Goes.step (A := T1.setTop (mkF m 4 #[.val (.int p0), .val (.int p1), .val (.int p2), .unset, .unset, .unset, .unset, .unset, .unset, .unset, .unset, .unset, .unset, .unset, .unset, .unset, .unset, .unset, .unset, .unset, .unset, .unset, .unset, .unset, .unset, .unset, .unset, .unset, .unset, .unset, .unset] [(.int (drawF p0))])) (fun t kt => st1 _ kt) ?_
  refine Goes.step (A := T1.setTop (mkF m 6 #[.val (.int p0), .val (.int p1), .val (.int p2), .val (.int (drawF p0)), .unset, .unset, .unset, .unset, .unset, .unset, .unset, .unset, .unset, .unset, .unset, .unset, .unset, .unset, .unset, .unset, .unset, .unset, .unset, .unset, .unset, .unset, .unset, .unset, .unset, .unset, .unset] [(.int p1)])) (fun t kt => ?_) ?_
  · refine XS.istoreN X1.here hx rfl (hb hby at_4) rfl (l' := #[.val (.int p0), .val (.int p1), .val (.int p2), .val (.int (drawF p0)), .unset, .unset, .unset, .unset, .unset, .unset, .unset, .unset, .unset, .unset, .unset, .unset, .unset, .unset, .unset, .unset, .unset, .unset, .unset, .unset, .unset, .unset, .unset, .unset, .unset, .unset, .unset]) rfl ?_
    show Steps p.tables e below (T1.setTop (mkF m 5 #[.val (.int p0), .val (.int p1), .val (.int p2), .val (.int (drawF p0)), .unset, .unset, .unset, .unset, .unset, .unset, .unset, .unset, .unset, .unset, .unset, .unset, .unset, .unset, .unset, .unset, .unset, .unset, .unset, .unset, .unset, .unset, .unset, .unset, .unset, .unset, .unset] [])) _
    refine XS.iloadN X1.here hx rfl (hb hby at_5) rfl ?_
    exact kt
  obtain ⟨_, _, ⟨T2, L2, k2, n2⟩, -, X2, ⟨Lc2, hQ2, l2, y2, z2⟩, st2⟩ := Jvm.LawKit.callS X1 hx (y := (⟨"com/example/plnr/plnr/io/BytePlacePassPinLaw", "draw", "(I)I"⟩ : MethodName)) hown (mvT hZ (hw _ (List.mem_of_getElem? (i := 0) rfl))) (mvT hZ (hw _ (List.mem_of_getElem? (i := 1) rfl))) (mvT hZ (hw _ (List.mem_of_getElem? (i := 2) rfl))) (mvT hZ (hw _ (List.mem_of_getElem? (i := 3) rfl))) (by decide) (backOf (W := 0) (rm1 l Z a0 hw [] p1 h0 n0 Z0) hZ (hw _ (List.mem_of_getElem? (i := 3) rfl)) (hw _ (List.mem_of_getElem? (i := 2) rfl)) (by decide) (by decide)) (g := (mkF m 6 #[.val (.int p0), .val (.int p1), .val (.int p2), .val (.int (drawF p0)), .unset, .unset, .unset, .unset, .unset, .unset, .unset, .unset, .unset, .unset, .unset, .unset, .unset, .unset, .unset, .unset, .unset, .unset, .unset, .unset, .unset, .unset, .unset, .unset, .unset, .unset, .unset] [(.int p1)])) rfl (by rw [hml]; rfl) (argsL := [(.int p1)]) (rest := []) (lenOf pd_0 rfl) rfl (by show 2 * 0 + _ ≤ _; exact Nat.le_of_eq rfl) (hb hby at_6) (fun _ _ => ⟨rfl, e1, (by decide : 0 + 0 ≤ _), (by decide : 0 + 0 ≤ _)⟩)
  dsimp only [Pt.U, Pt.locs, Pt.cells, Pt.slots] at X2 l2 y2 z2 st2 hQ2
  subst l2 y2 z2
  obtain ⟨rfl, N2q, e2⟩ := hQ2
  have N2 := Fr.app N1 N2q
  refine Goes.step (A := T2.setTop (mkF m 9 #[.val (.int p0), .val (.int p1), .val (.int p2), .val (.int (drawF p0)), .unset, .unset, .unset, .unset, .unset, .unset, .unset, .unset, .unset, .unset, .unset, .unset, .unset, .unset, .unset, .unset, .unset, .unset, .unset, .unset, .unset, .unset, .unset, .unset, .unset, .unset, .unset] [(.int (drawF p1))])) (fun t kt => st2 _ kt) ?_
  refine Goes.step (A := T2.setTop (mkF m 12 #[.val (.int p0), .val (.int p1), .val (.int p2), .val (.int (drawF p0)), .val (.int (drawF p1)), .unset, .unset, .unset, .unset, .unset, .unset, .unset, .unset, .unset, .unset, .unset, .unset, .unset, .unset, .unset, .unset, .unset, .unset, .unset, .unset, .unset, .unset, .unset, .unset, .unset, .unset] [(.int p2)])) (fun t kt => ?_) ?_
  · refine XS.istore X2.here hx rfl (hb hby at_9) rfl (l' := #[.val (.int p0), .val (.int p1), .val (.int p2), .val (.int (drawF p0)), .val (.int (drawF p1)), .unset, .unset, .unset, .unset, .unset, .unset, .unset, .unset, .unset, .unset, .unset, .unset, .unset, .unset, .unset, .unset, .unset, .unset, .unset, .unset, .unset, .unset, .unset, .unset, .unset, .unset]) rfl ?_
    show Steps p.tables e below (T2.setTop (mkF m 11 #[.val (.int p0), .val (.int p1), .val (.int p2), .val (.int (drawF p0)), .val (.int (drawF p1)), .unset, .unset, .unset, .unset, .unset, .unset, .unset, .unset, .unset, .unset, .unset, .unset, .unset, .unset, .unset, .unset, .unset, .unset, .unset, .unset, .unset, .unset, .unset, .unset, .unset, .unset] [])) _
    refine XS.iloadN X2.here hx rfl (hb hby at_11) rfl ?_
    exact kt
  obtain ⟨_, _, ⟨T3, L3, k3, n3⟩, -, X3, ⟨Lc3, hQ3, l3, y3, z3⟩, st3⟩ := Jvm.LawKit.callS X2 hx (y := (⟨"com/example/plnr/plnr/io/BytePlacePassPinLaw", "draw", "(I)I"⟩ : MethodName)) hown (mvT hZ (hw _ (List.mem_of_getElem? (i := 0) rfl))) (mvT hZ (hw _ (List.mem_of_getElem? (i := 1) rfl))) (mvT hZ (hw _ (List.mem_of_getElem? (i := 2) rfl))) (mvT hZ (hw _ (List.mem_of_getElem? (i := 3) rfl))) (by decide) (backOf (W := 0) (rm1 l Z a0 hw [] p2 h0 n0 Z0) hZ (hw _ (List.mem_of_getElem? (i := 3) rfl)) (hw _ (List.mem_of_getElem? (i := 2) rfl)) (by decide) (by decide)) (g := (mkF m 12 #[.val (.int p0), .val (.int p1), .val (.int p2), .val (.int (drawF p0)), .val (.int (drawF p1)), .unset, .unset, .unset, .unset, .unset, .unset, .unset, .unset, .unset, .unset, .unset, .unset, .unset, .unset, .unset, .unset, .unset, .unset, .unset, .unset, .unset, .unset, .unset, .unset, .unset, .unset] [(.int p2)])) rfl (by rw [hml]; rfl) (argsL := [(.int p2)]) (rest := []) (lenOf pd_0 rfl) rfl (by show 2 * 0 + _ ≤ _; exact Nat.le_of_eq rfl) (hb hby at_12) (fun _ _ => ⟨rfl, e2, (by decide : 0 + 0 ≤ _), (by decide : 0 + 0 ≤ _)⟩)
  dsimp only [Pt.U, Pt.locs, Pt.cells, Pt.slots] at X3 l3 y3 z3 st3 hQ3
  subst l3 y3 z3
  obtain ⟨rfl, N3q, e3⟩ := hQ3
  have N3 := Fr.app N2 N3q
  refine Goes.step (A := T3.setTop (mkF m 15 #[.val (.int p0), .val (.int p1), .val (.int p2), .val (.int (drawF p0)), .val (.int (drawF p1)), .unset, .unset, .unset, .unset, .unset, .unset, .unset, .unset, .unset, .unset, .unset, .unset, .unset, .unset, .unset, .unset, .unset, .unset, .unset, .unset, .unset, .unset, .unset, .unset, .unset, .unset] [(.int (drawF p2))])) (fun t kt => st3 _ kt) ?_
  refine Goes.step (A := T3.setTop (mkF m 17 #[.val (.int p0), .val (.int p1), .val (.int p2), .val (.int (drawF p0)), .val (.int (drawF p1)), .val (.int (drawF p2)), .unset, .unset, .unset, .unset, .unset, .unset, .unset, .unset, .unset, .unset, .unset, .unset, .unset, .unset, .unset, .unset, .unset, .unset, .unset, .unset, .unset, .unset, .unset, .unset, .unset] [])) (fun t kt => ?_) ?_
  · refine XS.istore X3.here hx rfl (hb hby at_15) rfl (l' := #[.val (.int p0), .val (.int p1), .val (.int p2), .val (.int (drawF p0)), .val (.int (drawF p1)), .val (.int (drawF p2)), .unset, .unset, .unset, .unset, .unset, .unset, .unset, .unset, .unset, .unset, .unset, .unset, .unset, .unset, .unset, .unset, .unset, .unset, .unset, .unset, .unset, .unset, .unset, .unset, .unset]) rfl ?_
    exact kt
  have c0 : ∀ (T9 : State) (L9 : List Loc) (X9 : Stand p l e room_1 s m #[(.int p0), (.int p1), (.int p2)] below meth c T9 L9 0 0) (e9 : T9.heap = h0) (N9 : Fr n0 L9) (v0 v1 v2 : Int32), Goes p.tables e below (fun o U' => ∃ v L, o = .returned v ∧ Q0 Z p0 p1 p2 h0 n0 v U'.heap L ∧ FrameEnd s o U' L room_1.cells room_1.slots) (T9.setTop (mkF m 17 #[.val (.int p0), .val (.int p1), .val (.int p2), .val (.int v0), .val (.int v1), .val (.int v2), .unset, .unset, .unset, .unset, .unset, .unset, .unset, .unset, .unset, .unset, .unset, .unset, .unset, .unset, .unset, .unset, .unset, .unset, .unset, .unset, .unset, .unset, .unset, .unset, .unset] [])) := by
    intro T9 L9 X9 e9 N9 v0 v1 v2
    obtain ⟨T4, h4, X4, e4, E4, A4, D4, -, st4⟩ := newO X9 hx hZ hown (hw _ (List.mem_of_getElem? (i := 4) rfl)) (hw _ (List.mem_of_getElem? (i := 5) rfl)) (hw _ (List.mem_of_getElem? (i := 6) rfl)) e9 (g := (mkF m 17 #[.val (.int p0), .val (.int p1), .val (.int p2), .val (.int v0), .val (.int v1), .val (.int v2), .unset, .unset, .unset, .unset, .unset, .unset, .unset, .unset, .unset, .unset, .unset, .unset, .unset, .unset, .unset, .unset, .unset, .unset, .unset, .unset, .unset, .unset, .unset, .unset, .unset] [])) rfl (hb hby at_17) (by decide) (by decide)
    obtain ⟨b4, g4⟩ : ∃ z, z = h0.size := ⟨_, rfl⟩
    rw [← g4] at A4 D4 st4
    have gb_b4 : n0 ≤ b4 := Nat.le_trans Z0 (Nat.le_of_eq g4.symm)
    have Z4 : n0 ≤ h4.size := Nat.le_trans Z0 E4.1
    have F4_line : Fld Z h4 b4 "com/example/plnr/plnr/io/BytePlace" "line" "J" (.long (0 : Int64)) := D4 (Or.inl (hw _ (List.mem_of_getElem? (i := 14) rfl))) (ty := .long) (by decide)
    have F4_column : Fld Z h4 b4 "com/example/plnr/plnr/io/BytePlace" "column" "J" (.long (0 : Int64)) := D4 (Or.inl (hw _ (List.mem_of_getElem? (i := 16) rfl))) (ty := .long) (by decide)
    have F4_afterCarriageReturn : Fld Z h4 b4 "com/example/plnr/plnr/io/BytePlace" "afterCarriageReturn" "Z" (.int (0 : Int32)) := D4 (Or.inl (hw _ (List.mem_of_getElem? (i := 23) rfl))) (ty := .boolean) (by decide)
    refine Goes.step (A := T4.setTop (mkF m 20 #[.val (.int p0), .val (.int p1), .val (.int p2), .val (.int v0), .val (.int v1), .val (.int v2), .unset, .unset, .unset, .unset, .unset, .unset, .unset, .unset, .unset, .unset, .unset, .unset, .unset, .unset, .unset, .unset, .unset, .unset, .unset, .unset, .unset, .unset, .unset, .unset, .unset] [(.ref b4)])) (fun t kt => st4 _ kt) ?_
    refine Goes.step (A := T4.setTop (mkF m 21 #[.val (.int p0), .val (.int p1), .val (.int p2), .val (.int v0), .val (.int v1), .val (.int v2), .unset, .unset, .unset, .unset, .unset, .unset, .unset, .unset, .unset, .unset, .unset, .unset, .unset, .unset, .unset, .unset, .unset, .unset, .unset, .unset, .unset, .unset, .unset, .unset, .unset] [(.ref b4), (.ref b4)])) (fun t kt => ?_) ?_
    · refine XS.dup X4.here hx rfl (hb hby at_20) rfl rfl ?_
      exact kt
    obtain ⟨_, _, ⟨T5, L5, k5, n5⟩, -, X5, ⟨Lc5, hQ5, l5, y5, z5⟩, st5⟩ := X4.specialBack hx (y := (⟨"com/example/plnr/plnr/io/BytePlace", "<init>", "()V"⟩ : MethodName)) rfl hown (mvT hZ (hw _ (List.mem_of_getElem? (i := 7) rfl))) (mvT hZ (hw _ (List.mem_of_getElem? (i := 8) rfl))) (mvT hZ (hw _ (List.mem_of_getElem? (i := 9) rfl))) (by decide) (backOf (W := 1) (rm2 l Z a0 hw [] b4 h4 n0 Z4 F4_line F4_column F4_afterCarriageReturn A4 gb_b4) hZ (hw _ (List.mem_of_getElem? (i := 9) rfl)) (hw _ (List.mem_of_getElem? (i := 6) rfl)) (by decide) (by decide)) (g := (mkF m 21 #[.val (.int p0), .val (.int p1), .val (.int p2), .val (.int v0), .val (.int v1), .val (.int v2), .unset, .unset, .unset, .unset, .unset, .unset, .unset, .unset, .unset, .unset, .unset, .unset, .unset, .unset, .unset, .unset, .unset, .unset, .unset, .unset, .unset, .unset, .unset, .unset, .unset] [(.ref b4), (.ref b4)])) rfl (by rw [hml]; rfl) (Steps.refl _) (a := b4) (argsL := []) (rest := [(.ref b4)]) (lenOf pd_1 rfl) rfl (by show 2 * 0 + _ ≤ _; exact Nat.le_of_eq rfl) (hb hby at_21) (fun _ _ => ⟨rfl, e4, (by decide : 1 + 0 ≤ _), (by decide : 3 + 0 ≤ _)⟩)
    dsimp only [Pt.U, Pt.locs, Pt.cells, Pt.slots] at X5 l5 y5 z5 st5 hQ5
    subst l5 y5 z5
    obtain ⟨rfl, N5q, K5q, E5q, Flin5, Fcol5, Faft5⟩ := hQ5
    have N5 := Fr.app N9 N5q
    refine Goes.step (A := T5.setTop (mkF m 24 #[.val (.int p0), .val (.int p1), .val (.int p2), .val (.int v0), .val (.int v1), .val (.int v2), .unset, .unset, .unset, .unset, .unset, .unset, .unset, .unset, .unset, .unset, .unset, .unset, .unset, .unset, .unset, .unset, .unset, .unset, .unset, .unset, .unset, .unset, .unset, .unset, .unset] [(.ref b4)])) (fun t kt => st5.trans kt) ?_
    have Z5 : n0 ≤ T5.heap.size := Nat.le_trans Z4 K5q.1
    refine Goes.step (A := T5.setTop (mkF m 29 #[.val (.int p0), .val (.int p1), .val (.int p2), .val (.int v0), .val (.int v1), .val (.int v2), .val (.ref b4), .unset, .unset, .unset, .unset, .unset, .unset, .unset, .unset, .unset, .unset, .unset, .unset, .unset, .unset, .unset, .unset, .unset, .unset, .unset, .unset, .unset, .unset, .unset, .unset] [(.int v0), (.ref b4)])) (fun t kt => ?_) ?_
    · refine XS.astore X5.here hx rfl (hb hby at_24) rfl rfl (l' := #[.val (.int p0), .val (.int p1), .val (.int p2), .val (.int v0), .val (.int v1), .val (.int v2), .val (.ref b4), .unset, .unset, .unset, .unset, .unset, .unset, .unset, .unset, .unset, .unset, .unset, .unset, .unset, .unset, .unset, .unset, .unset, .unset, .unset, .unset, .unset, .unset, .unset, .unset]) rfl ?_
      show Steps p.tables e below (T5.setTop (mkF m 26 #[.val (.int p0), .val (.int p1), .val (.int p2), .val (.int v0), .val (.int v1), .val (.int v2), .val (.ref b4), .unset, .unset, .unset, .unset, .unset, .unset, .unset, .unset, .unset, .unset, .unset, .unset, .unset, .unset, .unset, .unset, .unset, .unset, .unset, .unset, .unset, .unset, .unset, .unset] [])) _
      refine XS.aload X5.here hx rfl (hb hby at_26) rfl rfl ?_
      show Steps p.tables e below (T5.setTop (mkF m 28 #[.val (.int p0), .val (.int p1), .val (.int p2), .val (.int v0), .val (.int v1), .val (.int v2), .val (.ref b4), .unset, .unset, .unset, .unset, .unset, .unset, .unset, .unset, .unset, .unset, .unset, .unset, .unset, .unset, .unset, .unset, .unset, .unset, .unset, .unset, .unset, .unset, .unset, .unset] [(.ref b4)])) _
      refine XS.iloadN X5.here hx rfl (hb hby at_28) rfl ?_
      exact kt
    obtain ⟨cq6, kq6, q6a, q6b, q6c⟩ := isOf hZ rfl E5q
    obtain ⟨_, _, ⟨T6, L6, k6, n6⟩, -, X6, ⟨Lc6, hQ6, l6, y6, z6⟩, st6⟩ := X5.virtualBack hx (y := (⟨"com/example/plnr/plnr/io/BytePlace", "pass", "(I)V"⟩ : MethodName)) (z := (⟨"com/example/plnr/plnr/io/BytePlace", "pass", "(I)V"⟩ : MethodName)) hown (mvT hZ (hw _ (List.mem_of_getElem? (i := 17) rfl))) (mvT hZ (hw _ (List.mem_of_getElem? (i := 18) rfl))) (notFace_of_selects (args := #[]) (mvT hZ (hw _ (List.mem_of_getElem? (i := 20) rfl)))) (mvT hZ (hw _ (List.mem_of_getElem? (i := 20) rfl))) (mvT hZ (hw _ (List.mem_of_getElem? (i := 19) rfl))) (by decide) (backOf (W := 0) (rm4 l Z a0 hw [] b4 v0 (1 : Int64) (1 : Int64) (0 : Int32) T5.heap n0 Z5 Flin5 Fcol5 Faft5 E5q gb_b4) hZ (hw _ (List.mem_of_getElem? (i := 21) rfl)) (hw _ (List.mem_of_getElem? (i := 6) rfl)) (by decide) (by decide)) q6a q6c (g := (mkF m 29 #[.val (.int p0), .val (.int p1), .val (.int p2), .val (.int v0), .val (.int v1), .val (.int v2), .val (.ref b4), .unset, .unset, .unset, .unset, .unset, .unset, .unset, .unset, .unset, .unset, .unset, .unset, .unset, .unset, .unset, .unset, .unset, .unset, .unset, .unset, .unset, .unset, .unset, .unset] [(.int v0), (.ref b4)])) rfl (by rw [hml]; rfl) (Steps.refl _) (argsL := [(.int v0)]) (rest := []) (lenOf pd_2 rfl) rfl (by show 2 * 0 + _ ≤ _; exact Nat.le_of_eq rfl) (hb hby at_29) (fun _ _ => ⟨rfl, rfl, (by decide : 1 + 0 ≤ _), (by decide : 3 + 0 ≤ _)⟩)
    dsimp only [Pt.U, Pt.locs, Pt.cells, Pt.slots] at X6 l6 y6 z6 st6 hQ6
    subst l6 y6 z6
    obtain ⟨rfl, N6q, K6q, E6q, Flin6, Fcol6, Faft6⟩ := hQ6
    have N6 := Fr.app N5 N6q
    refine Goes.step (A := T6.setTop (mkF m 32 #[.val (.int p0), .val (.int p1), .val (.int p2), .val (.int v0), .val (.int v1), .val (.int v2), .val (.ref b4), .unset, .unset, .unset, .unset, .unset, .unset, .unset, .unset, .unset, .unset, .unset, .unset, .unset, .unset, .unset, .unset, .unset, .unset, .unset, .unset, .unset, .unset, .unset, .unset] [])) (fun t kt => st6.trans kt) ?_
    have Z6 : n0 ≤ T6.heap.size := Nat.le_trans Z5 K6q.1
    refine Goes.step (A := T6.setTop (mkF m 34 #[.val (.int p0), .val (.int p1), .val (.int p2), .val (.int v0), .val (.int v1), .val (.int v2), .val (.ref b4), .unset, .unset, .unset, .unset, .unset, .unset, .unset, .unset, .unset, .unset, .unset, .unset, .unset, .unset, .unset, .unset, .unset, .unset, .unset, .unset, .unset, .unset, .unset, .unset] [(.ref b4)])) (fun t kt => ?_) ?_
    · refine XS.aload X6.here hx rfl (hb hby at_32) rfl rfl ?_
      exact kt
    obtain ⟨cq7, kq7, q7a, q7b, q7c⟩ := isOf hZ rfl E6q
    obtain ⟨_, _, ⟨T7, L7, k7, n7⟩, -, X7, ⟨Lc7, hQ7, l7, y7, z7⟩, st7⟩ := X6.virtualBack hx (y := (⟨"com/example/plnr/plnr/io/BytePlace", "line", "()J"⟩ : MethodName)) (z := (⟨"com/example/plnr/plnr/io/BytePlace", "line", "()J"⟩ : MethodName)) hown (mvT hZ (hw _ (List.mem_of_getElem? (i := 24) rfl))) (mvT hZ (hw _ (List.mem_of_getElem? (i := 25) rfl))) (notFace_of_selects (args := #[]) (mvT hZ (hw _ (List.mem_of_getElem? (i := 27) rfl)))) (mvT hZ (hw _ (List.mem_of_getElem? (i := 27) rfl))) (mvT hZ (hw _ (List.mem_of_getElem? (i := 26) rfl))) (by decide) (backOf (W := 0) (rm5 l Z a0 hw [] b4 (lineF v0 (1 : Int64) (0 : Int32)) T6.heap n0 Z6 Flin6) hZ (hw _ (List.mem_of_getElem? (i := 28) rfl)) (hw _ (List.mem_of_getElem? (i := 6) rfl)) (by decide) (by decide)) q7a q7c (g := (mkF m 34 #[.val (.int p0), .val (.int p1), .val (.int p2), .val (.int v0), .val (.int v1), .val (.int v2), .val (.ref b4), .unset, .unset, .unset, .unset, .unset, .unset, .unset, .unset, .unset, .unset, .unset, .unset, .unset, .unset, .unset, .unset, .unset, .unset, .unset, .unset, .unset, .unset, .unset, .unset] [(.ref b4)])) rfl (by rw [hml]; rfl) (Steps.refl _) (argsL := []) (rest := []) (lenOf pd_3 rfl) rfl (by show 2 * 0 + _ ≤ _; exact Nat.le_of_eq rfl) (hb hby at_34) (fun _ _ => ⟨rfl, rfl, (by decide : 1 + 0 ≤ _), (by decide : 3 + 0 ≤ _)⟩)
    dsimp only [Pt.U, Pt.locs, Pt.cells, Pt.slots] at X7 l7 y7 z7 st7 hQ7
    subst l7 y7 z7
    obtain ⟨rfl, N7q, e7⟩ := hQ7
    have N7 := Fr.app N6 N7q
    refine Goes.step (A := T7.setTop (mkF m 37 #[.val (.int p0), .val (.int p1), .val (.int p2), .val (.int v0), .val (.int v1), .val (.int v2), .val (.ref b4), .unset, .unset, .unset, .unset, .unset, .unset, .unset, .unset, .unset, .unset, .unset, .unset, .unset, .unset, .unset, .unset, .unset, .unset, .unset, .unset, .unset, .unset, .unset, .unset] [(.long (lineF v0 (1 : Int64) (0 : Int32)))])) (fun t kt => st7.trans kt) ?_
    refine Goes.step (A := T7.setTop (mkF m 41 #[.val (.int p0), .val (.int p1), .val (.int p2), .val (.int v0), .val (.int v1), .val (.int v2), .val (.ref b4), .val (.long (lineF v0 (1 : Int64) (0 : Int32))), .second, .unset, .unset, .unset, .unset, .unset, .unset, .unset, .unset, .unset, .unset, .unset, .unset, .unset, .unset, .unset, .unset, .unset, .unset, .unset, .unset, .unset, .unset] [(.ref b4)])) (fun t kt => ?_) ?_
    · refine XS.lstore X7.here hx rfl (hb hby at_37) rfl (l' := #[.val (.int p0), .val (.int p1), .val (.int p2), .val (.int v0), .val (.int v1), .val (.int v2), .val (.ref b4), .val (.long (lineF v0 (1 : Int64) (0 : Int32))), .second, .unset, .unset, .unset, .unset, .unset, .unset, .unset, .unset, .unset, .unset, .unset, .unset, .unset, .unset, .unset, .unset, .unset, .unset, .unset, .unset, .unset, .unset]) rfl ?_
      show Steps p.tables e below (T7.setTop (mkF m 39 #[.val (.int p0), .val (.int p1), .val (.int p2), .val (.int v0), .val (.int v1), .val (.int v2), .val (.ref b4), .val (.long (lineF v0 (1 : Int64) (0 : Int32))), .second, .unset, .unset, .unset, .unset, .unset, .unset, .unset, .unset, .unset, .unset, .unset, .unset, .unset, .unset, .unset, .unset, .unset, .unset, .unset, .unset, .unset, .unset] [])) _
      refine XS.aload X7.here hx rfl (hb hby at_39) rfl rfl ?_
      exact kt
    obtain ⟨cq8, kq8, q8a, q8b, q8c⟩ := isOf hZ e7 E6q
    obtain ⟨_, _, ⟨T8, L8, k8, n8⟩, -, X8, ⟨Lc8, hQ8, l8, y8, z8⟩, st8⟩ := X7.virtualBack hx (y := (⟨"com/example/plnr/plnr/io/BytePlace", "column", "()J"⟩ : MethodName)) (z := (⟨"com/example/plnr/plnr/io/BytePlace", "column", "()J"⟩ : MethodName)) hown (mvT hZ (hw _ (List.mem_of_getElem? (i := 29) rfl))) (mvT hZ (hw _ (List.mem_of_getElem? (i := 30) rfl))) (notFace_of_selects (args := #[]) (mvT hZ (hw _ (List.mem_of_getElem? (i := 32) rfl)))) (mvT hZ (hw _ (List.mem_of_getElem? (i := 32) rfl))) (mvT hZ (hw _ (List.mem_of_getElem? (i := 31) rfl))) (by decide) (backOf (W := 0) (rm6 l Z a0 hw [] b4 (colF v0 (1 : Int64)) T6.heap n0 Z6 Fcol6) hZ (hw _ (List.mem_of_getElem? (i := 33) rfl)) (hw _ (List.mem_of_getElem? (i := 6) rfl)) (by decide) (by decide)) q8a q8c (g := (mkF m 41 #[.val (.int p0), .val (.int p1), .val (.int p2), .val (.int v0), .val (.int v1), .val (.int v2), .val (.ref b4), .val (.long (lineF v0 (1 : Int64) (0 : Int32))), .second, .unset, .unset, .unset, .unset, .unset, .unset, .unset, .unset, .unset, .unset, .unset, .unset, .unset, .unset, .unset, .unset, .unset, .unset, .unset, .unset, .unset, .unset] [(.ref b4)])) rfl (by rw [hml]; rfl) (Steps.refl _) (argsL := []) (rest := []) (lenOf pd_3 rfl) rfl (by show 2 * 0 + _ ≤ _; exact Nat.le_of_eq rfl) (hb hby at_41) (fun _ _ => ⟨rfl, e7, (by decide : 1 + 0 ≤ _), (by decide : 3 + 0 ≤ _)⟩)
    dsimp only [Pt.U, Pt.locs, Pt.cells, Pt.slots] at X8 l8 y8 z8 st8 hQ8
    subst l8 y8 z8
    obtain ⟨rfl, N8q, e8⟩ := hQ8
    have N8 := Fr.app N7 N8q
    refine Goes.step (A := T8.setTop (mkF m 44 #[.val (.int p0), .val (.int p1), .val (.int p2), .val (.int v0), .val (.int v1), .val (.int v2), .val (.ref b4), .val (.long (lineF v0 (1 : Int64) (0 : Int32))), .second, .unset, .unset, .unset, .unset, .unset, .unset, .unset, .unset, .unset, .unset, .unset, .unset, .unset, .unset, .unset, .unset, .unset, .unset, .unset, .unset, .unset, .unset] [(.long (colF v0 (1 : Int64)))])) (fun t kt => st8.trans kt) ?_
    refine Goes.step (A := T8.setTop (mkF m 49 #[.val (.int p0), .val (.int p1), .val (.int p2), .val (.int v0), .val (.int v1), .val (.int v2), .val (.ref b4), .val (.long (lineF v0 (1 : Int64) (0 : Int32))), .second, .val (.long (colF v0 (1 : Int64))), .second, .unset, .unset, .unset, .unset, .unset, .unset, .unset, .unset, .unset, .unset, .unset, .unset, .unset, .unset, .unset, .unset, .unset, .unset, .unset, .unset] [(.int (0 : Int32)), (.int v0), (.long (1 : Int64))])) (fun t kt => ?_) ?_
    · refine XS.lstore X8.here hx rfl (hb hby at_44) rfl (l' := #[.val (.int p0), .val (.int p1), .val (.int p2), .val (.int v0), .val (.int v1), .val (.int v2), .val (.ref b4), .val (.long (lineF v0 (1 : Int64) (0 : Int32))), .second, .val (.long (colF v0 (1 : Int64))), .second, .unset, .unset, .unset, .unset, .unset, .unset, .unset, .unset, .unset, .unset, .unset, .unset, .unset, .unset, .unset, .unset, .unset, .unset, .unset, .unset]) rfl ?_
      show Steps p.tables e below (T8.setTop (mkF m 46 #[.val (.int p0), .val (.int p1), .val (.int p2), .val (.int v0), .val (.int v1), .val (.int v2), .val (.ref b4), .val (.long (lineF v0 (1 : Int64) (0 : Int32))), .second, .val (.long (colF v0 (1 : Int64))), .second, .unset, .unset, .unset, .unset, .unset, .unset, .unset, .unset, .unset, .unset, .unset, .unset, .unset, .unset, .unset, .unset, .unset, .unset, .unset, .unset] [])) _
      refine XS.lconst X8.here hx rfl (hb hby at_46) ?_
      show Steps p.tables e below (T8.setTop (mkF m 47 #[.val (.int p0), .val (.int p1), .val (.int p2), .val (.int v0), .val (.int v1), .val (.int v2), .val (.ref b4), .val (.long (lineF v0 (1 : Int64) (0 : Int32))), .second, .val (.long (colF v0 (1 : Int64))), .second, .unset, .unset, .unset, .unset, .unset, .unset, .unset, .unset, .unset, .unset, .unset, .unset, .unset, .unset, .unset, .unset, .unset, .unset, .unset, .unset] [(.long (1 : Int64))])) _
      refine XS.iloadN X8.here hx rfl (hb hby at_47) rfl ?_
      show Steps p.tables e below (T8.setTop (mkF m 48 #[.val (.int p0), .val (.int p1), .val (.int p2), .val (.int v0), .val (.int v1), .val (.int v2), .val (.ref b4), .val (.long (lineF v0 (1 : Int64) (0 : Int32))), .second, .val (.long (colF v0 (1 : Int64))), .second, .unset, .unset, .unset, .unset, .unset, .unset, .unset, .unset, .unset, .unset, .unset, .unset, .unset, .unset, .unset, .unset, .unset, .unset, .unset, .unset] [(.int v0), (.long (1 : Int64))])) _
      refine XS.iconst X8.here hx rfl (hb hby at_48) ?_
      exact kt
    obtain ⟨_, _, ⟨T9, L9, k9, n9⟩, -, X9, ⟨Lc9, hQ9, l9, y9, z9⟩, st9⟩ := Jvm.LawKit.callS X8 hx (y := (⟨"com/example/plnr/plnr/io/BytePlacePassPinLaw", "ends", "(IZ)J"⟩ : MethodName)) hown (mvT hZ (hw _ (List.mem_of_getElem? (i := 34) rfl))) (mvT hZ (hw _ (List.mem_of_getElem? (i := 35) rfl))) (mvT hZ (hw _ (List.mem_of_getElem? (i := 2) rfl))) (mvT hZ (hw _ (List.mem_of_getElem? (i := 36) rfl))) (by decide) (backOf (W := 2) (rm7 l Z a0 hw [] v0 (0 : Int32) T6.heap n0 Z6) hZ (hw _ (List.mem_of_getElem? (i := 36) rfl)) (hw _ (List.mem_of_getElem? (i := 2) rfl)) (by decide) (by decide)) (g := (mkF m 49 #[.val (.int p0), .val (.int p1), .val (.int p2), .val (.int v0), .val (.int v1), .val (.int v2), .val (.ref b4), .val (.long (lineF v0 (1 : Int64) (0 : Int32))), .second, .val (.long (colF v0 (1 : Int64))), .second, .unset, .unset, .unset, .unset, .unset, .unset, .unset, .unset, .unset, .unset, .unset, .unset, .unset, .unset, .unset, .unset, .unset, .unset, .unset, .unset] [(.int (0 : Int32)), (.int v0), (.long (1 : Int64))])) rfl (by rw [hml]; rfl) (argsL := [(.int v0), (.int (0 : Int32))]) (rest := [(.long (1 : Int64))]) (lenOf pd_4 rfl) rfl (by show 2 * 0 + _ ≤ _; exact Nat.le_of_eq rfl) (hb hby at_49) (fun _ _ => ⟨rfl, e8, (by decide : 1 + 0 ≤ _), (by decide : 3 + 0 ≤ _)⟩)
    dsimp only [Pt.U, Pt.locs, Pt.cells, Pt.slots] at X9 l9 y9 z9 st9 hQ9
    subst l9 y9 z9
    obtain ⟨rfl, N9q, e9⟩ := hQ9
    have N9 := Fr.app N8 N9q
    refine Goes.step (A := T9.setTop (mkF m 52 #[.val (.int p0), .val (.int p1), .val (.int p2), .val (.int v0), .val (.int v1), .val (.int v2), .val (.ref b4), .val (.long (lineF v0 (1 : Int64) (0 : Int32))), .second, .val (.long (colF v0 (1 : Int64))), .second, .unset, .unset, .unset, .unset, .unset, .unset, .unset, .unset, .unset, .unset, .unset, .unset, .unset, .unset, .unset, .unset, .unset, .unset, .unset, .unset] [(.long (endsF v0 (0 : Int32))), (.long (1 : Int64))])) (fun t kt => st9 _ kt) ?_
    refine Goes.step (A := T9.setTop (mkF m 56 #[.val (.int p0), .val (.int p1), .val (.int p2), .val (.int v0), .val (.int v1), .val (.int v2), .val (.ref b4), .val (.long (lineF v0 (1 : Int64) (0 : Int32))), .second, .val (.long (colF v0 (1 : Int64))), .second, .val (.long ((1 : Int64) + (endsF v0 (0 : Int32)))), .second, .unset, .unset, .unset, .unset, .unset, .unset, .unset, .unset, .unset, .unset, .unset, .unset, .unset, .unset, .unset, .unset, .unset, .unset] [(.int v0)])) (fun t kt => ?_) ?_
    · refine XS.ladd X9.here hx rfl (hb hby at_52) rfl ?_
      show Steps p.tables e below (T9.setTop (mkF m 53 #[.val (.int p0), .val (.int p1), .val (.int p2), .val (.int v0), .val (.int v1), .val (.int v2), .val (.ref b4), .val (.long (lineF v0 (1 : Int64) (0 : Int32))), .second, .val (.long (colF v0 (1 : Int64))), .second, .unset, .unset, .unset, .unset, .unset, .unset, .unset, .unset, .unset, .unset, .unset, .unset, .unset, .unset, .unset, .unset, .unset, .unset, .unset, .unset] [(.long ((1 : Int64) + (endsF v0 (0 : Int32))))])) _
      refine XS.lstore X9.here hx rfl (hb hby at_53) rfl (l' := #[.val (.int p0), .val (.int p1), .val (.int p2), .val (.int v0), .val (.int v1), .val (.int v2), .val (.ref b4), .val (.long (lineF v0 (1 : Int64) (0 : Int32))), .second, .val (.long (colF v0 (1 : Int64))), .second, .val (.long ((1 : Int64) + (endsF v0 (0 : Int32)))), .second, .unset, .unset, .unset, .unset, .unset, .unset, .unset, .unset, .unset, .unset, .unset, .unset, .unset, .unset, .unset, .unset, .unset, .unset]) rfl ?_
      show Steps p.tables e below (T9.setTop (mkF m 55 #[.val (.int p0), .val (.int p1), .val (.int p2), .val (.int v0), .val (.int v1), .val (.int v2), .val (.ref b4), .val (.long (lineF v0 (1 : Int64) (0 : Int32))), .second, .val (.long (colF v0 (1 : Int64))), .second, .val (.long ((1 : Int64) + (endsF v0 (0 : Int32)))), .second, .unset, .unset, .unset, .unset, .unset, .unset, .unset, .unset, .unset, .unset, .unset, .unset, .unset, .unset, .unset, .unset, .unset, .unset] [])) _
      refine XS.iloadN X9.here hx rfl (hb hby at_55) rfl ?_
      exact kt
    obtain ⟨_, _, ⟨T10, L10, k10, n10⟩, -, X10, ⟨Lc10, hQ10, l10, y10, z10⟩, st10⟩ := Jvm.LawKit.callS X9 hx (y := (⟨"com/example/plnr/plnr/io/BytePlacePassPinLaw", "nl", "(I)Z"⟩ : MethodName)) hown (mvT hZ (hw _ (List.mem_of_getElem? (i := 37) rfl))) (mvT hZ (hw _ (List.mem_of_getElem? (i := 38) rfl))) (mvT hZ (hw _ (List.mem_of_getElem? (i := 2) rfl))) (mvT hZ (hw _ (List.mem_of_getElem? (i := 39) rfl))) (by decide) (backOf (W := 0) (rm8 l Z a0 hw [] v0 T6.heap n0 Z6) hZ (hw _ (List.mem_of_getElem? (i := 39) rfl)) (hw _ (List.mem_of_getElem? (i := 2) rfl)) (by decide) (by decide)) (g := (mkF m 56 #[.val (.int p0), .val (.int p1), .val (.int p2), .val (.int v0), .val (.int v1), .val (.int v2), .val (.ref b4), .val (.long (lineF v0 (1 : Int64) (0 : Int32))), .second, .val (.long (colF v0 (1 : Int64))), .second, .val (.long ((1 : Int64) + (endsF v0 (0 : Int32)))), .second, .unset, .unset, .unset, .unset, .unset, .unset, .unset, .unset, .unset, .unset, .unset, .unset, .unset, .unset, .unset, .unset, .unset, .unset] [(.int v0)])) rfl (by rw [hml]; rfl) (argsL := [(.int v0)]) (rest := []) (lenOf pd_5 rfl) rfl (by show 2 * 0 + _ ≤ _; exact Nat.le_of_eq rfl) (hb hby at_56) (fun _ _ => ⟨rfl, e9, (by decide : 1 + 0 ≤ _), (by decide : 3 + 0 ≤ _)⟩)
    dsimp only [Pt.U, Pt.locs, Pt.cells, Pt.slots] at X10 l10 y10 z10 st10 hQ10
    subst l10 y10 z10
    obtain ⟨rfl, N10q, e10⟩ := hQ10
    have N10 := Fr.app N9 N10q
    refine Goes.step (A := T10.setTop (mkF m 59 #[.val (.int p0), .val (.int p1), .val (.int p2), .val (.int v0), .val (.int v1), .val (.int v2), .val (.ref b4), .val (.long (lineF v0 (1 : Int64) (0 : Int32))), .second, .val (.long (colF v0 (1 : Int64))), .second, .val (.long ((1 : Int64) + (endsF v0 (0 : Int32)))), .second, .unset, .unset, .unset, .unset, .unset, .unset, .unset, .unset, .unset, .unset, .unset, .unset, .unset, .unset, .unset, .unset, .unset, .unset] [(.int (nlF v0))])) (fun t kt => st10 _ kt) ?_
    have cA : ∀ (c1v : Int64) (hA : (colF v0 (1 : Int64)) = c1v), Goes p.tables e below (fun o U' => ∃ v L, o = .returned v ∧ Q0 Z p0 p1 p2 h0 n0 v U'.heap L ∧ FrameEnd s o U' L room_1.cells room_1.slots) (T10.setTop (mkF m 71 #[.val (.int p0), .val (.int p1), .val (.int p2), .val (.int v0), .val (.int v1), .val (.int v2), .val (.ref b4), .val (.long (lineF v0 (1 : Int64) (0 : Int32))), .second, .val (.long (colF v0 (1 : Int64))), .second, .val (.long ((1 : Int64) + (endsF v0 (0 : Int32)))), .second, .val (.long c1v), .second, .unset, .unset, .unset, .unset, .unset, .unset, .unset, .unset, .unset, .unset, .unset, .unset, .unset, .unset, .unset, .unset] [])) := by
      intro c1v hA
      refine Goes.step (A := T10.setTop (mkF m 75 #[.val (.int p0), .val (.int p1), .val (.int p2), .val (.int v0), .val (.int v1), .val (.int v2), .val (.ref b4), .val (.long (lineF v0 (1 : Int64) (0 : Int32))), .second, .val (.long (colF v0 (1 : Int64))), .second, .val (.long ((1 : Int64) + (endsF v0 (0 : Int32)))), .second, .val (.long c1v), .second, .unset, .unset, .unset, .unset, .unset, .unset, .unset, .unset, .unset, .unset, .unset, .unset, .unset, .unset, .unset, .unset] [(.int v1), (.ref b4)])) (fun t kt => ?_) ?_
      · refine XS.aload X10.here hx rfl (hb hby at_71) rfl rfl ?_
        show Steps p.tables e below (T10.setTop (mkF m 73 #[.val (.int p0), .val (.int p1), .val (.int p2), .val (.int v0), .val (.int v1), .val (.int v2), .val (.ref b4), .val (.long (lineF v0 (1 : Int64) (0 : Int32))), .second, .val (.long (colF v0 (1 : Int64))), .second, .val (.long ((1 : Int64) + (endsF v0 (0 : Int32)))), .second, .val (.long c1v), .second, .unset, .unset, .unset, .unset, .unset, .unset, .unset, .unset, .unset, .unset, .unset, .unset, .unset, .unset, .unset, .unset] [(.ref b4)])) _
        refine XS.iload X10.here hx rfl (hb hby at_73) rfl ?_
        exact kt
      obtain ⟨cq11, kq11, q11a, q11b, q11c⟩ := isOf hZ e10 E6q
      obtain ⟨_, _, ⟨T11, L11, k11, n11⟩, -, X11, ⟨Lc11, hQ11, l11, y11, z11⟩, st11⟩ := X10.virtualBack hx (y := (⟨"com/example/plnr/plnr/io/BytePlace", "pass", "(I)V"⟩ : MethodName)) (z := (⟨"com/example/plnr/plnr/io/BytePlace", "pass", "(I)V"⟩ : MethodName)) hown (mvT hZ (hw _ (List.mem_of_getElem? (i := 17) rfl))) (mvT hZ (hw _ (List.mem_of_getElem? (i := 18) rfl))) (notFace_of_selects (args := #[]) (mvT hZ (hw _ (List.mem_of_getElem? (i := 20) rfl)))) (mvT hZ (hw _ (List.mem_of_getElem? (i := 20) rfl))) (mvT hZ (hw _ (List.mem_of_getElem? (i := 19) rfl))) (by decide) (backOf (W := 0) (rm4 l Z a0 hw [] b4 v1 (lineF v0 (1 : Int64) (0 : Int32)) (colF v0 (1 : Int64)) (acF v0) T6.heap n0 Z6 Flin6 Fcol6 Faft6 E6q gb_b4) hZ (hw _ (List.mem_of_getElem? (i := 21) rfl)) (hw _ (List.mem_of_getElem? (i := 6) rfl)) (by decide) (by decide)) q11a q11c (g := (mkF m 75 #[.val (.int p0), .val (.int p1), .val (.int p2), .val (.int v0), .val (.int v1), .val (.int v2), .val (.ref b4), .val (.long (lineF v0 (1 : Int64) (0 : Int32))), .second, .val (.long (colF v0 (1 : Int64))), .second, .val (.long ((1 : Int64) + (endsF v0 (0 : Int32)))), .second, .val (.long c1v), .second, .unset, .unset, .unset, .unset, .unset, .unset, .unset, .unset, .unset, .unset, .unset, .unset, .unset, .unset, .unset, .unset] [(.int v1), (.ref b4)])) rfl (by rw [hml]; rfl) (Steps.refl _) (argsL := [(.int v1)]) (rest := []) (lenOf pd_2 rfl) rfl (by show 2 * 0 + _ ≤ _; exact Nat.le_of_eq rfl) (hb hby at_75) (fun _ _ => ⟨rfl, e10, (by decide : 1 + 0 ≤ _), (by decide : 3 + 0 ≤ _)⟩)
      dsimp only [Pt.U, Pt.locs, Pt.cells, Pt.slots] at X11 l11 y11 z11 st11 hQ11
      subst l11 y11 z11
      obtain ⟨rfl, N11q, K11q, E11q, Flin11, Fcol11, Faft11⟩ := hQ11
      have N11 := Fr.app N10 N11q
      refine Goes.step (A := T11.setTop (mkF m 78 #[.val (.int p0), .val (.int p1), .val (.int p2), .val (.int v0), .val (.int v1), .val (.int v2), .val (.ref b4), .val (.long (lineF v0 (1 : Int64) (0 : Int32))), .second, .val (.long (colF v0 (1 : Int64))), .second, .val (.long ((1 : Int64) + (endsF v0 (0 : Int32)))), .second, .val (.long c1v), .second, .unset, .unset, .unset, .unset, .unset, .unset, .unset, .unset, .unset, .unset, .unset, .unset, .unset, .unset, .unset, .unset] [])) (fun t kt => st11.trans kt) ?_
      have Z11 : n0 ≤ T11.heap.size := Nat.le_trans Z6 K11q.1
      refine Goes.step (A := T11.setTop (mkF m 80 #[.val (.int p0), .val (.int p1), .val (.int p2), .val (.int v0), .val (.int v1), .val (.int v2), .val (.ref b4), .val (.long (lineF v0 (1 : Int64) (0 : Int32))), .second, .val (.long (colF v0 (1 : Int64))), .second, .val (.long ((1 : Int64) + (endsF v0 (0 : Int32)))), .second, .val (.long c1v), .second, .unset, .unset, .unset, .unset, .unset, .unset, .unset, .unset, .unset, .unset, .unset, .unset, .unset, .unset, .unset, .unset] [(.ref b4)])) (fun t kt => ?_) ?_
      · refine XS.aload X11.here hx rfl (hb hby at_78) rfl rfl ?_
        exact kt
      obtain ⟨cq12, kq12, q12a, q12b, q12c⟩ := isOf hZ rfl E11q
      obtain ⟨_, _, ⟨T12, L12, k12, n12⟩, -, X12, ⟨Lc12, hQ12, l12, y12, z12⟩, st12⟩ := X11.virtualBack hx (y := (⟨"com/example/plnr/plnr/io/BytePlace", "line", "()J"⟩ : MethodName)) (z := (⟨"com/example/plnr/plnr/io/BytePlace", "line", "()J"⟩ : MethodName)) hown (mvT hZ (hw _ (List.mem_of_getElem? (i := 24) rfl))) (mvT hZ (hw _ (List.mem_of_getElem? (i := 25) rfl))) (notFace_of_selects (args := #[]) (mvT hZ (hw _ (List.mem_of_getElem? (i := 27) rfl)))) (mvT hZ (hw _ (List.mem_of_getElem? (i := 27) rfl))) (mvT hZ (hw _ (List.mem_of_getElem? (i := 26) rfl))) (by decide) (backOf (W := 0) (rm5 l Z a0 hw [] b4 (lineF v1 (lineF v0 (1 : Int64) (0 : Int32)) (acF v0)) T11.heap n0 Z11 Flin11) hZ (hw _ (List.mem_of_getElem? (i := 28) rfl)) (hw _ (List.mem_of_getElem? (i := 6) rfl)) (by decide) (by decide)) q12a q12c (g := (mkF m 80 #[.val (.int p0), .val (.int p1), .val (.int p2), .val (.int v0), .val (.int v1), .val (.int v2), .val (.ref b4), .val (.long (lineF v0 (1 : Int64) (0 : Int32))), .second, .val (.long (colF v0 (1 : Int64))), .second, .val (.long ((1 : Int64) + (endsF v0 (0 : Int32)))), .second, .val (.long c1v), .second, .unset, .unset, .unset, .unset, .unset, .unset, .unset, .unset, .unset, .unset, .unset, .unset, .unset, .unset, .unset, .unset] [(.ref b4)])) rfl (by rw [hml]; rfl) (Steps.refl _) (argsL := []) (rest := []) (lenOf pd_3 rfl) rfl (by show 2 * 0 + _ ≤ _; exact Nat.le_of_eq rfl) (hb hby at_80) (fun _ _ => ⟨rfl, rfl, (by decide : 1 + 0 ≤ _), (by decide : 3 + 0 ≤ _)⟩)
      dsimp only [Pt.U, Pt.locs, Pt.cells, Pt.slots] at X12 l12 y12 z12 st12 hQ12
      subst l12 y12 z12
      obtain ⟨rfl, N12q, e12⟩ := hQ12
      have N12 := Fr.app N11 N12q
      refine Goes.step (A := T12.setTop (mkF m 83 #[.val (.int p0), .val (.int p1), .val (.int p2), .val (.int v0), .val (.int v1), .val (.int v2), .val (.ref b4), .val (.long (lineF v0 (1 : Int64) (0 : Int32))), .second, .val (.long (colF v0 (1 : Int64))), .second, .val (.long ((1 : Int64) + (endsF v0 (0 : Int32)))), .second, .val (.long c1v), .second, .unset, .unset, .unset, .unset, .unset, .unset, .unset, .unset, .unset, .unset, .unset, .unset, .unset, .unset, .unset, .unset] [(.long (lineF v1 (lineF v0 (1 : Int64) (0 : Int32)) (acF v0)))])) (fun t kt => st12.trans kt) ?_
      refine Goes.step (A := T12.setTop (mkF m 87 #[.val (.int p0), .val (.int p1), .val (.int p2), .val (.int v0), .val (.int v1), .val (.int v2), .val (.ref b4), .val (.long (lineF v0 (1 : Int64) (0 : Int32))), .second, .val (.long (colF v0 (1 : Int64))), .second, .val (.long ((1 : Int64) + (endsF v0 (0 : Int32)))), .second, .val (.long c1v), .second, .val (.long (lineF v1 (lineF v0 (1 : Int64) (0 : Int32)) (acF v0))), .second, .unset, .unset, .unset, .unset, .unset, .unset, .unset, .unset, .unset, .unset, .unset, .unset, .unset, .unset] [(.ref b4)])) (fun t kt => ?_) ?_
      · refine XS.lstore X12.here hx rfl (hb hby at_83) rfl (l' := #[.val (.int p0), .val (.int p1), .val (.int p2), .val (.int v0), .val (.int v1), .val (.int v2), .val (.ref b4), .val (.long (lineF v0 (1 : Int64) (0 : Int32))), .second, .val (.long (colF v0 (1 : Int64))), .second, .val (.long ((1 : Int64) + (endsF v0 (0 : Int32)))), .second, .val (.long c1v), .second, .val (.long (lineF v1 (lineF v0 (1 : Int64) (0 : Int32)) (acF v0))), .second, .unset, .unset, .unset, .unset, .unset, .unset, .unset, .unset, .unset, .unset, .unset, .unset, .unset, .unset]) rfl ?_
        show Steps p.tables e below (T12.setTop (mkF m 85 #[.val (.int p0), .val (.int p1), .val (.int p2), .val (.int v0), .val (.int v1), .val (.int v2), .val (.ref b4), .val (.long (lineF v0 (1 : Int64) (0 : Int32))), .second, .val (.long (colF v0 (1 : Int64))), .second, .val (.long ((1 : Int64) + (endsF v0 (0 : Int32)))), .second, .val (.long c1v), .second, .val (.long (lineF v1 (lineF v0 (1 : Int64) (0 : Int32)) (acF v0))), .second, .unset, .unset, .unset, .unset, .unset, .unset, .unset, .unset, .unset, .unset, .unset, .unset, .unset, .unset] [])) _
        refine XS.aload X12.here hx rfl (hb hby at_85) rfl rfl ?_
        exact kt
      obtain ⟨cq13, kq13, q13a, q13b, q13c⟩ := isOf hZ e12 E11q
      obtain ⟨_, _, ⟨T13, L13, k13, n13⟩, -, X13, ⟨Lc13, hQ13, l13, y13, z13⟩, st13⟩ := X12.virtualBack hx (y := (⟨"com/example/plnr/plnr/io/BytePlace", "column", "()J"⟩ : MethodName)) (z := (⟨"com/example/plnr/plnr/io/BytePlace", "column", "()J"⟩ : MethodName)) hown (mvT hZ (hw _ (List.mem_of_getElem? (i := 29) rfl))) (mvT hZ (hw _ (List.mem_of_getElem? (i := 30) rfl))) (notFace_of_selects (args := #[]) (mvT hZ (hw _ (List.mem_of_getElem? (i := 32) rfl)))) (mvT hZ (hw _ (List.mem_of_getElem? (i := 32) rfl))) (mvT hZ (hw _ (List.mem_of_getElem? (i := 31) rfl))) (by decide) (backOf (W := 0) (rm6 l Z a0 hw [] b4 (colF v1 (colF v0 (1 : Int64))) T11.heap n0 Z11 Fcol11) hZ (hw _ (List.mem_of_getElem? (i := 33) rfl)) (hw _ (List.mem_of_getElem? (i := 6) rfl)) (by decide) (by decide)) q13a q13c (g := (mkF m 87 #[.val (.int p0), .val (.int p1), .val (.int p2), .val (.int v0), .val (.int v1), .val (.int v2), .val (.ref b4), .val (.long (lineF v0 (1 : Int64) (0 : Int32))), .second, .val (.long (colF v0 (1 : Int64))), .second, .val (.long ((1 : Int64) + (endsF v0 (0 : Int32)))), .second, .val (.long c1v), .second, .val (.long (lineF v1 (lineF v0 (1 : Int64) (0 : Int32)) (acF v0))), .second, .unset, .unset, .unset, .unset, .unset, .unset, .unset, .unset, .unset, .unset, .unset, .unset, .unset, .unset] [(.ref b4)])) rfl (by rw [hml]; rfl) (Steps.refl _) (argsL := []) (rest := []) (lenOf pd_3 rfl) rfl (by show 2 * 0 + _ ≤ _; exact Nat.le_of_eq rfl) (hb hby at_87) (fun _ _ => ⟨rfl, e12, (by decide : 1 + 0 ≤ _), (by decide : 3 + 0 ≤ _)⟩)
      dsimp only [Pt.U, Pt.locs, Pt.cells, Pt.slots] at X13 l13 y13 z13 st13 hQ13
      subst l13 y13 z13
      obtain ⟨rfl, N13q, e13⟩ := hQ13
      have N13 := Fr.app N12 N13q
      refine Goes.step (A := T13.setTop (mkF m 90 #[.val (.int p0), .val (.int p1), .val (.int p2), .val (.int v0), .val (.int v1), .val (.int v2), .val (.ref b4), .val (.long (lineF v0 (1 : Int64) (0 : Int32))), .second, .val (.long (colF v0 (1 : Int64))), .second, .val (.long ((1 : Int64) + (endsF v0 (0 : Int32)))), .second, .val (.long c1v), .second, .val (.long (lineF v1 (lineF v0 (1 : Int64) (0 : Int32)) (acF v0))), .second, .unset, .unset, .unset, .unset, .unset, .unset, .unset, .unset, .unset, .unset, .unset, .unset, .unset, .unset] [(.long (colF v1 (colF v0 (1 : Int64))))])) (fun t kt => st13.trans kt) ?_
      refine Goes.step (A := T13.setTop (mkF m 99 #[.val (.int p0), .val (.int p1), .val (.int p2), .val (.int v0), .val (.int v1), .val (.int v2), .val (.ref b4), .val (.long (lineF v0 (1 : Int64) (0 : Int32))), .second, .val (.long (colF v0 (1 : Int64))), .second, .val (.long ((1 : Int64) + (endsF v0 (0 : Int32)))), .second, .val (.long c1v), .second, .val (.long (lineF v1 (lineF v0 (1 : Int64) (0 : Int32)) (acF v0))), .second, .val (.long (colF v1 (colF v0 (1 : Int64)))), .second, .unset, .unset, .unset, .unset, .unset, .unset, .unset, .unset, .unset, .unset, .unset, .unset] [(.int (13 : Int32)), (.int v0), (.int v1), (.long ((1 : Int64) + (endsF v0 (0 : Int32))))])) (fun t kt => ?_) ?_
      · refine XS.lstore X13.here hx rfl (hb hby at_90) rfl (l' := #[.val (.int p0), .val (.int p1), .val (.int p2), .val (.int v0), .val (.int v1), .val (.int v2), .val (.ref b4), .val (.long (lineF v0 (1 : Int64) (0 : Int32))), .second, .val (.long (colF v0 (1 : Int64))), .second, .val (.long ((1 : Int64) + (endsF v0 (0 : Int32)))), .second, .val (.long c1v), .second, .val (.long (lineF v1 (lineF v0 (1 : Int64) (0 : Int32)) (acF v0))), .second, .val (.long (colF v1 (colF v0 (1 : Int64)))), .second, .unset, .unset, .unset, .unset, .unset, .unset, .unset, .unset, .unset, .unset, .unset, .unset]) rfl ?_
        show Steps p.tables e below (T13.setTop (mkF m 92 #[.val (.int p0), .val (.int p1), .val (.int p2), .val (.int v0), .val (.int v1), .val (.int v2), .val (.ref b4), .val (.long (lineF v0 (1 : Int64) (0 : Int32))), .second, .val (.long (colF v0 (1 : Int64))), .second, .val (.long ((1 : Int64) + (endsF v0 (0 : Int32)))), .second, .val (.long c1v), .second, .val (.long (lineF v1 (lineF v0 (1 : Int64) (0 : Int32)) (acF v0))), .second, .val (.long (colF v1 (colF v0 (1 : Int64)))), .second, .unset, .unset, .unset, .unset, .unset, .unset, .unset, .unset, .unset, .unset, .unset, .unset] [])) _
        refine XS.lload X13.here hx rfl (hb hby at_92) rfl ?_
        show Steps p.tables e below (T13.setTop (mkF m 94 #[.val (.int p0), .val (.int p1), .val (.int p2), .val (.int v0), .val (.int v1), .val (.int v2), .val (.ref b4), .val (.long (lineF v0 (1 : Int64) (0 : Int32))), .second, .val (.long (colF v0 (1 : Int64))), .second, .val (.long ((1 : Int64) + (endsF v0 (0 : Int32)))), .second, .val (.long c1v), .second, .val (.long (lineF v1 (lineF v0 (1 : Int64) (0 : Int32)) (acF v0))), .second, .val (.long (colF v1 (colF v0 (1 : Int64)))), .second, .unset, .unset, .unset, .unset, .unset, .unset, .unset, .unset, .unset, .unset, .unset, .unset] [(.long ((1 : Int64) + (endsF v0 (0 : Int32))))])) _
        refine XS.iload X13.here hx rfl (hb hby at_94) rfl ?_
        show Steps p.tables e below (T13.setTop (mkF m 96 #[.val (.int p0), .val (.int p1), .val (.int p2), .val (.int v0), .val (.int v1), .val (.int v2), .val (.ref b4), .val (.long (lineF v0 (1 : Int64) (0 : Int32))), .second, .val (.long (colF v0 (1 : Int64))), .second, .val (.long ((1 : Int64) + (endsF v0 (0 : Int32)))), .second, .val (.long c1v), .second, .val (.long (lineF v1 (lineF v0 (1 : Int64) (0 : Int32)) (acF v0))), .second, .val (.long (colF v1 (colF v0 (1 : Int64)))), .second, .unset, .unset, .unset, .unset, .unset, .unset, .unset, .unset, .unset, .unset, .unset, .unset] [(.int v1), (.long ((1 : Int64) + (endsF v0 (0 : Int32))))])) _
        refine XS.iloadN X13.here hx rfl (hb hby at_96) rfl ?_
        show Steps p.tables e below (T13.setTop (mkF m 97 #[.val (.int p0), .val (.int p1), .val (.int p2), .val (.int v0), .val (.int v1), .val (.int v2), .val (.ref b4), .val (.long (lineF v0 (1 : Int64) (0 : Int32))), .second, .val (.long (colF v0 (1 : Int64))), .second, .val (.long ((1 : Int64) + (endsF v0 (0 : Int32)))), .second, .val (.long c1v), .second, .val (.long (lineF v1 (lineF v0 (1 : Int64) (0 : Int32)) (acF v0))), .second, .val (.long (colF v1 (colF v0 (1 : Int64)))), .second, .unset, .unset, .unset, .unset, .unset, .unset, .unset, .unset, .unset, .unset, .unset, .unset] [(.int v0), (.int v1), (.long ((1 : Int64) + (endsF v0 (0 : Int32))))])) _
        refine XS.bipush X13.here hx rfl (hb hby at_97) ?_
        exact kt
      have cB : ∀ (bv : Int32) (hB : acF v0 = bv), Goes p.tables e below (fun o U' => ∃ v L, o = .returned v ∧ Q0 Z p0 p1 p2 h0 n0 v U'.heap L ∧ FrameEnd s o U' L room_1.cells room_1.slots) (T13.setTop (mkF m 107 #[.val (.int p0), .val (.int p1), .val (.int p2), .val (.int v0), .val (.int v1), .val (.int v2), .val (.ref b4), .val (.long (lineF v0 (1 : Int64) (0 : Int32))), .second, .val (.long (colF v0 (1 : Int64))), .second, .val (.long ((1 : Int64) + (endsF v0 (0 : Int32)))), .second, .val (.long c1v), .second, .val (.long (lineF v1 (lineF v0 (1 : Int64) (0 : Int32)) (acF v0))), .second, .val (.long (colF v1 (colF v0 (1 : Int64)))), .second, .unset, .unset, .unset, .unset, .unset, .unset, .unset, .unset, .unset, .unset, .unset, .unset] [(.int bv), (.int v1), (.long ((1 : Int64) + (endsF v0 (0 : Int32))))])) := by
        intro bv hB
        obtain ⟨_, _, ⟨T14, L14, k14, n14⟩, -, X14, ⟨Lc14, hQ14, l14, y14, z14⟩, st14⟩ := Jvm.LawKit.callS X13 hx (y := (⟨"com/example/plnr/plnr/io/BytePlacePassPinLaw", "ends", "(IZ)J"⟩ : MethodName)) hown (mvT hZ (hw _ (List.mem_of_getElem? (i := 34) rfl))) (mvT hZ (hw _ (List.mem_of_getElem? (i := 35) rfl))) (mvT hZ (hw _ (List.mem_of_getElem? (i := 2) rfl))) (mvT hZ (hw _ (List.mem_of_getElem? (i := 36) rfl))) (by decide) (backOf (W := 2) (rm7 l Z a0 hw [] v1 bv T11.heap n0 Z11) hZ (hw _ (List.mem_of_getElem? (i := 36) rfl)) (hw _ (List.mem_of_getElem? (i := 2) rfl)) (by decide) (by decide)) (g := (mkF m 107 #[.val (.int p0), .val (.int p1), .val (.int p2), .val (.int v0), .val (.int v1), .val (.int v2), .val (.ref b4), .val (.long (lineF v0 (1 : Int64) (0 : Int32))), .second, .val (.long (colF v0 (1 : Int64))), .second, .val (.long ((1 : Int64) + (endsF v0 (0 : Int32)))), .second, .val (.long c1v), .second, .val (.long (lineF v1 (lineF v0 (1 : Int64) (0 : Int32)) (acF v0))), .second, .val (.long (colF v1 (colF v0 (1 : Int64)))), .second, .unset, .unset, .unset, .unset, .unset, .unset, .unset, .unset, .unset, .unset, .unset, .unset] [(.int bv), (.int v1), (.long ((1 : Int64) + (endsF v0 (0 : Int32))))])) rfl (by rw [hml]; rfl) (argsL := [(.int v1), (.int bv)]) (rest := [(.long ((1 : Int64) + (endsF v0 (0 : Int32))))]) (lenOf pd_4 rfl) rfl (by show 2 * 0 + _ ≤ _; exact Nat.le_of_eq rfl) (hb hby at_107) (fun _ _ => ⟨rfl, e13, (by decide : 1 + 0 ≤ _), (by decide : 3 + 0 ≤ _)⟩)
        dsimp only [Pt.U, Pt.locs, Pt.cells, Pt.slots] at X14 l14 y14 z14 st14 hQ14
        subst l14 y14 z14
        obtain ⟨rfl, N14q, e14⟩ := hQ14
        have N14 := Fr.app N13 N14q
        refine Goes.step (A := T14.setTop (mkF m 110 #[.val (.int p0), .val (.int p1), .val (.int p2), .val (.int v0), .val (.int v1), .val (.int v2), .val (.ref b4), .val (.long (lineF v0 (1 : Int64) (0 : Int32))), .second, .val (.long (colF v0 (1 : Int64))), .second, .val (.long ((1 : Int64) + (endsF v0 (0 : Int32)))), .second, .val (.long c1v), .second, .val (.long (lineF v1 (lineF v0 (1 : Int64) (0 : Int32)) (acF v0))), .second, .val (.long (colF v1 (colF v0 (1 : Int64)))), .second, .unset, .unset, .unset, .unset, .unset, .unset, .unset, .unset, .unset, .unset, .unset, .unset] [(.long (endsF v1 bv)), (.long ((1 : Int64) + (endsF v0 (0 : Int32))))])) (fun t kt => st14 _ kt) ?_
        refine Goes.step (A := T14.setTop (mkF m 115 #[.val (.int p0), .val (.int p1), .val (.int p2), .val (.int v0), .val (.int v1), .val (.int v2), .val (.ref b4), .val (.long (lineF v0 (1 : Int64) (0 : Int32))), .second, .val (.long (colF v0 (1 : Int64))), .second, .val (.long ((1 : Int64) + (endsF v0 (0 : Int32)))), .second, .val (.long c1v), .second, .val (.long (lineF v1 (lineF v0 (1 : Int64) (0 : Int32)) (acF v0))), .second, .val (.long (colF v1 (colF v0 (1 : Int64)))), .second, .val (.long (((1 : Int64) + (endsF v0 (0 : Int32))) + (endsF v1 bv))), .second, .unset, .unset, .unset, .unset, .unset, .unset, .unset, .unset, .unset, .unset] [(.int v1)])) (fun t kt => ?_) ?_
        · refine XS.ladd X14.here hx rfl (hb hby at_110) rfl ?_
          show Steps p.tables e below (T14.setTop (mkF m 111 #[.val (.int p0), .val (.int p1), .val (.int p2), .val (.int v0), .val (.int v1), .val (.int v2), .val (.ref b4), .val (.long (lineF v0 (1 : Int64) (0 : Int32))), .second, .val (.long (colF v0 (1 : Int64))), .second, .val (.long ((1 : Int64) + (endsF v0 (0 : Int32)))), .second, .val (.long c1v), .second, .val (.long (lineF v1 (lineF v0 (1 : Int64) (0 : Int32)) (acF v0))), .second, .val (.long (colF v1 (colF v0 (1 : Int64)))), .second, .unset, .unset, .unset, .unset, .unset, .unset, .unset, .unset, .unset, .unset, .unset, .unset] [(.long (((1 : Int64) + (endsF v0 (0 : Int32))) + (endsF v1 bv)))])) _
          refine XS.lstore X14.here hx rfl (hb hby at_111) rfl (l' := #[.val (.int p0), .val (.int p1), .val (.int p2), .val (.int v0), .val (.int v1), .val (.int v2), .val (.ref b4), .val (.long (lineF v0 (1 : Int64) (0 : Int32))), .second, .val (.long (colF v0 (1 : Int64))), .second, .val (.long ((1 : Int64) + (endsF v0 (0 : Int32)))), .second, .val (.long c1v), .second, .val (.long (lineF v1 (lineF v0 (1 : Int64) (0 : Int32)) (acF v0))), .second, .val (.long (colF v1 (colF v0 (1 : Int64)))), .second, .val (.long (((1 : Int64) + (endsF v0 (0 : Int32))) + (endsF v1 bv))), .second, .unset, .unset, .unset, .unset, .unset, .unset, .unset, .unset, .unset, .unset]) rfl ?_
          show Steps p.tables e below (T14.setTop (mkF m 113 #[.val (.int p0), .val (.int p1), .val (.int p2), .val (.int v0), .val (.int v1), .val (.int v2), .val (.ref b4), .val (.long (lineF v0 (1 : Int64) (0 : Int32))), .second, .val (.long (colF v0 (1 : Int64))), .second, .val (.long ((1 : Int64) + (endsF v0 (0 : Int32)))), .second, .val (.long c1v), .second, .val (.long (lineF v1 (lineF v0 (1 : Int64) (0 : Int32)) (acF v0))), .second, .val (.long (colF v1 (colF v0 (1 : Int64)))), .second, .val (.long (((1 : Int64) + (endsF v0 (0 : Int32))) + (endsF v1 bv))), .second, .unset, .unset, .unset, .unset, .unset, .unset, .unset, .unset, .unset, .unset] [])) _
          refine XS.iload X14.here hx rfl (hb hby at_113) rfl ?_
          exact kt
        obtain ⟨_, _, ⟨T15, L15, k15, n15⟩, -, X15, ⟨Lc15, hQ15, l15, y15, z15⟩, st15⟩ := Jvm.LawKit.callS X14 hx (y := (⟨"com/example/plnr/plnr/io/BytePlacePassPinLaw", "nl", "(I)Z"⟩ : MethodName)) hown (mvT hZ (hw _ (List.mem_of_getElem? (i := 37) rfl))) (mvT hZ (hw _ (List.mem_of_getElem? (i := 38) rfl))) (mvT hZ (hw _ (List.mem_of_getElem? (i := 2) rfl))) (mvT hZ (hw _ (List.mem_of_getElem? (i := 39) rfl))) (by decide) (backOf (W := 0) (rm8 l Z a0 hw [] v1 T11.heap n0 Z11) hZ (hw _ (List.mem_of_getElem? (i := 39) rfl)) (hw _ (List.mem_of_getElem? (i := 2) rfl)) (by decide) (by decide)) (g := (mkF m 115 #[.val (.int p0), .val (.int p1), .val (.int p2), .val (.int v0), .val (.int v1), .val (.int v2), .val (.ref b4), .val (.long (lineF v0 (1 : Int64) (0 : Int32))), .second, .val (.long (colF v0 (1 : Int64))), .second, .val (.long ((1 : Int64) + (endsF v0 (0 : Int32)))), .second, .val (.long c1v), .second, .val (.long (lineF v1 (lineF v0 (1 : Int64) (0 : Int32)) (acF v0))), .second, .val (.long (colF v1 (colF v0 (1 : Int64)))), .second, .val (.long (((1 : Int64) + (endsF v0 (0 : Int32))) + (endsF v1 bv))), .second, .unset, .unset, .unset, .unset, .unset, .unset, .unset, .unset, .unset, .unset] [(.int v1)])) rfl (by rw [hml]; rfl) (argsL := [(.int v1)]) (rest := []) (lenOf pd_5 rfl) rfl (by show 2 * 0 + _ ≤ _; exact Nat.le_of_eq rfl) (hb hby at_115) (fun _ _ => ⟨rfl, e14, (by decide : 1 + 0 ≤ _), (by decide : 3 + 0 ≤ _)⟩)
        dsimp only [Pt.U, Pt.locs, Pt.cells, Pt.slots] at X15 l15 y15 z15 st15 hQ15
        subst l15 y15 z15
        obtain ⟨rfl, N15q, e15⟩ := hQ15
        have N15 := Fr.app N14 N15q
        refine Goes.step (A := T15.setTop (mkF m 118 #[.val (.int p0), .val (.int p1), .val (.int p2), .val (.int v0), .val (.int v1), .val (.int v2), .val (.ref b4), .val (.long (lineF v0 (1 : Int64) (0 : Int32))), .second, .val (.long (colF v0 (1 : Int64))), .second, .val (.long ((1 : Int64) + (endsF v0 (0 : Int32)))), .second, .val (.long c1v), .second, .val (.long (lineF v1 (lineF v0 (1 : Int64) (0 : Int32)) (acF v0))), .second, .val (.long (colF v1 (colF v0 (1 : Int64)))), .second, .val (.long (((1 : Int64) + (endsF v0 (0 : Int32))) + (endsF v1 bv))), .second, .unset, .unset, .unset, .unset, .unset, .unset, .unset, .unset, .unset, .unset] [(.int (nlF v1))])) (fun t kt => st15 _ kt) ?_
        have cC : ∀ (T9 : State) (L9 : List Loc) (X9 : Stand p l e room_1 s m #[(.int p0), (.int p1), (.int p2)] below meth c T9 L9 1 3) (e9 : T9.heap = T11.heap) (N9 : Fr n0 L9) (c2v : Int64) (hC : (colF v1 (colF v0 (1 : Int64))) = c2v), Goes p.tables e below (fun o U' => ∃ v L, o = .returned v ∧ Q0 Z p0 p1 p2 h0 n0 v U'.heap L ∧ FrameEnd s o U' L room_1.cells room_1.slots) (T9.setTop (mkF m 143 #[.val (.int p0), .val (.int p1), .val (.int p2), .val (.int v0), .val (.int v1), .val (.int v2), .val (.ref b4), .val (.long (lineF v0 (1 : Int64) (0 : Int32))), .second, .val (.long (colF v0 (1 : Int64))), .second, .val (.long ((1 : Int64) + (endsF v0 (0 : Int32)))), .second, .val (.long c1v), .second, .val (.long (lineF v1 (lineF v0 (1 : Int64) (0 : Int32)) (acF v0))), .second, .val (.long (colF v1 (colF v0 (1 : Int64)))), .second, .val (.long (((1 : Int64) + (endsF v0 (0 : Int32))) + (endsF v1 bv))), .second, .val (.long c2v), .second, .unset, .unset, .unset, .unset, .unset, .unset, .unset, .unset] [])) := by
          intro T9 L9 X9 e9 N9 c2v hC
          refine Goes.step (A := T9.setTop (mkF m 147 #[.val (.int p0), .val (.int p1), .val (.int p2), .val (.int v0), .val (.int v1), .val (.int v2), .val (.ref b4), .val (.long (lineF v0 (1 : Int64) (0 : Int32))), .second, .val (.long (colF v0 (1 : Int64))), .second, .val (.long ((1 : Int64) + (endsF v0 (0 : Int32)))), .second, .val (.long c1v), .second, .val (.long (lineF v1 (lineF v0 (1 : Int64) (0 : Int32)) (acF v0))), .second, .val (.long (colF v1 (colF v0 (1 : Int64)))), .second, .val (.long (((1 : Int64) + (endsF v0 (0 : Int32))) + (endsF v1 bv))), .second, .val (.long c2v), .second, .unset, .unset, .unset, .unset, .unset, .unset, .unset, .unset] [(.int v2), (.ref b4)])) (fun t kt => ?_) ?_
          · refine XS.aload X9.here hx rfl (hb hby at_143) rfl rfl ?_
            show Steps p.tables e below (T9.setTop (mkF m 145 #[.val (.int p0), .val (.int p1), .val (.int p2), .val (.int v0), .val (.int v1), .val (.int v2), .val (.ref b4), .val (.long (lineF v0 (1 : Int64) (0 : Int32))), .second, .val (.long (colF v0 (1 : Int64))), .second, .val (.long ((1 : Int64) + (endsF v0 (0 : Int32)))), .second, .val (.long c1v), .second, .val (.long (lineF v1 (lineF v0 (1 : Int64) (0 : Int32)) (acF v0))), .second, .val (.long (colF v1 (colF v0 (1 : Int64)))), .second, .val (.long (((1 : Int64) + (endsF v0 (0 : Int32))) + (endsF v1 bv))), .second, .val (.long c2v), .second, .unset, .unset, .unset, .unset, .unset, .unset, .unset, .unset] [(.ref b4)])) _
            refine XS.iload X9.here hx rfl (hb hby at_145) rfl ?_
            exact kt
          obtain ⟨cq16, kq16, q16a, q16b, q16c⟩ := isOf hZ e9 E11q
          obtain ⟨_, _, ⟨T16, L16, k16, n16⟩, -, X16, ⟨Lc16, hQ16, l16, y16, z16⟩, st16⟩ := X9.virtualBack hx (y := (⟨"com/example/plnr/plnr/io/BytePlace", "pass", "(I)V"⟩ : MethodName)) (z := (⟨"com/example/plnr/plnr/io/BytePlace", "pass", "(I)V"⟩ : MethodName)) hown (mvT hZ (hw _ (List.mem_of_getElem? (i := 17) rfl))) (mvT hZ (hw _ (List.mem_of_getElem? (i := 18) rfl))) (notFace_of_selects (args := #[]) (mvT hZ (hw _ (List.mem_of_getElem? (i := 20) rfl)))) (mvT hZ (hw _ (List.mem_of_getElem? (i := 20) rfl))) (mvT hZ (hw _ (List.mem_of_getElem? (i := 19) rfl))) (by decide) (backOf (W := 0) (rm4 l Z a0 hw [] b4 v2 (lineF v1 (lineF v0 (1 : Int64) (0 : Int32)) (acF v0)) (colF v1 (colF v0 (1 : Int64))) (acF v1) T11.heap n0 Z11 Flin11 Fcol11 Faft11 E11q gb_b4) hZ (hw _ (List.mem_of_getElem? (i := 21) rfl)) (hw _ (List.mem_of_getElem? (i := 6) rfl)) (by decide) (by decide)) q16a q16c (g := (mkF m 147 #[.val (.int p0), .val (.int p1), .val (.int p2), .val (.int v0), .val (.int v1), .val (.int v2), .val (.ref b4), .val (.long (lineF v0 (1 : Int64) (0 : Int32))), .second, .val (.long (colF v0 (1 : Int64))), .second, .val (.long ((1 : Int64) + (endsF v0 (0 : Int32)))), .second, .val (.long c1v), .second, .val (.long (lineF v1 (lineF v0 (1 : Int64) (0 : Int32)) (acF v0))), .second, .val (.long (colF v1 (colF v0 (1 : Int64)))), .second, .val (.long (((1 : Int64) + (endsF v0 (0 : Int32))) + (endsF v1 bv))), .second, .val (.long c2v), .second, .unset, .unset, .unset, .unset, .unset, .unset, .unset, .unset] [(.int v2), (.ref b4)])) rfl (by rw [hml]; rfl) (Steps.refl _) (argsL := [(.int v2)]) (rest := []) (lenOf pd_2 rfl) rfl (by show 2 * 0 + _ ≤ _; exact Nat.le_of_eq rfl) (hb hby at_147) (fun _ _ => ⟨rfl, e9, (by decide : 1 + 0 ≤ _), (by decide : 3 + 0 ≤ _)⟩)
          dsimp only [Pt.U, Pt.locs, Pt.cells, Pt.slots] at X16 l16 y16 z16 st16 hQ16
          subst l16 y16 z16
          obtain ⟨rfl, N16q, K16q, E16q, Flin16, Fcol16, Faft16⟩ := hQ16
          have N16 := Fr.app N9 N16q
          refine Goes.step (A := T16.setTop (mkF m 150 #[.val (.int p0), .val (.int p1), .val (.int p2), .val (.int v0), .val (.int v1), .val (.int v2), .val (.ref b4), .val (.long (lineF v0 (1 : Int64) (0 : Int32))), .second, .val (.long (colF v0 (1 : Int64))), .second, .val (.long ((1 : Int64) + (endsF v0 (0 : Int32)))), .second, .val (.long c1v), .second, .val (.long (lineF v1 (lineF v0 (1 : Int64) (0 : Int32)) (acF v0))), .second, .val (.long (colF v1 (colF v0 (1 : Int64)))), .second, .val (.long (((1 : Int64) + (endsF v0 (0 : Int32))) + (endsF v1 bv))), .second, .val (.long c2v), .second, .unset, .unset, .unset, .unset, .unset, .unset, .unset, .unset] [])) (fun t kt => st16.trans kt) ?_
          have Z16 : n0 ≤ T16.heap.size := Nat.le_trans Z11 K16q.1
          refine Goes.step (A := T16.setTop (mkF m 152 #[.val (.int p0), .val (.int p1), .val (.int p2), .val (.int v0), .val (.int v1), .val (.int v2), .val (.ref b4), .val (.long (lineF v0 (1 : Int64) (0 : Int32))), .second, .val (.long (colF v0 (1 : Int64))), .second, .val (.long ((1 : Int64) + (endsF v0 (0 : Int32)))), .second, .val (.long c1v), .second, .val (.long (lineF v1 (lineF v0 (1 : Int64) (0 : Int32)) (acF v0))), .second, .val (.long (colF v1 (colF v0 (1 : Int64)))), .second, .val (.long (((1 : Int64) + (endsF v0 (0 : Int32))) + (endsF v1 bv))), .second, .val (.long c2v), .second, .unset, .unset, .unset, .unset, .unset, .unset, .unset, .unset] [(.ref b4)])) (fun t kt => ?_) ?_
          · refine XS.aload X16.here hx rfl (hb hby at_150) rfl rfl ?_
            exact kt
          obtain ⟨cq17, kq17, q17a, q17b, q17c⟩ := isOf hZ rfl E16q
          obtain ⟨_, _, ⟨T17, L17, k17, n17⟩, -, X17, ⟨Lc17, hQ17, l17, y17, z17⟩, st17⟩ := X16.virtualBack hx (y := (⟨"com/example/plnr/plnr/io/BytePlace", "line", "()J"⟩ : MethodName)) (z := (⟨"com/example/plnr/plnr/io/BytePlace", "line", "()J"⟩ : MethodName)) hown (mvT hZ (hw _ (List.mem_of_getElem? (i := 24) rfl))) (mvT hZ (hw _ (List.mem_of_getElem? (i := 25) rfl))) (notFace_of_selects (args := #[]) (mvT hZ (hw _ (List.mem_of_getElem? (i := 27) rfl)))) (mvT hZ (hw _ (List.mem_of_getElem? (i := 27) rfl))) (mvT hZ (hw _ (List.mem_of_getElem? (i := 26) rfl))) (by decide) (backOf (W := 0) (rm5 l Z a0 hw [] b4 (lineF v2 (lineF v1 (lineF v0 (1 : Int64) (0 : Int32)) (acF v0)) (acF v1)) T16.heap n0 Z16 Flin16) hZ (hw _ (List.mem_of_getElem? (i := 28) rfl)) (hw _ (List.mem_of_getElem? (i := 6) rfl)) (by decide) (by decide)) q17a q17c (g := (mkF m 152 #[.val (.int p0), .val (.int p1), .val (.int p2), .val (.int v0), .val (.int v1), .val (.int v2), .val (.ref b4), .val (.long (lineF v0 (1 : Int64) (0 : Int32))), .second, .val (.long (colF v0 (1 : Int64))), .second, .val (.long ((1 : Int64) + (endsF v0 (0 : Int32)))), .second, .val (.long c1v), .second, .val (.long (lineF v1 (lineF v0 (1 : Int64) (0 : Int32)) (acF v0))), .second, .val (.long (colF v1 (colF v0 (1 : Int64)))), .second, .val (.long (((1 : Int64) + (endsF v0 (0 : Int32))) + (endsF v1 bv))), .second, .val (.long c2v), .second, .unset, .unset, .unset, .unset, .unset, .unset, .unset, .unset] [(.ref b4)])) rfl (by rw [hml]; rfl) (Steps.refl _) (argsL := []) (rest := []) (lenOf pd_3 rfl) rfl (by show 2 * 0 + _ ≤ _; exact Nat.le_of_eq rfl) (hb hby at_152) (fun _ _ => ⟨rfl, rfl, (by decide : 1 + 0 ≤ _), (by decide : 3 + 0 ≤ _)⟩)
          dsimp only [Pt.U, Pt.locs, Pt.cells, Pt.slots] at X17 l17 y17 z17 st17 hQ17
          subst l17 y17 z17
          obtain ⟨rfl, N17q, e17⟩ := hQ17
          have N17 := Fr.app N16 N17q
          refine Goes.step (A := T17.setTop (mkF m 155 #[.val (.int p0), .val (.int p1), .val (.int p2), .val (.int v0), .val (.int v1), .val (.int v2), .val (.ref b4), .val (.long (lineF v0 (1 : Int64) (0 : Int32))), .second, .val (.long (colF v0 (1 : Int64))), .second, .val (.long ((1 : Int64) + (endsF v0 (0 : Int32)))), .second, .val (.long c1v), .second, .val (.long (lineF v1 (lineF v0 (1 : Int64) (0 : Int32)) (acF v0))), .second, .val (.long (colF v1 (colF v0 (1 : Int64)))), .second, .val (.long (((1 : Int64) + (endsF v0 (0 : Int32))) + (endsF v1 bv))), .second, .val (.long c2v), .second, .unset, .unset, .unset, .unset, .unset, .unset, .unset, .unset] [(.long (lineF v2 (lineF v1 (lineF v0 (1 : Int64) (0 : Int32)) (acF v0)) (acF v1)))])) (fun t kt => st17.trans kt) ?_
          refine Goes.step (A := T17.setTop (mkF m 159 #[.val (.int p0), .val (.int p1), .val (.int p2), .val (.int v0), .val (.int v1), .val (.int v2), .val (.ref b4), .val (.long (lineF v0 (1 : Int64) (0 : Int32))), .second, .val (.long (colF v0 (1 : Int64))), .second, .val (.long ((1 : Int64) + (endsF v0 (0 : Int32)))), .second, .val (.long c1v), .second, .val (.long (lineF v1 (lineF v0 (1 : Int64) (0 : Int32)) (acF v0))), .second, .val (.long (colF v1 (colF v0 (1 : Int64)))), .second, .val (.long (((1 : Int64) + (endsF v0 (0 : Int32))) + (endsF v1 bv))), .second, .val (.long c2v), .second, .val (.long (lineF v2 (lineF v1 (lineF v0 (1 : Int64) (0 : Int32)) (acF v0)) (acF v1))), .second, .unset, .unset, .unset, .unset, .unset, .unset] [(.ref b4)])) (fun t kt => ?_) ?_
          · refine XS.lstore X17.here hx rfl (hb hby at_155) rfl (l' := #[.val (.int p0), .val (.int p1), .val (.int p2), .val (.int v0), .val (.int v1), .val (.int v2), .val (.ref b4), .val (.long (lineF v0 (1 : Int64) (0 : Int32))), .second, .val (.long (colF v0 (1 : Int64))), .second, .val (.long ((1 : Int64) + (endsF v0 (0 : Int32)))), .second, .val (.long c1v), .second, .val (.long (lineF v1 (lineF v0 (1 : Int64) (0 : Int32)) (acF v0))), .second, .val (.long (colF v1 (colF v0 (1 : Int64)))), .second, .val (.long (((1 : Int64) + (endsF v0 (0 : Int32))) + (endsF v1 bv))), .second, .val (.long c2v), .second, .val (.long (lineF v2 (lineF v1 (lineF v0 (1 : Int64) (0 : Int32)) (acF v0)) (acF v1))), .second, .unset, .unset, .unset, .unset, .unset, .unset]) rfl ?_
            show Steps p.tables e below (T17.setTop (mkF m 157 #[.val (.int p0), .val (.int p1), .val (.int p2), .val (.int v0), .val (.int v1), .val (.int v2), .val (.ref b4), .val (.long (lineF v0 (1 : Int64) (0 : Int32))), .second, .val (.long (colF v0 (1 : Int64))), .second, .val (.long ((1 : Int64) + (endsF v0 (0 : Int32)))), .second, .val (.long c1v), .second, .val (.long (lineF v1 (lineF v0 (1 : Int64) (0 : Int32)) (acF v0))), .second, .val (.long (colF v1 (colF v0 (1 : Int64)))), .second, .val (.long (((1 : Int64) + (endsF v0 (0 : Int32))) + (endsF v1 bv))), .second, .val (.long c2v), .second, .val (.long (lineF v2 (lineF v1 (lineF v0 (1 : Int64) (0 : Int32)) (acF v0)) (acF v1))), .second, .unset, .unset, .unset, .unset, .unset, .unset] [])) _
            refine XS.aload X17.here hx rfl (hb hby at_157) rfl rfl ?_
            exact kt
          obtain ⟨cq18, kq18, q18a, q18b, q18c⟩ := isOf hZ e17 E16q
          obtain ⟨_, _, ⟨T18, L18, k18, n18⟩, -, X18, ⟨Lc18, hQ18, l18, y18, z18⟩, st18⟩ := X17.virtualBack hx (y := (⟨"com/example/plnr/plnr/io/BytePlace", "column", "()J"⟩ : MethodName)) (z := (⟨"com/example/plnr/plnr/io/BytePlace", "column", "()J"⟩ : MethodName)) hown (mvT hZ (hw _ (List.mem_of_getElem? (i := 29) rfl))) (mvT hZ (hw _ (List.mem_of_getElem? (i := 30) rfl))) (notFace_of_selects (args := #[]) (mvT hZ (hw _ (List.mem_of_getElem? (i := 32) rfl)))) (mvT hZ (hw _ (List.mem_of_getElem? (i := 32) rfl))) (mvT hZ (hw _ (List.mem_of_getElem? (i := 31) rfl))) (by decide) (backOf (W := 0) (rm6 l Z a0 hw [] b4 (colF v2 (colF v1 (colF v0 (1 : Int64)))) T16.heap n0 Z16 Fcol16) hZ (hw _ (List.mem_of_getElem? (i := 33) rfl)) (hw _ (List.mem_of_getElem? (i := 6) rfl)) (by decide) (by decide)) q18a q18c (g := (mkF m 159 #[.val (.int p0), .val (.int p1), .val (.int p2), .val (.int v0), .val (.int v1), .val (.int v2), .val (.ref b4), .val (.long (lineF v0 (1 : Int64) (0 : Int32))), .second, .val (.long (colF v0 (1 : Int64))), .second, .val (.long ((1 : Int64) + (endsF v0 (0 : Int32)))), .second, .val (.long c1v), .second, .val (.long (lineF v1 (lineF v0 (1 : Int64) (0 : Int32)) (acF v0))), .second, .val (.long (colF v1 (colF v0 (1 : Int64)))), .second, .val (.long (((1 : Int64) + (endsF v0 (0 : Int32))) + (endsF v1 bv))), .second, .val (.long c2v), .second, .val (.long (lineF v2 (lineF v1 (lineF v0 (1 : Int64) (0 : Int32)) (acF v0)) (acF v1))), .second, .unset, .unset, .unset, .unset, .unset, .unset] [(.ref b4)])) rfl (by rw [hml]; rfl) (Steps.refl _) (argsL := []) (rest := []) (lenOf pd_3 rfl) rfl (by show 2 * 0 + _ ≤ _; exact Nat.le_of_eq rfl) (hb hby at_159) (fun _ _ => ⟨rfl, e17, (by decide : 1 + 0 ≤ _), (by decide : 3 + 0 ≤ _)⟩)
          dsimp only [Pt.U, Pt.locs, Pt.cells, Pt.slots] at X18 l18 y18 z18 st18 hQ18
          subst l18 y18 z18
          obtain ⟨rfl, N18q, e18⟩ := hQ18
          have N18 := Fr.app N17 N18q
          refine Goes.step (A := T18.setTop (mkF m 162 #[.val (.int p0), .val (.int p1), .val (.int p2), .val (.int v0), .val (.int v1), .val (.int v2), .val (.ref b4), .val (.long (lineF v0 (1 : Int64) (0 : Int32))), .second, .val (.long (colF v0 (1 : Int64))), .second, .val (.long ((1 : Int64) + (endsF v0 (0 : Int32)))), .second, .val (.long c1v), .second, .val (.long (lineF v1 (lineF v0 (1 : Int64) (0 : Int32)) (acF v0))), .second, .val (.long (colF v1 (colF v0 (1 : Int64)))), .second, .val (.long (((1 : Int64) + (endsF v0 (0 : Int32))) + (endsF v1 bv))), .second, .val (.long c2v), .second, .val (.long (lineF v2 (lineF v1 (lineF v0 (1 : Int64) (0 : Int32)) (acF v0)) (acF v1))), .second, .unset, .unset, .unset, .unset, .unset, .unset] [(.long (colF v2 (colF v1 (colF v0 (1 : Int64)))))])) (fun t kt => st18.trans kt) ?_
          refine Goes.step (A := T18.setTop (mkF m 172 #[.val (.int p0), .val (.int p1), .val (.int p2), .val (.int v0), .val (.int v1), .val (.int v2), .val (.ref b4), .val (.long (lineF v0 (1 : Int64) (0 : Int32))), .second, .val (.long (colF v0 (1 : Int64))), .second, .val (.long ((1 : Int64) + (endsF v0 (0 : Int32)))), .second, .val (.long c1v), .second, .val (.long (lineF v1 (lineF v0 (1 : Int64) (0 : Int32)) (acF v0))), .second, .val (.long (colF v1 (colF v0 (1 : Int64)))), .second, .val (.long (((1 : Int64) + (endsF v0 (0 : Int32))) + (endsF v1 bv))), .second, .val (.long c2v), .second, .val (.long (lineF v2 (lineF v1 (lineF v0 (1 : Int64) (0 : Int32)) (acF v0)) (acF v1))), .second, .val (.long (colF v2 (colF v1 (colF v0 (1 : Int64))))), .second, .unset, .unset, .unset, .unset] [(.int (13 : Int32)), (.int v1), (.int v2), (.long (((1 : Int64) + (endsF v0 (0 : Int32))) + (endsF v1 bv)))])) (fun t kt => ?_) ?_
          · refine XS.lstore X18.here hx rfl (hb hby at_162) rfl (l' := #[.val (.int p0), .val (.int p1), .val (.int p2), .val (.int v0), .val (.int v1), .val (.int v2), .val (.ref b4), .val (.long (lineF v0 (1 : Int64) (0 : Int32))), .second, .val (.long (colF v0 (1 : Int64))), .second, .val (.long ((1 : Int64) + (endsF v0 (0 : Int32)))), .second, .val (.long c1v), .second, .val (.long (lineF v1 (lineF v0 (1 : Int64) (0 : Int32)) (acF v0))), .second, .val (.long (colF v1 (colF v0 (1 : Int64)))), .second, .val (.long (((1 : Int64) + (endsF v0 (0 : Int32))) + (endsF v1 bv))), .second, .val (.long c2v), .second, .val (.long (lineF v2 (lineF v1 (lineF v0 (1 : Int64) (0 : Int32)) (acF v0)) (acF v1))), .second, .val (.long (colF v2 (colF v1 (colF v0 (1 : Int64))))), .second, .unset, .unset, .unset, .unset]) rfl ?_
            show Steps p.tables e below (T18.setTop (mkF m 164 #[.val (.int p0), .val (.int p1), .val (.int p2), .val (.int v0), .val (.int v1), .val (.int v2), .val (.ref b4), .val (.long (lineF v0 (1 : Int64) (0 : Int32))), .second, .val (.long (colF v0 (1 : Int64))), .second, .val (.long ((1 : Int64) + (endsF v0 (0 : Int32)))), .second, .val (.long c1v), .second, .val (.long (lineF v1 (lineF v0 (1 : Int64) (0 : Int32)) (acF v0))), .second, .val (.long (colF v1 (colF v0 (1 : Int64)))), .second, .val (.long (((1 : Int64) + (endsF v0 (0 : Int32))) + (endsF v1 bv))), .second, .val (.long c2v), .second, .val (.long (lineF v2 (lineF v1 (lineF v0 (1 : Int64) (0 : Int32)) (acF v0)) (acF v1))), .second, .val (.long (colF v2 (colF v1 (colF v0 (1 : Int64))))), .second, .unset, .unset, .unset, .unset] [])) _
            refine XS.lload X18.here hx rfl (hb hby at_164) rfl ?_
            show Steps p.tables e below (T18.setTop (mkF m 166 #[.val (.int p0), .val (.int p1), .val (.int p2), .val (.int v0), .val (.int v1), .val (.int v2), .val (.ref b4), .val (.long (lineF v0 (1 : Int64) (0 : Int32))), .second, .val (.long (colF v0 (1 : Int64))), .second, .val (.long ((1 : Int64) + (endsF v0 (0 : Int32)))), .second, .val (.long c1v), .second, .val (.long (lineF v1 (lineF v0 (1 : Int64) (0 : Int32)) (acF v0))), .second, .val (.long (colF v1 (colF v0 (1 : Int64)))), .second, .val (.long (((1 : Int64) + (endsF v0 (0 : Int32))) + (endsF v1 bv))), .second, .val (.long c2v), .second, .val (.long (lineF v2 (lineF v1 (lineF v0 (1 : Int64) (0 : Int32)) (acF v0)) (acF v1))), .second, .val (.long (colF v2 (colF v1 (colF v0 (1 : Int64))))), .second, .unset, .unset, .unset, .unset] [(.long (((1 : Int64) + (endsF v0 (0 : Int32))) + (endsF v1 bv)))])) _
            refine XS.iload X18.here hx rfl (hb hby at_166) rfl ?_
            show Steps p.tables e below (T18.setTop (mkF m 168 #[.val (.int p0), .val (.int p1), .val (.int p2), .val (.int v0), .val (.int v1), .val (.int v2), .val (.ref b4), .val (.long (lineF v0 (1 : Int64) (0 : Int32))), .second, .val (.long (colF v0 (1 : Int64))), .second, .val (.long ((1 : Int64) + (endsF v0 (0 : Int32)))), .second, .val (.long c1v), .second, .val (.long (lineF v1 (lineF v0 (1 : Int64) (0 : Int32)) (acF v0))), .second, .val (.long (colF v1 (colF v0 (1 : Int64)))), .second, .val (.long (((1 : Int64) + (endsF v0 (0 : Int32))) + (endsF v1 bv))), .second, .val (.long c2v), .second, .val (.long (lineF v2 (lineF v1 (lineF v0 (1 : Int64) (0 : Int32)) (acF v0)) (acF v1))), .second, .val (.long (colF v2 (colF v1 (colF v0 (1 : Int64))))), .second, .unset, .unset, .unset, .unset] [(.int v2), (.long (((1 : Int64) + (endsF v0 (0 : Int32))) + (endsF v1 bv)))])) _
            refine XS.iload X18.here hx rfl (hb hby at_168) rfl ?_
            show Steps p.tables e below (T18.setTop (mkF m 170 #[.val (.int p0), .val (.int p1), .val (.int p2), .val (.int v0), .val (.int v1), .val (.int v2), .val (.ref b4), .val (.long (lineF v0 (1 : Int64) (0 : Int32))), .second, .val (.long (colF v0 (1 : Int64))), .second, .val (.long ((1 : Int64) + (endsF v0 (0 : Int32)))), .second, .val (.long c1v), .second, .val (.long (lineF v1 (lineF v0 (1 : Int64) (0 : Int32)) (acF v0))), .second, .val (.long (colF v1 (colF v0 (1 : Int64)))), .second, .val (.long (((1 : Int64) + (endsF v0 (0 : Int32))) + (endsF v1 bv))), .second, .val (.long c2v), .second, .val (.long (lineF v2 (lineF v1 (lineF v0 (1 : Int64) (0 : Int32)) (acF v0)) (acF v1))), .second, .val (.long (colF v2 (colF v1 (colF v0 (1 : Int64))))), .second, .unset, .unset, .unset, .unset] [(.int v1), (.int v2), (.long (((1 : Int64) + (endsF v0 (0 : Int32))) + (endsF v1 bv)))])) _
            refine XS.bipush X18.here hx rfl (hb hby at_170) ?_
            exact kt
          have cD : ∀ (dv : Int32) (hD : acF v1 = dv), Goes p.tables e below (fun o U' => ∃ v L, o = .returned v ∧ Q0 Z p0 p1 p2 h0 n0 v U'.heap L ∧ FrameEnd s o U' L room_1.cells room_1.slots) (T18.setTop (mkF m 180 #[.val (.int p0), .val (.int p1), .val (.int p2), .val (.int v0), .val (.int v1), .val (.int v2), .val (.ref b4), .val (.long (lineF v0 (1 : Int64) (0 : Int32))), .second, .val (.long (colF v0 (1 : Int64))), .second, .val (.long ((1 : Int64) + (endsF v0 (0 : Int32)))), .second, .val (.long c1v), .second, .val (.long (lineF v1 (lineF v0 (1 : Int64) (0 : Int32)) (acF v0))), .second, .val (.long (colF v1 (colF v0 (1 : Int64)))), .second, .val (.long (((1 : Int64) + (endsF v0 (0 : Int32))) + (endsF v1 bv))), .second, .val (.long c2v), .second, .val (.long (lineF v2 (lineF v1 (lineF v0 (1 : Int64) (0 : Int32)) (acF v0)) (acF v1))), .second, .val (.long (colF v2 (colF v1 (colF v0 (1 : Int64))))), .second, .unset, .unset, .unset, .unset] [(.int dv), (.int v2), (.long (((1 : Int64) + (endsF v0 (0 : Int32))) + (endsF v1 bv)))])) := by
            intro dv hD
            obtain ⟨_, _, ⟨T19, L19, k19, n19⟩, -, X19, ⟨Lc19, hQ19, l19, y19, z19⟩, st19⟩ := Jvm.LawKit.callS X18 hx (y := (⟨"com/example/plnr/plnr/io/BytePlacePassPinLaw", "ends", "(IZ)J"⟩ : MethodName)) hown (mvT hZ (hw _ (List.mem_of_getElem? (i := 34) rfl))) (mvT hZ (hw _ (List.mem_of_getElem? (i := 35) rfl))) (mvT hZ (hw _ (List.mem_of_getElem? (i := 2) rfl))) (mvT hZ (hw _ (List.mem_of_getElem? (i := 36) rfl))) (by decide) (backOf (W := 2) (rm7 l Z a0 hw [] v2 dv T16.heap n0 Z16) hZ (hw _ (List.mem_of_getElem? (i := 36) rfl)) (hw _ (List.mem_of_getElem? (i := 2) rfl)) (by decide) (by decide)) (g := (mkF m 180 #[.val (.int p0), .val (.int p1), .val (.int p2), .val (.int v0), .val (.int v1), .val (.int v2), .val (.ref b4), .val (.long (lineF v0 (1 : Int64) (0 : Int32))), .second, .val (.long (colF v0 (1 : Int64))), .second, .val (.long ((1 : Int64) + (endsF v0 (0 : Int32)))), .second, .val (.long c1v), .second, .val (.long (lineF v1 (lineF v0 (1 : Int64) (0 : Int32)) (acF v0))), .second, .val (.long (colF v1 (colF v0 (1 : Int64)))), .second, .val (.long (((1 : Int64) + (endsF v0 (0 : Int32))) + (endsF v1 bv))), .second, .val (.long c2v), .second, .val (.long (lineF v2 (lineF v1 (lineF v0 (1 : Int64) (0 : Int32)) (acF v0)) (acF v1))), .second, .val (.long (colF v2 (colF v1 (colF v0 (1 : Int64))))), .second, .unset, .unset, .unset, .unset] [(.int dv), (.int v2), (.long (((1 : Int64) + (endsF v0 (0 : Int32))) + (endsF v1 bv)))])) rfl (by rw [hml]; rfl) (argsL := [(.int v2), (.int dv)]) (rest := [(.long (((1 : Int64) + (endsF v0 (0 : Int32))) + (endsF v1 bv)))]) (lenOf pd_4 rfl) rfl (by show 2 * 0 + _ ≤ _; exact Nat.le_of_eq rfl) (hb hby at_180) (fun _ _ => ⟨rfl, e18, (by decide : 1 + 0 ≤ _), (by decide : 3 + 0 ≤ _)⟩)
            dsimp only [Pt.U, Pt.locs, Pt.cells, Pt.slots] at X19 l19 y19 z19 st19 hQ19
            subst l19 y19 z19
            obtain ⟨rfl, N19q, e19⟩ := hQ19
            have N19 := Fr.app N18 N19q
            refine Goes.step (A := T19.setTop (mkF m 183 #[.val (.int p0), .val (.int p1), .val (.int p2), .val (.int v0), .val (.int v1), .val (.int v2), .val (.ref b4), .val (.long (lineF v0 (1 : Int64) (0 : Int32))), .second, .val (.long (colF v0 (1 : Int64))), .second, .val (.long ((1 : Int64) + (endsF v0 (0 : Int32)))), .second, .val (.long c1v), .second, .val (.long (lineF v1 (lineF v0 (1 : Int64) (0 : Int32)) (acF v0))), .second, .val (.long (colF v1 (colF v0 (1 : Int64)))), .second, .val (.long (((1 : Int64) + (endsF v0 (0 : Int32))) + (endsF v1 bv))), .second, .val (.long c2v), .second, .val (.long (lineF v2 (lineF v1 (lineF v0 (1 : Int64) (0 : Int32)) (acF v0)) (acF v1))), .second, .val (.long (colF v2 (colF v1 (colF v0 (1 : Int64))))), .second, .unset, .unset, .unset, .unset] [(.long (endsF v2 dv)), (.long (((1 : Int64) + (endsF v0 (0 : Int32))) + (endsF v1 bv)))])) (fun t kt => st19 _ kt) ?_
            refine Goes.step (A := T19.setTop (mkF m 188 #[.val (.int p0), .val (.int p1), .val (.int p2), .val (.int v0), .val (.int v1), .val (.int v2), .val (.ref b4), .val (.long (lineF v0 (1 : Int64) (0 : Int32))), .second, .val (.long (colF v0 (1 : Int64))), .second, .val (.long ((1 : Int64) + (endsF v0 (0 : Int32)))), .second, .val (.long c1v), .second, .val (.long (lineF v1 (lineF v0 (1 : Int64) (0 : Int32)) (acF v0))), .second, .val (.long (colF v1 (colF v0 (1 : Int64)))), .second, .val (.long (((1 : Int64) + (endsF v0 (0 : Int32))) + (endsF v1 bv))), .second, .val (.long c2v), .second, .val (.long (lineF v2 (lineF v1 (lineF v0 (1 : Int64) (0 : Int32)) (acF v0)) (acF v1))), .second, .val (.long (colF v2 (colF v1 (colF v0 (1 : Int64))))), .second, .val (.long ((((1 : Int64) + (endsF v0 (0 : Int32))) + (endsF v1 bv)) + (endsF v2 dv))), .second, .unset, .unset] [(.int v2)])) (fun t kt => ?_) ?_
            · refine XS.ladd X19.here hx rfl (hb hby at_183) rfl ?_
              show Steps p.tables e below (T19.setTop (mkF m 184 #[.val (.int p0), .val (.int p1), .val (.int p2), .val (.int v0), .val (.int v1), .val (.int v2), .val (.ref b4), .val (.long (lineF v0 (1 : Int64) (0 : Int32))), .second, .val (.long (colF v0 (1 : Int64))), .second, .val (.long ((1 : Int64) + (endsF v0 (0 : Int32)))), .second, .val (.long c1v), .second, .val (.long (lineF v1 (lineF v0 (1 : Int64) (0 : Int32)) (acF v0))), .second, .val (.long (colF v1 (colF v0 (1 : Int64)))), .second, .val (.long (((1 : Int64) + (endsF v0 (0 : Int32))) + (endsF v1 bv))), .second, .val (.long c2v), .second, .val (.long (lineF v2 (lineF v1 (lineF v0 (1 : Int64) (0 : Int32)) (acF v0)) (acF v1))), .second, .val (.long (colF v2 (colF v1 (colF v0 (1 : Int64))))), .second, .unset, .unset, .unset, .unset] [(.long ((((1 : Int64) + (endsF v0 (0 : Int32))) + (endsF v1 bv)) + (endsF v2 dv)))])) _
              refine XS.lstore X19.here hx rfl (hb hby at_184) rfl (l' := #[.val (.int p0), .val (.int p1), .val (.int p2), .val (.int v0), .val (.int v1), .val (.int v2), .val (.ref b4), .val (.long (lineF v0 (1 : Int64) (0 : Int32))), .second, .val (.long (colF v0 (1 : Int64))), .second, .val (.long ((1 : Int64) + (endsF v0 (0 : Int32)))), .second, .val (.long c1v), .second, .val (.long (lineF v1 (lineF v0 (1 : Int64) (0 : Int32)) (acF v0))), .second, .val (.long (colF v1 (colF v0 (1 : Int64)))), .second, .val (.long (((1 : Int64) + (endsF v0 (0 : Int32))) + (endsF v1 bv))), .second, .val (.long c2v), .second, .val (.long (lineF v2 (lineF v1 (lineF v0 (1 : Int64) (0 : Int32)) (acF v0)) (acF v1))), .second, .val (.long (colF v2 (colF v1 (colF v0 (1 : Int64))))), .second, .val (.long ((((1 : Int64) + (endsF v0 (0 : Int32))) + (endsF v1 bv)) + (endsF v2 dv))), .second, .unset, .unset]) rfl ?_
              show Steps p.tables e below (T19.setTop (mkF m 186 #[.val (.int p0), .val (.int p1), .val (.int p2), .val (.int v0), .val (.int v1), .val (.int v2), .val (.ref b4), .val (.long (lineF v0 (1 : Int64) (0 : Int32))), .second, .val (.long (colF v0 (1 : Int64))), .second, .val (.long ((1 : Int64) + (endsF v0 (0 : Int32)))), .second, .val (.long c1v), .second, .val (.long (lineF v1 (lineF v0 (1 : Int64) (0 : Int32)) (acF v0))), .second, .val (.long (colF v1 (colF v0 (1 : Int64)))), .second, .val (.long (((1 : Int64) + (endsF v0 (0 : Int32))) + (endsF v1 bv))), .second, .val (.long c2v), .second, .val (.long (lineF v2 (lineF v1 (lineF v0 (1 : Int64) (0 : Int32)) (acF v0)) (acF v1))), .second, .val (.long (colF v2 (colF v1 (colF v0 (1 : Int64))))), .second, .val (.long ((((1 : Int64) + (endsF v0 (0 : Int32))) + (endsF v1 bv)) + (endsF v2 dv))), .second, .unset, .unset] [])) _
              refine XS.iload X19.here hx rfl (hb hby at_186) rfl ?_
              exact kt
            obtain ⟨_, _, ⟨T20, L20, k20, n20⟩, -, X20, ⟨Lc20, hQ20, l20, y20, z20⟩, st20⟩ := Jvm.LawKit.callS X19 hx (y := (⟨"com/example/plnr/plnr/io/BytePlacePassPinLaw", "nl", "(I)Z"⟩ : MethodName)) hown (mvT hZ (hw _ (List.mem_of_getElem? (i := 37) rfl))) (mvT hZ (hw _ (List.mem_of_getElem? (i := 38) rfl))) (mvT hZ (hw _ (List.mem_of_getElem? (i := 2) rfl))) (mvT hZ (hw _ (List.mem_of_getElem? (i := 39) rfl))) (by decide) (backOf (W := 0) (rm8 l Z a0 hw [] v2 T16.heap n0 Z16) hZ (hw _ (List.mem_of_getElem? (i := 39) rfl)) (hw _ (List.mem_of_getElem? (i := 2) rfl)) (by decide) (by decide)) (g := (mkF m 188 #[.val (.int p0), .val (.int p1), .val (.int p2), .val (.int v0), .val (.int v1), .val (.int v2), .val (.ref b4), .val (.long (lineF v0 (1 : Int64) (0 : Int32))), .second, .val (.long (colF v0 (1 : Int64))), .second, .val (.long ((1 : Int64) + (endsF v0 (0 : Int32)))), .second, .val (.long c1v), .second, .val (.long (lineF v1 (lineF v0 (1 : Int64) (0 : Int32)) (acF v0))), .second, .val (.long (colF v1 (colF v0 (1 : Int64)))), .second, .val (.long (((1 : Int64) + (endsF v0 (0 : Int32))) + (endsF v1 bv))), .second, .val (.long c2v), .second, .val (.long (lineF v2 (lineF v1 (lineF v0 (1 : Int64) (0 : Int32)) (acF v0)) (acF v1))), .second, .val (.long (colF v2 (colF v1 (colF v0 (1 : Int64))))), .second, .val (.long ((((1 : Int64) + (endsF v0 (0 : Int32))) + (endsF v1 bv)) + (endsF v2 dv))), .second, .unset, .unset] [(.int v2)])) rfl (by rw [hml]; rfl) (argsL := [(.int v2)]) (rest := []) (lenOf pd_5 rfl) rfl (by show 2 * 0 + _ ≤ _; exact Nat.le_of_eq rfl) (hb hby at_188) (fun _ _ => ⟨rfl, e19, (by decide : 1 + 0 ≤ _), (by decide : 3 + 0 ≤ _)⟩)
            dsimp only [Pt.U, Pt.locs, Pt.cells, Pt.slots] at X20 l20 y20 z20 st20 hQ20
            subst l20 y20 z20
            obtain ⟨rfl, N20q, e20⟩ := hQ20
            have N20 := Fr.app N19 N20q
            refine Goes.step (A := T20.setTop (mkF m 191 #[.val (.int p0), .val (.int p1), .val (.int p2), .val (.int v0), .val (.int v1), .val (.int v2), .val (.ref b4), .val (.long (lineF v0 (1 : Int64) (0 : Int32))), .second, .val (.long (colF v0 (1 : Int64))), .second, .val (.long ((1 : Int64) + (endsF v0 (0 : Int32)))), .second, .val (.long c1v), .second, .val (.long (lineF v1 (lineF v0 (1 : Int64) (0 : Int32)) (acF v0))), .second, .val (.long (colF v1 (colF v0 (1 : Int64)))), .second, .val (.long (((1 : Int64) + (endsF v0 (0 : Int32))) + (endsF v1 bv))), .second, .val (.long c2v), .second, .val (.long (lineF v2 (lineF v1 (lineF v0 (1 : Int64) (0 : Int32)) (acF v0)) (acF v1))), .second, .val (.long (colF v2 (colF v1 (colF v0 (1 : Int64))))), .second, .val (.long ((((1 : Int64) + (endsF v0 (0 : Int32))) + (endsF v1 bv)) + (endsF v2 dv))), .second, .unset, .unset] [(.int (nlF v2))])) (fun t kt => st20 _ kt) ?_
            have cE : ∀ (T9 : State) (L9 : List Loc) (X9 : Stand p l e room_1 s m #[(.int p0), (.int p1), (.int p2)] below meth c T9 L9 1 3) (e9 : T9.heap = T16.heap) (N9 : Fr n0 L9) (c3v : Int64) (hE : (colF v2 (colF v1 (colF v0 (1 : Int64)))) = c3v), Goes p.tables e below (fun o U' => ∃ v L, o = .returned v ∧ Q0 Z p0 p1 p2 h0 n0 v U'.heap L ∧ FrameEnd s o U' L room_1.cells room_1.slots) (T9.setTop (mkF m 230 #[.val (.int p0), .val (.int p1), .val (.int p2), .val (.int v0), .val (.int v1), .val (.int v2), .val (.ref b4), .val (.long (lineF v0 (1 : Int64) (0 : Int32))), .second, .val (.long (colF v0 (1 : Int64))), .second, .val (.long ((1 : Int64) + (endsF v0 (0 : Int32)))), .second, .val (.long c1v), .second, .val (.long (lineF v1 (lineF v0 (1 : Int64) (0 : Int32)) (acF v0))), .second, .val (.long (colF v1 (colF v0 (1 : Int64)))), .second, .val (.long (((1 : Int64) + (endsF v0 (0 : Int32))) + (endsF v1 bv))), .second, .val (.long c2v), .second, .val (.long (lineF v2 (lineF v1 (lineF v0 (1 : Int64) (0 : Int32)) (acF v0)) (acF v1))), .second, .val (.long (colF v2 (colF v1 (colF v0 (1 : Int64))))), .second, .val (.long ((((1 : Int64) + (endsF v0 (0 : Int32))) + (endsF v1 bv)) + (endsF v2 dv))), .second, .val (.long c3v), .second] [])) := by
              intro T9 L9 X9 e9 N9 c3v hE
              refine Goes.step (A := T9.setTop (mkF m 235 #[.val (.int p0), .val (.int p1), .val (.int p2), .val (.int v0), .val (.int v1), .val (.int v2), .val (.ref b4), .val (.long (lineF v0 (1 : Int64) (0 : Int32))), .second, .val (.long (colF v0 (1 : Int64))), .second, .val (.long ((1 : Int64) + (endsF v0 (0 : Int32)))), .second, .val (.long c1v), .second, .val (.long (lineF v1 (lineF v0 (1 : Int64) (0 : Int32)) (acF v0))), .second, .val (.long (colF v1 (colF v0 (1 : Int64)))), .second, .val (.long (((1 : Int64) + (endsF v0 (0 : Int32))) + (endsF v1 bv))), .second, .val (.long c2v), .second, .val (.long (lineF v2 (lineF v1 (lineF v0 (1 : Int64) (0 : Int32)) (acF v0)) (acF v1))), .second, .val (.long (colF v2 (colF v1 (colF v0 (1 : Int64))))), .second, .val (.long ((((1 : Int64) + (endsF v0 (0 : Int32))) + (endsF v1 bv)) + (endsF v2 dv))), .second, .val (.long c3v), .second] [(.int (lcmpW (lineF v0 (1 : Int64) (0 : Int32)) ((1 : Int64) + (endsF v0 (0 : Int32)))))])) (fun t kt => ?_) ?_
              · refine XS.lload X9.here hx rfl (hb hby at_230) rfl ?_
                show Steps p.tables e below (T9.setTop (mkF m 232 #[.val (.int p0), .val (.int p1), .val (.int p2), .val (.int v0), .val (.int v1), .val (.int v2), .val (.ref b4), .val (.long (lineF v0 (1 : Int64) (0 : Int32))), .second, .val (.long (colF v0 (1 : Int64))), .second, .val (.long ((1 : Int64) + (endsF v0 (0 : Int32)))), .second, .val (.long c1v), .second, .val (.long (lineF v1 (lineF v0 (1 : Int64) (0 : Int32)) (acF v0))), .second, .val (.long (colF v1 (colF v0 (1 : Int64)))), .second, .val (.long (((1 : Int64) + (endsF v0 (0 : Int32))) + (endsF v1 bv))), .second, .val (.long c2v), .second, .val (.long (lineF v2 (lineF v1 (lineF v0 (1 : Int64) (0 : Int32)) (acF v0)) (acF v1))), .second, .val (.long (colF v2 (colF v1 (colF v0 (1 : Int64))))), .second, .val (.long ((((1 : Int64) + (endsF v0 (0 : Int32))) + (endsF v1 bv)) + (endsF v2 dv))), .second, .val (.long c3v), .second] [(.long (lineF v0 (1 : Int64) (0 : Int32)))])) _
                refine XS.lload X9.here hx rfl (hb hby at_232) rfl ?_
                show Steps p.tables e below (T9.setTop (mkF m 234 #[.val (.int p0), .val (.int p1), .val (.int p2), .val (.int v0), .val (.int v1), .val (.int v2), .val (.ref b4), .val (.long (lineF v0 (1 : Int64) (0 : Int32))), .second, .val (.long (colF v0 (1 : Int64))), .second, .val (.long ((1 : Int64) + (endsF v0 (0 : Int32)))), .second, .val (.long c1v), .second, .val (.long (lineF v1 (lineF v0 (1 : Int64) (0 : Int32)) (acF v0))), .second, .val (.long (colF v1 (colF v0 (1 : Int64)))), .second, .val (.long (((1 : Int64) + (endsF v0 (0 : Int32))) + (endsF v1 bv))), .second, .val (.long c2v), .second, .val (.long (lineF v2 (lineF v1 (lineF v0 (1 : Int64) (0 : Int32)) (acF v0)) (acF v1))), .second, .val (.long (colF v2 (colF v1 (colF v0 (1 : Int64))))), .second, .val (.long ((((1 : Int64) + (endsF v0 (0 : Int32))) + (endsF v1 bv)) + (endsF v2 dv))), .second, .val (.long c3v), .second] [(.long ((1 : Int64) + (endsF v0 (0 : Int32)))), (.long (lineF v0 (1 : Int64) (0 : Int32)))])) _
                refine XS.lcmp X9.here hx rfl (hb hby at_234) rfl ?_
                exact kt
              refine Goes.step (A := T9.setTop (mkF m 238 #[.val (.int p0), .val (.int p1), .val (.int p2), .val (.int v0), .val (.int v1), .val (.int v2), .val (.ref b4), .val (.long (lineF v0 (1 : Int64) (0 : Int32))), .second, .val (.long (colF v0 (1 : Int64))), .second, .val (.long ((1 : Int64) + (endsF v0 (0 : Int32)))), .second, .val (.long c1v), .second, .val (.long (lineF v1 (lineF v0 (1 : Int64) (0 : Int32)) (acF v0))), .second, .val (.long (colF v1 (colF v0 (1 : Int64)))), .second, .val (.long (((1 : Int64) + (endsF v0 (0 : Int32))) + (endsF v1 bv))), .second, .val (.long c2v), .second, .val (.long (lineF v2 (lineF v1 (lineF v0 (1 : Int64) (0 : Int32)) (acF v0)) (acF v1))), .second, .val (.long (colF v2 (colF v1 (colF v0 (1 : Int64))))), .second, .val (.long ((((1 : Int64) + (endsF v0 (0 : Int32))) + (endsF v1 bv)) + (endsF v2 dv))), .second, .val (.long c3v), .second] [])) (fun t kt => XS.ifNo X9.here hx rfl (hb hby at_235) rfl ((if0 _ _).trans (teq ((lw_eq _ _).mpr (own_line _ _ _ : (lineF v0 (1 : Int64) (0 : Int32)) = ((1 : Int64) + (endsF v0 (0 : Int32)))))).2) kt) ?_
              refine Goes.step (A := T9.setTop (mkF m 243 #[.val (.int p0), .val (.int p1), .val (.int p2), .val (.int v0), .val (.int v1), .val (.int v2), .val (.ref b4), .val (.long (lineF v0 (1 : Int64) (0 : Int32))), .second, .val (.long (colF v0 (1 : Int64))), .second, .val (.long ((1 : Int64) + (endsF v0 (0 : Int32)))), .second, .val (.long c1v), .second, .val (.long (lineF v1 (lineF v0 (1 : Int64) (0 : Int32)) (acF v0))), .second, .val (.long (colF v1 (colF v0 (1 : Int64)))), .second, .val (.long (((1 : Int64) + (endsF v0 (0 : Int32))) + (endsF v1 bv))), .second, .val (.long c2v), .second, .val (.long (lineF v2 (lineF v1 (lineF v0 (1 : Int64) (0 : Int32)) (acF v0)) (acF v1))), .second, .val (.long (colF v2 (colF v1 (colF v0 (1 : Int64))))), .second, .val (.long ((((1 : Int64) + (endsF v0 (0 : Int32))) + (endsF v1 bv)) + (endsF v2 dv))), .second, .val (.long c3v), .second] [(.int (lcmpW (colF v0 (1 : Int64)) c1v))])) (fun t kt => ?_) ?_
              · refine XS.lload X9.here hx rfl (hb hby at_238) rfl ?_
                show Steps p.tables e below (T9.setTop (mkF m 240 #[.val (.int p0), .val (.int p1), .val (.int p2), .val (.int v0), .val (.int v1), .val (.int v2), .val (.ref b4), .val (.long (lineF v0 (1 : Int64) (0 : Int32))), .second, .val (.long (colF v0 (1 : Int64))), .second, .val (.long ((1 : Int64) + (endsF v0 (0 : Int32)))), .second, .val (.long c1v), .second, .val (.long (lineF v1 (lineF v0 (1 : Int64) (0 : Int32)) (acF v0))), .second, .val (.long (colF v1 (colF v0 (1 : Int64)))), .second, .val (.long (((1 : Int64) + (endsF v0 (0 : Int32))) + (endsF v1 bv))), .second, .val (.long c2v), .second, .val (.long (lineF v2 (lineF v1 (lineF v0 (1 : Int64) (0 : Int32)) (acF v0)) (acF v1))), .second, .val (.long (colF v2 (colF v1 (colF v0 (1 : Int64))))), .second, .val (.long ((((1 : Int64) + (endsF v0 (0 : Int32))) + (endsF v1 bv)) + (endsF v2 dv))), .second, .val (.long c3v), .second] [(.long (colF v0 (1 : Int64)))])) _
                refine XS.lload X9.here hx rfl (hb hby at_240) rfl ?_
                show Steps p.tables e below (T9.setTop (mkF m 242 #[.val (.int p0), .val (.int p1), .val (.int p2), .val (.int v0), .val (.int v1), .val (.int v2), .val (.ref b4), .val (.long (lineF v0 (1 : Int64) (0 : Int32))), .second, .val (.long (colF v0 (1 : Int64))), .second, .val (.long ((1 : Int64) + (endsF v0 (0 : Int32)))), .second, .val (.long c1v), .second, .val (.long (lineF v1 (lineF v0 (1 : Int64) (0 : Int32)) (acF v0))), .second, .val (.long (colF v1 (colF v0 (1 : Int64)))), .second, .val (.long (((1 : Int64) + (endsF v0 (0 : Int32))) + (endsF v1 bv))), .second, .val (.long c2v), .second, .val (.long (lineF v2 (lineF v1 (lineF v0 (1 : Int64) (0 : Int32)) (acF v0)) (acF v1))), .second, .val (.long (colF v2 (colF v1 (colF v0 (1 : Int64))))), .second, .val (.long ((((1 : Int64) + (endsF v0 (0 : Int32))) + (endsF v1 bv)) + (endsF v2 dv))), .second, .val (.long c3v), .second] [(.long c1v), (.long (colF v0 (1 : Int64)))])) _
                refine XS.lcmp X9.here hx rfl (hb hby at_242) rfl ?_
                exact kt
              refine Goes.step (A := T9.setTop (mkF m 246 #[.val (.int p0), .val (.int p1), .val (.int p2), .val (.int v0), .val (.int v1), .val (.int v2), .val (.ref b4), .val (.long (lineF v0 (1 : Int64) (0 : Int32))), .second, .val (.long (colF v0 (1 : Int64))), .second, .val (.long ((1 : Int64) + (endsF v0 (0 : Int32)))), .second, .val (.long c1v), .second, .val (.long (lineF v1 (lineF v0 (1 : Int64) (0 : Int32)) (acF v0))), .second, .val (.long (colF v1 (colF v0 (1 : Int64)))), .second, .val (.long (((1 : Int64) + (endsF v0 (0 : Int32))) + (endsF v1 bv))), .second, .val (.long c2v), .second, .val (.long (lineF v2 (lineF v1 (lineF v0 (1 : Int64) (0 : Int32)) (acF v0)) (acF v1))), .second, .val (.long (colF v2 (colF v1 (colF v0 (1 : Int64))))), .second, .val (.long ((((1 : Int64) + (endsF v0 (0 : Int32))) + (endsF v1 bv)) + (endsF v2 dv))), .second, .val (.long c3v), .second] [])) (fun t kt => XS.ifNo X9.here hx rfl (hb hby at_243) rfl ((if0 _ _).trans (teq ((lw_eq _ _).mpr (hA : (colF v0 (1 : Int64)) = c1v))).2) kt) ?_
              refine Goes.step (A := T9.setTop (mkF m 251 #[.val (.int p0), .val (.int p1), .val (.int p2), .val (.int v0), .val (.int v1), .val (.int v2), .val (.ref b4), .val (.long (lineF v0 (1 : Int64) (0 : Int32))), .second, .val (.long (colF v0 (1 : Int64))), .second, .val (.long ((1 : Int64) + (endsF v0 (0 : Int32)))), .second, .val (.long c1v), .second, .val (.long (lineF v1 (lineF v0 (1 : Int64) (0 : Int32)) (acF v0))), .second, .val (.long (colF v1 (colF v0 (1 : Int64)))), .second, .val (.long (((1 : Int64) + (endsF v0 (0 : Int32))) + (endsF v1 bv))), .second, .val (.long c2v), .second, .val (.long (lineF v2 (lineF v1 (lineF v0 (1 : Int64) (0 : Int32)) (acF v0)) (acF v1))), .second, .val (.long (colF v2 (colF v1 (colF v0 (1 : Int64))))), .second, .val (.long ((((1 : Int64) + (endsF v0 (0 : Int32))) + (endsF v1 bv)) + (endsF v2 dv))), .second, .val (.long c3v), .second] [(.int (lcmpW (lineF v1 (lineF v0 (1 : Int64) (0 : Int32)) (acF v0)) (((1 : Int64) + (endsF v0 (0 : Int32))) + (endsF v1 bv))))])) (fun t kt => ?_) ?_
              · refine XS.lload X9.here hx rfl (hb hby at_246) rfl ?_
                show Steps p.tables e below (T9.setTop (mkF m 248 #[.val (.int p0), .val (.int p1), .val (.int p2), .val (.int v0), .val (.int v1), .val (.int v2), .val (.ref b4), .val (.long (lineF v0 (1 : Int64) (0 : Int32))), .second, .val (.long (colF v0 (1 : Int64))), .second, .val (.long ((1 : Int64) + (endsF v0 (0 : Int32)))), .second, .val (.long c1v), .second, .val (.long (lineF v1 (lineF v0 (1 : Int64) (0 : Int32)) (acF v0))), .second, .val (.long (colF v1 (colF v0 (1 : Int64)))), .second, .val (.long (((1 : Int64) + (endsF v0 (0 : Int32))) + (endsF v1 bv))), .second, .val (.long c2v), .second, .val (.long (lineF v2 (lineF v1 (lineF v0 (1 : Int64) (0 : Int32)) (acF v0)) (acF v1))), .second, .val (.long (colF v2 (colF v1 (colF v0 (1 : Int64))))), .second, .val (.long ((((1 : Int64) + (endsF v0 (0 : Int32))) + (endsF v1 bv)) + (endsF v2 dv))), .second, .val (.long c3v), .second] [(.long (lineF v1 (lineF v0 (1 : Int64) (0 : Int32)) (acF v0)))])) _
                refine XS.lload X9.here hx rfl (hb hby at_248) rfl ?_
                show Steps p.tables e below (T9.setTop (mkF m 250 #[.val (.int p0), .val (.int p1), .val (.int p2), .val (.int v0), .val (.int v1), .val (.int v2), .val (.ref b4), .val (.long (lineF v0 (1 : Int64) (0 : Int32))), .second, .val (.long (colF v0 (1 : Int64))), .second, .val (.long ((1 : Int64) + (endsF v0 (0 : Int32)))), .second, .val (.long c1v), .second, .val (.long (lineF v1 (lineF v0 (1 : Int64) (0 : Int32)) (acF v0))), .second, .val (.long (colF v1 (colF v0 (1 : Int64)))), .second, .val (.long (((1 : Int64) + (endsF v0 (0 : Int32))) + (endsF v1 bv))), .second, .val (.long c2v), .second, .val (.long (lineF v2 (lineF v1 (lineF v0 (1 : Int64) (0 : Int32)) (acF v0)) (acF v1))), .second, .val (.long (colF v2 (colF v1 (colF v0 (1 : Int64))))), .second, .val (.long ((((1 : Int64) + (endsF v0 (0 : Int32))) + (endsF v1 bv)) + (endsF v2 dv))), .second, .val (.long c3v), .second] [(.long (((1 : Int64) + (endsF v0 (0 : Int32))) + (endsF v1 bv))), (.long (lineF v1 (lineF v0 (1 : Int64) (0 : Int32)) (acF v0)))])) _
                refine XS.lcmp X9.here hx rfl (hb hby at_250) rfl ?_
                exact kt
              refine Goes.step (A := T9.setTop (mkF m 254 #[.val (.int p0), .val (.int p1), .val (.int p2), .val (.int v0), .val (.int v1), .val (.int v2), .val (.ref b4), .val (.long (lineF v0 (1 : Int64) (0 : Int32))), .second, .val (.long (colF v0 (1 : Int64))), .second, .val (.long ((1 : Int64) + (endsF v0 (0 : Int32)))), .second, .val (.long c1v), .second, .val (.long (lineF v1 (lineF v0 (1 : Int64) (0 : Int32)) (acF v0))), .second, .val (.long (colF v1 (colF v0 (1 : Int64)))), .second, .val (.long (((1 : Int64) + (endsF v0 (0 : Int32))) + (endsF v1 bv))), .second, .val (.long c2v), .second, .val (.long (lineF v2 (lineF v1 (lineF v0 (1 : Int64) (0 : Int32)) (acF v0)) (acF v1))), .second, .val (.long (colF v2 (colF v1 (colF v0 (1 : Int64))))), .second, .val (.long ((((1 : Int64) + (endsF v0 (0 : Int32))) + (endsF v1 bv)) + (endsF v2 dv))), .second, .val (.long c3v), .second] [])) (fun t kt => XS.ifNo X9.here hx rfl (hb hby at_251) rfl ((if0 _ _).trans (teq ((lw_eq _ _).mpr (by rw [own_line v1, own_line v0, hB] : (lineF v1 (lineF v0 (1 : Int64) (0 : Int32)) (acF v0)) = (((1 : Int64) + (endsF v0 (0 : Int32))) + (endsF v1 bv))))).2) kt) ?_
              refine Goes.step (A := T9.setTop (mkF m 259 #[.val (.int p0), .val (.int p1), .val (.int p2), .val (.int v0), .val (.int v1), .val (.int v2), .val (.ref b4), .val (.long (lineF v0 (1 : Int64) (0 : Int32))), .second, .val (.long (colF v0 (1 : Int64))), .second, .val (.long ((1 : Int64) + (endsF v0 (0 : Int32)))), .second, .val (.long c1v), .second, .val (.long (lineF v1 (lineF v0 (1 : Int64) (0 : Int32)) (acF v0))), .second, .val (.long (colF v1 (colF v0 (1 : Int64)))), .second, .val (.long (((1 : Int64) + (endsF v0 (0 : Int32))) + (endsF v1 bv))), .second, .val (.long c2v), .second, .val (.long (lineF v2 (lineF v1 (lineF v0 (1 : Int64) (0 : Int32)) (acF v0)) (acF v1))), .second, .val (.long (colF v2 (colF v1 (colF v0 (1 : Int64))))), .second, .val (.long ((((1 : Int64) + (endsF v0 (0 : Int32))) + (endsF v1 bv)) + (endsF v2 dv))), .second, .val (.long c3v), .second] [(.int (lcmpW (colF v1 (colF v0 (1 : Int64))) c2v))])) (fun t kt => ?_) ?_
              · refine XS.lload X9.here hx rfl (hb hby at_254) rfl ?_
                show Steps p.tables e below (T9.setTop (mkF m 256 #[.val (.int p0), .val (.int p1), .val (.int p2), .val (.int v0), .val (.int v1), .val (.int v2), .val (.ref b4), .val (.long (lineF v0 (1 : Int64) (0 : Int32))), .second, .val (.long (colF v0 (1 : Int64))), .second, .val (.long ((1 : Int64) + (endsF v0 (0 : Int32)))), .second, .val (.long c1v), .second, .val (.long (lineF v1 (lineF v0 (1 : Int64) (0 : Int32)) (acF v0))), .second, .val (.long (colF v1 (colF v0 (1 : Int64)))), .second, .val (.long (((1 : Int64) + (endsF v0 (0 : Int32))) + (endsF v1 bv))), .second, .val (.long c2v), .second, .val (.long (lineF v2 (lineF v1 (lineF v0 (1 : Int64) (0 : Int32)) (acF v0)) (acF v1))), .second, .val (.long (colF v2 (colF v1 (colF v0 (1 : Int64))))), .second, .val (.long ((((1 : Int64) + (endsF v0 (0 : Int32))) + (endsF v1 bv)) + (endsF v2 dv))), .second, .val (.long c3v), .second] [(.long (colF v1 (colF v0 (1 : Int64))))])) _
                refine XS.lload X9.here hx rfl (hb hby at_256) rfl ?_
                show Steps p.tables e below (T9.setTop (mkF m 258 #[.val (.int p0), .val (.int p1), .val (.int p2), .val (.int v0), .val (.int v1), .val (.int v2), .val (.ref b4), .val (.long (lineF v0 (1 : Int64) (0 : Int32))), .second, .val (.long (colF v0 (1 : Int64))), .second, .val (.long ((1 : Int64) + (endsF v0 (0 : Int32)))), .second, .val (.long c1v), .second, .val (.long (lineF v1 (lineF v0 (1 : Int64) (0 : Int32)) (acF v0))), .second, .val (.long (colF v1 (colF v0 (1 : Int64)))), .second, .val (.long (((1 : Int64) + (endsF v0 (0 : Int32))) + (endsF v1 bv))), .second, .val (.long c2v), .second, .val (.long (lineF v2 (lineF v1 (lineF v0 (1 : Int64) (0 : Int32)) (acF v0)) (acF v1))), .second, .val (.long (colF v2 (colF v1 (colF v0 (1 : Int64))))), .second, .val (.long ((((1 : Int64) + (endsF v0 (0 : Int32))) + (endsF v1 bv)) + (endsF v2 dv))), .second, .val (.long c3v), .second] [(.long c2v), (.long (colF v1 (colF v0 (1 : Int64))))])) _
                refine XS.lcmp X9.here hx rfl (hb hby at_258) rfl ?_
                exact kt
              refine Goes.step (A := T9.setTop (mkF m 262 #[.val (.int p0), .val (.int p1), .val (.int p2), .val (.int v0), .val (.int v1), .val (.int v2), .val (.ref b4), .val (.long (lineF v0 (1 : Int64) (0 : Int32))), .second, .val (.long (colF v0 (1 : Int64))), .second, .val (.long ((1 : Int64) + (endsF v0 (0 : Int32)))), .second, .val (.long c1v), .second, .val (.long (lineF v1 (lineF v0 (1 : Int64) (0 : Int32)) (acF v0))), .second, .val (.long (colF v1 (colF v0 (1 : Int64)))), .second, .val (.long (((1 : Int64) + (endsF v0 (0 : Int32))) + (endsF v1 bv))), .second, .val (.long c2v), .second, .val (.long (lineF v2 (lineF v1 (lineF v0 (1 : Int64) (0 : Int32)) (acF v0)) (acF v1))), .second, .val (.long (colF v2 (colF v1 (colF v0 (1 : Int64))))), .second, .val (.long ((((1 : Int64) + (endsF v0 (0 : Int32))) + (endsF v1 bv)) + (endsF v2 dv))), .second, .val (.long c3v), .second] [])) (fun t kt => XS.ifNo X9.here hx rfl (hb hby at_259) rfl ((if0 _ _).trans (teq ((lw_eq _ _).mpr (hC : (colF v1 (colF v0 (1 : Int64))) = c2v))).2) kt) ?_
              refine Goes.step (A := T9.setTop (mkF m 267 #[.val (.int p0), .val (.int p1), .val (.int p2), .val (.int v0), .val (.int v1), .val (.int v2), .val (.ref b4), .val (.long (lineF v0 (1 : Int64) (0 : Int32))), .second, .val (.long (colF v0 (1 : Int64))), .second, .val (.long ((1 : Int64) + (endsF v0 (0 : Int32)))), .second, .val (.long c1v), .second, .val (.long (lineF v1 (lineF v0 (1 : Int64) (0 : Int32)) (acF v0))), .second, .val (.long (colF v1 (colF v0 (1 : Int64)))), .second, .val (.long (((1 : Int64) + (endsF v0 (0 : Int32))) + (endsF v1 bv))), .second, .val (.long c2v), .second, .val (.long (lineF v2 (lineF v1 (lineF v0 (1 : Int64) (0 : Int32)) (acF v0)) (acF v1))), .second, .val (.long (colF v2 (colF v1 (colF v0 (1 : Int64))))), .second, .val (.long ((((1 : Int64) + (endsF v0 (0 : Int32))) + (endsF v1 bv)) + (endsF v2 dv))), .second, .val (.long c3v), .second] [(.int (lcmpW (lineF v2 (lineF v1 (lineF v0 (1 : Int64) (0 : Int32)) (acF v0)) (acF v1)) ((((1 : Int64) + (endsF v0 (0 : Int32))) + (endsF v1 bv)) + (endsF v2 dv))))])) (fun t kt => ?_) ?_
              · refine XS.lload X9.here hx rfl (hb hby at_262) rfl ?_
                show Steps p.tables e below (T9.setTop (mkF m 264 #[.val (.int p0), .val (.int p1), .val (.int p2), .val (.int v0), .val (.int v1), .val (.int v2), .val (.ref b4), .val (.long (lineF v0 (1 : Int64) (0 : Int32))), .second, .val (.long (colF v0 (1 : Int64))), .second, .val (.long ((1 : Int64) + (endsF v0 (0 : Int32)))), .second, .val (.long c1v), .second, .val (.long (lineF v1 (lineF v0 (1 : Int64) (0 : Int32)) (acF v0))), .second, .val (.long (colF v1 (colF v0 (1 : Int64)))), .second, .val (.long (((1 : Int64) + (endsF v0 (0 : Int32))) + (endsF v1 bv))), .second, .val (.long c2v), .second, .val (.long (lineF v2 (lineF v1 (lineF v0 (1 : Int64) (0 : Int32)) (acF v0)) (acF v1))), .second, .val (.long (colF v2 (colF v1 (colF v0 (1 : Int64))))), .second, .val (.long ((((1 : Int64) + (endsF v0 (0 : Int32))) + (endsF v1 bv)) + (endsF v2 dv))), .second, .val (.long c3v), .second] [(.long (lineF v2 (lineF v1 (lineF v0 (1 : Int64) (0 : Int32)) (acF v0)) (acF v1)))])) _
                refine XS.lload X9.here hx rfl (hb hby at_264) rfl ?_
                show Steps p.tables e below (T9.setTop (mkF m 266 #[.val (.int p0), .val (.int p1), .val (.int p2), .val (.int v0), .val (.int v1), .val (.int v2), .val (.ref b4), .val (.long (lineF v0 (1 : Int64) (0 : Int32))), .second, .val (.long (colF v0 (1 : Int64))), .second, .val (.long ((1 : Int64) + (endsF v0 (0 : Int32)))), .second, .val (.long c1v), .second, .val (.long (lineF v1 (lineF v0 (1 : Int64) (0 : Int32)) (acF v0))), .second, .val (.long (colF v1 (colF v0 (1 : Int64)))), .second, .val (.long (((1 : Int64) + (endsF v0 (0 : Int32))) + (endsF v1 bv))), .second, .val (.long c2v), .second, .val (.long (lineF v2 (lineF v1 (lineF v0 (1 : Int64) (0 : Int32)) (acF v0)) (acF v1))), .second, .val (.long (colF v2 (colF v1 (colF v0 (1 : Int64))))), .second, .val (.long ((((1 : Int64) + (endsF v0 (0 : Int32))) + (endsF v1 bv)) + (endsF v2 dv))), .second, .val (.long c3v), .second] [(.long ((((1 : Int64) + (endsF v0 (0 : Int32))) + (endsF v1 bv)) + (endsF v2 dv))), (.long (lineF v2 (lineF v1 (lineF v0 (1 : Int64) (0 : Int32)) (acF v0)) (acF v1)))])) _
                refine XS.lcmp X9.here hx rfl (hb hby at_266) rfl ?_
                exact kt
              refine Goes.step (A := T9.setTop (mkF m 270 #[.val (.int p0), .val (.int p1), .val (.int p2), .val (.int v0), .val (.int v1), .val (.int v2), .val (.ref b4), .val (.long (lineF v0 (1 : Int64) (0 : Int32))), .second, .val (.long (colF v0 (1 : Int64))), .second, .val (.long ((1 : Int64) + (endsF v0 (0 : Int32)))), .second, .val (.long c1v), .second, .val (.long (lineF v1 (lineF v0 (1 : Int64) (0 : Int32)) (acF v0))), .second, .val (.long (colF v1 (colF v0 (1 : Int64)))), .second, .val (.long (((1 : Int64) + (endsF v0 (0 : Int32))) + (endsF v1 bv))), .second, .val (.long c2v), .second, .val (.long (lineF v2 (lineF v1 (lineF v0 (1 : Int64) (0 : Int32)) (acF v0)) (acF v1))), .second, .val (.long (colF v2 (colF v1 (colF v0 (1 : Int64))))), .second, .val (.long ((((1 : Int64) + (endsF v0 (0 : Int32))) + (endsF v1 bv)) + (endsF v2 dv))), .second, .val (.long c3v), .second] [])) (fun t kt => XS.ifNo X9.here hx rfl (hb hby at_267) rfl ((if0 _ _).trans (teq ((lw_eq _ _).mpr (by rw [own_line v2, own_line v1, own_line v0, hB, hD] : (lineF v2 (lineF v1 (lineF v0 (1 : Int64) (0 : Int32)) (acF v0)) (acF v1)) = ((((1 : Int64) + (endsF v0 (0 : Int32))) + (endsF v1 bv)) + (endsF v2 dv))))).2) kt) ?_
              refine Goes.step (A := T9.setTop (mkF m 275 #[.val (.int p0), .val (.int p1), .val (.int p2), .val (.int v0), .val (.int v1), .val (.int v2), .val (.ref b4), .val (.long (lineF v0 (1 : Int64) (0 : Int32))), .second, .val (.long (colF v0 (1 : Int64))), .second, .val (.long ((1 : Int64) + (endsF v0 (0 : Int32)))), .second, .val (.long c1v), .second, .val (.long (lineF v1 (lineF v0 (1 : Int64) (0 : Int32)) (acF v0))), .second, .val (.long (colF v1 (colF v0 (1 : Int64)))), .second, .val (.long (((1 : Int64) + (endsF v0 (0 : Int32))) + (endsF v1 bv))), .second, .val (.long c2v), .second, .val (.long (lineF v2 (lineF v1 (lineF v0 (1 : Int64) (0 : Int32)) (acF v0)) (acF v1))), .second, .val (.long (colF v2 (colF v1 (colF v0 (1 : Int64))))), .second, .val (.long ((((1 : Int64) + (endsF v0 (0 : Int32))) + (endsF v1 bv)) + (endsF v2 dv))), .second, .val (.long c3v), .second] [(.int (lcmpW (colF v2 (colF v1 (colF v0 (1 : Int64)))) c3v))])) (fun t kt => ?_) ?_
              · refine XS.lload X9.here hx rfl (hb hby at_270) rfl ?_
                show Steps p.tables e below (T9.setTop (mkF m 272 #[.val (.int p0), .val (.int p1), .val (.int p2), .val (.int v0), .val (.int v1), .val (.int v2), .val (.ref b4), .val (.long (lineF v0 (1 : Int64) (0 : Int32))), .second, .val (.long (colF v0 (1 : Int64))), .second, .val (.long ((1 : Int64) + (endsF v0 (0 : Int32)))), .second, .val (.long c1v), .second, .val (.long (lineF v1 (lineF v0 (1 : Int64) (0 : Int32)) (acF v0))), .second, .val (.long (colF v1 (colF v0 (1 : Int64)))), .second, .val (.long (((1 : Int64) + (endsF v0 (0 : Int32))) + (endsF v1 bv))), .second, .val (.long c2v), .second, .val (.long (lineF v2 (lineF v1 (lineF v0 (1 : Int64) (0 : Int32)) (acF v0)) (acF v1))), .second, .val (.long (colF v2 (colF v1 (colF v0 (1 : Int64))))), .second, .val (.long ((((1 : Int64) + (endsF v0 (0 : Int32))) + (endsF v1 bv)) + (endsF v2 dv))), .second, .val (.long c3v), .second] [(.long (colF v2 (colF v1 (colF v0 (1 : Int64)))))])) _
                refine XS.lload X9.here hx rfl (hb hby at_272) rfl ?_
                show Steps p.tables e below (T9.setTop (mkF m 274 #[.val (.int p0), .val (.int p1), .val (.int p2), .val (.int v0), .val (.int v1), .val (.int v2), .val (.ref b4), .val (.long (lineF v0 (1 : Int64) (0 : Int32))), .second, .val (.long (colF v0 (1 : Int64))), .second, .val (.long ((1 : Int64) + (endsF v0 (0 : Int32)))), .second, .val (.long c1v), .second, .val (.long (lineF v1 (lineF v0 (1 : Int64) (0 : Int32)) (acF v0))), .second, .val (.long (colF v1 (colF v0 (1 : Int64)))), .second, .val (.long (((1 : Int64) + (endsF v0 (0 : Int32))) + (endsF v1 bv))), .second, .val (.long c2v), .second, .val (.long (lineF v2 (lineF v1 (lineF v0 (1 : Int64) (0 : Int32)) (acF v0)) (acF v1))), .second, .val (.long (colF v2 (colF v1 (colF v0 (1 : Int64))))), .second, .val (.long ((((1 : Int64) + (endsF v0 (0 : Int32))) + (endsF v1 bv)) + (endsF v2 dv))), .second, .val (.long c3v), .second] [(.long c3v), (.long (colF v2 (colF v1 (colF v0 (1 : Int64)))))])) _
                refine XS.lcmp X9.here hx rfl (hb hby at_274) rfl ?_
                exact kt
              refine Goes.step (A := T9.setTop (mkF m 278 #[.val (.int p0), .val (.int p1), .val (.int p2), .val (.int v0), .val (.int v1), .val (.int v2), .val (.ref b4), .val (.long (lineF v0 (1 : Int64) (0 : Int32))), .second, .val (.long (colF v0 (1 : Int64))), .second, .val (.long ((1 : Int64) + (endsF v0 (0 : Int32)))), .second, .val (.long c1v), .second, .val (.long (lineF v1 (lineF v0 (1 : Int64) (0 : Int32)) (acF v0))), .second, .val (.long (colF v1 (colF v0 (1 : Int64)))), .second, .val (.long (((1 : Int64) + (endsF v0 (0 : Int32))) + (endsF v1 bv))), .second, .val (.long c2v), .second, .val (.long (lineF v2 (lineF v1 (lineF v0 (1 : Int64) (0 : Int32)) (acF v0)) (acF v1))), .second, .val (.long (colF v2 (colF v1 (colF v0 (1 : Int64))))), .second, .val (.long ((((1 : Int64) + (endsF v0 (0 : Int32))) + (endsF v1 bv)) + (endsF v2 dv))), .second, .val (.long c3v), .second] [])) (fun t kt => XS.ifNo X9.here hx rfl (hb hby at_275) rfl ((if0 _ _).trans (teq ((lw_eq _ _).mpr (hE : (colF v2 (colF v1 (colF v0 (1 : Int64)))) = c3v))).2) kt) ?_
              refine Goes.step (A := T9.setTop (mkF m 283 #[.val (.int p0), .val (.int p1), .val (.int p2), .val (.int v0), .val (.int v1), .val (.int v2), .val (.ref b4), .val (.long (lineF v0 (1 : Int64) (0 : Int32))), .second, .val (.long (colF v0 (1 : Int64))), .second, .val (.long ((1 : Int64) + (endsF v0 (0 : Int32)))), .second, .val (.long c1v), .second, .val (.long (lineF v1 (lineF v0 (1 : Int64) (0 : Int32)) (acF v0))), .second, .val (.long (colF v1 (colF v0 (1 : Int64)))), .second, .val (.long (((1 : Int64) + (endsF v0 (0 : Int32))) + (endsF v1 bv))), .second, .val (.long c2v), .second, .val (.long (lineF v2 (lineF v1 (lineF v0 (1 : Int64) (0 : Int32)) (acF v0)) (acF v1))), .second, .val (.long (colF v2 (colF v1 (colF v0 (1 : Int64))))), .second, .val (.long ((((1 : Int64) + (endsF v0 (0 : Int32))) + (endsF v1 bv)) + (endsF v2 dv))), .second, .val (.long c3v), .second] [(.int (1 : Int32))])) (fun t kt => ?_) ?_
              · refine XS.iconst X9.here hx rfl (hb hby at_278) ?_
                show Steps p.tables e below (T9.setTop (mkF m 279 #[.val (.int p0), .val (.int p1), .val (.int p2), .val (.int v0), .val (.int v1), .val (.int v2), .val (.ref b4), .val (.long (lineF v0 (1 : Int64) (0 : Int32))), .second, .val (.long (colF v0 (1 : Int64))), .second, .val (.long ((1 : Int64) + (endsF v0 (0 : Int32)))), .second, .val (.long c1v), .second, .val (.long (lineF v1 (lineF v0 (1 : Int64) (0 : Int32)) (acF v0))), .second, .val (.long (colF v1 (colF v0 (1 : Int64)))), .second, .val (.long (((1 : Int64) + (endsF v0 (0 : Int32))) + (endsF v1 bv))), .second, .val (.long c2v), .second, .val (.long (lineF v2 (lineF v1 (lineF v0 (1 : Int64) (0 : Int32)) (acF v0)) (acF v1))), .second, .val (.long (colF v2 (colF v1 (colF v0 (1 : Int64))))), .second, .val (.long ((((1 : Int64) + (endsF v0 (0 : Int32))) + (endsF v1 bv)) + (endsF v2 dv))), .second, .val (.long c3v), .second] [(.int (1 : Int32))])) _
                refine XS.goto X9.here hx rfl (pc0 := 279) (pc' := 283) rfl (hb hby at_279) (by decide) (by decide) ?_
                exact kt
              obtain ⟨fs, hr, hrun, hended, hW, hsame⟩ := X9.leave (v := some (.int (1 : Int32))) (fun h => by rw [Bd.returns] at h; cases h)
              refine Goes.done ?_ hrun hended ⟨_, _, rfl, ?_, ⟨_, rfl⟩, hW, hsame.mono (by decide) (by decide)⟩
              · exact retN X9 hx (t := .boolean) Bd.returns (by simp) (hb hby at_283) hr
              · show Q0 Z p0 p1 p2 h0 n0 _ T9.heap _
                rw [e9]
                exact ⟨rfl, N9⟩
            by_cases hc191_11 : (nlF v2) = (0 : Int32)
            · refine Goes.step (A := T20.setTop (mkF m 198 #[.val (.int p0), .val (.int p1), .val (.int p2), .val (.int v0), .val (.int v1), .val (.int v2), .val (.ref b4), .val (.long (lineF v0 (1 : Int64) (0 : Int32))), .second, .val (.long (colF v0 (1 : Int64))), .second, .val (.long ((1 : Int64) + (endsF v0 (0 : Int32)))), .second, .val (.long c1v), .second, .val (.long (lineF v1 (lineF v0 (1 : Int64) (0 : Int32)) (acF v0))), .second, .val (.long (colF v1 (colF v0 (1 : Int64)))), .second, .val (.long (((1 : Int64) + (endsF v0 (0 : Int32))) + (endsF v1 bv))), .second, .val (.long c2v), .second, .val (.long (lineF v2 (lineF v1 (lineF v0 (1 : Int64) (0 : Int32)) (acF v0)) (acF v1))), .second, .val (.long (colF v2 (colF v1 (colF v0 (1 : Int64))))), .second, .val (.long ((((1 : Int64) + (endsF v0 (0 : Int32))) + (endsF v1 bv)) + (endsF v2 dv))), .second, .unset, .unset] [])) (fun t kt => XS.ifYes X20.here hx rfl (pc0 := 191) (pc' := 198) rfl (hb hby at_191) rfl ((if0 _ _).trans (teq hc191_11).1) (by decide) (by decide) kt) ?_
              refine Goes.step (A := T20.setTop (mkF m 200 #[.val (.int p0), .val (.int p1), .val (.int p2), .val (.int v0), .val (.int v1), .val (.int v2), .val (.ref b4), .val (.long (lineF v0 (1 : Int64) (0 : Int32))), .second, .val (.long (colF v0 (1 : Int64))), .second, .val (.long ((1 : Int64) + (endsF v0 (0 : Int32)))), .second, .val (.long c1v), .second, .val (.long (lineF v1 (lineF v0 (1 : Int64) (0 : Int32)) (acF v0))), .second, .val (.long (colF v1 (colF v0 (1 : Int64)))), .second, .val (.long (((1 : Int64) + (endsF v0 (0 : Int32))) + (endsF v1 bv))), .second, .val (.long c2v), .second, .val (.long (lineF v2 (lineF v1 (lineF v0 (1 : Int64) (0 : Int32)) (acF v0)) (acF v1))), .second, .val (.long (colF v2 (colF v1 (colF v0 (1 : Int64))))), .second, .val (.long ((((1 : Int64) + (endsF v0 (0 : Int32))) + (endsF v1 bv)) + (endsF v2 dv))), .second, .unset, .unset] [(.int v1)])) (fun t kt => ?_) ?_
              · refine XS.iload X20.here hx rfl (hb hby at_198) rfl ?_
                exact kt
              obtain ⟨_, _, ⟨T21, L21, k21, n21⟩, -, X21, ⟨Lc21, hQ21, l21, y21, z21⟩, st21⟩ := Jvm.LawKit.callS X20 hx (y := (⟨"com/example/plnr/plnr/io/BytePlacePassPinLaw", "nl", "(I)Z"⟩ : MethodName)) hown (mvT hZ (hw _ (List.mem_of_getElem? (i := 37) rfl))) (mvT hZ (hw _ (List.mem_of_getElem? (i := 38) rfl))) (mvT hZ (hw _ (List.mem_of_getElem? (i := 2) rfl))) (mvT hZ (hw _ (List.mem_of_getElem? (i := 39) rfl))) (by decide) (backOf (W := 0) (rm8 l Z a0 hw [] v1 T16.heap n0 Z16) hZ (hw _ (List.mem_of_getElem? (i := 39) rfl)) (hw _ (List.mem_of_getElem? (i := 2) rfl)) (by decide) (by decide)) (g := (mkF m 200 #[.val (.int p0), .val (.int p1), .val (.int p2), .val (.int v0), .val (.int v1), .val (.int v2), .val (.ref b4), .val (.long (lineF v0 (1 : Int64) (0 : Int32))), .second, .val (.long (colF v0 (1 : Int64))), .second, .val (.long ((1 : Int64) + (endsF v0 (0 : Int32)))), .second, .val (.long c1v), .second, .val (.long (lineF v1 (lineF v0 (1 : Int64) (0 : Int32)) (acF v0))), .second, .val (.long (colF v1 (colF v0 (1 : Int64)))), .second, .val (.long (((1 : Int64) + (endsF v0 (0 : Int32))) + (endsF v1 bv))), .second, .val (.long c2v), .second, .val (.long (lineF v2 (lineF v1 (lineF v0 (1 : Int64) (0 : Int32)) (acF v0)) (acF v1))), .second, .val (.long (colF v2 (colF v1 (colF v0 (1 : Int64))))), .second, .val (.long ((((1 : Int64) + (endsF v0 (0 : Int32))) + (endsF v1 bv)) + (endsF v2 dv))), .second, .unset, .unset] [(.int v1)])) rfl (by rw [hml]; rfl) (argsL := [(.int v1)]) (rest := []) (lenOf pd_5 rfl) rfl (by show 2 * 0 + _ ≤ _; exact Nat.le_of_eq rfl) (hb hby at_200) (fun _ _ => ⟨rfl, e20, (by decide : 1 + 0 ≤ _), (by decide : 3 + 0 ≤ _)⟩)
              dsimp only [Pt.U, Pt.locs, Pt.cells, Pt.slots] at X21 l21 y21 z21 st21 hQ21
              subst l21 y21 z21
              obtain ⟨rfl, N21q, e21⟩ := hQ21
              have N21 := Fr.app N20 N21q
              refine Goes.step (A := T21.setTop (mkF m 203 #[.val (.int p0), .val (.int p1), .val (.int p2), .val (.int v0), .val (.int v1), .val (.int v2), .val (.ref b4), .val (.long (lineF v0 (1 : Int64) (0 : Int32))), .second, .val (.long (colF v0 (1 : Int64))), .second, .val (.long ((1 : Int64) + (endsF v0 (0 : Int32)))), .second, .val (.long c1v), .second, .val (.long (lineF v1 (lineF v0 (1 : Int64) (0 : Int32)) (acF v0))), .second, .val (.long (colF v1 (colF v0 (1 : Int64)))), .second, .val (.long (((1 : Int64) + (endsF v0 (0 : Int32))) + (endsF v1 bv))), .second, .val (.long c2v), .second, .val (.long (lineF v2 (lineF v1 (lineF v0 (1 : Int64) (0 : Int32)) (acF v0)) (acF v1))), .second, .val (.long (colF v2 (colF v1 (colF v0 (1 : Int64))))), .second, .val (.long ((((1 : Int64) + (endsF v0 (0 : Int32))) + (endsF v1 bv)) + (endsF v2 dv))), .second, .unset, .unset] [(.int (nlF v1))])) (fun t kt => st21 _ kt) ?_
              by_cases hc203_12 : (nlF v1) = (0 : Int32)
              · refine Goes.step (A := T21.setTop (mkF m 212 #[.val (.int p0), .val (.int p1), .val (.int p2), .val (.int v0), .val (.int v1), .val (.int v2), .val (.ref b4), .val (.long (lineF v0 (1 : Int64) (0 : Int32))), .second, .val (.long (colF v0 (1 : Int64))), .second, .val (.long ((1 : Int64) + (endsF v0 (0 : Int32)))), .second, .val (.long c1v), .second, .val (.long (lineF v1 (lineF v0 (1 : Int64) (0 : Int32)) (acF v0))), .second, .val (.long (colF v1 (colF v0 (1 : Int64)))), .second, .val (.long (((1 : Int64) + (endsF v0 (0 : Int32))) + (endsF v1 bv))), .second, .val (.long c2v), .second, .val (.long (lineF v2 (lineF v1 (lineF v0 (1 : Int64) (0 : Int32)) (acF v0)) (acF v1))), .second, .val (.long (colF v2 (colF v1 (colF v0 (1 : Int64))))), .second, .val (.long ((((1 : Int64) + (endsF v0 (0 : Int32))) + (endsF v1 bv)) + (endsF v2 dv))), .second, .unset, .unset] [])) (fun t kt => XS.ifYes X21.here hx rfl (pc0 := 203) (pc' := 212) rfl (hb hby at_203) rfl ((if0 _ _).trans (teq hc203_12).1) (by decide) (by decide) kt) ?_
                refine Goes.step (A := T21.setTop (mkF m 213 #[.val (.int p0), .val (.int p1), .val (.int p2), .val (.int v0), .val (.int v1), .val (.int v2), .val (.ref b4), .val (.long (lineF v0 (1 : Int64) (0 : Int32))), .second, .val (.long (colF v0 (1 : Int64))), .second, .val (.long ((1 : Int64) + (endsF v0 (0 : Int32)))), .second, .val (.long c1v), .second, .val (.long (lineF v1 (lineF v0 (1 : Int64) (0 : Int32)) (acF v0))), .second, .val (.long (colF v1 (colF v0 (1 : Int64)))), .second, .val (.long (((1 : Int64) + (endsF v0 (0 : Int32))) + (endsF v1 bv))), .second, .val (.long c2v), .second, .val (.long (lineF v2 (lineF v1 (lineF v0 (1 : Int64) (0 : Int32)) (acF v0)) (acF v1))), .second, .val (.long (colF v2 (colF v1 (colF v0 (1 : Int64))))), .second, .val (.long ((((1 : Int64) + (endsF v0 (0 : Int32))) + (endsF v1 bv)) + (endsF v2 dv))), .second, .unset, .unset] [(.int v0)])) (fun t kt => ?_) ?_
                · refine XS.iloadN X21.here hx rfl (hb hby at_212) rfl ?_
                  exact kt
                obtain ⟨_, _, ⟨T22, L22, k22, n22⟩, -, X22, ⟨Lc22, hQ22, l22, y22, z22⟩, st22⟩ := Jvm.LawKit.callS X21 hx (y := (⟨"com/example/plnr/plnr/io/BytePlacePassPinLaw", "nl", "(I)Z"⟩ : MethodName)) hown (mvT hZ (hw _ (List.mem_of_getElem? (i := 37) rfl))) (mvT hZ (hw _ (List.mem_of_getElem? (i := 38) rfl))) (mvT hZ (hw _ (List.mem_of_getElem? (i := 2) rfl))) (mvT hZ (hw _ (List.mem_of_getElem? (i := 39) rfl))) (by decide) (backOf (W := 0) (rm8 l Z a0 hw [] v0 T16.heap n0 Z16) hZ (hw _ (List.mem_of_getElem? (i := 39) rfl)) (hw _ (List.mem_of_getElem? (i := 2) rfl)) (by decide) (by decide)) (g := (mkF m 213 #[.val (.int p0), .val (.int p1), .val (.int p2), .val (.int v0), .val (.int v1), .val (.int v2), .val (.ref b4), .val (.long (lineF v0 (1 : Int64) (0 : Int32))), .second, .val (.long (colF v0 (1 : Int64))), .second, .val (.long ((1 : Int64) + (endsF v0 (0 : Int32)))), .second, .val (.long c1v), .second, .val (.long (lineF v1 (lineF v0 (1 : Int64) (0 : Int32)) (acF v0))), .second, .val (.long (colF v1 (colF v0 (1 : Int64)))), .second, .val (.long (((1 : Int64) + (endsF v0 (0 : Int32))) + (endsF v1 bv))), .second, .val (.long c2v), .second, .val (.long (lineF v2 (lineF v1 (lineF v0 (1 : Int64) (0 : Int32)) (acF v0)) (acF v1))), .second, .val (.long (colF v2 (colF v1 (colF v0 (1 : Int64))))), .second, .val (.long ((((1 : Int64) + (endsF v0 (0 : Int32))) + (endsF v1 bv)) + (endsF v2 dv))), .second, .unset, .unset] [(.int v0)])) rfl (by rw [hml]; rfl) (argsL := [(.int v0)]) (rest := []) (lenOf pd_5 rfl) rfl (by show 2 * 0 + _ ≤ _; exact Nat.le_of_eq rfl) (hb hby at_213) (fun _ _ => ⟨rfl, e21, (by decide : 1 + 0 ≤ _), (by decide : 3 + 0 ≤ _)⟩)
                dsimp only [Pt.U, Pt.locs, Pt.cells, Pt.slots] at X22 l22 y22 z22 st22 hQ22
                subst l22 y22 z22
                obtain ⟨rfl, N22q, e22⟩ := hQ22
                have N22 := Fr.app N21 N22q
                refine Goes.step (A := T22.setTop (mkF m 216 #[.val (.int p0), .val (.int p1), .val (.int p2), .val (.int v0), .val (.int v1), .val (.int v2), .val (.ref b4), .val (.long (lineF v0 (1 : Int64) (0 : Int32))), .second, .val (.long (colF v0 (1 : Int64))), .second, .val (.long ((1 : Int64) + (endsF v0 (0 : Int32)))), .second, .val (.long c1v), .second, .val (.long (lineF v1 (lineF v0 (1 : Int64) (0 : Int32)) (acF v0))), .second, .val (.long (colF v1 (colF v0 (1 : Int64)))), .second, .val (.long (((1 : Int64) + (endsF v0 (0 : Int32))) + (endsF v1 bv))), .second, .val (.long c2v), .second, .val (.long (lineF v2 (lineF v1 (lineF v0 (1 : Int64) (0 : Int32)) (acF v0)) (acF v1))), .second, .val (.long (colF v2 (colF v1 (colF v0 (1 : Int64))))), .second, .val (.long ((((1 : Int64) + (endsF v0 (0 : Int32))) + (endsF v1 bv)) + (endsF v2 dv))), .second, .unset, .unset] [(.int (nlF v0))])) (fun t kt => st22 _ kt) ?_
                by_cases hc216_13 : (nlF v0) = (0 : Int32)
                · refine Goes.step (A := T22.setTop (mkF m 225 #[.val (.int p0), .val (.int p1), .val (.int p2), .val (.int v0), .val (.int v1), .val (.int v2), .val (.ref b4), .val (.long (lineF v0 (1 : Int64) (0 : Int32))), .second, .val (.long (colF v0 (1 : Int64))), .second, .val (.long ((1 : Int64) + (endsF v0 (0 : Int32)))), .second, .val (.long c1v), .second, .val (.long (lineF v1 (lineF v0 (1 : Int64) (0 : Int32)) (acF v0))), .second, .val (.long (colF v1 (colF v0 (1 : Int64)))), .second, .val (.long (((1 : Int64) + (endsF v0 (0 : Int32))) + (endsF v1 bv))), .second, .val (.long c2v), .second, .val (.long (lineF v2 (lineF v1 (lineF v0 (1 : Int64) (0 : Int32)) (acF v0)) (acF v1))), .second, .val (.long (colF v2 (colF v1 (colF v0 (1 : Int64))))), .second, .val (.long ((((1 : Int64) + (endsF v0 (0 : Int32))) + (endsF v1 bv)) + (endsF v2 dv))), .second, .unset, .unset] [])) (fun t kt => XS.ifYes X22.here hx rfl (pc0 := 216) (pc' := 225) rfl (hb hby at_216) rfl ((if0 _ _).trans (teq hc216_13).1) (by decide) (by decide) kt) ?_
                  refine Goes.step (A := T22.setTop (mkF m 230 #[.val (.int p0), .val (.int p1), .val (.int p2), .val (.int v0), .val (.int v1), .val (.int v2), .val (.ref b4), .val (.long (lineF v0 (1 : Int64) (0 : Int32))), .second, .val (.long (colF v0 (1 : Int64))), .second, .val (.long ((1 : Int64) + (endsF v0 (0 : Int32)))), .second, .val (.long c1v), .second, .val (.long (lineF v1 (lineF v0 (1 : Int64) (0 : Int32)) (acF v0))), .second, .val (.long (colF v1 (colF v0 (1 : Int64)))), .second, .val (.long (((1 : Int64) + (endsF v0 (0 : Int32))) + (endsF v1 bv))), .second, .val (.long c2v), .second, .val (.long (lineF v2 (lineF v1 (lineF v0 (1 : Int64) (0 : Int32)) (acF v0)) (acF v1))), .second, .val (.long (colF v2 (colF v1 (colF v0 (1 : Int64))))), .second, .val (.long ((((1 : Int64) + (endsF v0 (0 : Int32))) + (endsF v1 bv)) + (endsF v2 dv))), .second, .val (.long (4 : Int64)), .second] [])) (fun t kt => ?_) ?_
                  · refine X22.ldc2Long hx hown (mvT hZ (hw _ (List.mem_of_getElem? (i := 42) rfl))) (g := (mkF m 225 #[.val (.int p0), .val (.int p1), .val (.int p2), .val (.int v0), .val (.int v1), .val (.int v2), .val (.ref b4), .val (.long (lineF v0 (1 : Int64) (0 : Int32))), .second, .val (.long (colF v0 (1 : Int64))), .second, .val (.long ((1 : Int64) + (endsF v0 (0 : Int32)))), .second, .val (.long c1v), .second, .val (.long (lineF v1 (lineF v0 (1 : Int64) (0 : Int32)) (acF v0))), .second, .val (.long (colF v1 (colF v0 (1 : Int64)))), .second, .val (.long (((1 : Int64) + (endsF v0 (0 : Int32))) + (endsF v1 bv))), .second, .val (.long c2v), .second, .val (.long (lineF v2 (lineF v1 (lineF v0 (1 : Int64) (0 : Int32)) (acF v0)) (acF v1))), .second, .val (.long (colF v2 (colF v1 (colF v0 (1 : Int64))))), .second, .val (.long ((((1 : Int64) + (endsF v0 (0 : Int32))) + (endsF v1 bv)) + (endsF v2 dv))), .second, .unset, .unset] [])) rfl (hb hby at_225) _ ?_
                    show Steps p.tables e below (T22.setTop (mkF m 228 #[.val (.int p0), .val (.int p1), .val (.int p2), .val (.int v0), .val (.int v1), .val (.int v2), .val (.ref b4), .val (.long (lineF v0 (1 : Int64) (0 : Int32))), .second, .val (.long (colF v0 (1 : Int64))), .second, .val (.long ((1 : Int64) + (endsF v0 (0 : Int32)))), .second, .val (.long c1v), .second, .val (.long (lineF v1 (lineF v0 (1 : Int64) (0 : Int32)) (acF v0))), .second, .val (.long (colF v1 (colF v0 (1 : Int64)))), .second, .val (.long (((1 : Int64) + (endsF v0 (0 : Int32))) + (endsF v1 bv))), .second, .val (.long c2v), .second, .val (.long (lineF v2 (lineF v1 (lineF v0 (1 : Int64) (0 : Int32)) (acF v0)) (acF v1))), .second, .val (.long (colF v2 (colF v1 (colF v0 (1 : Int64))))), .second, .val (.long ((((1 : Int64) + (endsF v0 (0 : Int32))) + (endsF v1 bv)) + (endsF v2 dv))), .second, .unset, .unset] [(.long (4 : Int64))])) _
                    refine XS.lstore X22.here hx rfl (hb hby at_228) rfl (l' := #[.val (.int p0), .val (.int p1), .val (.int p2), .val (.int v0), .val (.int v1), .val (.int v2), .val (.ref b4), .val (.long (lineF v0 (1 : Int64) (0 : Int32))), .second, .val (.long (colF v0 (1 : Int64))), .second, .val (.long ((1 : Int64) + (endsF v0 (0 : Int32)))), .second, .val (.long c1v), .second, .val (.long (lineF v1 (lineF v0 (1 : Int64) (0 : Int32)) (acF v0))), .second, .val (.long (colF v1 (colF v0 (1 : Int64)))), .second, .val (.long (((1 : Int64) + (endsF v0 (0 : Int32))) + (endsF v1 bv))), .second, .val (.long c2v), .second, .val (.long (lineF v2 (lineF v1 (lineF v0 (1 : Int64) (0 : Int32)) (acF v0)) (acF v1))), .second, .val (.long (colF v2 (colF v1 (colF v0 (1 : Int64))))), .second, .val (.long ((((1 : Int64) + (endsF v0 (0 : Int32))) + (endsF v1 bv)) + (endsF v2 dv))), .second, .val (.long (4 : Int64)), .second]) rfl ?_
                    exact kt
                  exact cE _ _ X22 e22 N22 _ (by rw [own_c1 _ _ hc191_11, own_c1 _ _ hc203_12, own_c1 _ _ hc216_13, own_e2, own_e3]; exact own_e4)
                · refine Goes.step (A := T22.setTop (mkF m 219 #[.val (.int p0), .val (.int p1), .val (.int p2), .val (.int v0), .val (.int v1), .val (.int v2), .val (.ref b4), .val (.long (lineF v0 (1 : Int64) (0 : Int32))), .second, .val (.long (colF v0 (1 : Int64))), .second, .val (.long ((1 : Int64) + (endsF v0 (0 : Int32)))), .second, .val (.long c1v), .second, .val (.long (lineF v1 (lineF v0 (1 : Int64) (0 : Int32)) (acF v0))), .second, .val (.long (colF v1 (colF v0 (1 : Int64)))), .second, .val (.long (((1 : Int64) + (endsF v0 (0 : Int32))) + (endsF v1 bv))), .second, .val (.long c2v), .second, .val (.long (lineF v2 (lineF v1 (lineF v0 (1 : Int64) (0 : Int32)) (acF v0)) (acF v1))), .second, .val (.long (colF v2 (colF v1 (colF v0 (1 : Int64))))), .second, .val (.long ((((1 : Int64) + (endsF v0 (0 : Int32))) + (endsF v1 bv)) + (endsF v2 dv))), .second, .unset, .unset] [])) (fun t kt => XS.ifNo X22.here hx rfl (hb hby at_216) rfl ((if0 _ _).trans (feq hc216_13).1) kt) ?_
                  refine Goes.step (A := T22.setTop (mkF m 230 #[.val (.int p0), .val (.int p1), .val (.int p2), .val (.int v0), .val (.int v1), .val (.int v2), .val (.ref b4), .val (.long (lineF v0 (1 : Int64) (0 : Int32))), .second, .val (.long (colF v0 (1 : Int64))), .second, .val (.long ((1 : Int64) + (endsF v0 (0 : Int32)))), .second, .val (.long c1v), .second, .val (.long (lineF v1 (lineF v0 (1 : Int64) (0 : Int32)) (acF v0))), .second, .val (.long (colF v1 (colF v0 (1 : Int64)))), .second, .val (.long (((1 : Int64) + (endsF v0 (0 : Int32))) + (endsF v1 bv))), .second, .val (.long c2v), .second, .val (.long (lineF v2 (lineF v1 (lineF v0 (1 : Int64) (0 : Int32)) (acF v0)) (acF v1))), .second, .val (.long (colF v2 (colF v1 (colF v0 (1 : Int64))))), .second, .val (.long ((((1 : Int64) + (endsF v0 (0 : Int32))) + (endsF v1 bv)) + (endsF v2 dv))), .second, .val (.long (3 : Int64)), .second] [])) (fun t kt => ?_) ?_
                  · refine X22.ldc2Long hx hown (mvT hZ (hw _ (List.mem_of_getElem? (i := 41) rfl))) (g := (mkF m 219 #[.val (.int p0), .val (.int p1), .val (.int p2), .val (.int v0), .val (.int v1), .val (.int v2), .val (.ref b4), .val (.long (lineF v0 (1 : Int64) (0 : Int32))), .second, .val (.long (colF v0 (1 : Int64))), .second, .val (.long ((1 : Int64) + (endsF v0 (0 : Int32)))), .second, .val (.long c1v), .second, .val (.long (lineF v1 (lineF v0 (1 : Int64) (0 : Int32)) (acF v0))), .second, .val (.long (colF v1 (colF v0 (1 : Int64)))), .second, .val (.long (((1 : Int64) + (endsF v0 (0 : Int32))) + (endsF v1 bv))), .second, .val (.long c2v), .second, .val (.long (lineF v2 (lineF v1 (lineF v0 (1 : Int64) (0 : Int32)) (acF v0)) (acF v1))), .second, .val (.long (colF v2 (colF v1 (colF v0 (1 : Int64))))), .second, .val (.long ((((1 : Int64) + (endsF v0 (0 : Int32))) + (endsF v1 bv)) + (endsF v2 dv))), .second, .unset, .unset] [])) rfl (hb hby at_219) _ ?_
                    show Steps p.tables e below (T22.setTop (mkF m 222 #[.val (.int p0), .val (.int p1), .val (.int p2), .val (.int v0), .val (.int v1), .val (.int v2), .val (.ref b4), .val (.long (lineF v0 (1 : Int64) (0 : Int32))), .second, .val (.long (colF v0 (1 : Int64))), .second, .val (.long ((1 : Int64) + (endsF v0 (0 : Int32)))), .second, .val (.long c1v), .second, .val (.long (lineF v1 (lineF v0 (1 : Int64) (0 : Int32)) (acF v0))), .second, .val (.long (colF v1 (colF v0 (1 : Int64)))), .second, .val (.long (((1 : Int64) + (endsF v0 (0 : Int32))) + (endsF v1 bv))), .second, .val (.long c2v), .second, .val (.long (lineF v2 (lineF v1 (lineF v0 (1 : Int64) (0 : Int32)) (acF v0)) (acF v1))), .second, .val (.long (colF v2 (colF v1 (colF v0 (1 : Int64))))), .second, .val (.long ((((1 : Int64) + (endsF v0 (0 : Int32))) + (endsF v1 bv)) + (endsF v2 dv))), .second, .unset, .unset] [(.long (3 : Int64))])) _
                    refine XS.goto X22.here hx rfl (pc0 := 222) (pc' := 228) rfl (hb hby at_222) (by decide) (by decide) ?_
                    show Steps p.tables e below (T22.setTop (mkF m 228 #[.val (.int p0), .val (.int p1), .val (.int p2), .val (.int v0), .val (.int v1), .val (.int v2), .val (.ref b4), .val (.long (lineF v0 (1 : Int64) (0 : Int32))), .second, .val (.long (colF v0 (1 : Int64))), .second, .val (.long ((1 : Int64) + (endsF v0 (0 : Int32)))), .second, .val (.long c1v), .second, .val (.long (lineF v1 (lineF v0 (1 : Int64) (0 : Int32)) (acF v0))), .second, .val (.long (colF v1 (colF v0 (1 : Int64)))), .second, .val (.long (((1 : Int64) + (endsF v0 (0 : Int32))) + (endsF v1 bv))), .second, .val (.long c2v), .second, .val (.long (lineF v2 (lineF v1 (lineF v0 (1 : Int64) (0 : Int32)) (acF v0)) (acF v1))), .second, .val (.long (colF v2 (colF v1 (colF v0 (1 : Int64))))), .second, .val (.long ((((1 : Int64) + (endsF v0 (0 : Int32))) + (endsF v1 bv)) + (endsF v2 dv))), .second, .unset, .unset] [(.long (3 : Int64))])) _
                    refine XS.lstore X22.here hx rfl (hb hby at_228) rfl (l' := #[.val (.int p0), .val (.int p1), .val (.int p2), .val (.int v0), .val (.int v1), .val (.int v2), .val (.ref b4), .val (.long (lineF v0 (1 : Int64) (0 : Int32))), .second, .val (.long (colF v0 (1 : Int64))), .second, .val (.long ((1 : Int64) + (endsF v0 (0 : Int32)))), .second, .val (.long c1v), .second, .val (.long (lineF v1 (lineF v0 (1 : Int64) (0 : Int32)) (acF v0))), .second, .val (.long (colF v1 (colF v0 (1 : Int64)))), .second, .val (.long (((1 : Int64) + (endsF v0 (0 : Int32))) + (endsF v1 bv))), .second, .val (.long c2v), .second, .val (.long (lineF v2 (lineF v1 (lineF v0 (1 : Int64) (0 : Int32)) (acF v0)) (acF v1))), .second, .val (.long (colF v2 (colF v1 (colF v0 (1 : Int64))))), .second, .val (.long ((((1 : Int64) + (endsF v0 (0 : Int32))) + (endsF v1 bv)) + (endsF v2 dv))), .second, .val (.long (3 : Int64)), .second]) rfl ?_
                    exact kt
                  exact cE _ _ X22 e22 N22 _ (by rw [own_c1 _ _ hc191_11, own_c1 _ _ hc203_12, own_c0 _ _ hc216_13, own_e2]; exact own_e3)
              · refine Goes.step (A := T21.setTop (mkF m 206 #[.val (.int p0), .val (.int p1), .val (.int p2), .val (.int v0), .val (.int v1), .val (.int v2), .val (.ref b4), .val (.long (lineF v0 (1 : Int64) (0 : Int32))), .second, .val (.long (colF v0 (1 : Int64))), .second, .val (.long ((1 : Int64) + (endsF v0 (0 : Int32)))), .second, .val (.long c1v), .second, .val (.long (lineF v1 (lineF v0 (1 : Int64) (0 : Int32)) (acF v0))), .second, .val (.long (colF v1 (colF v0 (1 : Int64)))), .second, .val (.long (((1 : Int64) + (endsF v0 (0 : Int32))) + (endsF v1 bv))), .second, .val (.long c2v), .second, .val (.long (lineF v2 (lineF v1 (lineF v0 (1 : Int64) (0 : Int32)) (acF v0)) (acF v1))), .second, .val (.long (colF v2 (colF v1 (colF v0 (1 : Int64))))), .second, .val (.long ((((1 : Int64) + (endsF v0 (0 : Int32))) + (endsF v1 bv)) + (endsF v2 dv))), .second, .unset, .unset] [])) (fun t kt => XS.ifNo X21.here hx rfl (hb hby at_203) rfl ((if0 _ _).trans (feq hc203_12).1) kt) ?_
                refine Goes.step (A := T21.setTop (mkF m 230 #[.val (.int p0), .val (.int p1), .val (.int p2), .val (.int v0), .val (.int v1), .val (.int v2), .val (.ref b4), .val (.long (lineF v0 (1 : Int64) (0 : Int32))), .second, .val (.long (colF v0 (1 : Int64))), .second, .val (.long ((1 : Int64) + (endsF v0 (0 : Int32)))), .second, .val (.long c1v), .second, .val (.long (lineF v1 (lineF v0 (1 : Int64) (0 : Int32)) (acF v0))), .second, .val (.long (colF v1 (colF v0 (1 : Int64)))), .second, .val (.long (((1 : Int64) + (endsF v0 (0 : Int32))) + (endsF v1 bv))), .second, .val (.long c2v), .second, .val (.long (lineF v2 (lineF v1 (lineF v0 (1 : Int64) (0 : Int32)) (acF v0)) (acF v1))), .second, .val (.long (colF v2 (colF v1 (colF v0 (1 : Int64))))), .second, .val (.long ((((1 : Int64) + (endsF v0 (0 : Int32))) + (endsF v1 bv)) + (endsF v2 dv))), .second, .val (.long (2 : Int64)), .second] [])) (fun t kt => ?_) ?_
                · refine X21.ldc2Long hx hown (mvT hZ (hw _ (List.mem_of_getElem? (i := 40) rfl))) (g := (mkF m 206 #[.val (.int p0), .val (.int p1), .val (.int p2), .val (.int v0), .val (.int v1), .val (.int v2), .val (.ref b4), .val (.long (lineF v0 (1 : Int64) (0 : Int32))), .second, .val (.long (colF v0 (1 : Int64))), .second, .val (.long ((1 : Int64) + (endsF v0 (0 : Int32)))), .second, .val (.long c1v), .second, .val (.long (lineF v1 (lineF v0 (1 : Int64) (0 : Int32)) (acF v0))), .second, .val (.long (colF v1 (colF v0 (1 : Int64)))), .second, .val (.long (((1 : Int64) + (endsF v0 (0 : Int32))) + (endsF v1 bv))), .second, .val (.long c2v), .second, .val (.long (lineF v2 (lineF v1 (lineF v0 (1 : Int64) (0 : Int32)) (acF v0)) (acF v1))), .second, .val (.long (colF v2 (colF v1 (colF v0 (1 : Int64))))), .second, .val (.long ((((1 : Int64) + (endsF v0 (0 : Int32))) + (endsF v1 bv)) + (endsF v2 dv))), .second, .unset, .unset] [])) rfl (hb hby at_206) _ ?_
                  show Steps p.tables e below (T21.setTop (mkF m 209 #[.val (.int p0), .val (.int p1), .val (.int p2), .val (.int v0), .val (.int v1), .val (.int v2), .val (.ref b4), .val (.long (lineF v0 (1 : Int64) (0 : Int32))), .second, .val (.long (colF v0 (1 : Int64))), .second, .val (.long ((1 : Int64) + (endsF v0 (0 : Int32)))), .second, .val (.long c1v), .second, .val (.long (lineF v1 (lineF v0 (1 : Int64) (0 : Int32)) (acF v0))), .second, .val (.long (colF v1 (colF v0 (1 : Int64)))), .second, .val (.long (((1 : Int64) + (endsF v0 (0 : Int32))) + (endsF v1 bv))), .second, .val (.long c2v), .second, .val (.long (lineF v2 (lineF v1 (lineF v0 (1 : Int64) (0 : Int32)) (acF v0)) (acF v1))), .second, .val (.long (colF v2 (colF v1 (colF v0 (1 : Int64))))), .second, .val (.long ((((1 : Int64) + (endsF v0 (0 : Int32))) + (endsF v1 bv)) + (endsF v2 dv))), .second, .unset, .unset] [(.long (2 : Int64))])) _
                  refine XS.goto X21.here hx rfl (pc0 := 209) (pc' := 228) rfl (hb hby at_209) (by decide) (by decide) ?_
                  show Steps p.tables e below (T21.setTop (mkF m 228 #[.val (.int p0), .val (.int p1), .val (.int p2), .val (.int v0), .val (.int v1), .val (.int v2), .val (.ref b4), .val (.long (lineF v0 (1 : Int64) (0 : Int32))), .second, .val (.long (colF v0 (1 : Int64))), .second, .val (.long ((1 : Int64) + (endsF v0 (0 : Int32)))), .second, .val (.long c1v), .second, .val (.long (lineF v1 (lineF v0 (1 : Int64) (0 : Int32)) (acF v0))), .second, .val (.long (colF v1 (colF v0 (1 : Int64)))), .second, .val (.long (((1 : Int64) + (endsF v0 (0 : Int32))) + (endsF v1 bv))), .second, .val (.long c2v), .second, .val (.long (lineF v2 (lineF v1 (lineF v0 (1 : Int64) (0 : Int32)) (acF v0)) (acF v1))), .second, .val (.long (colF v2 (colF v1 (colF v0 (1 : Int64))))), .second, .val (.long ((((1 : Int64) + (endsF v0 (0 : Int32))) + (endsF v1 bv)) + (endsF v2 dv))), .second, .unset, .unset] [(.long (2 : Int64))])) _
                  refine XS.lstore X21.here hx rfl (hb hby at_228) rfl (l' := #[.val (.int p0), .val (.int p1), .val (.int p2), .val (.int v0), .val (.int v1), .val (.int v2), .val (.ref b4), .val (.long (lineF v0 (1 : Int64) (0 : Int32))), .second, .val (.long (colF v0 (1 : Int64))), .second, .val (.long ((1 : Int64) + (endsF v0 (0 : Int32)))), .second, .val (.long c1v), .second, .val (.long (lineF v1 (lineF v0 (1 : Int64) (0 : Int32)) (acF v0))), .second, .val (.long (colF v1 (colF v0 (1 : Int64)))), .second, .val (.long (((1 : Int64) + (endsF v0 (0 : Int32))) + (endsF v1 bv))), .second, .val (.long c2v), .second, .val (.long (lineF v2 (lineF v1 (lineF v0 (1 : Int64) (0 : Int32)) (acF v0)) (acF v1))), .second, .val (.long (colF v2 (colF v1 (colF v0 (1 : Int64))))), .second, .val (.long ((((1 : Int64) + (endsF v0 (0 : Int32))) + (endsF v1 bv)) + (endsF v2 dv))), .second, .val (.long (2 : Int64)), .second]) rfl ?_
                  exact kt
                exact cE _ _ X21 e21 N21 _ (by rw [own_c1 _ _ hc191_11, own_c0 _ _ hc203_12]; exact own_e2)
            · refine Goes.step (A := T20.setTop (mkF m 194 #[.val (.int p0), .val (.int p1), .val (.int p2), .val (.int v0), .val (.int v1), .val (.int v2), .val (.ref b4), .val (.long (lineF v0 (1 : Int64) (0 : Int32))), .second, .val (.long (colF v0 (1 : Int64))), .second, .val (.long ((1 : Int64) + (endsF v0 (0 : Int32)))), .second, .val (.long c1v), .second, .val (.long (lineF v1 (lineF v0 (1 : Int64) (0 : Int32)) (acF v0))), .second, .val (.long (colF v1 (colF v0 (1 : Int64)))), .second, .val (.long (((1 : Int64) + (endsF v0 (0 : Int32))) + (endsF v1 bv))), .second, .val (.long c2v), .second, .val (.long (lineF v2 (lineF v1 (lineF v0 (1 : Int64) (0 : Int32)) (acF v0)) (acF v1))), .second, .val (.long (colF v2 (colF v1 (colF v0 (1 : Int64))))), .second, .val (.long ((((1 : Int64) + (endsF v0 (0 : Int32))) + (endsF v1 bv)) + (endsF v2 dv))), .second, .unset, .unset] [])) (fun t kt => XS.ifNo X20.here hx rfl (hb hby at_191) rfl ((if0 _ _).trans (feq hc191_11).1) kt) ?_
              refine Goes.step (A := T20.setTop (mkF m 230 #[.val (.int p0), .val (.int p1), .val (.int p2), .val (.int v0), .val (.int v1), .val (.int v2), .val (.ref b4), .val (.long (lineF v0 (1 : Int64) (0 : Int32))), .second, .val (.long (colF v0 (1 : Int64))), .second, .val (.long ((1 : Int64) + (endsF v0 (0 : Int32)))), .second, .val (.long c1v), .second, .val (.long (lineF v1 (lineF v0 (1 : Int64) (0 : Int32)) (acF v0))), .second, .val (.long (colF v1 (colF v0 (1 : Int64)))), .second, .val (.long (((1 : Int64) + (endsF v0 (0 : Int32))) + (endsF v1 bv))), .second, .val (.long c2v), .second, .val (.long (lineF v2 (lineF v1 (lineF v0 (1 : Int64) (0 : Int32)) (acF v0)) (acF v1))), .second, .val (.long (colF v2 (colF v1 (colF v0 (1 : Int64))))), .second, .val (.long ((((1 : Int64) + (endsF v0 (0 : Int32))) + (endsF v1 bv)) + (endsF v2 dv))), .second, .val (.long (1 : Int64)), .second] [])) (fun t kt => ?_) ?_
              · refine XS.lconst X20.here hx rfl (hb hby at_194) ?_
                show Steps p.tables e below (T20.setTop (mkF m 195 #[.val (.int p0), .val (.int p1), .val (.int p2), .val (.int v0), .val (.int v1), .val (.int v2), .val (.ref b4), .val (.long (lineF v0 (1 : Int64) (0 : Int32))), .second, .val (.long (colF v0 (1 : Int64))), .second, .val (.long ((1 : Int64) + (endsF v0 (0 : Int32)))), .second, .val (.long c1v), .second, .val (.long (lineF v1 (lineF v0 (1 : Int64) (0 : Int32)) (acF v0))), .second, .val (.long (colF v1 (colF v0 (1 : Int64)))), .second, .val (.long (((1 : Int64) + (endsF v0 (0 : Int32))) + (endsF v1 bv))), .second, .val (.long c2v), .second, .val (.long (lineF v2 (lineF v1 (lineF v0 (1 : Int64) (0 : Int32)) (acF v0)) (acF v1))), .second, .val (.long (colF v2 (colF v1 (colF v0 (1 : Int64))))), .second, .val (.long ((((1 : Int64) + (endsF v0 (0 : Int32))) + (endsF v1 bv)) + (endsF v2 dv))), .second, .unset, .unset] [(.long (1 : Int64))])) _
                refine XS.goto X20.here hx rfl (pc0 := 195) (pc' := 228) rfl (hb hby at_195) (by decide) (by decide) ?_
                show Steps p.tables e below (T20.setTop (mkF m 228 #[.val (.int p0), .val (.int p1), .val (.int p2), .val (.int v0), .val (.int v1), .val (.int v2), .val (.ref b4), .val (.long (lineF v0 (1 : Int64) (0 : Int32))), .second, .val (.long (colF v0 (1 : Int64))), .second, .val (.long ((1 : Int64) + (endsF v0 (0 : Int32)))), .second, .val (.long c1v), .second, .val (.long (lineF v1 (lineF v0 (1 : Int64) (0 : Int32)) (acF v0))), .second, .val (.long (colF v1 (colF v0 (1 : Int64)))), .second, .val (.long (((1 : Int64) + (endsF v0 (0 : Int32))) + (endsF v1 bv))), .second, .val (.long c2v), .second, .val (.long (lineF v2 (lineF v1 (lineF v0 (1 : Int64) (0 : Int32)) (acF v0)) (acF v1))), .second, .val (.long (colF v2 (colF v1 (colF v0 (1 : Int64))))), .second, .val (.long ((((1 : Int64) + (endsF v0 (0 : Int32))) + (endsF v1 bv)) + (endsF v2 dv))), .second, .unset, .unset] [(.long (1 : Int64))])) _
                refine XS.lstore X20.here hx rfl (hb hby at_228) rfl (l' := #[.val (.int p0), .val (.int p1), .val (.int p2), .val (.int v0), .val (.int v1), .val (.int v2), .val (.ref b4), .val (.long (lineF v0 (1 : Int64) (0 : Int32))), .second, .val (.long (colF v0 (1 : Int64))), .second, .val (.long ((1 : Int64) + (endsF v0 (0 : Int32)))), .second, .val (.long c1v), .second, .val (.long (lineF v1 (lineF v0 (1 : Int64) (0 : Int32)) (acF v0))), .second, .val (.long (colF v1 (colF v0 (1 : Int64)))), .second, .val (.long (((1 : Int64) + (endsF v0 (0 : Int32))) + (endsF v1 bv))), .second, .val (.long c2v), .second, .val (.long (lineF v2 (lineF v1 (lineF v0 (1 : Int64) (0 : Int32)) (acF v0)) (acF v1))), .second, .val (.long (colF v2 (colF v1 (colF v0 (1 : Int64))))), .second, .val (.long ((((1 : Int64) + (endsF v0 (0 : Int32))) + (endsF v1 bv)) + (endsF v2 dv))), .second, .val (.long (1 : Int64)), .second]) rfl ?_
                exact kt
              exact cE _ _ X20 e20 N20 _ (own_c0 _ _ hc191_11)
          by_cases hc172_14 : v1 = (13 : Int32)
          · refine Goes.step (A := T18.setTop (mkF m 175 #[.val (.int p0), .val (.int p1), .val (.int p2), .val (.int v0), .val (.int v1), .val (.int v2), .val (.ref b4), .val (.long (lineF v0 (1 : Int64) (0 : Int32))), .second, .val (.long (colF v0 (1 : Int64))), .second, .val (.long ((1 : Int64) + (endsF v0 (0 : Int32)))), .second, .val (.long c1v), .second, .val (.long (lineF v1 (lineF v0 (1 : Int64) (0 : Int32)) (acF v0))), .second, .val (.long (colF v1 (colF v0 (1 : Int64)))), .second, .val (.long (((1 : Int64) + (endsF v0 (0 : Int32))) + (endsF v1 bv))), .second, .val (.long c2v), .second, .val (.long (lineF v2 (lineF v1 (lineF v0 (1 : Int64) (0 : Int32)) (acF v0)) (acF v1))), .second, .val (.long (colF v2 (colF v1 (colF v0 (1 : Int64))))), .second, .unset, .unset, .unset, .unset] [(.int v2), (.long (((1 : Int64) + (endsF v0 (0 : Int32))) + (endsF v1 bv)))])) (fun t kt => XS.icmpNo X18.here hx rfl (hb hby at_172) rfl (teq hc172_14).2 kt) ?_
            refine Goes.step (A := T18.setTop (mkF m 180 #[.val (.int p0), .val (.int p1), .val (.int p2), .val (.int v0), .val (.int v1), .val (.int v2), .val (.ref b4), .val (.long (lineF v0 (1 : Int64) (0 : Int32))), .second, .val (.long (colF v0 (1 : Int64))), .second, .val (.long ((1 : Int64) + (endsF v0 (0 : Int32)))), .second, .val (.long c1v), .second, .val (.long (lineF v1 (lineF v0 (1 : Int64) (0 : Int32)) (acF v0))), .second, .val (.long (colF v1 (colF v0 (1 : Int64)))), .second, .val (.long (((1 : Int64) + (endsF v0 (0 : Int32))) + (endsF v1 bv))), .second, .val (.long c2v), .second, .val (.long (lineF v2 (lineF v1 (lineF v0 (1 : Int64) (0 : Int32)) (acF v0)) (acF v1))), .second, .val (.long (colF v2 (colF v1 (colF v0 (1 : Int64))))), .second, .unset, .unset, .unset, .unset] [(.int (1 : Int32)), (.int v2), (.long (((1 : Int64) + (endsF v0 (0 : Int32))) + (endsF v1 bv)))])) (fun t kt => ?_) ?_
            · refine XS.iconst X18.here hx rfl (hb hby at_175) ?_
              show Steps p.tables e below (T18.setTop (mkF m 176 #[.val (.int p0), .val (.int p1), .val (.int p2), .val (.int v0), .val (.int v1), .val (.int v2), .val (.ref b4), .val (.long (lineF v0 (1 : Int64) (0 : Int32))), .second, .val (.long (colF v0 (1 : Int64))), .second, .val (.long ((1 : Int64) + (endsF v0 (0 : Int32)))), .second, .val (.long c1v), .second, .val (.long (lineF v1 (lineF v0 (1 : Int64) (0 : Int32)) (acF v0))), .second, .val (.long (colF v1 (colF v0 (1 : Int64)))), .second, .val (.long (((1 : Int64) + (endsF v0 (0 : Int32))) + (endsF v1 bv))), .second, .val (.long c2v), .second, .val (.long (lineF v2 (lineF v1 (lineF v0 (1 : Int64) (0 : Int32)) (acF v0)) (acF v1))), .second, .val (.long (colF v2 (colF v1 (colF v0 (1 : Int64))))), .second, .unset, .unset, .unset, .unset] [(.int (1 : Int32)), (.int v2), (.long (((1 : Int64) + (endsF v0 (0 : Int32))) + (endsF v1 bv)))])) _
              refine XS.goto X18.here hx rfl (pc0 := 176) (pc' := 180) rfl (hb hby at_176) (by decide) (by decide) ?_
              exact kt
            exact cD _ (by simp [acF, hc172_14])
          · refine Goes.step (A := T18.setTop (mkF m 179 #[.val (.int p0), .val (.int p1), .val (.int p2), .val (.int v0), .val (.int v1), .val (.int v2), .val (.ref b4), .val (.long (lineF v0 (1 : Int64) (0 : Int32))), .second, .val (.long (colF v0 (1 : Int64))), .second, .val (.long ((1 : Int64) + (endsF v0 (0 : Int32)))), .second, .val (.long c1v), .second, .val (.long (lineF v1 (lineF v0 (1 : Int64) (0 : Int32)) (acF v0))), .second, .val (.long (colF v1 (colF v0 (1 : Int64)))), .second, .val (.long (((1 : Int64) + (endsF v0 (0 : Int32))) + (endsF v1 bv))), .second, .val (.long c2v), .second, .val (.long (lineF v2 (lineF v1 (lineF v0 (1 : Int64) (0 : Int32)) (acF v0)) (acF v1))), .second, .val (.long (colF v2 (colF v1 (colF v0 (1 : Int64))))), .second, .unset, .unset, .unset, .unset] [(.int v2), (.long (((1 : Int64) + (endsF v0 (0 : Int32))) + (endsF v1 bv)))])) (fun t kt => XS.icmpYes X18.here hx rfl (pc0 := 172) (pc' := 179) rfl (hb hby at_172) rfl (feq hc172_14).2 (by decide) (by decide) kt) ?_
            refine Goes.step (A := T18.setTop (mkF m 180 #[.val (.int p0), .val (.int p1), .val (.int p2), .val (.int v0), .val (.int v1), .val (.int v2), .val (.ref b4), .val (.long (lineF v0 (1 : Int64) (0 : Int32))), .second, .val (.long (colF v0 (1 : Int64))), .second, .val (.long ((1 : Int64) + (endsF v0 (0 : Int32)))), .second, .val (.long c1v), .second, .val (.long (lineF v1 (lineF v0 (1 : Int64) (0 : Int32)) (acF v0))), .second, .val (.long (colF v1 (colF v0 (1 : Int64)))), .second, .val (.long (((1 : Int64) + (endsF v0 (0 : Int32))) + (endsF v1 bv))), .second, .val (.long c2v), .second, .val (.long (lineF v2 (lineF v1 (lineF v0 (1 : Int64) (0 : Int32)) (acF v0)) (acF v1))), .second, .val (.long (colF v2 (colF v1 (colF v0 (1 : Int64))))), .second, .unset, .unset, .unset, .unset] [(.int (0 : Int32)), (.int v2), (.long (((1 : Int64) + (endsF v0 (0 : Int32))) + (endsF v1 bv)))])) (fun t kt => ?_) ?_
            · refine XS.iconst X18.here hx rfl (hb hby at_179) ?_
              exact kt
            exact cD _ (by simp [acF, hc172_14])
        by_cases hc118_15 : (nlF v1) = (0 : Int32)
        · refine Goes.step (A := T15.setTop (mkF m 125 #[.val (.int p0), .val (.int p1), .val (.int p2), .val (.int v0), .val (.int v1), .val (.int v2), .val (.ref b4), .val (.long (lineF v0 (1 : Int64) (0 : Int32))), .second, .val (.long (colF v0 (1 : Int64))), .second, .val (.long ((1 : Int64) + (endsF v0 (0 : Int32)))), .second, .val (.long c1v), .second, .val (.long (lineF v1 (lineF v0 (1 : Int64) (0 : Int32)) (acF v0))), .second, .val (.long (colF v1 (colF v0 (1 : Int64)))), .second, .val (.long (((1 : Int64) + (endsF v0 (0 : Int32))) + (endsF v1 bv))), .second, .unset, .unset, .unset, .unset, .unset, .unset, .unset, .unset, .unset, .unset] [])) (fun t kt => XS.ifYes X15.here hx rfl (pc0 := 118) (pc' := 125) rfl (hb hby at_118) rfl ((if0 _ _).trans (teq hc118_15).1) (by decide) (by decide) kt) ?_
          refine Goes.step (A := T15.setTop (mkF m 126 #[.val (.int p0), .val (.int p1), .val (.int p2), .val (.int v0), .val (.int v1), .val (.int v2), .val (.ref b4), .val (.long (lineF v0 (1 : Int64) (0 : Int32))), .second, .val (.long (colF v0 (1 : Int64))), .second, .val (.long ((1 : Int64) + (endsF v0 (0 : Int32)))), .second, .val (.long c1v), .second, .val (.long (lineF v1 (lineF v0 (1 : Int64) (0 : Int32)) (acF v0))), .second, .val (.long (colF v1 (colF v0 (1 : Int64)))), .second, .val (.long (((1 : Int64) + (endsF v0 (0 : Int32))) + (endsF v1 bv))), .second, .unset, .unset, .unset, .unset, .unset, .unset, .unset, .unset, .unset, .unset] [(.int v0)])) (fun t kt => ?_) ?_
          · refine XS.iloadN X15.here hx rfl (hb hby at_125) rfl ?_
            exact kt
          obtain ⟨_, _, ⟨T23, L23, k23, n23⟩, -, X23, ⟨Lc23, hQ23, l23, y23, z23⟩, st23⟩ := Jvm.LawKit.callS X15 hx (y := (⟨"com/example/plnr/plnr/io/BytePlacePassPinLaw", "nl", "(I)Z"⟩ : MethodName)) hown (mvT hZ (hw _ (List.mem_of_getElem? (i := 37) rfl))) (mvT hZ (hw _ (List.mem_of_getElem? (i := 38) rfl))) (mvT hZ (hw _ (List.mem_of_getElem? (i := 2) rfl))) (mvT hZ (hw _ (List.mem_of_getElem? (i := 39) rfl))) (by decide) (backOf (W := 0) (rm8 l Z a0 hw [] v0 T11.heap n0 Z11) hZ (hw _ (List.mem_of_getElem? (i := 39) rfl)) (hw _ (List.mem_of_getElem? (i := 2) rfl)) (by decide) (by decide)) (g := (mkF m 126 #[.val (.int p0), .val (.int p1), .val (.int p2), .val (.int v0), .val (.int v1), .val (.int v2), .val (.ref b4), .val (.long (lineF v0 (1 : Int64) (0 : Int32))), .second, .val (.long (colF v0 (1 : Int64))), .second, .val (.long ((1 : Int64) + (endsF v0 (0 : Int32)))), .second, .val (.long c1v), .second, .val (.long (lineF v1 (lineF v0 (1 : Int64) (0 : Int32)) (acF v0))), .second, .val (.long (colF v1 (colF v0 (1 : Int64)))), .second, .val (.long (((1 : Int64) + (endsF v0 (0 : Int32))) + (endsF v1 bv))), .second, .unset, .unset, .unset, .unset, .unset, .unset, .unset, .unset, .unset, .unset] [(.int v0)])) rfl (by rw [hml]; rfl) (argsL := [(.int v0)]) (rest := []) (lenOf pd_5 rfl) rfl (by show 2 * 0 + _ ≤ _; exact Nat.le_of_eq rfl) (hb hby at_126) (fun _ _ => ⟨rfl, e15, (by decide : 1 + 0 ≤ _), (by decide : 3 + 0 ≤ _)⟩)
          dsimp only [Pt.U, Pt.locs, Pt.cells, Pt.slots] at X23 l23 y23 z23 st23 hQ23
          subst l23 y23 z23
          obtain ⟨rfl, N23q, e23⟩ := hQ23
          have N23 := Fr.app N15 N23q
          refine Goes.step (A := T23.setTop (mkF m 129 #[.val (.int p0), .val (.int p1), .val (.int p2), .val (.int v0), .val (.int v1), .val (.int v2), .val (.ref b4), .val (.long (lineF v0 (1 : Int64) (0 : Int32))), .second, .val (.long (colF v0 (1 : Int64))), .second, .val (.long ((1 : Int64) + (endsF v0 (0 : Int32)))), .second, .val (.long c1v), .second, .val (.long (lineF v1 (lineF v0 (1 : Int64) (0 : Int32)) (acF v0))), .second, .val (.long (colF v1 (colF v0 (1 : Int64)))), .second, .val (.long (((1 : Int64) + (endsF v0 (0 : Int32))) + (endsF v1 bv))), .second, .unset, .unset, .unset, .unset, .unset, .unset, .unset, .unset, .unset, .unset] [(.int (nlF v0))])) (fun t kt => st23 _ kt) ?_
          by_cases hc129_16 : (nlF v0) = (0 : Int32)
          · refine Goes.step (A := T23.setTop (mkF m 138 #[.val (.int p0), .val (.int p1), .val (.int p2), .val (.int v0), .val (.int v1), .val (.int v2), .val (.ref b4), .val (.long (lineF v0 (1 : Int64) (0 : Int32))), .second, .val (.long (colF v0 (1 : Int64))), .second, .val (.long ((1 : Int64) + (endsF v0 (0 : Int32)))), .second, .val (.long c1v), .second, .val (.long (lineF v1 (lineF v0 (1 : Int64) (0 : Int32)) (acF v0))), .second, .val (.long (colF v1 (colF v0 (1 : Int64)))), .second, .val (.long (((1 : Int64) + (endsF v0 (0 : Int32))) + (endsF v1 bv))), .second, .unset, .unset, .unset, .unset, .unset, .unset, .unset, .unset, .unset, .unset] [])) (fun t kt => XS.ifYes X23.here hx rfl (pc0 := 129) (pc' := 138) rfl (hb hby at_129) rfl ((if0 _ _).trans (teq hc129_16).1) (by decide) (by decide) kt) ?_
            refine Goes.step (A := T23.setTop (mkF m 143 #[.val (.int p0), .val (.int p1), .val (.int p2), .val (.int v0), .val (.int v1), .val (.int v2), .val (.ref b4), .val (.long (lineF v0 (1 : Int64) (0 : Int32))), .second, .val (.long (colF v0 (1 : Int64))), .second, .val (.long ((1 : Int64) + (endsF v0 (0 : Int32)))), .second, .val (.long c1v), .second, .val (.long (lineF v1 (lineF v0 (1 : Int64) (0 : Int32)) (acF v0))), .second, .val (.long (colF v1 (colF v0 (1 : Int64)))), .second, .val (.long (((1 : Int64) + (endsF v0 (0 : Int32))) + (endsF v1 bv))), .second, .val (.long (3 : Int64)), .second, .unset, .unset, .unset, .unset, .unset, .unset, .unset, .unset] [])) (fun t kt => ?_) ?_
            · refine X23.ldc2Long hx hown (mvT hZ (hw _ (List.mem_of_getElem? (i := 41) rfl))) (g := (mkF m 138 #[.val (.int p0), .val (.int p1), .val (.int p2), .val (.int v0), .val (.int v1), .val (.int v2), .val (.ref b4), .val (.long (lineF v0 (1 : Int64) (0 : Int32))), .second, .val (.long (colF v0 (1 : Int64))), .second, .val (.long ((1 : Int64) + (endsF v0 (0 : Int32)))), .second, .val (.long c1v), .second, .val (.long (lineF v1 (lineF v0 (1 : Int64) (0 : Int32)) (acF v0))), .second, .val (.long (colF v1 (colF v0 (1 : Int64)))), .second, .val (.long (((1 : Int64) + (endsF v0 (0 : Int32))) + (endsF v1 bv))), .second, .unset, .unset, .unset, .unset, .unset, .unset, .unset, .unset, .unset, .unset] [])) rfl (hb hby at_138) _ ?_
              show Steps p.tables e below (T23.setTop (mkF m 141 #[.val (.int p0), .val (.int p1), .val (.int p2), .val (.int v0), .val (.int v1), .val (.int v2), .val (.ref b4), .val (.long (lineF v0 (1 : Int64) (0 : Int32))), .second, .val (.long (colF v0 (1 : Int64))), .second, .val (.long ((1 : Int64) + (endsF v0 (0 : Int32)))), .second, .val (.long c1v), .second, .val (.long (lineF v1 (lineF v0 (1 : Int64) (0 : Int32)) (acF v0))), .second, .val (.long (colF v1 (colF v0 (1 : Int64)))), .second, .val (.long (((1 : Int64) + (endsF v0 (0 : Int32))) + (endsF v1 bv))), .second, .unset, .unset, .unset, .unset, .unset, .unset, .unset, .unset, .unset, .unset] [(.long (3 : Int64))])) _
              refine XS.lstore X23.here hx rfl (hb hby at_141) rfl (l' := #[.val (.int p0), .val (.int p1), .val (.int p2), .val (.int v0), .val (.int v1), .val (.int v2), .val (.ref b4), .val (.long (lineF v0 (1 : Int64) (0 : Int32))), .second, .val (.long (colF v0 (1 : Int64))), .second, .val (.long ((1 : Int64) + (endsF v0 (0 : Int32)))), .second, .val (.long c1v), .second, .val (.long (lineF v1 (lineF v0 (1 : Int64) (0 : Int32)) (acF v0))), .second, .val (.long (colF v1 (colF v0 (1 : Int64)))), .second, .val (.long (((1 : Int64) + (endsF v0 (0 : Int32))) + (endsF v1 bv))), .second, .val (.long (3 : Int64)), .second, .unset, .unset, .unset, .unset, .unset, .unset, .unset, .unset]) rfl ?_
              exact kt
            exact cC _ _ X23 e23 N23 _ (by rw [own_c1 _ _ hc118_15, own_c1 _ _ hc129_16, own_e2]; exact own_e3)
          · refine Goes.step (A := T23.setTop (mkF m 132 #[.val (.int p0), .val (.int p1), .val (.int p2), .val (.int v0), .val (.int v1), .val (.int v2), .val (.ref b4), .val (.long (lineF v0 (1 : Int64) (0 : Int32))), .second, .val (.long (colF v0 (1 : Int64))), .second, .val (.long ((1 : Int64) + (endsF v0 (0 : Int32)))), .second, .val (.long c1v), .second, .val (.long (lineF v1 (lineF v0 (1 : Int64) (0 : Int32)) (acF v0))), .second, .val (.long (colF v1 (colF v0 (1 : Int64)))), .second, .val (.long (((1 : Int64) + (endsF v0 (0 : Int32))) + (endsF v1 bv))), .second, .unset, .unset, .unset, .unset, .unset, .unset, .unset, .unset, .unset, .unset] [])) (fun t kt => XS.ifNo X23.here hx rfl (hb hby at_129) rfl ((if0 _ _).trans (feq hc129_16).1) kt) ?_
            refine Goes.step (A := T23.setTop (mkF m 143 #[.val (.int p0), .val (.int p1), .val (.int p2), .val (.int v0), .val (.int v1), .val (.int v2), .val (.ref b4), .val (.long (lineF v0 (1 : Int64) (0 : Int32))), .second, .val (.long (colF v0 (1 : Int64))), .second, .val (.long ((1 : Int64) + (endsF v0 (0 : Int32)))), .second, .val (.long c1v), .second, .val (.long (lineF v1 (lineF v0 (1 : Int64) (0 : Int32)) (acF v0))), .second, .val (.long (colF v1 (colF v0 (1 : Int64)))), .second, .val (.long (((1 : Int64) + (endsF v0 (0 : Int32))) + (endsF v1 bv))), .second, .val (.long (2 : Int64)), .second, .unset, .unset, .unset, .unset, .unset, .unset, .unset, .unset] [])) (fun t kt => ?_) ?_
            · refine X23.ldc2Long hx hown (mvT hZ (hw _ (List.mem_of_getElem? (i := 40) rfl))) (g := (mkF m 132 #[.val (.int p0), .val (.int p1), .val (.int p2), .val (.int v0), .val (.int v1), .val (.int v2), .val (.ref b4), .val (.long (lineF v0 (1 : Int64) (0 : Int32))), .second, .val (.long (colF v0 (1 : Int64))), .second, .val (.long ((1 : Int64) + (endsF v0 (0 : Int32)))), .second, .val (.long c1v), .second, .val (.long (lineF v1 (lineF v0 (1 : Int64) (0 : Int32)) (acF v0))), .second, .val (.long (colF v1 (colF v0 (1 : Int64)))), .second, .val (.long (((1 : Int64) + (endsF v0 (0 : Int32))) + (endsF v1 bv))), .second, .unset, .unset, .unset, .unset, .unset, .unset, .unset, .unset, .unset, .unset] [])) rfl (hb hby at_132) _ ?_
              show Steps p.tables e below (T23.setTop (mkF m 135 #[.val (.int p0), .val (.int p1), .val (.int p2), .val (.int v0), .val (.int v1), .val (.int v2), .val (.ref b4), .val (.long (lineF v0 (1 : Int64) (0 : Int32))), .second, .val (.long (colF v0 (1 : Int64))), .second, .val (.long ((1 : Int64) + (endsF v0 (0 : Int32)))), .second, .val (.long c1v), .second, .val (.long (lineF v1 (lineF v0 (1 : Int64) (0 : Int32)) (acF v0))), .second, .val (.long (colF v1 (colF v0 (1 : Int64)))), .second, .val (.long (((1 : Int64) + (endsF v0 (0 : Int32))) + (endsF v1 bv))), .second, .unset, .unset, .unset, .unset, .unset, .unset, .unset, .unset, .unset, .unset] [(.long (2 : Int64))])) _
              refine XS.goto X23.here hx rfl (pc0 := 135) (pc' := 141) rfl (hb hby at_135) (by decide) (by decide) ?_
              show Steps p.tables e below (T23.setTop (mkF m 141 #[.val (.int p0), .val (.int p1), .val (.int p2), .val (.int v0), .val (.int v1), .val (.int v2), .val (.ref b4), .val (.long (lineF v0 (1 : Int64) (0 : Int32))), .second, .val (.long (colF v0 (1 : Int64))), .second, .val (.long ((1 : Int64) + (endsF v0 (0 : Int32)))), .second, .val (.long c1v), .second, .val (.long (lineF v1 (lineF v0 (1 : Int64) (0 : Int32)) (acF v0))), .second, .val (.long (colF v1 (colF v0 (1 : Int64)))), .second, .val (.long (((1 : Int64) + (endsF v0 (0 : Int32))) + (endsF v1 bv))), .second, .unset, .unset, .unset, .unset, .unset, .unset, .unset, .unset, .unset, .unset] [(.long (2 : Int64))])) _
              refine XS.lstore X23.here hx rfl (hb hby at_141) rfl (l' := #[.val (.int p0), .val (.int p1), .val (.int p2), .val (.int v0), .val (.int v1), .val (.int v2), .val (.ref b4), .val (.long (lineF v0 (1 : Int64) (0 : Int32))), .second, .val (.long (colF v0 (1 : Int64))), .second, .val (.long ((1 : Int64) + (endsF v0 (0 : Int32)))), .second, .val (.long c1v), .second, .val (.long (lineF v1 (lineF v0 (1 : Int64) (0 : Int32)) (acF v0))), .second, .val (.long (colF v1 (colF v0 (1 : Int64)))), .second, .val (.long (((1 : Int64) + (endsF v0 (0 : Int32))) + (endsF v1 bv))), .second, .val (.long (2 : Int64)), .second, .unset, .unset, .unset, .unset, .unset, .unset, .unset, .unset]) rfl ?_
              exact kt
            exact cC _ _ X23 e23 N23 _ (by rw [own_c1 _ _ hc118_15, own_c0 _ _ hc129_16]; exact own_e2)
        · refine Goes.step (A := T15.setTop (mkF m 121 #[.val (.int p0), .val (.int p1), .val (.int p2), .val (.int v0), .val (.int v1), .val (.int v2), .val (.ref b4), .val (.long (lineF v0 (1 : Int64) (0 : Int32))), .second, .val (.long (colF v0 (1 : Int64))), .second, .val (.long ((1 : Int64) + (endsF v0 (0 : Int32)))), .second, .val (.long c1v), .second, .val (.long (lineF v1 (lineF v0 (1 : Int64) (0 : Int32)) (acF v0))), .second, .val (.long (colF v1 (colF v0 (1 : Int64)))), .second, .val (.long (((1 : Int64) + (endsF v0 (0 : Int32))) + (endsF v1 bv))), .second, .unset, .unset, .unset, .unset, .unset, .unset, .unset, .unset, .unset, .unset] [])) (fun t kt => XS.ifNo X15.here hx rfl (hb hby at_118) rfl ((if0 _ _).trans (feq hc118_15).1) kt) ?_
          refine Goes.step (A := T15.setTop (mkF m 143 #[.val (.int p0), .val (.int p1), .val (.int p2), .val (.int v0), .val (.int v1), .val (.int v2), .val (.ref b4), .val (.long (lineF v0 (1 : Int64) (0 : Int32))), .second, .val (.long (colF v0 (1 : Int64))), .second, .val (.long ((1 : Int64) + (endsF v0 (0 : Int32)))), .second, .val (.long c1v), .second, .val (.long (lineF v1 (lineF v0 (1 : Int64) (0 : Int32)) (acF v0))), .second, .val (.long (colF v1 (colF v0 (1 : Int64)))), .second, .val (.long (((1 : Int64) + (endsF v0 (0 : Int32))) + (endsF v1 bv))), .second, .val (.long (1 : Int64)), .second, .unset, .unset, .unset, .unset, .unset, .unset, .unset, .unset] [])) (fun t kt => ?_) ?_
          · refine XS.lconst X15.here hx rfl (hb hby at_121) ?_
            show Steps p.tables e below (T15.setTop (mkF m 122 #[.val (.int p0), .val (.int p1), .val (.int p2), .val (.int v0), .val (.int v1), .val (.int v2), .val (.ref b4), .val (.long (lineF v0 (1 : Int64) (0 : Int32))), .second, .val (.long (colF v0 (1 : Int64))), .second, .val (.long ((1 : Int64) + (endsF v0 (0 : Int32)))), .second, .val (.long c1v), .second, .val (.long (lineF v1 (lineF v0 (1 : Int64) (0 : Int32)) (acF v0))), .second, .val (.long (colF v1 (colF v0 (1 : Int64)))), .second, .val (.long (((1 : Int64) + (endsF v0 (0 : Int32))) + (endsF v1 bv))), .second, .unset, .unset, .unset, .unset, .unset, .unset, .unset, .unset, .unset, .unset] [(.long (1 : Int64))])) _
            refine XS.goto X15.here hx rfl (pc0 := 122) (pc' := 141) rfl (hb hby at_122) (by decide) (by decide) ?_
            show Steps p.tables e below (T15.setTop (mkF m 141 #[.val (.int p0), .val (.int p1), .val (.int p2), .val (.int v0), .val (.int v1), .val (.int v2), .val (.ref b4), .val (.long (lineF v0 (1 : Int64) (0 : Int32))), .second, .val (.long (colF v0 (1 : Int64))), .second, .val (.long ((1 : Int64) + (endsF v0 (0 : Int32)))), .second, .val (.long c1v), .second, .val (.long (lineF v1 (lineF v0 (1 : Int64) (0 : Int32)) (acF v0))), .second, .val (.long (colF v1 (colF v0 (1 : Int64)))), .second, .val (.long (((1 : Int64) + (endsF v0 (0 : Int32))) + (endsF v1 bv))), .second, .unset, .unset, .unset, .unset, .unset, .unset, .unset, .unset, .unset, .unset] [(.long (1 : Int64))])) _
            refine XS.lstore X15.here hx rfl (hb hby at_141) rfl (l' := #[.val (.int p0), .val (.int p1), .val (.int p2), .val (.int v0), .val (.int v1), .val (.int v2), .val (.ref b4), .val (.long (lineF v0 (1 : Int64) (0 : Int32))), .second, .val (.long (colF v0 (1 : Int64))), .second, .val (.long ((1 : Int64) + (endsF v0 (0 : Int32)))), .second, .val (.long c1v), .second, .val (.long (lineF v1 (lineF v0 (1 : Int64) (0 : Int32)) (acF v0))), .second, .val (.long (colF v1 (colF v0 (1 : Int64)))), .second, .val (.long (((1 : Int64) + (endsF v0 (0 : Int32))) + (endsF v1 bv))), .second, .val (.long (1 : Int64)), .second, .unset, .unset, .unset, .unset, .unset, .unset, .unset, .unset]) rfl ?_
            exact kt
          exact cC _ _ X15 e15 N15 _ (own_c0 _ _ hc118_15)
      by_cases hc99_17 : v0 = (13 : Int32)
      · refine Goes.step (A := T13.setTop (mkF m 102 #[.val (.int p0), .val (.int p1), .val (.int p2), .val (.int v0), .val (.int v1), .val (.int v2), .val (.ref b4), .val (.long (lineF v0 (1 : Int64) (0 : Int32))), .second, .val (.long (colF v0 (1 : Int64))), .second, .val (.long ((1 : Int64) + (endsF v0 (0 : Int32)))), .second, .val (.long c1v), .second, .val (.long (lineF v1 (lineF v0 (1 : Int64) (0 : Int32)) (acF v0))), .second, .val (.long (colF v1 (colF v0 (1 : Int64)))), .second, .unset, .unset, .unset, .unset, .unset, .unset, .unset, .unset, .unset, .unset, .unset, .unset] [(.int v1), (.long ((1 : Int64) + (endsF v0 (0 : Int32))))])) (fun t kt => XS.icmpNo X13.here hx rfl (hb hby at_99) rfl (teq hc99_17).2 kt) ?_
        refine Goes.step (A := T13.setTop (mkF m 107 #[.val (.int p0), .val (.int p1), .val (.int p2), .val (.int v0), .val (.int v1), .val (.int v2), .val (.ref b4), .val (.long (lineF v0 (1 : Int64) (0 : Int32))), .second, .val (.long (colF v0 (1 : Int64))), .second, .val (.long ((1 : Int64) + (endsF v0 (0 : Int32)))), .second, .val (.long c1v), .second, .val (.long (lineF v1 (lineF v0 (1 : Int64) (0 : Int32)) (acF v0))), .second, .val (.long (colF v1 (colF v0 (1 : Int64)))), .second, .unset, .unset, .unset, .unset, .unset, .unset, .unset, .unset, .unset, .unset, .unset, .unset] [(.int (1 : Int32)), (.int v1), (.long ((1 : Int64) + (endsF v0 (0 : Int32))))])) (fun t kt => ?_) ?_
        · refine XS.iconst X13.here hx rfl (hb hby at_102) ?_
          show Steps p.tables e below (T13.setTop (mkF m 103 #[.val (.int p0), .val (.int p1), .val (.int p2), .val (.int v0), .val (.int v1), .val (.int v2), .val (.ref b4), .val (.long (lineF v0 (1 : Int64) (0 : Int32))), .second, .val (.long (colF v0 (1 : Int64))), .second, .val (.long ((1 : Int64) + (endsF v0 (0 : Int32)))), .second, .val (.long c1v), .second, .val (.long (lineF v1 (lineF v0 (1 : Int64) (0 : Int32)) (acF v0))), .second, .val (.long (colF v1 (colF v0 (1 : Int64)))), .second, .unset, .unset, .unset, .unset, .unset, .unset, .unset, .unset, .unset, .unset, .unset, .unset] [(.int (1 : Int32)), (.int v1), (.long ((1 : Int64) + (endsF v0 (0 : Int32))))])) _
          refine XS.goto X13.here hx rfl (pc0 := 103) (pc' := 107) rfl (hb hby at_103) (by decide) (by decide) ?_
          exact kt
        exact cB _ (by simp [acF, hc99_17])
      · refine Goes.step (A := T13.setTop (mkF m 106 #[.val (.int p0), .val (.int p1), .val (.int p2), .val (.int v0), .val (.int v1), .val (.int v2), .val (.ref b4), .val (.long (lineF v0 (1 : Int64) (0 : Int32))), .second, .val (.long (colF v0 (1 : Int64))), .second, .val (.long ((1 : Int64) + (endsF v0 (0 : Int32)))), .second, .val (.long c1v), .second, .val (.long (lineF v1 (lineF v0 (1 : Int64) (0 : Int32)) (acF v0))), .second, .val (.long (colF v1 (colF v0 (1 : Int64)))), .second, .unset, .unset, .unset, .unset, .unset, .unset, .unset, .unset, .unset, .unset, .unset, .unset] [(.int v1), (.long ((1 : Int64) + (endsF v0 (0 : Int32))))])) (fun t kt => XS.icmpYes X13.here hx rfl (pc0 := 99) (pc' := 106) rfl (hb hby at_99) rfl (feq hc99_17).2 (by decide) (by decide) kt) ?_
        refine Goes.step (A := T13.setTop (mkF m 107 #[.val (.int p0), .val (.int p1), .val (.int p2), .val (.int v0), .val (.int v1), .val (.int v2), .val (.ref b4), .val (.long (lineF v0 (1 : Int64) (0 : Int32))), .second, .val (.long (colF v0 (1 : Int64))), .second, .val (.long ((1 : Int64) + (endsF v0 (0 : Int32)))), .second, .val (.long c1v), .second, .val (.long (lineF v1 (lineF v0 (1 : Int64) (0 : Int32)) (acF v0))), .second, .val (.long (colF v1 (colF v0 (1 : Int64)))), .second, .unset, .unset, .unset, .unset, .unset, .unset, .unset, .unset, .unset, .unset, .unset, .unset] [(.int (0 : Int32)), (.int v1), (.long ((1 : Int64) + (endsF v0 (0 : Int32))))])) (fun t kt => ?_) ?_
        · refine XS.iconst X13.here hx rfl (hb hby at_106) ?_
          exact kt
        exact cB _ (by simp [acF, hc99_17])
    by_cases hc59_18 : (nlF v0) = (0 : Int32)
    · refine Goes.step (A := T10.setTop (mkF m 66 #[.val (.int p0), .val (.int p1), .val (.int p2), .val (.int v0), .val (.int v1), .val (.int v2), .val (.ref b4), .val (.long (lineF v0 (1 : Int64) (0 : Int32))), .second, .val (.long (colF v0 (1 : Int64))), .second, .val (.long ((1 : Int64) + (endsF v0 (0 : Int32)))), .second, .unset, .unset, .unset, .unset, .unset, .unset, .unset, .unset, .unset, .unset, .unset, .unset, .unset, .unset, .unset, .unset, .unset, .unset] [])) (fun t kt => XS.ifYes X10.here hx rfl (pc0 := 59) (pc' := 66) rfl (hb hby at_59) rfl ((if0 _ _).trans (teq hc59_18).1) (by decide) (by decide) kt) ?_
      refine Goes.step (A := T10.setTop (mkF m 71 #[.val (.int p0), .val (.int p1), .val (.int p2), .val (.int v0), .val (.int v1), .val (.int v2), .val (.ref b4), .val (.long (lineF v0 (1 : Int64) (0 : Int32))), .second, .val (.long (colF v0 (1 : Int64))), .second, .val (.long ((1 : Int64) + (endsF v0 (0 : Int32)))), .second, .val (.long (2 : Int64)), .second, .unset, .unset, .unset, .unset, .unset, .unset, .unset, .unset, .unset, .unset, .unset, .unset, .unset, .unset, .unset, .unset] [])) (fun t kt => ?_) ?_
      · refine X10.ldc2Long hx hown (mvT hZ (hw _ (List.mem_of_getElem? (i := 40) rfl))) (g := (mkF m 66 #[.val (.int p0), .val (.int p1), .val (.int p2), .val (.int v0), .val (.int v1), .val (.int v2), .val (.ref b4), .val (.long (lineF v0 (1 : Int64) (0 : Int32))), .second, .val (.long (colF v0 (1 : Int64))), .second, .val (.long ((1 : Int64) + (endsF v0 (0 : Int32)))), .second, .unset, .unset, .unset, .unset, .unset, .unset, .unset, .unset, .unset, .unset, .unset, .unset, .unset, .unset, .unset, .unset, .unset, .unset] [])) rfl (hb hby at_66) _ ?_
        show Steps p.tables e below (T10.setTop (mkF m 69 #[.val (.int p0), .val (.int p1), .val (.int p2), .val (.int v0), .val (.int v1), .val (.int v2), .val (.ref b4), .val (.long (lineF v0 (1 : Int64) (0 : Int32))), .second, .val (.long (colF v0 (1 : Int64))), .second, .val (.long ((1 : Int64) + (endsF v0 (0 : Int32)))), .second, .unset, .unset, .unset, .unset, .unset, .unset, .unset, .unset, .unset, .unset, .unset, .unset, .unset, .unset, .unset, .unset, .unset, .unset] [(.long (2 : Int64))])) _
        refine XS.lstore X10.here hx rfl (hb hby at_69) rfl (l' := #[.val (.int p0), .val (.int p1), .val (.int p2), .val (.int v0), .val (.int v1), .val (.int v2), .val (.ref b4), .val (.long (lineF v0 (1 : Int64) (0 : Int32))), .second, .val (.long (colF v0 (1 : Int64))), .second, .val (.long ((1 : Int64) + (endsF v0 (0 : Int32)))), .second, .val (.long (2 : Int64)), .second, .unset, .unset, .unset, .unset, .unset, .unset, .unset, .unset, .unset, .unset, .unset, .unset, .unset, .unset, .unset, .unset]) rfl ?_
        exact kt
      exact cA _ ((own_c1 _ _ hc59_18).trans own_e2)
    · refine Goes.step (A := T10.setTop (mkF m 62 #[.val (.int p0), .val (.int p1), .val (.int p2), .val (.int v0), .val (.int v1), .val (.int v2), .val (.ref b4), .val (.long (lineF v0 (1 : Int64) (0 : Int32))), .second, .val (.long (colF v0 (1 : Int64))), .second, .val (.long ((1 : Int64) + (endsF v0 (0 : Int32)))), .second, .unset, .unset, .unset, .unset, .unset, .unset, .unset, .unset, .unset, .unset, .unset, .unset, .unset, .unset, .unset, .unset, .unset, .unset] [])) (fun t kt => XS.ifNo X10.here hx rfl (hb hby at_59) rfl ((if0 _ _).trans (feq hc59_18).1) kt) ?_
      refine Goes.step (A := T10.setTop (mkF m 71 #[.val (.int p0), .val (.int p1), .val (.int p2), .val (.int v0), .val (.int v1), .val (.int v2), .val (.ref b4), .val (.long (lineF v0 (1 : Int64) (0 : Int32))), .second, .val (.long (colF v0 (1 : Int64))), .second, .val (.long ((1 : Int64) + (endsF v0 (0 : Int32)))), .second, .val (.long (1 : Int64)), .second, .unset, .unset, .unset, .unset, .unset, .unset, .unset, .unset, .unset, .unset, .unset, .unset, .unset, .unset, .unset, .unset] [])) (fun t kt => ?_) ?_
      · refine XS.lconst X10.here hx rfl (hb hby at_62) ?_
        show Steps p.tables e below (T10.setTop (mkF m 63 #[.val (.int p0), .val (.int p1), .val (.int p2), .val (.int v0), .val (.int v1), .val (.int v2), .val (.ref b4), .val (.long (lineF v0 (1 : Int64) (0 : Int32))), .second, .val (.long (colF v0 (1 : Int64))), .second, .val (.long ((1 : Int64) + (endsF v0 (0 : Int32)))), .second, .unset, .unset, .unset, .unset, .unset, .unset, .unset, .unset, .unset, .unset, .unset, .unset, .unset, .unset, .unset, .unset, .unset, .unset] [(.long (1 : Int64))])) _
        refine XS.goto X10.here hx rfl (pc0 := 63) (pc' := 69) rfl (hb hby at_63) (by decide) (by decide) ?_
        show Steps p.tables e below (T10.setTop (mkF m 69 #[.val (.int p0), .val (.int p1), .val (.int p2), .val (.int v0), .val (.int v1), .val (.int v2), .val (.ref b4), .val (.long (lineF v0 (1 : Int64) (0 : Int32))), .second, .val (.long (colF v0 (1 : Int64))), .second, .val (.long ((1 : Int64) + (endsF v0 (0 : Int32)))), .second, .unset, .unset, .unset, .unset, .unset, .unset, .unset, .unset, .unset, .unset, .unset, .unset, .unset, .unset, .unset, .unset, .unset, .unset] [(.long (1 : Int64))])) _
        refine XS.lstore X10.here hx rfl (hb hby at_69) rfl (l' := #[.val (.int p0), .val (.int p1), .val (.int p2), .val (.int v0), .val (.int v1), .val (.int v2), .val (.ref b4), .val (.long (lineF v0 (1 : Int64) (0 : Int32))), .second, .val (.long (colF v0 (1 : Int64))), .second, .val (.long ((1 : Int64) + (endsF v0 (0 : Int32)))), .second, .val (.long (1 : Int64)), .second, .unset, .unset, .unset, .unset, .unset, .unset, .unset, .unset, .unset, .unset, .unset, .unset, .unset, .unset, .unset, .unset]) rfl ?_
        exact kt
      exact cA _ (own_c0 _ _ hc59_18)
  exact c0 _ _ X3 e3 N3 _ _ _
set_option maxRecDepth 65536 in
set_option maxHeartbeats 40000000 in
theorem comes_1 {Post : Tables → Env → Array Value → State → Outcome → State → Prop} (hpost : ∀ tb e args s v u, (limb_1_1.after args s (.returned v) u = true ∧ limb_1_2.after args s (.returned v) u = true ∧ True) → FrameEnd s (.returned v) u (Jvm.fieldLocs frame_1_writes args s ++ Jvm.arrayLocs frame_1_arrays args s ++ Jvm.staticLocs frame_1_statics s) 16 128 → Post tb e args s (.returned v) u) :
    ArmFor flags0 classFile x code maxLocals ret World_1 tables_1 room_1 Calls_1 rest_1 Pre_1 Post := by
  intro l hfl _ _ p e ha hc hk s m args below hf hA hF happ hP
  obtain ⟨hcalls, hrest, hpre⟩ := hP
  obtain ⟨-, -, -, hnamed, -, -, -, hat⟩ := (Spec.applies_iff hf).mp happ
  obtain ⟨hg, hn⟩ := and_e (Cond.before_iff.mp (show (Jvm.Cond.and given_1 narrow_1).before args s = true from hpre))
  obtain ⟨hcnt, hr0⟩ := and_e hg
  obtain ⟨ha0, hr1⟩ := and_e hr0
  obtain ⟨ha1, hr2⟩ := and_e hr1
  obtain ⟨w0, w1, w2, rfl⟩ : ∃ w0 w1 w2 : Value, args = #[w0, w1, w2] := by
    have hs : args.size = 3 := by simpa [Cond.value, given_1] using hcnt
    obtain ⟨L⟩ := args
    match L, hs with
    | [w0, w1, w2], _ => exact ⟨w0, w1, w2, rfl⟩
  have hw := fun d (hd : d ∈ tables_1) => atoms_spec (ws := Jvm.Cond.code x code maxLocals ret :: tables_1) hat d (List.mem_cons_of_mem _ hd)
  obtain ⟨i0, ei0⟩ := is_v ha0
  obtain rfl : w0 = (.int i0) := Option.some.inj ei0
  obtain ⟨i1, ei1⟩ := is_v ha1
  obtain rfl : w1 = (.int i1) := Option.some.inj ei1
  obtain ⟨i2, ei2⟩ := is_v hr2
  obtain rfl : w2 = (.int i2) := Option.some.inj ei2
  obtain ⟨n, o, h1, h2, h3, _, L, rfl, ⟨rfl, N⟩, hq⟩ := rm0 l s _ hw tables_1 i0 i1 i2 s.heap s.heap.size (Nat.le_refl _) p e ha hc hk s m _ below hf ((Spec.applies_iff_loose hf).mp happ).1 ⟨rfl, State.Warmed39.refl s, rfl⟩ trivial
  refine ⟨n, _, h1, h2, h3, hpost _ _ _ _ _ _ ⟨Cond.after_iff.mpr rfl, Cond.after_iff.mpr (eq_i res_at (Term.int_eval (1)) rfl), trivial⟩ ⟨hq.1, hq.2.1, (hq.2.2.sift fun y hy => Or.inr (N y hy)).mono (by decide) (by decide)⟩⟩
theorem main_1_1 : Claimed_1_1 := comes_1 fun _ _ _ _ _ _ h hF => ⟨h.1, hF⟩
theorem main_1_2 : Claimed_1_2 := comes_1 fun _ _ _ _ _ _ h hF => ⟨h.2.1, hF⟩
end Jvm.Pilot.@@N@@
namespace Jvm.Pilot.@@N@@
open Jvm Jvm.ClassFile Sem Op Lib Jvm.Free Jvm.Stand Jvm.Pilot.@@N@@.Jvm.D
/-! MADE BY PROGRAM (witnessworld.py) out of the Statement's table words and the real class files: 9 classes; the members and pool entries that the words name. The judged class is class 1, her method 4. -/
namespace start1
open Jvm.ClassFile
def u (s : String) : CpInfo := .utf8 (stringToUtf16 s)
/-- a pool by its gaps: so many unusable entries, then the entry; so many at the end -/
def gap : Nat → List CpInfo → List CpInfo
  | 0, r => r
  | n + 1, r => .unusable :: gap n r
def poolList (es : List (Nat × CpInfo)) (last : Nat) : List CpInfo := es.foldr (fun e r => gap e.1 (e.2 :: r)) (gap last [])
def pool (es : List (Nat × CpInfo)) (last : Nat) : Array CpInfo := ⟨poolList es last⟩
def fileOf (pool : Array CpInfo) (this : Nat) (attrs : Array Attribute := #[]) (ms : Array MethodInfo := #[]) (fl : Nat := 33) (sup : Nat := 0) (ifs : Array Nat := #[]) (fds : Array FieldInfo := #[]) : ClassFile where
  minorVersion := 0
  majorVersion := 65
  constantPool := pool
  accessFlags := fl
  thisClass := this
  superClass := sup
  interfaces := ifs
  fields := fds
  methods := ms
  attributes := attrs
def plain (name : String) (sup : Option ClassId) : Class where
  name := name
  kind := .ordinary
  loader := none
  accessFlags := 33
  super := sup
  interfaces := #[]
  cf := none
  fields := #[]
  methods := #[]
  instanceTypes := #[]
  staticTypes := #[]
  resolved := #[]
  callSites := []
  init := .initialized
  statics := none
  mirror := none

def pool0 : Array CpInfo := pool [(5, u "<init>"), (0, u "()V"), (1, .class_ 10), (1, u "java/lang/Object")] 113

def k0c0 : Code := { maxStack := 0, maxLocals := 1, code := object_method_1_code, exceptionTable := #[], attributes := #[] }
def k0m0 : Method := { name := "<init>", desc := "()V", sig := { parameters := [], returnType := none }, accessFlags := 1, code := some k0c0 }
/-- java/lang/Object -/
def k0 : Class := { plain "java/lang/Object" none with
  accessFlags := 33
  interfaces := #[]
  cf := some (fileOf pool0 8 #[] #[{ accessFlags := 1, nameIndex := 5, descriptorIndex := 6, attributes := #[] }] 33 0 #[] #[])
  fields := #[]
  methods := #[k0m0]
  instanceTypes := #[]
  staticTypes := #[]
  resolved := Array.replicate 124 none
  statics := none }

def pool1 : Array CpInfo := pool [(2, .class_ 4), (0, .nameAndType 5 6), (0, u "java/lang/Object"), (0, u "<init>"), (0, u "()V"), (0, .methodref 8 9), (0, .class_ 10), (0, .nameAndType 11 12), (0, u "com/example/plnr/plnr/io/BytePlacePassPinLaw"), (0, u "draw"), (0, u "(I)I"), (0, .class_ 14), (0, u "com/example/plnr/plnr/io/BytePlace"), (0, .methodref 13 3), (0, .methodref 13 17), (0, .nameAndType 18 19), (0, u "pass"), (0, u "(I)V"), (0, .methodref 13 21), (0, .nameAndType 22 23), (0, u "line"), (0, u "()J"), (0, .methodref 13 25), (0, .nameAndType 26 23), (0, u "column"), (0, .methodref 8 28), (0, .nameAndType 29 30), (0, u "ends"), (0, u "(IZ)J"), (0, .methodref 8 32), (0, .nameAndType 33 34), (0, u "nl"), (0, u "(I)Z"), (0, .long 2), (1, .long 3), (1, .long 4), (4, u "law"), (0, u "(III)Z")] 2

def k1m0 : Method := { name := "<init>", desc := "()V", sig := { parameters := [], returnType := none }, accessFlags := 1, code := none }
def k1c1 : Code := { maxStack := 2, maxLocals := 2, code := method_2_code, exceptionTable := #[], attributes := #[] }
def k1m1 : Method := { name := "draw", desc := "(I)I", sig := { parameters := [.int], returnType := some .int }, accessFlags := 10, code := some k1c1 }
def k1c2 : Code := { maxStack := 2, maxLocals := 1, code := method_3_code, exceptionTable := #[], attributes := #[] }
def k1m2 : Method := { name := "nl", desc := "(I)Z", sig := { parameters := [.int], returnType := some .boolean }, accessFlags := 10, code := some k1c2 }
def k1c3 : Code := { maxStack := 2, maxLocals := 2, code := method_4_code, exceptionTable := #[], attributes := #[] }
def k1m3 : Method := { name := "ends", desc := "(IZ)J", sig := { parameters := [.int, .boolean], returnType := some .long }, accessFlags := 10, code := some k1c3 }
def k1c4 : Code := { maxStack := 5, maxLocals := 31, code := code, exceptionTable := #[], attributes := #[] }
def k1m4 : Method := { name := "law", desc := "(III)Z", sig := { parameters := [.int, .int, .int], returnType := some .boolean }, accessFlags := 9, code := some k1c4 }
/-- com/example/plnr/plnr/io/BytePlacePassPinLaw -/
def k1 : Class := { plain "com/example/plnr/plnr/io/BytePlacePassPinLaw" (some 0) with
  accessFlags := 49
  interfaces := #[]
  cf := some (fileOf pool1 8 #[] #[{ accessFlags := 1, nameIndex := 5, descriptorIndex := 6, attributes := #[] }, { accessFlags := 10, nameIndex := 11, descriptorIndex := 12, attributes := #[] }, { accessFlags := 10, nameIndex := 33, descriptorIndex := 34, attributes := #[] }, { accessFlags := 10, nameIndex := 29, descriptorIndex := 30, attributes := #[] }, { accessFlags := 9, nameIndex := 44, descriptorIndex := 45, attributes := #[] }] 49 2 #[] #[])
  fields := #[]
  methods := #[k1m0, k1m1, k1m2, k1m3, k1m4]
  instanceTypes := #[]
  staticTypes := #[]
  resolved := Array.replicate 48 none
  statics := none }

def pool2 : Array CpInfo := pool [(1, .methodref 2 3), (0, .class_ 4), (0, .nameAndType 5 6), (0, u "java/lang/Object"), (0, u "<init>"), (0, u "()V"), (0, .fieldref 8 9), (0, .class_ 10), (0, .nameAndType 11 12), (0, u "com/example/plnr/plnr/io/BytePlace"), (0, u "line"), (0, u "J"), (0, .fieldref 8 14), (0, .nameAndType 15 12), (0, u "column"), (0, .fieldref 8 17), (0, .nameAndType 18 19), (0, u "afterCarriageReturn"), (0, u "Z"), (2, u "pass"), (0, u "(I)V"), (1, u "()J")] 2

def k2c0 : Code := { maxStack := 3, maxLocals := 1, code := prog_20_method_1_code, exceptionTable := #[], attributes := #[] }
def k2m0 : Method := { name := "<init>", desc := "()V", sig := { parameters := [], returnType := none }, accessFlags := 0, code := some k2c0 }
def k2c1 : Code := { maxStack := 5, maxLocals := 2, code := prog_20_method_2_code, exceptionTable := #[], attributes := #[] }
def k2m1 : Method := { name := "pass", desc := "(I)V", sig := { parameters := [.int], returnType := none }, accessFlags := 0, code := some k2c1 }
def k2c2 : Code := { maxStack := 2, maxLocals := 1, code := prog_20_method_3_code, exceptionTable := #[], attributes := #[] }
def k2m2 : Method := { name := "line", desc := "()J", sig := { parameters := [], returnType := some .long }, accessFlags := 0, code := some k2c2 }
def k2c3 : Code := { maxStack := 2, maxLocals := 1, code := prog_20_method_4_code, exceptionTable := #[], attributes := #[] }
def k2m3 : Method := { name := "column", desc := "()J", sig := { parameters := [], returnType := some .long }, accessFlags := 0, code := some k2c3 }
/-- com/example/plnr/plnr/io/BytePlace -/
def k2 : Class := { plain "com/example/plnr/plnr/io/BytePlace" (some 0) with
  accessFlags := 48
  interfaces := #[]
  cf := some (fileOf pool2 8 #[] #[{ accessFlags := 0, nameIndex := 5, descriptorIndex := 6, attributes := #[] }, { accessFlags := 0, nameIndex := 22, descriptorIndex := 23, attributes := #[] }, { accessFlags := 0, nameIndex := 11, descriptorIndex := 25, attributes := #[] }, { accessFlags := 0, nameIndex := 15, descriptorIndex := 25, attributes := #[] }] 48 2 #[] #[{ accessFlags := 2, nameIndex := 11, descriptorIndex := 12, attributes := #[] }, { accessFlags := 2, nameIndex := 15, descriptorIndex := 12, attributes := #[] }, { accessFlags := 2, nameIndex := 18, descriptorIndex := 19, attributes := #[] }])
  fields := #[{ name := "line", type := .long, accessFlags := 2, slot := 0, constantValue := 0 }, { name := "column", type := .long, accessFlags := 2, slot := 1, constantValue := 0 }, { name := "afterCarriageReturn", type := .boolean, accessFlags := 2, slot := 2, constantValue := 0 }]
  methods := #[k2m0, k2m1, k2m2, k2m3]
  instanceTypes := #[.long, .long, .boolean]
  staticTypes := #[]
  resolved := Array.replicate 28 none
  statics := none }

def pool3 : Array CpInfo := pool [(1, u "java/lang/Cloneable"), (0, .class_ 1), (0, u "java/lang/Object"), (0, .class_ 3)] 3

/-- java/lang/Cloneable -/
def k3 : Class := { plain "java/lang/Cloneable" (some 0) with
  accessFlags := 1537
  interfaces := #[]
  cf := some (fileOf pool3 2 #[] #[] 1537 4 #[] #[])
  fields := #[]
  methods := #[]
  instanceTypes := #[]
  staticTypes := #[]
  resolved := Array.replicate 8 none
  statics := none }

def pool4 : Array CpInfo := pool [(1, u "java/io/Serializable"), (0, .class_ 1), (0, u "java/lang/Object"), (0, .class_ 3)] 3

/-- java/io/Serializable -/
def k4 : Class := { plain "java/io/Serializable" (some 0) with
  accessFlags := 1537
  interfaces := #[]
  cf := some (fileOf pool4 2 #[] #[] 1537 4 #[] #[])
  fields := #[]
  methods := #[]
  instanceTypes := #[]
  staticTypes := #[]
  resolved := Array.replicate 8 none
  statics := none }

/-- the primitive byte -/
def k5 : Class := { plain "byte" none with kind := .primitive 'B', accessFlags := 0x411 }
/-- [B -/
def k6 : Class := { plain "[B" (some 0) with kind := .array 5 .byte, interfaces := #[3, 4], accessFlags := 1041 }

/-- the primitive int -/
def k7 : Class := { plain "int" none with kind := .primitive 'I', accessFlags := 0x411 }
/-- [I -/
def k8 : Class := { plain "[I" (some 0) with kind := .array 7 .int, interfaces := #[3, 4], accessFlags := 1041 }

def heap : Heap := #[]
def classes : Array Class := #[k0, k1, k2, k3, k4, k5, k6, k7, k8]
def interned : List (Array UInt16 × Addr) := []
def slotsUsed : Nat := 0
def theMethod : MethodId := ⟨1, 4⟩
def args0 : Array Value := #[.int 5, .int 7, .int 13]
def aboutOver (below : List Frame) : State where
  vm := { classes := classes, interned := interned.toArray }
  heap := heap
  slotsUsed := slotsUsed
  threads := #[{ frames := .invoking theMethod args0 :: below }]
def below0 : List Frame := [.native { method := ⟨0, 0⟩, args := #[] }]
def about1 : State := aboutOver below0
def p0 : Program := .bare "" "" ""
def e0 : Env := launch0.env 0 0 0
theorem w_frames : about1.frames = Frame.invoking theMethod args0 :: below0 := rfl
set_option maxRecDepth 65536 in
theorem w_args : argsFit about1.vm theMethod args0 = true := by decide +kernel
set_option maxRecDepth 65536 in
theorem w_heap : heapFits about1 = true := by decide +kernel
set_option maxRecDepth 65536 in
theorem w_runnable : about1.curStatus? = some .runnable := by decide +kernel
set_option maxRecDepth 65536 in
theorem w_alone : about1.alone = true := by decide +kernel
set_option maxRecDepth 65536 in
theorem w_named : about1.methodNamed? x = some theMethod := by decide +kernel
set_option maxRecDepth 65536 in
theorem w_hears : about1.hears theMethod below0 = true := by decide +kernel
set_option maxRecDepth 65536 in
theorem w_ripe : about1.ripe theMethod args0 below0 = true := by decide +kernel
theorem w_running : about1.status = .running := rfl
set_option maxRecDepth 65536 in
theorem w_room : about1.hasRoom e0.platform room_1 = true :=
  launch0.hasRoom_least _ room_1 (by decide +kernel) (by decide +kernel) (by decide +kernel) (by decide +kernel) (by decide +kernel) (by decide +kernel)
theorem allAtoms_all (ts : List Jvm.Cond) (a : Array Jvm.Value) (st : Jvm.State) : (allAtoms ts).before a st = ts.all (fun c => c.before a st) := by
  induction ts with
  | nil => rfl
  | cons c t ih =>
    show (Jvm.Cond.and c (allAtoms t)).before a st = _
    rw [Jvm.Cond.before_and, ih, List.all_cons]
def words1 : List Jvm.Cond := Jvm.Cond.code x code maxLocals ret :: tables_1
/-- a 'code' word, met by the world's own term for the bytes: nothing is compared byte by byte -/
theorem code_word {y : MethodName} {bytes : ByteArray} {mx : Nat} {rt : Option FieldType} {a : Array Value} {s : State} {m : MethodId} {meth : Method} {c : Code} (h1 : s.methodNamed? y = some m) (h2 : s.vm.method? m = some meth) (h3 : meth.code = some c) (h4 : c.code = bytes)
    (h5 : (c.maxLocals == mx && c.exceptionTable.isEmpty && decide (c.maxStack ≤ mostOperands) && decide (meth.sig.returnType = rt) && !meth.locks && decide (parseMethodDescriptor y.desc = some meth.sig)) = true) : (Jvm.Cond.code y bytes mx rt).before a s = true := by
  simp only [Bool.and_eq_true, beq_iff_eq, Bool.not_eq_true', decide_eq_true_eq] at h5
  obtain ⟨⟨⟨⟨⟨g1, g2⟩, g3⟩, g4⟩, g5⟩, g6⟩ := h5
  simp [Cond.before, Cond.holds, Cond.value, h1, h2, h3, h4, g1, g2, g3, g4, g5, g6]
def isCode : Jvm.Cond → Bool
  | .code _ _ _ _ => true
  | _ => false
theorem all_split {L : List Jvm.Cond} {P : Jvm.Cond → Bool} (h1 : L.all (fun c => isCode c || P c) = true) (h2 : ∀ c ∈ L.filter isCode, P c = true) : L.all P = true := by
  refine List.all_eq_true.mpr fun c hc => ?_
  have h := List.all_eq_true.mp h1 c hc
  rcases Bool.eq_false_or_eq_true (isCode c) with hi | hi
  · exact h2 c (List.mem_filter.mpr ⟨hc, hi⟩)
  · simpa [hi] using h
set_option maxRecDepth 65536 in
theorem w_c0 : (Jvm.Cond.code x code maxLocals ret).before args0 about1 = true := code_word (m := ⟨1, 4⟩) (meth := k1m4) (c := k1c4) (by decide +kernel) rfl rfl rfl (by decide +kernel)
set_option maxRecDepth 65536 in
theorem w_c1 : (Jvm.Cond.code ({ cls := "com/example/plnr/plnr/io/BytePlacePassPinLaw", name := "draw", desc := "(I)I" } : Jvm.MethodName) method_2_code (2 : Nat) (Option.some Jvm.ClassFile.FieldType.int)).before args0 about1 = true := code_word (m := ⟨1, 1⟩) (meth := k1m1) (c := k1c1) (by decide +kernel) rfl rfl rfl (by decide +kernel)
set_option maxRecDepth 65536 in
theorem w_c2 : (Jvm.Cond.code ({ cls := "com/example/plnr/plnr/io/BytePlace", name := "<init>", desc := "()V" } : Jvm.MethodName) prog_20_method_1_code (1 : Nat) (Option.none : Option Jvm.ClassFile.FieldType)).before args0 about1 = true := code_word (m := ⟨2, 0⟩) (meth := k2m0) (c := k2c0) (by decide +kernel) rfl rfl rfl (by decide +kernel)
set_option maxRecDepth 65536 in
theorem w_c3 : (Jvm.Cond.code ({ cls := "java/lang/Object", name := "<init>", desc := "()V" } : Jvm.MethodName) object_method_1_code (1 : Nat) (Option.none : Option Jvm.ClassFile.FieldType)).before args0 about1 = true := code_word (m := ⟨0, 0⟩) (meth := k0m0) (c := k0c0) (by decide +kernel) rfl rfl rfl (by decide +kernel)
set_option maxRecDepth 65536 in
theorem w_c4 : (Jvm.Cond.code ({ cls := "com/example/plnr/plnr/io/BytePlace", name := "pass", desc := "(I)V" } : Jvm.MethodName) prog_20_method_2_code (2 : Nat) (Option.none : Option Jvm.ClassFile.FieldType)).before args0 about1 = true := code_word (m := ⟨2, 1⟩) (meth := k2m1) (c := k2c1) (by decide +kernel) rfl rfl rfl (by decide +kernel)
set_option maxRecDepth 65536 in
theorem w_c5 : (Jvm.Cond.code ({ cls := "com/example/plnr/plnr/io/BytePlace", name := "line", desc := "()J" } : Jvm.MethodName) prog_20_method_3_code (1 : Nat) (Option.some Jvm.ClassFile.FieldType.long)).before args0 about1 = true := code_word (m := ⟨2, 2⟩) (meth := k2m2) (c := k2c2) (by decide +kernel) rfl rfl rfl (by decide +kernel)
set_option maxRecDepth 65536 in
theorem w_c6 : (Jvm.Cond.code ({ cls := "com/example/plnr/plnr/io/BytePlace", name := "column", desc := "()J" } : Jvm.MethodName) prog_20_method_4_code (1 : Nat) (Option.some Jvm.ClassFile.FieldType.long)).before args0 about1 = true := code_word (m := ⟨2, 3⟩) (meth := k2m3) (c := k2c3) (by decide +kernel) rfl rfl rfl (by decide +kernel)
set_option maxRecDepth 65536 in
theorem w_c7 : (Jvm.Cond.code ({ cls := "com/example/plnr/plnr/io/BytePlacePassPinLaw", name := "ends", desc := "(IZ)J" } : Jvm.MethodName) method_4_code (2 : Nat) (Option.some Jvm.ClassFile.FieldType.long)).before args0 about1 = true := code_word (m := ⟨1, 3⟩) (meth := k1m3) (c := k1c3) (by decide +kernel) rfl rfl rfl (by decide +kernel)
set_option maxRecDepth 65536 in
theorem w_c8 : (Jvm.Cond.code ({ cls := "com/example/plnr/plnr/io/BytePlacePassPinLaw", name := "nl", desc := "(I)Z" } : Jvm.MethodName) method_3_code (1 : Nat) (Option.some Jvm.ClassFile.FieldType.boolean)).before args0 about1 = true := code_word (m := ⟨1, 2⟩) (meth := k1m2) (c := k1c2) (by decide +kernel) rfl rfl rfl (by decide +kernel)
def codes1 : List Jvm.Cond := [Jvm.Cond.code x code maxLocals ret, Jvm.Cond.code ({ cls := "com/example/plnr/plnr/io/BytePlacePassPinLaw", name := "draw", desc := "(I)I" } : Jvm.MethodName) method_2_code (2 : Nat) (Option.some Jvm.ClassFile.FieldType.int), Jvm.Cond.code ({ cls := "com/example/plnr/plnr/io/BytePlace", name := "<init>", desc := "()V" } : Jvm.MethodName) prog_20_method_1_code (1 : Nat) (Option.none : Option Jvm.ClassFile.FieldType), Jvm.Cond.code ({ cls := "java/lang/Object", name := "<init>", desc := "()V" } : Jvm.MethodName) object_method_1_code (1 : Nat) (Option.none : Option Jvm.ClassFile.FieldType), Jvm.Cond.code ({ cls := "com/example/plnr/plnr/io/BytePlace", name := "pass", desc := "(I)V" } : Jvm.MethodName) prog_20_method_2_code (2 : Nat) (Option.none : Option Jvm.ClassFile.FieldType), Jvm.Cond.code ({ cls := "com/example/plnr/plnr/io/BytePlace", name := "line", desc := "()J" } : Jvm.MethodName) prog_20_method_3_code (1 : Nat) (Option.some Jvm.ClassFile.FieldType.long), Jvm.Cond.code ({ cls := "com/example/plnr/plnr/io/BytePlace", name := "column", desc := "()J" } : Jvm.MethodName) prog_20_method_4_code (1 : Nat) (Option.some Jvm.ClassFile.FieldType.long), Jvm.Cond.code ({ cls := "com/example/plnr/plnr/io/BytePlacePassPinLaw", name := "ends", desc := "(IZ)J" } : Jvm.MethodName) method_4_code (2 : Nat) (Option.some Jvm.ClassFile.FieldType.long), Jvm.Cond.code ({ cls := "com/example/plnr/plnr/io/BytePlacePassPinLaw", name := "nl", desc := "(I)Z" } : Jvm.MethodName) method_3_code (1 : Nat) (Option.some Jvm.ClassFile.FieldType.boolean)]
set_option maxRecDepth 65536 in
theorem codes_eq : words1.filter isCode = codes1 := rfl
theorem w_codes : ∀ c ∈ words1.filter isCode, c.before args0 about1 = true := by
  rw [codes_eq]
  intro c hc
  simp only [codes1, List.mem_cons, List.not_mem_nil, or_false] at hc
  rcases hc with rfl | rfl | rfl | rfl | rfl | rfl | rfl | rfl | rfl
  · exact w_c0
  · exact w_c1
  · exact w_c2
  · exact w_c3
  · exact w_c4
  · exact w_c5
  · exact w_c6
  · exact w_c7
  · exact w_c8
set_option maxRecDepth 65536 in
theorem w_t1 : (words1.take 24).all (fun c => isCode c || c.before args0 about1) = true := by decide +kernel
set_option maxRecDepth 65536 in
theorem w_t2 : (words1.drop 24).all (fun c => isCode c || c.before args0 about1) = true := by decide +kernel
theorem w_tables : (allAtoms (Jvm.Cond.code x code maxLocals ret :: tables_1)).before args0 about1 = true := by
  rw [allAtoms_all]
  show words1.all (fun c => c.before args0 about1) = true
  refine all_split ?_ w_codes
  rw [← List.take_append_drop 24 words1, List.all_append, w_t1, w_t2]
  rfl
set_option maxRecDepth 65536 in
theorem w_case : (Jvm.Cond.and given_1 narrow_1).before args0 about1 = true := by decide +kernel
theorem w_applies : (headSpec (Jvm.Cond.code x code maxLocals ret :: tables_1) room_1).applies x e0.platform about1 = true :=
  (Spec.applies_iff w_frames).mpr ⟨w_running, w_runnable, w_alone, w_named, w_hears, w_ripe, w_room, w_tables⟩
theorem atStart : AtStart classFile x code maxLocals ret World_1 tables_1 room_1 Calls_1 rest_1 Pre_1 launch0 p0 e0 about1 theMethod args0 below0 :=
  ⟨lists_1, trivial, launch0.admits_env _ _ _, launch0.least_env, fairChoices_fair.cas, fairChoices_fair.clock, w_frames, w_args, w_heap, w_applies, trivial, trivial, w_case⟩
end start1
theorem witness_1 : WitnessClaimed_1 := ⟨start1.p0, start1.e0, start1.about1, start1.theMethod, start1.args0, start1.below0, start1.atStart⟩
end Jvm.Pilot.@@N@@
