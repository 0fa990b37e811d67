import JvmDerived
import JvmDerived.Pilot.@@N@@Statement
import JvmDerived.Pilot.@@N@@Code
set_option linter.unusedVariables false
set_option linter.unusedSimpArgs false
namespace Jvm.RoadKit
open Sem ClassFile Op Lib Jvm.Stand Jvm.Free Jvm.LawKit
section New
variable {p : Program} {l : Launch} {e : Env} {R : Room} {s : State} {m : MethodId} {args : Array Value} {below : List Frame} {meth : Method} {c : Code} {T : State} {locs : List Loc} {cells slots : Nat}
theorem retI (X : Stand p l e R s m args below meth c T locs cells slots) (hx : p.tables.exec = Jvm.exec) {pc : Nat} {Ls : Array Slot} {z : Int32} {rest : List Value} (hret : meth.sig.returnType = some .int) (hd : decode c.code pc = .ok (.ireturn, 1)) {fs : List Frame}
    (hl : ∀ (f : JFrame) (acts : List Action), f.method = m → f.locked = none → f.entered = [] → (doReturn e (T.setTop f) acts (some (.int z))).1 = T.setFrames fs) : Steps p.tables e below (T.setTop (mkF m pc Ls (.int z :: rest))) (T.setFrames fs) := by
  have hm' : T.vm.method? m = some meth := X.method'
  have hn : narrow .int (.int z) = .int z := rfl
  show Steps p.tables e below (T.setTop { method := m, pc := pc, locals := Ls, stack := _ :: rest, locked := none }) _
  jvm_step X.here [X.here.top, hx, hd, hm', hret, hn]
  first | (intro acts; rw [hl _ acts rfl rfl rfl]) | rw [hl _ _ rfl rfl rfl]
  exact Steps.refl _
end New
end Jvm.RoadKit
namespace Jvm.Pilot.@@N@@
open Jvm Jvm.ClassFile Sem Op Lib Jvm.Free Jvm.Stand Jvm.LawKit Jvm.RoadKit Bundle Jvm.Pilot.@@N@@.Jvm.D
def Goes (tb : Tables) (e : Env) (below : List Frame) (Q : Outcome → State → Prop) (A : State) : Prop := ∃ s₂ o, Steps tb e below A s₂ ∧ s₂.status = .running ∧ Ended s₂ below o ∧ Q o s₂
theorem Goes.step {tb : Tables} {e : Env} {below : List Frame} {Q : Outcome → State → Prop} {A B : State} (h : ∀ t, Steps tb e below A t → Steps tb e below B t) (k : Goes tb e below Q A) : Goes tb e below Q B := by
  obtain ⟨s₂, o, h1, h2⟩ := k
  exact ⟨s₂, o, h _ h1, h2⟩
theorem Goes.start {tb : Tables} {e : Env} {below : List Frame} {Q : Outcome → State → Prop} {A B : State} (h : ∀ t, Steps tb e below A t → Steps tb e below B t) (k : Goes tb e below Q A) : ∃ s₂ o, Steps tb e below B s₂ ∧ s₂.status = .running ∧ Ended s₂ below o ∧ Q o s₂ := Goes.step h k
theorem Goes.done {tb : Tables} {e : Env} {below : List Frame} {Q : Outcome → State → Prop} {A s₂ : State} {o : Outcome} (h1 : Steps tb e below A s₂) (h2 : s₂.status = .running) (h3 : Ended s₂ below o) (h4 : Q o s₂) : Goes tb e below Q A := ⟨s₂, o, h1, h2, h3, h4⟩
def mebF (b : Int64) : Int64 := ((b + (1048576 : Int64)) - (1 : Int64)) / (1048576 : Int64)
def okB (b : Int64) : Prop := 0 ≤ b.toInt ∧ b.toInt ≤ 9223372036853727232
theorem own_lit1 : (1048576 : Int64).toInt = 1048576 := by decide
theorem own_lit2 : (1 : Int64).toInt = 1 := by decide
theorem own_lit3 : (1048575 : Int64).toInt = 1048575 := by decide
theorem own_lit4 : (9223372036853727232 : Int64).toInt = 9223372036853727232 := by decide
theorem own_lit0 : (0 : Int64).toInt = 0 := by decide
theorem own_meb (b : Int64) (h : okB b) : (mebF b).toInt = (b.toInt + 1048575) / 1048576 := by
  obtain ⟨h1, h2⟩ := h
  have e1 := c_ladd b 1048576
  have e2 := c_lsub (b + 1048576) 1
  rw [own_lit1] at e1; rw [own_lit2] at e2
  have r := rng64 ((b + 1048576) - 1)
  have e3 : ((b + 1048576) - 1).toInt = b.toInt + 1048575 := by omega
  have e4 := (c_ldiv ((b + 1048576) - 1) 1048576 1048576 own_lit1 (by decide)).1 (by omega)
  show (((b + (1048576 : Int64)) - (1 : Int64)) / (1048576 : Int64)).toInt = _
  rw [e4, e3]
theorem own_whole (b : Int64) (h : okB b) : ((b.toUInt64 >>> ((20 : Int32) &&& 0x3f).toInt64.toUInt64).toInt64).toInt = b.toInt / 1048576 := by
  have e := c_lushr b 20 20 (by decide) (by decide)
  rw [e]
  have r := rng64 b
  obtain ⟨h1, h2⟩ := h
  have : b.toInt % 18446744073709551616 = b.toInt := by omega
  rw [this]; rfl
theorem own_rest (b : Int64) : (b &&& (1048575 : Int64)).toInt = b.toInt % 1048576 := c_maskL b 1048575 20 (by decide) (by decide)
theorem own_eq0 (b : Int64) (h : okB b) (hr : (b &&& (1048575 : Int64)) = (0 : Int64)) : mebF b = ((b.toUInt64 >>> ((20 : Int32) &&& 0x3f).toInt64.toUInt64).toInt64) := by
  rw [← Int64.toInt_inj, own_meb b h, own_whole b h]
  have e := own_rest b
  rw [hr, own_lit0] at e
  omega
theorem own_eq1 (b : Int64) (h : okB b) (hr : ¬ (b &&& (1048575 : Int64)) = (0 : Int64)) : mebF b = (((b.toUInt64 >>> ((20 : Int32) &&& 0x3f).toInt64.toUInt64).toInt64) + (1 : Int64)) := by
  rw [← Int64.toInt_inj, own_meb b h]
  have e := own_rest b
  have w := own_whole b h
  have a := c_ladd ((b.toUInt64 >>> ((20 : Int32) &&& 0x3f).toInt64.toUInt64).toInt64) 1
  rw [w, own_lit2] at a
  have hz : ¬ b.toInt % 1048576 = 0 := fun q => hr (by rw [← Int64.toInt_inj, e, own_lit0]; exact q)
  have r := rng64 (((b.toUInt64 >>> ((20 : Int32) &&& 0x3f).toInt64.toUInt64).toInt64) + (1 : Int64))
  obtain ⟨h1, h2⟩ := h
  omega
theorem own_m (x : Int64) : 0 ≤ (x &&& (9223372036854775807 : Int64)).toInt ∧ (x &&& (9223372036854775807 : Int64)).toInt ≤ 9223372036854775807 := by
  have e := c_maskL x 9223372036854775807 63 (by decide) (by decide)
  rw [e]; have r := rng64 x; omega
theorem own_b0 (x : Int64) (h : ¬ (9223372036853727232 : Int64) < (x &&& (9223372036854775807 : Int64))) : okB (x &&& (9223372036854775807 : Int64)) := by
  rw [Int64.lt_iff_toInt_lt, own_lit4] at h
  have r := own_m x
  exact ⟨r.1, by omega⟩
theorem own_b1 (x : Int64) (h : (9223372036853727232 : Int64) < (x &&& (9223372036854775807 : Int64))) : okB ((x &&& (9223372036854775807 : Int64)) - (1048576 : Int64)) := by
  rw [Int64.lt_iff_toInt_lt, own_lit4] at h
  have r := own_m x
  have e := c_lsub (x &&& (9223372036854775807 : Int64)) 1048576
  rw [own_lit1] at e
  have r2 := rng64 ((x &&& (9223372036854775807 : Int64)) - (1048576 : Int64))
  constructor <;> omega
theorem own_base (x : Int64) : 0 ≤ ((x &&& (4398046511103 : Int64)) <<< ((20 : Int32) &&& 0x3f).toInt64).toInt ∧ ((x &&& (4398046511103 : Int64)) <<< ((20 : Int32) &&& 0x3f).toInt64).toInt ≤ 4611686018426339328 := by
  have e := c_maskL x 4398046511103 42 (by decide) (by decide)
  have s := c_lshl (x &&& (4398046511103 : Int64)) 20 20 (by decide)
  have r := rng64 ((x &&& (4398046511103 : Int64)) <<< ((20 : Int32) &&& 0x3f).toInt64)
  have rx := rng64 x
  rw [e] at s
  have e20 : ((2 ^ 20 : Nat) : Int) = 1048576 := by decide
  have e42 : ((2 ^ 42 : Nat) : Int) = 4398046511104 := by decide
  rw [e20, e42] at s
  omega
theorem own_b2 (x : Int64) : okB ((x &&& (4398046511103 : Int64)) <<< ((20 : Int32) &&& 0x3f).toInt64) := by
  have r := own_base x
  exact ⟨r.1, by omega⟩
theorem own_b3 (x : Int64) : okB (((x &&& (4398046511103 : Int64)) <<< ((20 : Int32) &&& 0x3f).toInt64) + (1 : Int64)) := by
  have r := own_base x
  have e := c_ladd ((x &&& (4398046511103 : Int64)) <<< ((20 : Int32) &&& 0x3f).toInt64) 1
  rw [own_lit2] at e
  have r2 := rng64 (((x &&& (4398046511103 : Int64)) <<< ((20 : Int32) &&& 0x3f).toInt64) + (1 : Int64))
  constructor <;> omega
theorem own_b4 (x : Int64) : okB (((x &&& (4398046511103 : Int64)) <<< ((20 : Int32) &&& 0x3f).toInt64) + (1048575 : Int64)) := by
  have r := own_base x
  have e := c_ladd ((x &&& (4398046511103 : Int64)) <<< ((20 : Int32) &&& 0x3f).toInt64) 1048575
  rw [own_lit3] at e
  have r2 := rng64 (((x &&& (4398046511103 : Int64)) <<< ((20 : Int32) &&& 0x3f).toInt64) + (1048575 : Int64))
  constructor <;> omega
theorem ef_1 (m : MethodId) (x0 : Int64) : entryFrame m #[(.long x0)] 2 = mkF m 0 #[.val (.long x0), .second] [] := by first | (simp [entryFrame, mkF, argsToLocals, Value.category]; done) | rfl
def Q1 (Z : State) (q1 : Int64) (h0 : Heap) (n0 : Nat) (v : Option Value) (h : Heap) (L : List Loc) : Prop := v = some (.long (mebF q1)) ∧ Fr n0 L ∧ h = h0
theorem d1_0 : decode prog_10_method_7_code 0 = .ok (.lload_n 0, 1) := by decide +kernel
theorem d1_1 : decode prog_10_method_7_code 1 = .ok (.ldc2_w 75, 3) := by decide +kernel
theorem d1_4 : decode prog_10_method_7_code 4 = .ok (.ladd, 1) := by decide +kernel
theorem d1_5 : decode prog_10_method_7_code 5 = .ok (.lconst 1, 1) := by decide +kernel
theorem d1_6 : decode prog_10_method_7_code 6 = .ok (.lsub, 1) := by decide +kernel
theorem d1_7 : decode prog_10_method_7_code 7 = .ok (.ldc2_w 75, 3) := by decide +kernel
theorem d1_10 : decode prog_10_method_7_code 10 = .ok (.ldiv, 1) := by decide +kernel
theorem d1_11 : decode prog_10_method_7_code 11 = .ok (.lreturn, 1) := by decide +kernel
theorem pn_1 : plainName "com/example/renkei/renkei/budget/HeapBudget" = true := by first | (simp [plainName, overriddenIn]; done) | decide +kernel
set_option maxRecDepth 65536 in
set_option maxHeartbeats 40000000 in
theorem rm1 (l : Launch) (Z : State) (a0 : Array Value) (hw : ∀ d ∈ tables_1, d.before a0 Z = true) (ws : List Jvm.Cond) (q1 : Int64) (h0 : Heap) (n0 : Nat) (Z0 : n0 ≤ h0.size) :
    MetFree l (⟨"com/example/renkei/renkei/budget/HeapBudget", "mebibytes", "(J)J"⟩ : MethodName) (head1 (Jvm.Cond.code (⟨"com/example/renkei/renkei/budget/HeapBudget", "mebibytes", "(J)J"⟩ : MethodName) prog_10_method_7_code 2 (some .long) :: ws) ({ frames := 0, cells := 0, slots := 0, locals := 0 } : Room)) (fun a U => a = #[(.long q1)] ∧ Z.Warmed39 U.vm ∧ U.heap = h0) (fun _ _ _ _ _ => True) (fun _ U o U' => ∃ v L, o = .returned v ∧ Q1 Z q1 h0 n0 v U'.heap L ∧ FrameEnd U o U' L ({ frames := 0, cells := 0, slots := 0, locals := 0 } : Room).cells ({ frames := 0, cells := 0, slots := 0, locals := 0 } : Room).slots) := by
  refine MetFree.of_bodySF (plainFor_of_name pn_1) hisR ?_
  intro p e s m args below meth c s₁ Bd hml0 hP hK
  obtain ⟨rfl, hZ, hh⟩ := hP
  have hx := Bd.exec
  have hby := Bd.bytes
  have hml : c.maxLocals = 2 := hml0
  have hown : s.vm.findClass "com/example/renkei/renkei/budget/HeapBudget" = some m.cls := findClass_of_methodNamed Bd.named
  have hnm := (name_of_methodNamed Bd.named Bd.method).1
  have X0 : Stand p l e ({ frames := 0, cells := 0, slots := 0, locals := 0 } : Room) s m #[(.long q1)] below meth c s₁ [] 0 0 := Stand.of_body Bd
  have e0 : s₁.heap = h0 := by rw [← hh, Bd.state]; rfl
  have N0 := Fr.nil n0
  refine Goes.start (Q := (fun o U' => ∃ v L, o = .returned v ∧ Q1 Z q1 h0 n0 v U'.heap L ∧ FrameEnd s o U' L ({ frames := 0, cells := 0, slots := 0, locals := 0 } : Room).cells ({ frames := 0, cells := 0, slots := 0, locals := 0 } : Room).slots)) (A := s₁.setTop (mkF m 0 #[.val (.long q1), .second] [])) (fun t k => castTop (ef_1 m q1) k) ?_
  refine Goes.step (A := s₁.setTop (mkF m 11 #[.val (.long q1), .second] [(.long (((q1 + (1048576 : Int64)) - (1 : Int64)) / (1048576 : Int64)))])) (fun t kt => ?_) ?_
  · refine XS.lloadN X0.here hx rfl (hb hby d1_0) rfl ?_
    show Steps p.tables e below (s₁.setTop (mkF m 1 #[.val (.long q1), .second] [(.long q1)])) _
    refine X0.ldc2Long hx hown (mvT hZ (hw _ (List.mem_of_getElem? (i := 5) rfl))) (g := (mkF m 1 #[.val (.long q1), .second] [(.long q1)])) rfl (hb hby d1_1) _ ?_
    show Steps p.tables e below (s₁.setTop (mkF m 4 #[.val (.long q1), .second] [(.long (1048576 : Int64)), (.long q1)])) _
    refine XS.ladd X0.here hx rfl (hb hby d1_4) rfl ?_
    show Steps p.tables e below (s₁.setTop (mkF m 5 #[.val (.long q1), .second] [(.long (q1 + (1048576 : Int64)))])) _
    refine XS.lconst X0.here hx rfl (hb hby d1_5) ?_
    show Steps p.tables e below (s₁.setTop (mkF m 6 #[.val (.long q1), .second] [(.long (1 : Int64)), (.long (q1 + (1048576 : Int64)))])) _
    refine XS.lsub X0.here hx rfl (hb hby d1_6) rfl ?_
    show Steps p.tables e below (s₁.setTop (mkF m 7 #[.val (.long q1), .second] [(.long ((q1 + (1048576 : Int64)) - (1 : Int64)))])) _
    refine X0.ldc2Long hx hown (mvT hZ (hw _ (List.mem_of_getElem? (i := 5) rfl))) (g := (mkF m 7 #[.val (.long q1), .second] [(.long ((q1 + (1048576 : Int64)) - (1 : Int64)))])) rfl (hb hby d1_7) _ ?_
    show Steps p.tables e below (s₁.setTop (mkF m 10 #[.val (.long q1), .second] [(.long (1048576 : Int64)), (.long ((q1 + (1048576 : Int64)) - (1 : Int64)))])) _
    refine XS.ldiv X0.here hx rfl (hb hby d1_10) rfl (by decide) ?_
    exact kt
  obtain ⟨fs, hr, hrun, hended, hW, hsame⟩ := X0.leave (v := some (.long (((q1 + (1048576 : Int64)) - (1 : Int64)) / (1048576 : Int64)))) (fun h => by rw [Bd.returns] at h; cases h)
  refine Goes.done ?_ hrun hended ⟨_, _, rfl, ?_, ⟨_, rfl⟩, hW, hsame.mono (by decide) (by decide)⟩
  · jvm_step X0.here [X0.here.top, hx, (hb hby d1_11), X0.method', Bd.returns, narrow]
    first | (intro acts; rw [hr _ acts rfl rfl rfl]) | rw [hr _ _ rfl rfl rfl]
    exact Steps.refl _
  · show Q1 Z q1 h0 n0 _ s₁.heap _
    rw [e0]
    exact ⟨congrArg some (congrArg Value.long (rfl)), N0, rfl⟩
theorem ef_0 (m : MethodId) (x0 : Int64) (x1 : Int32) : entryFrame m #[(.long x0), (.int x1)] maxLocals = mkF m 0 #[.val (.long x0), .second, .val (.int x1), .unset, .unset, .unset, .unset, .unset, .unset, .unset, .unset, .unset, .unset, .unset] [] := by first | (simp [entryFrame, mkF, argsToLocals, Value.category, maxLocals]; done) | rfl
def Q0 (Z : State) (q1 : Int64) (p2 : Int32) (h0 : Heap) (n0 : Nat) (v : Option Value) (h : Heap) (L : List Loc) : Prop := v = some (.int 1) ∧ Fr n0 L
theorem pn_0 : plainName "com/example/renkei/renkei/budget/HeapBudgetMebibytesPinLaw" = true := by first | (simp [plainName, overriddenIn]; done) | decide +kernel
theorem pd_0 : parseMethodDescriptor "(J)J" = some ⟨[.long], some .long⟩ := by decide +kernel
set_option maxRecDepth 65536 in
set_option maxHeartbeats 40000000 in
theorem rm0 (l : Launch) (Z : State) (a0 : Array Value) (hw : ∀ d ∈ tables_1, d.before a0 Z = true) (ws : List Jvm.Cond) (q1 : Int64) (p2 : Int32) (h0 : Heap) (n0 : Nat) (Z0 : n0 ≤ h0.size) :
    MetFree l x (head1 (Jvm.Cond.code x code maxLocals ret :: ws) room_1) (fun a U => a = #[(.long q1), (.int p2)] ∧ Z.Warmed39 U.vm ∧ U.heap = h0) (fun _ _ _ _ _ => True) (fun _ U o U' => ∃ v L, o = .returned v ∧ Q0 Z q1 p2 h0 n0 v U'.heap L ∧ FrameEnd U o U' L room_1.cells room_1.slots) := by
  refine MetFree.of_bodySF (plainFor_of_name pn_0) hisR ?_
  intro p e s m args below meth c s₁ Bd hml0 hP hK
  obtain ⟨rfl, hZ, hh⟩ := hP
  have hx := Bd.exec
  have hby := Bd.bytes
  have hml : c.maxLocals = 14 := hml0
  have hown : s.vm.findClass "com/example/renkei/renkei/budget/HeapBudgetMebibytesPinLaw" = some m.cls := findClass_of_methodNamed Bd.named
  have hnm := (name_of_methodNamed Bd.named Bd.method).1
  have X0 : Stand p l e room_1 s m #[(.long q1), (.int p2)] below meth c s₁ [] 0 0 := Stand.of_body Bd
  have e0 : s₁.heap = h0 := by rw [← hh, Bd.state]; rfl
  have N0 := Fr.nil n0
  refine Goes.start (Q := (fun o U' => ∃ v L, o = .returned v ∧ Q0 Z q1 p2 h0 n0 v U'.heap L ∧ FrameEnd s o U' L room_1.cells room_1.slots)) (A := s₁.setTop (mkF m 0 #[.val (.long q1), .second, .val (.int p2), .unset, .unset, .unset, .unset, .unset, .unset, .unset, .unset, .unset, .unset, .unset] [])) (fun t k => castTop (ef_0 m q1 p2) k) ?_
  have cont0 : ∀ (md : Int32) (bb : Int64) (hbb : okB bb), Goes p.tables e below (fun o U' => ∃ v L, o = .returned v ∧ Q0 Z q1 p2 h0 n0 v U'.heap L ∧ FrameEnd s o U' L room_1.cells room_1.slots) (s₁.setTop (mkF m 79 #[.val (.long q1), .second, .val (.int p2), .val (.int md), .val (.long bb), .second, .unset, .unset, .unset, .unset, .unset, .unset, .unset, .unset] [])) := by
    intro md bb hbb
    refine Goes.step (A := s₁.setTop (mkF m 81 #[.val (.long q1), .second, .val (.int p2), .val (.int md), .val (.long bb), .second, .unset, .unset, .unset, .unset, .unset, .unset, .unset, .unset] [(.long bb)])) (fun t kt => ?_) ?_
    · refine XS.lload X0.here hx rfl (hb hby at_79) rfl ?_
      exact kt
    obtain ⟨_, _, ⟨T1, L1, k1, n1⟩, -, X1, ⟨Lc1, hQ1, l1, y1, z1⟩, st1⟩ := Jvm.LawKit.callS X0 hx (y := (⟨"com/example/renkei/renkei/budget/HeapBudget", "mebibytes", "(J)J"⟩ : MethodName)) hown (mvT hZ (hw _ (List.mem_of_getElem? (i := 1) rfl))) (mvT hZ (hw _ (List.mem_of_getElem? (i := 2) rfl))) (mvT hZ (hw _ (List.mem_of_getElem? (i := 3) rfl))) (mvT hZ (hw _ (List.mem_of_getElem? (i := 4) rfl))) (by decide) (backOf (W := 0) (rm1 l Z a0 hw [] bb h0 n0 Z0) hZ (hw _ (List.mem_of_getElem? (i := 4) rfl)) (hw _ (List.mem_of_getElem? (i := 3) rfl)) (by decide) (by decide)) (g := (mkF m 81 #[.val (.long q1), .second, .val (.int p2), .val (.int md), .val (.long bb), .second, .unset, .unset, .unset, .unset, .unset, .unset, .unset, .unset] [(.long bb)])) rfl (by rw [hml]; rfl) (argsL := [(.long bb)]) (rest := []) (lenOf pd_0 rfl) rfl (by show 2 * 0 + _ ≤ _; exact Nat.le_of_eq rfl) (hb hby at_81) (fun _ _ => ⟨rfl, e0, (by decide : 0 + 0 ≤ _), (by decide : 0 + 0 ≤ _)⟩)
    dsimp only [Pt.U, Pt.locs, Pt.cells, Pt.slots] at X1 l1 y1 z1 st1 hQ1
    subst l1 y1 z1
    obtain ⟨rfl, N1q, e1⟩ := hQ1
    have N1 := Fr.app N0 N1q
    refine Goes.step (A := T1.setTop (mkF m 84 #[.val (.long q1), .second, .val (.int p2), .val (.int md), .val (.long bb), .second, .unset, .unset, .unset, .unset, .unset, .unset, .unset, .unset] [(.long (mebF bb))])) (fun t kt => st1 _ kt) ?_
    refine Goes.step (A := T1.setTop (mkF m 105 #[.val (.long q1), .second, .val (.int p2), .val (.int md), .val (.long bb), .second, .val (.long (mebF bb)), .second, .val (.long ((bb.toUInt64 >>> ((20 : Int32) &&& 0x3f).toInt64.toUInt64).toInt64)), .second, .val (.long (bb &&& (1048575 : Int64))), .second, .unset, .unset] [(.int (lcmpW (bb &&& (1048575 : Int64)) (0 : Int64)))])) (fun t kt => ?_) ?_
    · refine XS.lstore X1.here hx rfl (hb hby at_84) rfl (l' := #[.val (.long q1), .second, .val (.int p2), .val (.int md), .val (.long bb), .second, .val (.long (mebF bb)), .second, .unset, .unset, .unset, .unset, .unset, .unset]) rfl ?_
      show Steps p.tables e below (T1.setTop (mkF m 86 #[.val (.long q1), .second, .val (.int p2), .val (.int md), .val (.long bb), .second, .val (.long (mebF bb)), .second, .unset, .unset, .unset, .unset, .unset, .unset] [])) _
      refine XS.lload X1.here hx rfl (hb hby at_86) rfl ?_
      show Steps p.tables e below (T1.setTop (mkF m 88 #[.val (.long q1), .second, .val (.int p2), .val (.int md), .val (.long bb), .second, .val (.long (mebF bb)), .second, .unset, .unset, .unset, .unset, .unset, .unset] [(.long bb)])) _
      refine XS.bipush X1.here hx rfl (hb hby at_88) ?_
      show Steps p.tables e below (T1.setTop (mkF m 90 #[.val (.long q1), .second, .val (.int p2), .val (.int md), .val (.long bb), .second, .val (.long (mebF bb)), .second, .unset, .unset, .unset, .unset, .unset, .unset] [(.int (20 : Int32)), (.long bb)])) _
      refine XS.lushr X1.here hx rfl (hb hby at_90) rfl ?_
      show Steps p.tables e below (T1.setTop (mkF m 91 #[.val (.long q1), .second, .val (.int p2), .val (.int md), .val (.long bb), .second, .val (.long (mebF bb)), .second, .unset, .unset, .unset, .unset, .unset, .unset] [(.long ((bb.toUInt64 >>> ((20 : Int32) &&& 0x3f).toInt64.toUInt64).toInt64))])) _
      refine XS.lstore X1.here hx rfl (hb hby at_91) rfl (l' := #[.val (.long q1), .second, .val (.int p2), .val (.int md), .val (.long bb), .second, .val (.long (mebF bb)), .second, .val (.long ((bb.toUInt64 >>> ((20 : Int32) &&& 0x3f).toInt64.toUInt64).toInt64)), .second, .unset, .unset, .unset, .unset]) rfl ?_
      show Steps p.tables e below (T1.setTop (mkF m 93 #[.val (.long q1), .second, .val (.int p2), .val (.int md), .val (.long bb), .second, .val (.long (mebF bb)), .second, .val (.long ((bb.toUInt64 >>> ((20 : Int32) &&& 0x3f).toInt64.toUInt64).toInt64)), .second, .unset, .unset, .unset, .unset] [])) _
      refine XS.lload X1.here hx rfl (hb hby at_93) rfl ?_
      show Steps p.tables e below (T1.setTop (mkF m 95 #[.val (.long q1), .second, .val (.int p2), .val (.int md), .val (.long bb), .second, .val (.long (mebF bb)), .second, .val (.long ((bb.toUInt64 >>> ((20 : Int32) &&& 0x3f).toInt64.toUInt64).toInt64)), .second, .unset, .unset, .unset, .unset] [(.long bb)])) _
      refine X1.ldc2Long hx hown (mvT hZ (hw _ (List.mem_of_getElem? (i := 6) rfl))) (g := (mkF m 95 #[.val (.long q1), .second, .val (.int p2), .val (.int md), .val (.long bb), .second, .val (.long (mebF bb)), .second, .val (.long ((bb.toUInt64 >>> ((20 : Int32) &&& 0x3f).toInt64.toUInt64).toInt64)), .second, .unset, .unset, .unset, .unset] [(.long bb)])) rfl (hb hby at_95) _ ?_
      show Steps p.tables e below (T1.setTop (mkF m 98 #[.val (.long q1), .second, .val (.int p2), .val (.int md), .val (.long bb), .second, .val (.long (mebF bb)), .second, .val (.long ((bb.toUInt64 >>> ((20 : Int32) &&& 0x3f).toInt64.toUInt64).toInt64)), .second, .unset, .unset, .unset, .unset] [(.long (1048575 : Int64)), (.long bb)])) _
      refine XS.land X1.here hx rfl (hb hby at_98) rfl ?_
      show Steps p.tables e below (T1.setTop (mkF m 99 #[.val (.long q1), .second, .val (.int p2), .val (.int md), .val (.long bb), .second, .val (.long (mebF bb)), .second, .val (.long ((bb.toUInt64 >>> ((20 : Int32) &&& 0x3f).toInt64.toUInt64).toInt64)), .second, .unset, .unset, .unset, .unset] [(.long (bb &&& (1048575 : Int64)))])) _
      refine XS.lstore X1.here hx rfl (hb hby at_99) rfl (l' := #[.val (.long q1), .second, .val (.int p2), .val (.int md), .val (.long bb), .second, .val (.long (mebF bb)), .second, .val (.long ((bb.toUInt64 >>> ((20 : Int32) &&& 0x3f).toInt64.toUInt64).toInt64)), .second, .val (.long (bb &&& (1048575 : Int64))), .second, .unset, .unset]) rfl ?_
      show Steps p.tables e below (T1.setTop (mkF m 101 #[.val (.long q1), .second, .val (.int p2), .val (.int md), .val (.long bb), .second, .val (.long (mebF bb)), .second, .val (.long ((bb.toUInt64 >>> ((20 : Int32) &&& 0x3f).toInt64.toUInt64).toInt64)), .second, .val (.long (bb &&& (1048575 : Int64))), .second, .unset, .unset] [])) _
      refine XS.lload X1.here hx rfl (hb hby at_101) rfl ?_
      show Steps p.tables e below (T1.setTop (mkF m 103 #[.val (.long q1), .second, .val (.int p2), .val (.int md), .val (.long bb), .second, .val (.long (mebF bb)), .second, .val (.long ((bb.toUInt64 >>> ((20 : Int32) &&& 0x3f).toInt64.toUInt64).toInt64)), .second, .val (.long (bb &&& (1048575 : Int64))), .second, .unset, .unset] [(.long (bb &&& (1048575 : Int64)))])) _
      refine XS.lconst X1.here hx rfl (hb hby at_103) ?_
      show Steps p.tables e below (T1.setTop (mkF m 104 #[.val (.long q1), .second, .val (.int p2), .val (.int md), .val (.long bb), .second, .val (.long (mebF bb)), .second, .val (.long ((bb.toUInt64 >>> ((20 : Int32) &&& 0x3f).toInt64.toUInt64).toInt64)), .second, .val (.long (bb &&& (1048575 : Int64))), .second, .unset, .unset] [(.long (0 : Int64)), (.long (bb &&& (1048575 : Int64)))])) _
      refine XS.lcmp X1.here hx rfl (hb hby at_104) rfl ?_
      exact kt
    by_cases hc105_1 : (bb &&& (1048575 : Int64)) = (0 : Int64)
    · refine Goes.step (A := T1.setTop (mkF m 115 #[.val (.long q1), .second, .val (.int p2), .val (.int md), .val (.long bb), .second, .val (.long (mebF bb)), .second, .val (.long ((bb.toUInt64 >>> ((20 : Int32) &&& 0x3f).toInt64.toUInt64).toInt64)), .second, .val (.long (bb &&& (1048575 : Int64))), .second, .unset, .unset] [])) (fun t kt => XS.ifYes X1.here hx rfl (pc0 := 105) (pc' := 115) rfl (hb hby at_105) rfl ((if0 _ _).trans (teq ((lw_eq _ _).mpr hc105_1)).1) (by decide) (by decide) kt) ?_
      refine Goes.step (A := T1.setTop (mkF m 124 #[.val (.long q1), .second, .val (.int p2), .val (.int md), .val (.long bb), .second, .val (.long (mebF bb)), .second, .val (.long ((bb.toUInt64 >>> ((20 : Int32) &&& 0x3f).toInt64.toUInt64).toInt64)), .second, .val (.long (bb &&& (1048575 : Int64))), .second, .val (.long ((bb.toUInt64 >>> ((20 : Int32) &&& 0x3f).toInt64.toUInt64).toInt64)), .second] [(.int (lcmpW (mebF bb) ((bb.toUInt64 >>> ((20 : Int32) &&& 0x3f).toInt64.toUInt64).toInt64)))])) (fun t kt => ?_) ?_
      · refine XS.lload X1.here hx rfl (hb hby at_115) rfl ?_
        show Steps p.tables e below (T1.setTop (mkF m 117 #[.val (.long q1), .second, .val (.int p2), .val (.int md), .val (.long bb), .second, .val (.long (mebF bb)), .second, .val (.long ((bb.toUInt64 >>> ((20 : Int32) &&& 0x3f).toInt64.toUInt64).toInt64)), .second, .val (.long (bb &&& (1048575 : Int64))), .second, .unset, .unset] [(.long ((bb.toUInt64 >>> ((20 : Int32) &&& 0x3f).toInt64.toUInt64).toInt64))])) _
        refine XS.lstore X1.here hx rfl (hb hby at_117) rfl (l' := #[.val (.long q1), .second, .val (.int p2), .val (.int md), .val (.long bb), .second, .val (.long (mebF bb)), .second, .val (.long ((bb.toUInt64 >>> ((20 : Int32) &&& 0x3f).toInt64.toUInt64).toInt64)), .second, .val (.long (bb &&& (1048575 : Int64))), .second, .val (.long ((bb.toUInt64 >>> ((20 : Int32) &&& 0x3f).toInt64.toUInt64).toInt64)), .second]) rfl ?_
        show Steps p.tables e below (T1.setTop (mkF m 119 #[.val (.long q1), .second, .val (.int p2), .val (.int md), .val (.long bb), .second, .val (.long (mebF bb)), .second, .val (.long ((bb.toUInt64 >>> ((20 : Int32) &&& 0x3f).toInt64.toUInt64).toInt64)), .second, .val (.long (bb &&& (1048575 : Int64))), .second, .val (.long ((bb.toUInt64 >>> ((20 : Int32) &&& 0x3f).toInt64.toUInt64).toInt64)), .second] [])) _
        refine XS.lload X1.here hx rfl (hb hby at_119) rfl ?_
        show Steps p.tables e below (T1.setTop (mkF m 121 #[.val (.long q1), .second, .val (.int p2), .val (.int md), .val (.long bb), .second, .val (.long (mebF bb)), .second, .val (.long ((bb.toUInt64 >>> ((20 : Int32) &&& 0x3f).toInt64.toUInt64).toInt64)), .second, .val (.long (bb &&& (1048575 : Int64))), .second, .val (.long ((bb.toUInt64 >>> ((20 : Int32) &&& 0x3f).toInt64.toUInt64).toInt64)), .second] [(.long (mebF bb))])) _
        refine XS.lload X1.here hx rfl (hb hby at_121) rfl ?_
        show Steps p.tables e below (T1.setTop (mkF m 123 #[.val (.long q1), .second, .val (.int p2), .val (.int md), .val (.long bb), .second, .val (.long (mebF bb)), .second, .val (.long ((bb.toUInt64 >>> ((20 : Int32) &&& 0x3f).toInt64.toUInt64).toInt64)), .second, .val (.long (bb &&& (1048575 : Int64))), .second, .val (.long ((bb.toUInt64 >>> ((20 : Int32) &&& 0x3f).toInt64.toUInt64).toInt64)), .second] [(.long ((bb.toUInt64 >>> ((20 : Int32) &&& 0x3f).toInt64.toUInt64).toInt64)), (.long (mebF bb))])) _
        refine XS.lcmp X1.here hx rfl (hb hby at_123) rfl ?_
        exact kt
      refine Goes.step (A := T1.setTop (mkF m 127 #[.val (.long q1), .second, .val (.int p2), .val (.int md), .val (.long bb), .second, .val (.long (mebF bb)), .second, .val (.long ((bb.toUInt64 >>> ((20 : Int32) &&& 0x3f).toInt64.toUInt64).toInt64)), .second, .val (.long (bb &&& (1048575 : Int64))), .second, .val (.long ((bb.toUInt64 >>> ((20 : Int32) &&& 0x3f).toInt64.toUInt64).toInt64)), .second] [])) (fun t kt => XS.ifNo X1.here hx rfl (hb hby at_124) rfl ((if0 _ _).trans (teq ((lw_eq _ _).mpr (own_eq0 bb hbb hc105_1 : (mebF bb) = ((bb.toUInt64 >>> ((20 : Int32) &&& 0x3f).toInt64.toUInt64).toInt64)))).2) kt) ?_
      refine Goes.step (A := T1.setTop (mkF m 132 #[.val (.long q1), .second, .val (.int p2), .val (.int md), .val (.long bb), .second, .val (.long (mebF bb)), .second, .val (.long ((bb.toUInt64 >>> ((20 : Int32) &&& 0x3f).toInt64.toUInt64).toInt64)), .second, .val (.long (bb &&& (1048575 : Int64))), .second, .val (.long ((bb.toUInt64 >>> ((20 : Int32) &&& 0x3f).toInt64.toUInt64).toInt64)), .second] [(.int (1 : Int32))])) (fun t kt => ?_) ?_
      · refine XS.iconst X1.here hx rfl (hb hby at_127) ?_
        show Steps p.tables e below (T1.setTop (mkF m 128 #[.val (.long q1), .second, .val (.int p2), .val (.int md), .val (.long bb), .second, .val (.long (mebF bb)), .second, .val (.long ((bb.toUInt64 >>> ((20 : Int32) &&& 0x3f).toInt64.toUInt64).toInt64)), .second, .val (.long (bb &&& (1048575 : Int64))), .second, .val (.long ((bb.toUInt64 >>> ((20 : Int32) &&& 0x3f).toInt64.toUInt64).toInt64)), .second] [(.int (1 : Int32))])) _
        refine XS.goto X1.here hx rfl (pc0 := 128) (pc' := 132) rfl (hb hby at_128) (by decide) (by decide) ?_
        exact kt
      obtain ⟨fs, hr, hrun, hended, hW, hsame⟩ := X1.leave (v := some (.int (1 : Int32))) (fun h => by rw [Bd.returns] at h; cases h)
      refine Goes.done ?_ hrun hended ⟨_, _, rfl, ?_, ⟨_, rfl⟩, hW, hsame.mono (by decide) (by decide)⟩
      · exact retN X1 hx (t := .boolean) Bd.returns (by simp) (hb hby at_132) hr
      · show Q0 Z q1 p2 h0 n0 _ T1.heap _
        rw [e1]
        exact ⟨rfl, N1⟩
    · refine Goes.step (A := T1.setTop (mkF m 108 #[.val (.long q1), .second, .val (.int p2), .val (.int md), .val (.long bb), .second, .val (.long (mebF bb)), .second, .val (.long ((bb.toUInt64 >>> ((20 : Int32) &&& 0x3f).toInt64.toUInt64).toInt64)), .second, .val (.long (bb &&& (1048575 : Int64))), .second, .unset, .unset] [])) (fun t kt => XS.ifNo X1.here hx rfl (hb hby at_105) rfl ((if0 _ _).trans (feq (fun q => hc105_1 ((lw_eq _ _).mp q))).1) kt) ?_
      refine Goes.step (A := T1.setTop (mkF m 124 #[.val (.long q1), .second, .val (.int p2), .val (.int md), .val (.long bb), .second, .val (.long (mebF bb)), .second, .val (.long ((bb.toUInt64 >>> ((20 : Int32) &&& 0x3f).toInt64.toUInt64).toInt64)), .second, .val (.long (bb &&& (1048575 : Int64))), .second, .val (.long (((bb.toUInt64 >>> ((20 : Int32) &&& 0x3f).toInt64.toUInt64).toInt64) + (1 : Int64))), .second] [(.int (lcmpW (mebF bb) (((bb.toUInt64 >>> ((20 : Int32) &&& 0x3f).toInt64.toUInt64).toInt64) + (1 : Int64))))])) (fun t kt => ?_) ?_
      · refine XS.lload X1.here hx rfl (hb hby at_108) rfl ?_
        show Steps p.tables e below (T1.setTop (mkF m 110 #[.val (.long q1), .second, .val (.int p2), .val (.int md), .val (.long bb), .second, .val (.long (mebF bb)), .second, .val (.long ((bb.toUInt64 >>> ((20 : Int32) &&& 0x3f).toInt64.toUInt64).toInt64)), .second, .val (.long (bb &&& (1048575 : Int64))), .second, .unset, .unset] [(.long ((bb.toUInt64 >>> ((20 : Int32) &&& 0x3f).toInt64.toUInt64).toInt64))])) _
        refine XS.lconst X1.here hx rfl (hb hby at_110) ?_
        show Steps p.tables e below (T1.setTop (mkF m 111 #[.val (.long q1), .second, .val (.int p2), .val (.int md), .val (.long bb), .second, .val (.long (mebF bb)), .second, .val (.long ((bb.toUInt64 >>> ((20 : Int32) &&& 0x3f).toInt64.toUInt64).toInt64)), .second, .val (.long (bb &&& (1048575 : Int64))), .second, .unset, .unset] [(.long (1 : Int64)), (.long ((bb.toUInt64 >>> ((20 : Int32) &&& 0x3f).toInt64.toUInt64).toInt64))])) _
        refine XS.ladd X1.here hx rfl (hb hby at_111) rfl ?_
        show Steps p.tables e below (T1.setTop (mkF m 112 #[.val (.long q1), .second, .val (.int p2), .val (.int md), .val (.long bb), .second, .val (.long (mebF bb)), .second, .val (.long ((bb.toUInt64 >>> ((20 : Int32) &&& 0x3f).toInt64.toUInt64).toInt64)), .second, .val (.long (bb &&& (1048575 : Int64))), .second, .unset, .unset] [(.long (((bb.toUInt64 >>> ((20 : Int32) &&& 0x3f).toInt64.toUInt64).toInt64) + (1 : Int64)))])) _
        refine XS.goto X1.here hx rfl (pc0 := 112) (pc' := 117) rfl (hb hby at_112) (by decide) (by decide) ?_
        show Steps p.tables e below (T1.setTop (mkF m 117 #[.val (.long q1), .second, .val (.int p2), .val (.int md), .val (.long bb), .second, .val (.long (mebF bb)), .second, .val (.long ((bb.toUInt64 >>> ((20 : Int32) &&& 0x3f).toInt64.toUInt64).toInt64)), .second, .val (.long (bb &&& (1048575 : Int64))), .second, .unset, .unset] [(.long (((bb.toUInt64 >>> ((20 : Int32) &&& 0x3f).toInt64.toUInt64).toInt64) + (1 : Int64)))])) _
        refine XS.lstore X1.here hx rfl (hb hby at_117) rfl (l' := #[.val (.long q1), .second, .val (.int p2), .val (.int md), .val (.long bb), .second, .val (.long (mebF bb)), .second, .val (.long ((bb.toUInt64 >>> ((20 : Int32) &&& 0x3f).toInt64.toUInt64).toInt64)), .second, .val (.long (bb &&& (1048575 : Int64))), .second, .val (.long (((bb.toUInt64 >>> ((20 : Int32) &&& 0x3f).toInt64.toUInt64).toInt64) + (1 : Int64))), .second]) rfl ?_
        show Steps p.tables e below (T1.setTop (mkF m 119 #[.val (.long q1), .second, .val (.int p2), .val (.int md), .val (.long bb), .second, .val (.long (mebF bb)), .second, .val (.long ((bb.toUInt64 >>> ((20 : Int32) &&& 0x3f).toInt64.toUInt64).toInt64)), .second, .val (.long (bb &&& (1048575 : Int64))), .second, .val (.long (((bb.toUInt64 >>> ((20 : Int32) &&& 0x3f).toInt64.toUInt64).toInt64) + (1 : Int64))), .second] [])) _
        refine XS.lload X1.here hx rfl (hb hby at_119) rfl ?_
        show Steps p.tables e below (T1.setTop (mkF m 121 #[.val (.long q1), .second, .val (.int p2), .val (.int md), .val (.long bb), .second, .val (.long (mebF bb)), .second, .val (.long ((bb.toUInt64 >>> ((20 : Int32) &&& 0x3f).toInt64.toUInt64).toInt64)), .second, .val (.long (bb &&& (1048575 : Int64))), .second, .val (.long (((bb.toUInt64 >>> ((20 : Int32) &&& 0x3f).toInt64.toUInt64).toInt64) + (1 : Int64))), .second] [(.long (mebF bb))])) _
        refine XS.lload X1.here hx rfl (hb hby at_121) rfl ?_
        show Steps p.tables e below (T1.setTop (mkF m 123 #[.val (.long q1), .second, .val (.int p2), .val (.int md), .val (.long bb), .second, .val (.long (mebF bb)), .second, .val (.long ((bb.toUInt64 >>> ((20 : Int32) &&& 0x3f).toInt64.toUInt64).toInt64)), .second, .val (.long (bb &&& (1048575 : Int64))), .second, .val (.long (((bb.toUInt64 >>> ((20 : Int32) &&& 0x3f).toInt64.toUInt64).toInt64) + (1 : Int64))), .second] [(.long (((bb.toUInt64 >>> ((20 : Int32) &&& 0x3f).toInt64.toUInt64).toInt64) + (1 : Int64))), (.long (mebF bb))])) _
        refine XS.lcmp X1.here hx rfl (hb hby at_123) rfl ?_
        exact kt
      refine Goes.step (A := T1.setTop (mkF m 127 #[.val (.long q1), .second, .val (.int p2), .val (.int md), .val (.long bb), .second, .val (.long (mebF bb)), .second, .val (.long ((bb.toUInt64 >>> ((20 : Int32) &&& 0x3f).toInt64.toUInt64).toInt64)), .second, .val (.long (bb &&& (1048575 : Int64))), .second, .val (.long (((bb.toUInt64 >>> ((20 : Int32) &&& 0x3f).toInt64.toUInt64).toInt64) + (1 : Int64))), .second] [])) (fun t kt => XS.ifNo X1.here hx rfl (hb hby at_124) rfl ((if0 _ _).trans (teq ((lw_eq _ _).mpr (own_eq1 bb hbb hc105_1 : (mebF bb) = (((bb.toUInt64 >>> ((20 : Int32) &&& 0x3f).toInt64.toUInt64).toInt64) + (1 : Int64))))).2) kt) ?_
      refine Goes.step (A := T1.setTop (mkF m 132 #[.val (.long q1), .second, .val (.int p2), .val (.int md), .val (.long bb), .second, .val (.long (mebF bb)), .second, .val (.long ((bb.toUInt64 >>> ((20 : Int32) &&& 0x3f).toInt64.toUInt64).toInt64)), .second, .val (.long (bb &&& (1048575 : Int64))), .second, .val (.long (((bb.toUInt64 >>> ((20 : Int32) &&& 0x3f).toInt64.toUInt64).toInt64) + (1 : Int64))), .second] [(.int (1 : Int32))])) (fun t kt => ?_) ?_
      · refine XS.iconst X1.here hx rfl (hb hby at_127) ?_
        show Steps p.tables e below (T1.setTop (mkF m 128 #[.val (.long q1), .second, .val (.int p2), .val (.int md), .val (.long bb), .second, .val (.long (mebF bb)), .second, .val (.long ((bb.toUInt64 >>> ((20 : Int32) &&& 0x3f).toInt64.toUInt64).toInt64)), .second, .val (.long (bb &&& (1048575 : Int64))), .second, .val (.long (((bb.toUInt64 >>> ((20 : Int32) &&& 0x3f).toInt64.toUInt64).toInt64) + (1 : Int64))), .second] [(.int (1 : Int32))])) _
        refine XS.goto X1.here hx rfl (pc0 := 128) (pc' := 132) rfl (hb hby at_128) (by decide) (by decide) ?_
        exact kt
      obtain ⟨fs, hr, hrun, hended, hW, hsame⟩ := X1.leave (v := some (.int (1 : Int32))) (fun h => by rw [Bd.returns] at h; cases h)
      refine Goes.done ?_ hrun hended ⟨_, _, rfl, ?_, ⟨_, rfl⟩, hW, hsame.mono (by decide) (by decide)⟩
      · exact retN X1 hx (t := .boolean) Bd.returns (by simp) (hb hby at_132) hr
      · show Q0 Z q1 p2 h0 n0 _ T1.heap _
        rw [e1]
        exact ⟨rfl, N1⟩
  have cont1 : ∀ (md : Int32) (bb bs : Int64) (hbb : okB bb), Goes p.tables e below (fun o U' => ∃ v L, o = .returned v ∧ Q0 Z q1 p2 h0 n0 v U'.heap L ∧ FrameEnd s o U' L room_1.cells room_1.slots) (s₁.setTop (mkF m 79 #[.val (.long q1), .second, .val (.int p2), .val (.int md), .val (.long bb), .second, .val (.long bs), .second, .unset, .unset, .unset, .unset, .unset, .unset] [])) := by
    intro md bb bs hbb
    refine Goes.step (A := s₁.setTop (mkF m 81 #[.val (.long q1), .second, .val (.int p2), .val (.int md), .val (.long bb), .second, .val (.long bs), .second, .unset, .unset, .unset, .unset, .unset, .unset] [(.long bb)])) (fun t kt => ?_) ?_
    · refine XS.lload X0.here hx rfl (hb hby at_79) rfl ?_
      exact kt
    obtain ⟨_, _, ⟨T2, L2, k2, n2⟩, -, X2, ⟨Lc2, hQ2, l2, y2, z2⟩, st2⟩ := Jvm.LawKit.callS X0 hx (y := (⟨"com/example/renkei/renkei/budget/HeapBudget", "mebibytes", "(J)J"⟩ : MethodName)) hown (mvT hZ (hw _ (List.mem_of_getElem? (i := 1) rfl))) (mvT hZ (hw _ (List.mem_of_getElem? (i := 2) rfl))) (mvT hZ (hw _ (List.mem_of_getElem? (i := 3) rfl))) (mvT hZ (hw _ (List.mem_of_getElem? (i := 4) rfl))) (by decide) (backOf (W := 0) (rm1 l Z a0 hw [] bb h0 n0 Z0) hZ (hw _ (List.mem_of_getElem? (i := 4) rfl)) (hw _ (List.mem_of_getElem? (i := 3) rfl)) (by decide) (by decide)) (g := (mkF m 81 #[.val (.long q1), .second, .val (.int p2), .val (.int md), .val (.long bb), .second, .val (.long bs), .second, .unset, .unset, .unset, .unset, .unset, .unset] [(.long bb)])) rfl (by rw [hml]; rfl) (argsL := [(.long bb)]) (rest := []) (lenOf pd_0 rfl) rfl (by show 2 * 0 + _ ≤ _; exact Nat.le_of_eq rfl) (hb hby at_81) (fun _ _ => ⟨rfl, e0, (by decide : 0 + 0 ≤ _), (by decide : 0 + 0 ≤ _)⟩)
    dsimp only [Pt.U, Pt.locs, Pt.cells, Pt.slots] at X2 l2 y2 z2 st2 hQ2
    subst l2 y2 z2
    obtain ⟨rfl, N2q, e2⟩ := hQ2
    have N2 := Fr.app N0 N2q
    refine Goes.step (A := T2.setTop (mkF m 84 #[.val (.long q1), .second, .val (.int p2), .val (.int md), .val (.long bb), .second, .val (.long bs), .second, .unset, .unset, .unset, .unset, .unset, .unset] [(.long (mebF bb))])) (fun t kt => st2 _ kt) ?_
    refine Goes.step (A := T2.setTop (mkF m 105 #[.val (.long q1), .second, .val (.int p2), .val (.int md), .val (.long bb), .second, .val (.long (mebF bb)), .second, .val (.long ((bb.toUInt64 >>> ((20 : Int32) &&& 0x3f).toInt64.toUInt64).toInt64)), .second, .val (.long (bb &&& (1048575 : Int64))), .second, .unset, .unset] [(.int (lcmpW (bb &&& (1048575 : Int64)) (0 : Int64)))])) (fun t kt => ?_) ?_
    · refine XS.lstore X2.here hx rfl (hb hby at_84) rfl (l' := #[.val (.long q1), .second, .val (.int p2), .val (.int md), .val (.long bb), .second, .val (.long (mebF bb)), .second, .unset, .unset, .unset, .unset, .unset, .unset]) rfl ?_
      show Steps p.tables e below (T2.setTop (mkF m 86 #[.val (.long q1), .second, .val (.int p2), .val (.int md), .val (.long bb), .second, .val (.long (mebF bb)), .second, .unset, .unset, .unset, .unset, .unset, .unset] [])) _
      refine XS.lload X2.here hx rfl (hb hby at_86) rfl ?_
      show Steps p.tables e below (T2.setTop (mkF m 88 #[.val (.long q1), .second, .val (.int p2), .val (.int md), .val (.long bb), .second, .val (.long (mebF bb)), .second, .unset, .unset, .unset, .unset, .unset, .unset] [(.long bb)])) _
      refine XS.bipush X2.here hx rfl (hb hby at_88) ?_
      show Steps p.tables e below (T2.setTop (mkF m 90 #[.val (.long q1), .second, .val (.int p2), .val (.int md), .val (.long bb), .second, .val (.long (mebF bb)), .second, .unset, .unset, .unset, .unset, .unset, .unset] [(.int (20 : Int32)), (.long bb)])) _
      refine XS.lushr X2.here hx rfl (hb hby at_90) rfl ?_
      show Steps p.tables e below (T2.setTop (mkF m 91 #[.val (.long q1), .second, .val (.int p2), .val (.int md), .val (.long bb), .second, .val (.long (mebF bb)), .second, .unset, .unset, .unset, .unset, .unset, .unset] [(.long ((bb.toUInt64 >>> ((20 : Int32) &&& 0x3f).toInt64.toUInt64).toInt64))])) _
      refine XS.lstore X2.here hx rfl (hb hby at_91) rfl (l' := #[.val (.long q1), .second, .val (.int p2), .val (.int md), .val (.long bb), .second, .val (.long (mebF bb)), .second, .val (.long ((bb.toUInt64 >>> ((20 : Int32) &&& 0x3f).toInt64.toUInt64).toInt64)), .second, .unset, .unset, .unset, .unset]) rfl ?_
      show Steps p.tables e below (T2.setTop (mkF m 93 #[.val (.long q1), .second, .val (.int p2), .val (.int md), .val (.long bb), .second, .val (.long (mebF bb)), .second, .val (.long ((bb.toUInt64 >>> ((20 : Int32) &&& 0x3f).toInt64.toUInt64).toInt64)), .second, .unset, .unset, .unset, .unset] [])) _
      refine XS.lload X2.here hx rfl (hb hby at_93) rfl ?_
      show Steps p.tables e below (T2.setTop (mkF m 95 #[.val (.long q1), .second, .val (.int p2), .val (.int md), .val (.long bb), .second, .val (.long (mebF bb)), .second, .val (.long ((bb.toUInt64 >>> ((20 : Int32) &&& 0x3f).toInt64.toUInt64).toInt64)), .second, .unset, .unset, .unset, .unset] [(.long bb)])) _
      refine X2.ldc2Long hx hown (mvT hZ (hw _ (List.mem_of_getElem? (i := 6) rfl))) (g := (mkF m 95 #[.val (.long q1), .second, .val (.int p2), .val (.int md), .val (.long bb), .second, .val (.long (mebF bb)), .second, .val (.long ((bb.toUInt64 >>> ((20 : Int32) &&& 0x3f).toInt64.toUInt64).toInt64)), .second, .unset, .unset, .unset, .unset] [(.long bb)])) rfl (hb hby at_95) _ ?_
      show Steps p.tables e below (T2.setTop (mkF m 98 #[.val (.long q1), .second, .val (.int p2), .val (.int md), .val (.long bb), .second, .val (.long (mebF bb)), .second, .val (.long ((bb.toUInt64 >>> ((20 : Int32) &&& 0x3f).toInt64.toUInt64).toInt64)), .second, .unset, .unset, .unset, .unset] [(.long (1048575 : Int64)), (.long bb)])) _
      refine XS.land X2.here hx rfl (hb hby at_98) rfl ?_
      show Steps p.tables e below (T2.setTop (mkF m 99 #[.val (.long q1), .second, .val (.int p2), .val (.int md), .val (.long bb), .second, .val (.long (mebF bb)), .second, .val (.long ((bb.toUInt64 >>> ((20 : Int32) &&& 0x3f).toInt64.toUInt64).toInt64)), .second, .unset, .unset, .unset, .unset] [(.long (bb &&& (1048575 : Int64)))])) _
      refine XS.lstore X2.here hx rfl (hb hby at_99) rfl (l' := #[.val (.long q1), .second, .val (.int p2), .val (.int md), .val (.long bb), .second, .val (.long (mebF bb)), .second, .val (.long ((bb.toUInt64 >>> ((20 : Int32) &&& 0x3f).toInt64.toUInt64).toInt64)), .second, .val (.long (bb &&& (1048575 : Int64))), .second, .unset, .unset]) rfl ?_
      show Steps p.tables e below (T2.setTop (mkF m 101 #[.val (.long q1), .second, .val (.int p2), .val (.int md), .val (.long bb), .second, .val (.long (mebF bb)), .second, .val (.long ((bb.toUInt64 >>> ((20 : Int32) &&& 0x3f).toInt64.toUInt64).toInt64)), .second, .val (.long (bb &&& (1048575 : Int64))), .second, .unset, .unset] [])) _
      refine XS.lload X2.here hx rfl (hb hby at_101) rfl ?_
      show Steps p.tables e below (T2.setTop (mkF m 103 #[.val (.long q1), .second, .val (.int p2), .val (.int md), .val (.long bb), .second, .val (.long (mebF bb)), .second, .val (.long ((bb.toUInt64 >>> ((20 : Int32) &&& 0x3f).toInt64.toUInt64).toInt64)), .second, .val (.long (bb &&& (1048575 : Int64))), .second, .unset, .unset] [(.long (bb &&& (1048575 : Int64)))])) _
      refine XS.lconst X2.here hx rfl (hb hby at_103) ?_
      show Steps p.tables e below (T2.setTop (mkF m 104 #[.val (.long q1), .second, .val (.int p2), .val (.int md), .val (.long bb), .second, .val (.long (mebF bb)), .second, .val (.long ((bb.toUInt64 >>> ((20 : Int32) &&& 0x3f).toInt64.toUInt64).toInt64)), .second, .val (.long (bb &&& (1048575 : Int64))), .second, .unset, .unset] [(.long (0 : Int64)), (.long (bb &&& (1048575 : Int64)))])) _
      refine XS.lcmp X2.here hx rfl (hb hby at_104) rfl ?_
      exact kt
    by_cases hc105_2 : (bb &&& (1048575 : Int64)) = (0 : Int64)
    · refine Goes.step (A := T2.setTop (mkF m 115 #[.val (.long q1), .second, .val (.int p2), .val (.int md), .val (.long bb), .second, .val (.long (mebF bb)), .second, .val (.long ((bb.toUInt64 >>> ((20 : Int32) &&& 0x3f).toInt64.toUInt64).toInt64)), .second, .val (.long (bb &&& (1048575 : Int64))), .second, .unset, .unset] [])) (fun t kt => XS.ifYes X2.here hx rfl (pc0 := 105) (pc' := 115) rfl (hb hby at_105) rfl ((if0 _ _).trans (teq ((lw_eq _ _).mpr hc105_2)).1) (by decide) (by decide) kt) ?_
      refine Goes.step (A := T2.setTop (mkF m 124 #[.val (.long q1), .second, .val (.int p2), .val (.int md), .val (.long bb), .second, .val (.long (mebF bb)), .second, .val (.long ((bb.toUInt64 >>> ((20 : Int32) &&& 0x3f).toInt64.toUInt64).toInt64)), .second, .val (.long (bb &&& (1048575 : Int64))), .second, .val (.long ((bb.toUInt64 >>> ((20 : Int32) &&& 0x3f).toInt64.toUInt64).toInt64)), .second] [(.int (lcmpW (mebF bb) ((bb.toUInt64 >>> ((20 : Int32) &&& 0x3f).toInt64.toUInt64).toInt64)))])) (fun t kt => ?_) ?_
      · refine XS.lload X2.here hx rfl (hb hby at_115) rfl ?_
        show Steps p.tables e below (T2.setTop (mkF m 117 #[.val (.long q1), .second, .val (.int p2), .val (.int md), .val (.long bb), .second, .val (.long (mebF bb)), .second, .val (.long ((bb.toUInt64 >>> ((20 : Int32) &&& 0x3f).toInt64.toUInt64).toInt64)), .second, .val (.long (bb &&& (1048575 : Int64))), .second, .unset, .unset] [(.long ((bb.toUInt64 >>> ((20 : Int32) &&& 0x3f).toInt64.toUInt64).toInt64))])) _
        refine XS.lstore X2.here hx rfl (hb hby at_117) rfl (l' := #[.val (.long q1), .second, .val (.int p2), .val (.int md), .val (.long bb), .second, .val (.long (mebF bb)), .second, .val (.long ((bb.toUInt64 >>> ((20 : Int32) &&& 0x3f).toInt64.toUInt64).toInt64)), .second, .val (.long (bb &&& (1048575 : Int64))), .second, .val (.long ((bb.toUInt64 >>> ((20 : Int32) &&& 0x3f).toInt64.toUInt64).toInt64)), .second]) rfl ?_
        show Steps p.tables e below (T2.setTop (mkF m 119 #[.val (.long q1), .second, .val (.int p2), .val (.int md), .val (.long bb), .second, .val (.long (mebF bb)), .second, .val (.long ((bb.toUInt64 >>> ((20 : Int32) &&& 0x3f).toInt64.toUInt64).toInt64)), .second, .val (.long (bb &&& (1048575 : Int64))), .second, .val (.long ((bb.toUInt64 >>> ((20 : Int32) &&& 0x3f).toInt64.toUInt64).toInt64)), .second] [])) _
        refine XS.lload X2.here hx rfl (hb hby at_119) rfl ?_
        show Steps p.tables e below (T2.setTop (mkF m 121 #[.val (.long q1), .second, .val (.int p2), .val (.int md), .val (.long bb), .second, .val (.long (mebF bb)), .second, .val (.long ((bb.toUInt64 >>> ((20 : Int32) &&& 0x3f).toInt64.toUInt64).toInt64)), .second, .val (.long (bb &&& (1048575 : Int64))), .second, .val (.long ((bb.toUInt64 >>> ((20 : Int32) &&& 0x3f).toInt64.toUInt64).toInt64)), .second] [(.long (mebF bb))])) _
        refine XS.lload X2.here hx rfl (hb hby at_121) rfl ?_
        show Steps p.tables e below (T2.setTop (mkF m 123 #[.val (.long q1), .second, .val (.int p2), .val (.int md), .val (.long bb), .second, .val (.long (mebF bb)), .second, .val (.long ((bb.toUInt64 >>> ((20 : Int32) &&& 0x3f).toInt64.toUInt64).toInt64)), .second, .val (.long (bb &&& (1048575 : Int64))), .second, .val (.long ((bb.toUInt64 >>> ((20 : Int32) &&& 0x3f).toInt64.toUInt64).toInt64)), .second] [(.long ((bb.toUInt64 >>> ((20 : Int32) &&& 0x3f).toInt64.toUInt64).toInt64)), (.long (mebF bb))])) _
        refine XS.lcmp X2.here hx rfl (hb hby at_123) rfl ?_
        exact kt
      refine Goes.step (A := T2.setTop (mkF m 127 #[.val (.long q1), .second, .val (.int p2), .val (.int md), .val (.long bb), .second, .val (.long (mebF bb)), .second, .val (.long ((bb.toUInt64 >>> ((20 : Int32) &&& 0x3f).toInt64.toUInt64).toInt64)), .second, .val (.long (bb &&& (1048575 : Int64))), .second, .val (.long ((bb.toUInt64 >>> ((20 : Int32) &&& 0x3f).toInt64.toUInt64).toInt64)), .second] [])) (fun t kt => XS.ifNo X2.here hx rfl (hb hby at_124) rfl ((if0 _ _).trans (teq ((lw_eq _ _).mpr (own_eq0 bb hbb hc105_2 : (mebF bb) = ((bb.toUInt64 >>> ((20 : Int32) &&& 0x3f).toInt64.toUInt64).toInt64)))).2) kt) ?_
      refine Goes.step (A := T2.setTop (mkF m 132 #[.val (.long q1), .second, .val (.int p2), .val (.int md), .val (.long bb), .second, .val (.long (mebF bb)), .second, .val (.long ((bb.toUInt64 >>> ((20 : Int32) &&& 0x3f).toInt64.toUInt64).toInt64)), .second, .val (.long (bb &&& (1048575 : Int64))), .second, .val (.long ((bb.toUInt64 >>> ((20 : Int32) &&& 0x3f).toInt64.toUInt64).toInt64)), .second] [(.int (1 : Int32))])) (fun t kt => ?_) ?_
      · refine XS.iconst X2.here hx rfl (hb hby at_127) ?_
        show Steps p.tables e below (T2.setTop (mkF m 128 #[.val (.long q1), .second, .val (.int p2), .val (.int md), .val (.long bb), .second, .val (.long (mebF bb)), .second, .val (.long ((bb.toUInt64 >>> ((20 : Int32) &&& 0x3f).toInt64.toUInt64).toInt64)), .second, .val (.long (bb &&& (1048575 : Int64))), .second, .val (.long ((bb.toUInt64 >>> ((20 : Int32) &&& 0x3f).toInt64.toUInt64).toInt64)), .second] [(.int (1 : Int32))])) _
        refine XS.goto X2.here hx rfl (pc0 := 128) (pc' := 132) rfl (hb hby at_128) (by decide) (by decide) ?_
        exact kt
      obtain ⟨fs, hr, hrun, hended, hW, hsame⟩ := X2.leave (v := some (.int (1 : Int32))) (fun h => by rw [Bd.returns] at h; cases h)
      refine Goes.done ?_ hrun hended ⟨_, _, rfl, ?_, ⟨_, rfl⟩, hW, hsame.mono (by decide) (by decide)⟩
      · exact retN X2 hx (t := .boolean) Bd.returns (by simp) (hb hby at_132) hr
      · show Q0 Z q1 p2 h0 n0 _ T2.heap _
        rw [e2]
        exact ⟨rfl, N2⟩
    · refine Goes.step (A := T2.setTop (mkF m 108 #[.val (.long q1), .second, .val (.int p2), .val (.int md), .val (.long bb), .second, .val (.long (mebF bb)), .second, .val (.long ((bb.toUInt64 >>> ((20 : Int32) &&& 0x3f).toInt64.toUInt64).toInt64)), .second, .val (.long (bb &&& (1048575 : Int64))), .second, .unset, .unset] [])) (fun t kt => XS.ifNo X2.here hx rfl (hb hby at_105) rfl ((if0 _ _).trans (feq (fun q => hc105_2 ((lw_eq _ _).mp q))).1) kt) ?_
      refine Goes.step (A := T2.setTop (mkF m 124 #[.val (.long q1), .second, .val (.int p2), .val (.int md), .val (.long bb), .second, .val (.long (mebF bb)), .second, .val (.long ((bb.toUInt64 >>> ((20 : Int32) &&& 0x3f).toInt64.toUInt64).toInt64)), .second, .val (.long (bb &&& (1048575 : Int64))), .second, .val (.long (((bb.toUInt64 >>> ((20 : Int32) &&& 0x3f).toInt64.toUInt64).toInt64) + (1 : Int64))), .second] [(.int (lcmpW (mebF bb) (((bb.toUInt64 >>> ((20 : Int32) &&& 0x3f).toInt64.toUInt64).toInt64) + (1 : Int64))))])) (fun t kt => ?_) ?_
      · refine XS.lload X2.here hx rfl (hb hby at_108) rfl ?_
        show Steps p.tables e below (T2.setTop (mkF m 110 #[.val (.long q1), .second, .val (.int p2), .val (.int md), .val (.long bb), .second, .val (.long (mebF bb)), .second, .val (.long ((bb.toUInt64 >>> ((20 : Int32) &&& 0x3f).toInt64.toUInt64).toInt64)), .second, .val (.long (bb &&& (1048575 : Int64))), .second, .unset, .unset] [(.long ((bb.toUInt64 >>> ((20 : Int32) &&& 0x3f).toInt64.toUInt64).toInt64))])) _
        refine XS.lconst X2.here hx rfl (hb hby at_110) ?_
        show Steps p.tables e below (T2.setTop (mkF m 111 #[.val (.long q1), .second, .val (.int p2), .val (.int md), .val (.long bb), .second, .val (.long (mebF bb)), .second, .val (.long ((bb.toUInt64 >>> ((20 : Int32) &&& 0x3f).toInt64.toUInt64).toInt64)), .second, .val (.long (bb &&& (1048575 : Int64))), .second, .unset, .unset] [(.long (1 : Int64)), (.long ((bb.toUInt64 >>> ((20 : Int32) &&& 0x3f).toInt64.toUInt64).toInt64))])) _
        refine XS.ladd X2.here hx rfl (hb hby at_111) rfl ?_
        show Steps p.tables e below (T2.setTop (mkF m 112 #[.val (.long q1), .second, .val (.int p2), .val (.int md), .val (.long bb), .second, .val (.long (mebF bb)), .second, .val (.long ((bb.toUInt64 >>> ((20 : Int32) &&& 0x3f).toInt64.toUInt64).toInt64)), .second, .val (.long (bb &&& (1048575 : Int64))), .second, .unset, .unset] [(.long (((bb.toUInt64 >>> ((20 : Int32) &&& 0x3f).toInt64.toUInt64).toInt64) + (1 : Int64)))])) _
        refine XS.goto X2.here hx rfl (pc0 := 112) (pc' := 117) rfl (hb hby at_112) (by decide) (by decide) ?_
        show Steps p.tables e below (T2.setTop (mkF m 117 #[.val (.long q1), .second, .val (.int p2), .val (.int md), .val (.long bb), .second, .val (.long (mebF bb)), .second, .val (.long ((bb.toUInt64 >>> ((20 : Int32) &&& 0x3f).toInt64.toUInt64).toInt64)), .second, .val (.long (bb &&& (1048575 : Int64))), .second, .unset, .unset] [(.long (((bb.toUInt64 >>> ((20 : Int32) &&& 0x3f).toInt64.toUInt64).toInt64) + (1 : Int64)))])) _
        refine XS.lstore X2.here hx rfl (hb hby at_117) rfl (l' := #[.val (.long q1), .second, .val (.int p2), .val (.int md), .val (.long bb), .second, .val (.long (mebF bb)), .second, .val (.long ((bb.toUInt64 >>> ((20 : Int32) &&& 0x3f).toInt64.toUInt64).toInt64)), .second, .val (.long (bb &&& (1048575 : Int64))), .second, .val (.long (((bb.toUInt64 >>> ((20 : Int32) &&& 0x3f).toInt64.toUInt64).toInt64) + (1 : Int64))), .second]) rfl ?_
        show Steps p.tables e below (T2.setTop (mkF m 119 #[.val (.long q1), .second, .val (.int p2), .val (.int md), .val (.long bb), .second, .val (.long (mebF bb)), .second, .val (.long ((bb.toUInt64 >>> ((20 : Int32) &&& 0x3f).toInt64.toUInt64).toInt64)), .second, .val (.long (bb &&& (1048575 : Int64))), .second, .val (.long (((bb.toUInt64 >>> ((20 : Int32) &&& 0x3f).toInt64.toUInt64).toInt64) + (1 : Int64))), .second] [])) _
        refine XS.lload X2.here hx rfl (hb hby at_119) rfl ?_
        show Steps p.tables e below (T2.setTop (mkF m 121 #[.val (.long q1), .second, .val (.int p2), .val (.int md), .val (.long bb), .second, .val (.long (mebF bb)), .second, .val (.long ((bb.toUInt64 >>> ((20 : Int32) &&& 0x3f).toInt64.toUInt64).toInt64)), .second, .val (.long (bb &&& (1048575 : Int64))), .second, .val (.long (((bb.toUInt64 >>> ((20 : Int32) &&& 0x3f).toInt64.toUInt64).toInt64) + (1 : Int64))), .second] [(.long (mebF bb))])) _
        refine XS.lload X2.here hx rfl (hb hby at_121) rfl ?_
        show Steps p.tables e below (T2.setTop (mkF m 123 #[.val (.long q1), .second, .val (.int p2), .val (.int md), .val (.long bb), .second, .val (.long (mebF bb)), .second, .val (.long ((bb.toUInt64 >>> ((20 : Int32) &&& 0x3f).toInt64.toUInt64).toInt64)), .second, .val (.long (bb &&& (1048575 : Int64))), .second, .val (.long (((bb.toUInt64 >>> ((20 : Int32) &&& 0x3f).toInt64.toUInt64).toInt64) + (1 : Int64))), .second] [(.long (((bb.toUInt64 >>> ((20 : Int32) &&& 0x3f).toInt64.toUInt64).toInt64) + (1 : Int64))), (.long (mebF bb))])) _
        refine XS.lcmp X2.here hx rfl (hb hby at_123) rfl ?_
        exact kt
      refine Goes.step (A := T2.setTop (mkF m 127 #[.val (.long q1), .second, .val (.int p2), .val (.int md), .val (.long bb), .second, .val (.long (mebF bb)), .second, .val (.long ((bb.toUInt64 >>> ((20 : Int32) &&& 0x3f).toInt64.toUInt64).toInt64)), .second, .val (.long (bb &&& (1048575 : Int64))), .second, .val (.long (((bb.toUInt64 >>> ((20 : Int32) &&& 0x3f).toInt64.toUInt64).toInt64) + (1 : Int64))), .second] [])) (fun t kt => XS.ifNo X2.here hx rfl (hb hby at_124) rfl ((if0 _ _).trans (teq ((lw_eq _ _).mpr (own_eq1 bb hbb hc105_2 : (mebF bb) = (((bb.toUInt64 >>> ((20 : Int32) &&& 0x3f).toInt64.toUInt64).toInt64) + (1 : Int64))))).2) kt) ?_
      refine Goes.step (A := T2.setTop (mkF m 132 #[.val (.long q1), .second, .val (.int p2), .val (.int md), .val (.long bb), .second, .val (.long (mebF bb)), .second, .val (.long ((bb.toUInt64 >>> ((20 : Int32) &&& 0x3f).toInt64.toUInt64).toInt64)), .second, .val (.long (bb &&& (1048575 : Int64))), .second, .val (.long (((bb.toUInt64 >>> ((20 : Int32) &&& 0x3f).toInt64.toUInt64).toInt64) + (1 : Int64))), .second] [(.int (1 : Int32))])) (fun t kt => ?_) ?_
      · refine XS.iconst X2.here hx rfl (hb hby at_127) ?_
        show Steps p.tables e below (T2.setTop (mkF m 128 #[.val (.long q1), .second, .val (.int p2), .val (.int md), .val (.long bb), .second, .val (.long (mebF bb)), .second, .val (.long ((bb.toUInt64 >>> ((20 : Int32) &&& 0x3f).toInt64.toUInt64).toInt64)), .second, .val (.long (bb &&& (1048575 : Int64))), .second, .val (.long (((bb.toUInt64 >>> ((20 : Int32) &&& 0x3f).toInt64.toUInt64).toInt64) + (1 : Int64))), .second] [(.int (1 : Int32))])) _
        refine XS.goto X2.here hx rfl (pc0 := 128) (pc' := 132) rfl (hb hby at_128) (by decide) (by decide) ?_
        exact kt
      obtain ⟨fs, hr, hrun, hended, hW, hsame⟩ := X2.leave (v := some (.int (1 : Int32))) (fun h => by rw [Bd.returns] at h; cases h)
      refine Goes.done ?_ hrun hended ⟨_, _, rfl, ?_, ⟨_, rfl⟩, hW, hsame.mono (by decide) (by decide)⟩
      · exact retN X2 hx (t := .boolean) Bd.returns (by simp) (hb hby at_132) hr
      · show Q0 Z q1 p2 h0 n0 _ T2.heap _
        rw [e2]
        exact ⟨rfl, N2⟩
  refine Goes.step (A := s₁.setTop (mkF m 5 #[.val (.long q1), .second, .val (.int p2), .val (.int (p2 &&& (3 : Int32))), .unset, .unset, .unset, .unset, .unset, .unset, .unset, .unset, .unset, .unset] [(.int (p2 &&& (3 : Int32)))])) (fun t kt => ?_) ?_
  · refine XS.iloadN X0.here hx rfl (hb hby at_0) rfl ?_
    show Steps p.tables e below (s₁.setTop (mkF m 1 #[.val (.long q1), .second, .val (.int p2), .unset, .unset, .unset, .unset, .unset, .unset, .unset, .unset, .unset, .unset, .unset] [(.int p2)])) _
    refine XS.iconst X0.here hx rfl (hb hby at_1) ?_
    show Steps p.tables e below (s₁.setTop (mkF m 2 #[.val (.long q1), .second, .val (.int p2), .unset, .unset, .unset, .unset, .unset, .unset, .unset, .unset, .unset, .unset, .unset] [(.int (3 : Int32)), (.int p2)])) _
    refine XS.iand X0.here hx rfl (hb hby at_2) rfl ?_
    show Steps p.tables e below (s₁.setTop (mkF m 3 #[.val (.long q1), .second, .val (.int p2), .unset, .unset, .unset, .unset, .unset, .unset, .unset, .unset, .unset, .unset, .unset] [(.int (p2 &&& (3 : Int32)))])) _
    refine XS.istoreN X0.here hx rfl (hb hby at_3) rfl (l' := #[.val (.long q1), .second, .val (.int p2), .val (.int (p2 &&& (3 : Int32))), .unset, .unset, .unset, .unset, .unset, .unset, .unset, .unset, .unset, .unset]) rfl ?_
    show Steps p.tables e below (s₁.setTop (mkF m 4 #[.val (.long q1), .second, .val (.int p2), .val (.int (p2 &&& (3 : Int32))), .unset, .unset, .unset, .unset, .unset, .unset, .unset, .unset, .unset, .unset] [])) _
    refine XS.iloadN X0.here hx rfl (hb hby at_4) rfl ?_
    exact kt
  by_cases hc5_3 : (p2 &&& (3 : Int32)) = (0 : Int32)
  · refine Goes.step (A := s₁.setTop (mkF m 8 #[.val (.long q1), .second, .val (.int p2), .val (.int (p2 &&& (3 : Int32))), .unset, .unset, .unset, .unset, .unset, .unset, .unset, .unset, .unset, .unset] [])) (fun t kt => XS.ifNo X0.here hx rfl (hb hby at_5) rfl ((if0 _ _).trans (teq hc5_3).2) kt) ?_
    refine Goes.step (A := s₁.setTop (mkF m 21 #[.val (.long q1), .second, .val (.int p2), .val (.int (p2 &&& (3 : Int32))), .val (.long (q1 &&& (9223372036854775807 : Int64))), .second, .unset, .unset, .unset, .unset, .unset, .unset, .unset, .unset] [(.int (lcmpW (q1 &&& (9223372036854775807 : Int64)) (9223372036853727232 : Int64)))])) (fun t kt => ?_) ?_
    · refine XS.lloadN X0.here hx rfl (hb hby at_8) rfl ?_
      show Steps p.tables e below (s₁.setTop (mkF m 9 #[.val (.long q1), .second, .val (.int p2), .val (.int (p2 &&& (3 : Int32))), .unset, .unset, .unset, .unset, .unset, .unset, .unset, .unset, .unset, .unset] [(.long q1)])) _
      refine X0.ldc2Long hx hown (mvT hZ (hw _ (List.mem_of_getElem? (i := 7) rfl))) (g := (mkF m 9 #[.val (.long q1), .second, .val (.int p2), .val (.int (p2 &&& (3 : Int32))), .unset, .unset, .unset, .unset, .unset, .unset, .unset, .unset, .unset, .unset] [(.long q1)])) rfl (hb hby at_9) _ ?_
      show Steps p.tables e below (s₁.setTop (mkF m 12 #[.val (.long q1), .second, .val (.int p2), .val (.int (p2 &&& (3 : Int32))), .unset, .unset, .unset, .unset, .unset, .unset, .unset, .unset, .unset, .unset] [(.long (9223372036854775807 : Int64)), (.long q1)])) _
      refine XS.land X0.here hx rfl (hb hby at_12) rfl ?_
      show Steps p.tables e below (s₁.setTop (mkF m 13 #[.val (.long q1), .second, .val (.int p2), .val (.int (p2 &&& (3 : Int32))), .unset, .unset, .unset, .unset, .unset, .unset, .unset, .unset, .unset, .unset] [(.long (q1 &&& (9223372036854775807 : Int64)))])) _
      refine XS.lstore X0.here hx rfl (hb hby at_13) rfl (l' := #[.val (.long q1), .second, .val (.int p2), .val (.int (p2 &&& (3 : Int32))), .val (.long (q1 &&& (9223372036854775807 : Int64))), .second, .unset, .unset, .unset, .unset, .unset, .unset, .unset, .unset]) rfl ?_
      show Steps p.tables e below (s₁.setTop (mkF m 15 #[.val (.long q1), .second, .val (.int p2), .val (.int (p2 &&& (3 : Int32))), .val (.long (q1 &&& (9223372036854775807 : Int64))), .second, .unset, .unset, .unset, .unset, .unset, .unset, .unset, .unset] [])) _
      refine XS.lload X0.here hx rfl (hb hby at_15) rfl ?_
      show Steps p.tables e below (s₁.setTop (mkF m 17 #[.val (.long q1), .second, .val (.int p2), .val (.int (p2 &&& (3 : Int32))), .val (.long (q1 &&& (9223372036854775807 : Int64))), .second, .unset, .unset, .unset, .unset, .unset, .unset, .unset, .unset] [(.long (q1 &&& (9223372036854775807 : Int64)))])) _
      refine X0.ldc2Long hx hown (mvT hZ (hw _ (List.mem_of_getElem? (i := 8) rfl))) (g := (mkF m 17 #[.val (.long q1), .second, .val (.int p2), .val (.int (p2 &&& (3 : Int32))), .val (.long (q1 &&& (9223372036854775807 : Int64))), .second, .unset, .unset, .unset, .unset, .unset, .unset, .unset, .unset] [(.long (q1 &&& (9223372036854775807 : Int64)))])) rfl (hb hby at_17) _ ?_
      show Steps p.tables e below (s₁.setTop (mkF m 20 #[.val (.long q1), .second, .val (.int p2), .val (.int (p2 &&& (3 : Int32))), .val (.long (q1 &&& (9223372036854775807 : Int64))), .second, .unset, .unset, .unset, .unset, .unset, .unset, .unset, .unset] [(.long (9223372036853727232 : Int64)), (.long (q1 &&& (9223372036854775807 : Int64)))])) _
      refine XS.lcmp X0.here hx rfl (hb hby at_20) rfl ?_
      exact kt
    by_cases hc21_4 : (9223372036853727232 : Int64) < (q1 &&& (9223372036854775807 : Int64))
    · refine Goes.step (A := s₁.setTop (mkF m 24 #[.val (.long q1), .second, .val (.int p2), .val (.int (p2 &&& (3 : Int32))), .val (.long (q1 &&& (9223372036854775807 : Int64))), .second, .unset, .unset, .unset, .unset, .unset, .unset, .unset, .unset] [])) (fun t kt => XS.ifNo X0.here hx rfl (hb hby at_21) rfl ((if0 _ _).trans (tlt ((lw_gt _ _).mpr hc21_4)).2.2.2) kt) ?_
      refine Goes.step (A := s₁.setTop (mkF m 79 #[.val (.long q1), .second, .val (.int p2), .val (.int (p2 &&& (3 : Int32))), .val (.long ((q1 &&& (9223372036854775807 : Int64)) - (1048576 : Int64))), .second, .unset, .unset, .unset, .unset, .unset, .unset, .unset, .unset] [])) (fun t kt => ?_) ?_
      · refine XS.lload X0.here hx rfl (hb hby at_24) rfl ?_
        show Steps p.tables e below (s₁.setTop (mkF m 26 #[.val (.long q1), .second, .val (.int p2), .val (.int (p2 &&& (3 : Int32))), .val (.long (q1 &&& (9223372036854775807 : Int64))), .second, .unset, .unset, .unset, .unset, .unset, .unset, .unset, .unset] [(.long (q1 &&& (9223372036854775807 : Int64)))])) _
        refine X0.ldc2Long hx hown (mvT hZ (hw _ (List.mem_of_getElem? (i := 9) rfl))) (g := (mkF m 26 #[.val (.long q1), .second, .val (.int p2), .val (.int (p2 &&& (3 : Int32))), .val (.long (q1 &&& (9223372036854775807 : Int64))), .second, .unset, .unset, .unset, .unset, .unset, .unset, .unset, .unset] [(.long (q1 &&& (9223372036854775807 : Int64)))])) rfl (hb hby at_26) _ ?_
        show Steps p.tables e below (s₁.setTop (mkF m 29 #[.val (.long q1), .second, .val (.int p2), .val (.int (p2 &&& (3 : Int32))), .val (.long (q1 &&& (9223372036854775807 : Int64))), .second, .unset, .unset, .unset, .unset, .unset, .unset, .unset, .unset] [(.long (1048576 : Int64)), (.long (q1 &&& (9223372036854775807 : Int64)))])) _
        refine XS.lsub X0.here hx rfl (hb hby at_29) rfl ?_
        show Steps p.tables e below (s₁.setTop (mkF m 30 #[.val (.long q1), .second, .val (.int p2), .val (.int (p2 &&& (3 : Int32))), .val (.long (q1 &&& (9223372036854775807 : Int64))), .second, .unset, .unset, .unset, .unset, .unset, .unset, .unset, .unset] [(.long ((q1 &&& (9223372036854775807 : Int64)) - (1048576 : Int64)))])) _
        refine XS.lstore X0.here hx rfl (hb hby at_30) rfl (l' := #[.val (.long q1), .second, .val (.int p2), .val (.int (p2 &&& (3 : Int32))), .val (.long ((q1 &&& (9223372036854775807 : Int64)) - (1048576 : Int64))), .second, .unset, .unset, .unset, .unset, .unset, .unset, .unset, .unset]) rfl ?_
        show Steps p.tables e below (s₁.setTop (mkF m 32 #[.val (.long q1), .second, .val (.int p2), .val (.int (p2 &&& (3 : Int32))), .val (.long ((q1 &&& (9223372036854775807 : Int64)) - (1048576 : Int64))), .second, .unset, .unset, .unset, .unset, .unset, .unset, .unset, .unset] [])) _
        refine XS.goto X0.here hx rfl (pc0 := 32) (pc' := 79) rfl (hb hby at_32) (by decide) (by decide) ?_
        exact kt
      exact cont0 _ _ (own_b1 q1 hc21_4)
    · refine Goes.step (A := s₁.setTop (mkF m 79 #[.val (.long q1), .second, .val (.int p2), .val (.int (p2 &&& (3 : Int32))), .val (.long (q1 &&& (9223372036854775807 : Int64))), .second, .unset, .unset, .unset, .unset, .unset, .unset, .unset, .unset] [])) (fun t kt => XS.ifYes X0.here hx rfl (pc0 := 21) (pc' := 79) rfl (hb hby at_21) rfl ((if0 _ _).trans (flt (fun q => hc21_4 ((lw_gt _ _).mp q))).2.2.2) (by decide) (by decide) kt) ?_
      exact cont0 _ _ (own_b0 q1 hc21_4)
  · refine Goes.step (A := s₁.setTop (mkF m 35 #[.val (.long q1), .second, .val (.int p2), .val (.int (p2 &&& (3 : Int32))), .unset, .unset, .unset, .unset, .unset, .unset, .unset, .unset, .unset, .unset] [])) (fun t kt => XS.ifYes X0.here hx rfl (pc0 := 5) (pc' := 35) rfl (hb hby at_5) rfl ((if0 _ _).trans (feq hc5_3).2) (by decide) (by decide) kt) ?_
    refine Goes.step (A := s₁.setTop (mkF m 47 #[.val (.long q1), .second, .val (.int p2), .val (.int (p2 &&& (3 : Int32))), .unset, .unset, .val (.long ((q1 &&& (4398046511103 : Int64)) <<< ((20 : Int32) &&& 0x3f).toInt64)), .second, .unset, .unset, .unset, .unset, .unset, .unset] [(.int (1 : Int32)), (.int (p2 &&& (3 : Int32)))])) (fun t kt => ?_) ?_
    · refine XS.lloadN X0.here hx rfl (hb hby at_35) rfl ?_
      show Steps p.tables e below (s₁.setTop (mkF m 36 #[.val (.long q1), .second, .val (.int p2), .val (.int (p2 &&& (3 : Int32))), .unset, .unset, .unset, .unset, .unset, .unset, .unset, .unset, .unset, .unset] [(.long q1)])) _
      refine X0.ldc2Long hx hown (mvT hZ (hw _ (List.mem_of_getElem? (i := 0) rfl))) (g := (mkF m 36 #[.val (.long q1), .second, .val (.int p2), .val (.int (p2 &&& (3 : Int32))), .unset, .unset, .unset, .unset, .unset, .unset, .unset, .unset, .unset, .unset] [(.long q1)])) rfl (hb hby at_36) _ ?_
      show Steps p.tables e below (s₁.setTop (mkF m 39 #[.val (.long q1), .second, .val (.int p2), .val (.int (p2 &&& (3 : Int32))), .unset, .unset, .unset, .unset, .unset, .unset, .unset, .unset, .unset, .unset] [(.long (4398046511103 : Int64)), (.long q1)])) _
      refine XS.land X0.here hx rfl (hb hby at_39) rfl ?_
      show Steps p.tables e below (s₁.setTop (mkF m 40 #[.val (.long q1), .second, .val (.int p2), .val (.int (p2 &&& (3 : Int32))), .unset, .unset, .unset, .unset, .unset, .unset, .unset, .unset, .unset, .unset] [(.long (q1 &&& (4398046511103 : Int64)))])) _
      refine XS.bipush X0.here hx rfl (hb hby at_40) ?_
      show Steps p.tables e below (s₁.setTop (mkF m 42 #[.val (.long q1), .second, .val (.int p2), .val (.int (p2 &&& (3 : Int32))), .unset, .unset, .unset, .unset, .unset, .unset, .unset, .unset, .unset, .unset] [(.int (20 : Int32)), (.long (q1 &&& (4398046511103 : Int64)))])) _
      refine XS.lshl X0.here hx rfl (hb hby at_42) rfl ?_
      show Steps p.tables e below (s₁.setTop (mkF m 43 #[.val (.long q1), .second, .val (.int p2), .val (.int (p2 &&& (3 : Int32))), .unset, .unset, .unset, .unset, .unset, .unset, .unset, .unset, .unset, .unset] [(.long ((q1 &&& (4398046511103 : Int64)) <<< ((20 : Int32) &&& 0x3f).toInt64))])) _
      refine XS.lstore X0.here hx rfl (hb hby at_43) rfl (l' := #[.val (.long q1), .second, .val (.int p2), .val (.int (p2 &&& (3 : Int32))), .unset, .unset, .val (.long ((q1 &&& (4398046511103 : Int64)) <<< ((20 : Int32) &&& 0x3f).toInt64)), .second, .unset, .unset, .unset, .unset, .unset, .unset]) rfl ?_
      show Steps p.tables e below (s₁.setTop (mkF m 45 #[.val (.long q1), .second, .val (.int p2), .val (.int (p2 &&& (3 : Int32))), .unset, .unset, .val (.long ((q1 &&& (4398046511103 : Int64)) <<< ((20 : Int32) &&& 0x3f).toInt64)), .second, .unset, .unset, .unset, .unset, .unset, .unset] [])) _
      refine XS.iloadN X0.here hx rfl (hb hby at_45) rfl ?_
      show Steps p.tables e below (s₁.setTop (mkF m 46 #[.val (.long q1), .second, .val (.int p2), .val (.int (p2 &&& (3 : Int32))), .unset, .unset, .val (.long ((q1 &&& (4398046511103 : Int64)) <<< ((20 : Int32) &&& 0x3f).toInt64)), .second, .unset, .unset, .unset, .unset, .unset, .unset] [(.int (p2 &&& (3 : Int32)))])) _
      refine XS.iconst X0.here hx rfl (hb hby at_46) ?_
      exact kt
    by_cases hc47_5 : (p2 &&& (3 : Int32)) = (1 : Int32)
    · refine Goes.step (A := s₁.setTop (mkF m 50 #[.val (.long q1), .second, .val (.int p2), .val (.int (p2 &&& (3 : Int32))), .unset, .unset, .val (.long ((q1 &&& (4398046511103 : Int64)) <<< ((20 : Int32) &&& 0x3f).toInt64)), .second, .unset, .unset, .unset, .unset, .unset, .unset] [])) (fun t kt => XS.icmpNo X0.here hx rfl (hb hby at_47) rfl (teq hc47_5).2 kt) ?_
      refine Goes.step (A := s₁.setTop (mkF m 79 #[.val (.long q1), .second, .val (.int p2), .val (.int (p2 &&& (3 : Int32))), .val (.long ((q1 &&& (4398046511103 : Int64)) <<< ((20 : Int32) &&& 0x3f).toInt64)), .second, .val (.long ((q1 &&& (4398046511103 : Int64)) <<< ((20 : Int32) &&& 0x3f).toInt64)), .second, .unset, .unset, .unset, .unset, .unset, .unset] [])) (fun t kt => ?_) ?_
      · refine XS.lload X0.here hx rfl (hb hby at_50) rfl ?_
        show Steps p.tables e below (s₁.setTop (mkF m 52 #[.val (.long q1), .second, .val (.int p2), .val (.int (p2 &&& (3 : Int32))), .unset, .unset, .val (.long ((q1 &&& (4398046511103 : Int64)) <<< ((20 : Int32) &&& 0x3f).toInt64)), .second, .unset, .unset, .unset, .unset, .unset, .unset] [(.long ((q1 &&& (4398046511103 : Int64)) <<< ((20 : Int32) &&& 0x3f).toInt64))])) _
        refine XS.lstore X0.here hx rfl (hb hby at_52) rfl (l' := #[.val (.long q1), .second, .val (.int p2), .val (.int (p2 &&& (3 : Int32))), .val (.long ((q1 &&& (4398046511103 : Int64)) <<< ((20 : Int32) &&& 0x3f).toInt64)), .second, .val (.long ((q1 &&& (4398046511103 : Int64)) <<< ((20 : Int32) &&& 0x3f).toInt64)), .second, .unset, .unset, .unset, .unset, .unset, .unset]) rfl ?_
        show Steps p.tables e below (s₁.setTop (mkF m 54 #[.val (.long q1), .second, .val (.int p2), .val (.int (p2 &&& (3 : Int32))), .val (.long ((q1 &&& (4398046511103 : Int64)) <<< ((20 : Int32) &&& 0x3f).toInt64)), .second, .val (.long ((q1 &&& (4398046511103 : Int64)) <<< ((20 : Int32) &&& 0x3f).toInt64)), .second, .unset, .unset, .unset, .unset, .unset, .unset] [])) _
        refine XS.goto X0.here hx rfl (pc0 := 54) (pc' := 79) rfl (hb hby at_54) (by decide) (by decide) ?_
        exact kt
      exact cont1 _ _ _ (own_b2 q1)
    · refine Goes.step (A := s₁.setTop (mkF m 57 #[.val (.long q1), .second, .val (.int p2), .val (.int (p2 &&& (3 : Int32))), .unset, .unset, .val (.long ((q1 &&& (4398046511103 : Int64)) <<< ((20 : Int32) &&& 0x3f).toInt64)), .second, .unset, .unset, .unset, .unset, .unset, .unset] [])) (fun t kt => XS.icmpYes X0.here hx rfl (pc0 := 47) (pc' := 57) rfl (hb hby at_47) rfl (feq hc47_5).2 (by decide) (by decide) kt) ?_
      refine Goes.step (A := s₁.setTop (mkF m 59 #[.val (.long q1), .second, .val (.int p2), .val (.int (p2 &&& (3 : Int32))), .unset, .unset, .val (.long ((q1 &&& (4398046511103 : Int64)) <<< ((20 : Int32) &&& 0x3f).toInt64)), .second, .unset, .unset, .unset, .unset, .unset, .unset] [(.int (2 : Int32)), (.int (p2 &&& (3 : Int32)))])) (fun t kt => ?_) ?_
      · refine XS.iloadN X0.here hx rfl (hb hby at_57) rfl ?_
        show Steps p.tables e below (s₁.setTop (mkF m 58 #[.val (.long q1), .second, .val (.int p2), .val (.int (p2 &&& (3 : Int32))), .unset, .unset, .val (.long ((q1 &&& (4398046511103 : Int64)) <<< ((20 : Int32) &&& 0x3f).toInt64)), .second, .unset, .unset, .unset, .unset, .unset, .unset] [(.int (p2 &&& (3 : Int32)))])) _
        refine XS.iconst X0.here hx rfl (hb hby at_58) ?_
        exact kt
      by_cases hc59_6 : (p2 &&& (3 : Int32)) = (2 : Int32)
      · refine Goes.step (A := s₁.setTop (mkF m 62 #[.val (.long q1), .second, .val (.int p2), .val (.int (p2 &&& (3 : Int32))), .unset, .unset, .val (.long ((q1 &&& (4398046511103 : Int64)) <<< ((20 : Int32) &&& 0x3f).toInt64)), .second, .unset, .unset, .unset, .unset, .unset, .unset] [])) (fun t kt => XS.icmpNo X0.here hx rfl (hb hby at_59) rfl (teq hc59_6).2 kt) ?_
        refine Goes.step (A := s₁.setTop (mkF m 79 #[.val (.long q1), .second, .val (.int p2), .val (.int (p2 &&& (3 : Int32))), .val (.long (((q1 &&& (4398046511103 : Int64)) <<< ((20 : Int32) &&& 0x3f).toInt64) + (1 : Int64))), .second, .val (.long ((q1 &&& (4398046511103 : Int64)) <<< ((20 : Int32) &&& 0x3f).toInt64)), .second, .unset, .unset, .unset, .unset, .unset, .unset] [])) (fun t kt => ?_) ?_
        · refine XS.lload X0.here hx rfl (hb hby at_62) rfl ?_
          show Steps p.tables e below (s₁.setTop (mkF m 64 #[.val (.long q1), .second, .val (.int p2), .val (.int (p2 &&& (3 : Int32))), .unset, .unset, .val (.long ((q1 &&& (4398046511103 : Int64)) <<< ((20 : Int32) &&& 0x3f).toInt64)), .second, .unset, .unset, .unset, .unset, .unset, .unset] [(.long ((q1 &&& (4398046511103 : Int64)) <<< ((20 : Int32) &&& 0x3f).toInt64))])) _
          refine XS.lconst X0.here hx rfl (hb hby at_64) ?_
          show Steps p.tables e below (s₁.setTop (mkF m 65 #[.val (.long q1), .second, .val (.int p2), .val (.int (p2 &&& (3 : Int32))), .unset, .unset, .val (.long ((q1 &&& (4398046511103 : Int64)) <<< ((20 : Int32) &&& 0x3f).toInt64)), .second, .unset, .unset, .unset, .unset, .unset, .unset] [(.long (1 : Int64)), (.long ((q1 &&& (4398046511103 : Int64)) <<< ((20 : Int32) &&& 0x3f).toInt64))])) _
          refine XS.ladd X0.here hx rfl (hb hby at_65) rfl ?_
          show Steps p.tables e below (s₁.setTop (mkF m 66 #[.val (.long q1), .second, .val (.int p2), .val (.int (p2 &&& (3 : Int32))), .unset, .unset, .val (.long ((q1 &&& (4398046511103 : Int64)) <<< ((20 : Int32) &&& 0x3f).toInt64)), .second, .unset, .unset, .unset, .unset, .unset, .unset] [(.long (((q1 &&& (4398046511103 : Int64)) <<< ((20 : Int32) &&& 0x3f).toInt64) + (1 : Int64)))])) _
          refine XS.lstore X0.here hx rfl (hb hby at_66) rfl (l' := #[.val (.long q1), .second, .val (.int p2), .val (.int (p2 &&& (3 : Int32))), .val (.long (((q1 &&& (4398046511103 : Int64)) <<< ((20 : Int32) &&& 0x3f).toInt64) + (1 : Int64))), .second, .val (.long ((q1 &&& (4398046511103 : Int64)) <<< ((20 : Int32) &&& 0x3f).toInt64)), .second, .unset, .unset, .unset, .unset, .unset, .unset]) rfl ?_
          show Steps p.tables e below (s₁.setTop (mkF m 68 #[.val (.long q1), .second, .val (.int p2), .val (.int (p2 &&& (3 : Int32))), .val (.long (((q1 &&& (4398046511103 : Int64)) <<< ((20 : Int32) &&& 0x3f).toInt64) + (1 : Int64))), .second, .val (.long ((q1 &&& (4398046511103 : Int64)) <<< ((20 : Int32) &&& 0x3f).toInt64)), .second, .unset, .unset, .unset, .unset, .unset, .unset] [])) _
          refine XS.goto X0.here hx rfl (pc0 := 68) (pc' := 79) rfl (hb hby at_68) (by decide) (by decide) ?_
          exact kt
        exact cont1 _ _ _ (own_b3 q1)
      · refine Goes.step (A := s₁.setTop (mkF m 71 #[.val (.long q1), .second, .val (.int p2), .val (.int (p2 &&& (3 : Int32))), .unset, .unset, .val (.long ((q1 &&& (4398046511103 : Int64)) <<< ((20 : Int32) &&& 0x3f).toInt64)), .second, .unset, .unset, .unset, .unset, .unset, .unset] [])) (fun t kt => XS.icmpYes X0.here hx rfl (pc0 := 59) (pc' := 71) rfl (hb hby at_59) rfl (feq hc59_6).2 (by decide) (by decide) kt) ?_
        refine Goes.step (A := s₁.setTop (mkF m 79 #[.val (.long q1), .second, .val (.int p2), .val (.int (p2 &&& (3 : Int32))), .val (.long (((q1 &&& (4398046511103 : Int64)) <<< ((20 : Int32) &&& 0x3f).toInt64) + (1048575 : Int64))), .second, .val (.long ((q1 &&& (4398046511103 : Int64)) <<< ((20 : Int32) &&& 0x3f).toInt64)), .second, .unset, .unset, .unset, .unset, .unset, .unset] [])) (fun t kt => ?_) ?_
        · refine XS.lload X0.here hx rfl (hb hby at_71) rfl ?_
          show Steps p.tables e below (s₁.setTop (mkF m 73 #[.val (.long q1), .second, .val (.int p2), .val (.int (p2 &&& (3 : Int32))), .unset, .unset, .val (.long ((q1 &&& (4398046511103 : Int64)) <<< ((20 : Int32) &&& 0x3f).toInt64)), .second, .unset, .unset, .unset, .unset, .unset, .unset] [(.long ((q1 &&& (4398046511103 : Int64)) <<< ((20 : Int32) &&& 0x3f).toInt64))])) _
          refine X0.ldc2Long hx hown (mvT hZ (hw _ (List.mem_of_getElem? (i := 6) rfl))) (g := (mkF m 73 #[.val (.long q1), .second, .val (.int p2), .val (.int (p2 &&& (3 : Int32))), .unset, .unset, .val (.long ((q1 &&& (4398046511103 : Int64)) <<< ((20 : Int32) &&& 0x3f).toInt64)), .second, .unset, .unset, .unset, .unset, .unset, .unset] [(.long ((q1 &&& (4398046511103 : Int64)) <<< ((20 : Int32) &&& 0x3f).toInt64))])) rfl (hb hby at_73) _ ?_
          show Steps p.tables e below (s₁.setTop (mkF m 76 #[.val (.long q1), .second, .val (.int p2), .val (.int (p2 &&& (3 : Int32))), .unset, .unset, .val (.long ((q1 &&& (4398046511103 : Int64)) <<< ((20 : Int32) &&& 0x3f).toInt64)), .second, .unset, .unset, .unset, .unset, .unset, .unset] [(.long (1048575 : Int64)), (.long ((q1 &&& (4398046511103 : Int64)) <<< ((20 : Int32) &&& 0x3f).toInt64))])) _
          refine XS.ladd X0.here hx rfl (hb hby at_76) rfl ?_
          show Steps p.tables e below (s₁.setTop (mkF m 77 #[.val (.long q1), .second, .val (.int p2), .val (.int (p2 &&& (3 : Int32))), .unset, .unset, .val (.long ((q1 &&& (4398046511103 : Int64)) <<< ((20 : Int32) &&& 0x3f).toInt64)), .second, .unset, .unset, .unset, .unset, .unset, .unset] [(.long (((q1 &&& (4398046511103 : Int64)) <<< ((20 : Int32) &&& 0x3f).toInt64) + (1048575 : Int64)))])) _
          refine XS.lstore X0.here hx rfl (hb hby at_77) rfl (l' := #[.val (.long q1), .second, .val (.int p2), .val (.int (p2 &&& (3 : Int32))), .val (.long (((q1 &&& (4398046511103 : Int64)) <<< ((20 : Int32) &&& 0x3f).toInt64) + (1048575 : Int64))), .second, .val (.long ((q1 &&& (4398046511103 : Int64)) <<< ((20 : Int32) &&& 0x3f).toInt64)), .second, .unset, .unset, .unset, .unset, .unset, .unset]) rfl ?_
          exact kt
        exact cont1 _ _ _ (own_b4 q1)
set_option maxRecDepth 65536 in
set_option maxHeartbeats 40000000 in
theorem comes_1 {Post : Tables → Env → Array Value → State → Outcome → State → Prop} (hpost : ∀ tb e args s v u, (limb_1_1.after args s (.returned v) u = true ∧ limb_1_2.after args s (.returned v) u = true ∧ True) → FrameEnd s (.returned v) u (Jvm.fieldLocs frame_1_writes args s ++ Jvm.arrayLocs frame_1_arrays args s ++ Jvm.staticLocs frame_1_statics s) 0 0 → Post tb e args s (.returned v) u) :
    ArmFor flags0 classFile x code maxLocals ret World_1 tables_1 room_1 Calls_1 rest_1 Pre_1 Post := by
  intro l hfl _ _ p e ha hc hk s m args below hf hA hF happ hP
  obtain ⟨hcalls, hrest, hpre⟩ := hP
  obtain ⟨-, -, -, hnamed, -, -, -, hat⟩ := (Spec.applies_iff hf).mp happ
  obtain ⟨hg, hn⟩ := and_e (Cond.before_iff.mp (show (Jvm.Cond.and given_1 narrow_1).before args s = true from hpre))
  obtain ⟨hcnt, hr0⟩ := and_e hg
  obtain ⟨ha0, hr1⟩ := and_e hr0
  obtain ⟨w0, w1, rfl⟩ : ∃ w0 w1 : Value, args = #[w0, w1] := by
    have hs : args.size = 2 := by simpa [Cond.value, given_1] using hcnt
    obtain ⟨L⟩ := args
    match L, hs with
    | [w0, w1], _ => exact ⟨w0, w1, rfl⟩
  have hw := fun d (hd : d ∈ tables_1) => atoms_spec (ws := Jvm.Cond.code x code maxLocals ret :: tables_1) hat d (List.mem_cons_of_mem _ hd)
  obtain ⟨i0, ei0⟩ := isL_v ha0
  obtain rfl : w0 = (.long i0) := Option.some.inj ei0
  obtain ⟨i1, ei1⟩ := is_v hr1
  obtain rfl : w1 = (.int i1) := Option.some.inj ei1
  obtain ⟨n, o, h1, h2, h3, _, L, rfl, ⟨rfl, N⟩, hq⟩ := rm0 l s _ hw tables_1 i0 i1 s.heap s.heap.size (Nat.le_refl _) p e ha hc hk s m _ below hf ((Spec.applies_iff_loose hf).mp happ).1 ⟨rfl, State.Warmed39.refl s, rfl⟩ trivial
  refine ⟨n, _, h1, h2, h3, hpost _ _ _ _ _ _ ⟨Cond.after_iff.mpr rfl, Cond.after_iff.mpr (eq_i res_at (Term.int_eval (1)) rfl), trivial⟩ ⟨hq.1, hq.2.1, (hq.2.2.sift fun y hy => Or.inr (N y hy)).mono (by decide) (by decide)⟩⟩
theorem main_1_1 : Claimed_1_1 := comes_1 fun _ _ _ _ _ _ h hF => ⟨h.1, hF⟩
theorem main_1_2 : Claimed_1_2 := comes_1 fun _ _ _ _ _ _ h hF => ⟨h.2.1, hF⟩
end Jvm.Pilot.@@N@@
namespace Jvm.Pilot.@@N@@
open Jvm Jvm.ClassFile Sem Op Lib Jvm.Free Jvm.Stand Jvm.Pilot.@@N@@.Jvm.D
/-! MADE BY PROGRAM (witnessworld.py) out of the Statement's table words and the real class files: 9 classes; the members and pool entries that the words name. The judged class is class 1, her method 1. -/
namespace start1
open Jvm.ClassFile
def u (s : String) : CpInfo := .utf8 (stringToUtf16 s)
/-- a pool by its gaps: so many unusable entries, then the entry; so many at the end -/
def gap : Nat → List CpInfo → List CpInfo
  | 0, r => r
  | n + 1, r => .unusable :: gap n r
def poolList (es : List (Nat × CpInfo)) (last : Nat) : List CpInfo := es.foldr (fun e r => gap e.1 (e.2 :: r)) (gap last [])
def pool (es : List (Nat × CpInfo)) (last : Nat) : Array CpInfo := ⟨poolList es last⟩
def fileOf (pool : Array CpInfo) (this : Nat) (attrs : Array Attribute := #[]) (ms : Array MethodInfo := #[]) (fl : Nat := 33) (sup : Nat := 0) (ifs : Array Nat := #[]) (fds : Array FieldInfo := #[]) : ClassFile where
  minorVersion := 0
  majorVersion := 65
  constantPool := pool
  accessFlags := fl
  thisClass := this
  superClass := sup
  interfaces := ifs
  fields := fds
  methods := ms
  attributes := attrs
def plain (name : String) (sup : Option ClassId) : Class where
  name := name
  kind := .ordinary
  loader := none
  accessFlags := 33
  super := sup
  interfaces := #[]
  cf := none
  fields := #[]
  methods := #[]
  instanceTypes := #[]
  staticTypes := #[]
  resolved := #[]
  callSites := []
  init := .initialized
  statics := none
  mirror := none

def pool0 : Array CpInfo := pool [(5, u "<init>"), (0, u "()V"), (1, .class_ 10), (1, u "java/lang/Object")] 113

def k0m0 : Method := { name := "<init>", desc := "()V", sig := { parameters := [], returnType := none }, accessFlags := 1, code := none }
/-- java/lang/Object -/
def k0 : Class := { plain "java/lang/Object" none with
  accessFlags := 33
  interfaces := #[]
  cf := some (fileOf pool0 8 #[] #[{ accessFlags := 1, nameIndex := 5, descriptorIndex := 6, attributes := #[] }] 33 0 #[] #[])
  fields := #[]
  methods := #[k0m0]
  instanceTypes := #[]
  staticTypes := #[]
  resolved := Array.replicate 124 none
  statics := none }

def pool1 : Array CpInfo := pool [(2, .class_ 4), (1, u "java/lang/Object"), (0, u "<init>"), (0, u "()V"), (2, .long 9223372036854775807), (1, .class_ 12), (0, u "com/example/renkei/renkei/budget/HeapBudgetMebibytesPinLaw"), (0, .long 9223372036853727232), (1, .long 1048576), (1, .long 4398046511103), (1, .long 1048575), (1, .methodref 22 23), (0, .class_ 24), (0, .nameAndType 25 26), (0, u "com/example/renkei/renkei/budget/HeapBudget"), (0, u "mebibytes"), (0, u "(J)J"), (0, u "M"), (0, u "J"), (3, u "law"), (0, u "(JI)Z")] 3

def k1m0 : Method := { name := "<init>", desc := "()V", sig := { parameters := [], returnType := none }, accessFlags := 1, code := none }
def k1c1 : Code := { maxStack := 4, maxLocals := 14, code := code, exceptionTable := #[], attributes := #[] }
def k1m1 : Method := { name := "law", desc := "(JI)Z", sig := { parameters := [.long, .int], returnType := some .boolean }, accessFlags := 9, code := some k1c1 }
/-- com/example/renkei/renkei/budget/HeapBudgetMebibytesPinLaw -/
def k1 : Class := { plain "com/example/renkei/renkei/budget/HeapBudgetMebibytesPinLaw" (some 0) with
  accessFlags := 49
  interfaces := #[]
  cf := some (fileOf pool1 11 #[] #[{ accessFlags := 1, nameIndex := 5, descriptorIndex := 6, attributes := #[] }, { accessFlags := 9, nameIndex := 32, descriptorIndex := 33, attributes := #[] }] 49 2 #[] #[{ accessFlags := 26, nameIndex := 27, descriptorIndex := 28, attributes := #[] }])
  fields := #[{ name := "M", type := .long, accessFlags := 26, slot := 0, constantValue := 0 }]
  methods := #[k1m0, k1m1]
  instanceTypes := #[]
  staticTypes := #[.long]
  resolved := Array.replicate 37 none
  statics := none }

def pool2 : Array CpInfo := pool [(2, .class_ 4), (1, u "java/lang/Object"), (6, .class_ 13), (1, u "com/example/renkei/renkei/budget/HeapBudget"), (0, u "lock"), (0, u "Ljava/util/concurrent/locks/ReentrantLock;"), (6, u "roomGranted"), (0, u "Ljava/util/concurrent/locks/Condition;"), (5, u "waiting"), (0, u "Ljava/util/Deque;"), (2, u "bytes"), (0, u "J"), (3, u "(J)J"), (2, u "free"), (2, u "wait"), (0, u "Ljava/time/Duration;"), (0, .class_ 47), (0, u "com/example/renkei/renkei/budget/HeapBudget$Room"), (3, .class_ 52), (0, u "com/example/renkei/renkei/budget/HeapBudget$NoRoomException"), (22, .long 1048576), (11, .class_ 88), (0, u "com/example/renkei/renkei/budget/HeapBudget$Request"), (20, u "UNIT"), (1, u "MEBIBYTE"), (16, u "mebibytes")] 8

def k2c0 : Code := { maxStack := 4, maxLocals := 2, code := prog_10_method_7_code, exceptionTable := #[], attributes := #[] }
def k2m0 : Method := { name := "mebibytes", desc := "(J)J", sig := { parameters := [.long], returnType := some .long }, accessFlags := 9, code := some k2c0 }
/-- com/example/renkei/renkei/budget/HeapBudget -/
def k2 : Class := { plain "com/example/renkei/renkei/budget/HeapBudget" (some 0) with
  accessFlags := 49
  interfaces := #[]
  cf := some (fileOf pool2 11 #[.nestMembers #[51, 87, 46]] #[{ accessFlags := 9, nameIndex := 128, descriptorIndex := 38, attributes := #[] }] 49 2 #[] #[{ accessFlags := 26, nameIndex := 109, descriptorIndex := 34, attributes := #[] }, { accessFlags := 26, nameIndex := 111, descriptorIndex := 34, attributes := #[] }, { accessFlags := 18, nameIndex := 33, descriptorIndex := 34, attributes := #[] }, { accessFlags := 18, nameIndex := 44, descriptorIndex := 45, attributes := #[] }, { accessFlags := 18, nameIndex := 14, descriptorIndex := 15, attributes := #[] }, { accessFlags := 18, nameIndex := 22, descriptorIndex := 23, attributes := #[] }, { accessFlags := 2, nameIndex := 41, descriptorIndex := 34, attributes := #[] }, { accessFlags := 18, nameIndex := 29, descriptorIndex := 30, attributes := #[] }])
  fields := #[{ name := "UNIT", type := .long, accessFlags := 26, slot := 0, constantValue := 0 }, { name := "MEBIBYTE", type := .long, accessFlags := 26, slot := 1, constantValue := 0 }, { name := "bytes", type := .long, accessFlags := 18, slot := 0, constantValue := 0 }, { name := "wait", type := (.object "java/time/Duration"), accessFlags := 18, slot := 1, constantValue := 0 }, { name := "lock", type := (.object "java/util/concurrent/locks/ReentrantLock"), accessFlags := 18, slot := 2, constantValue := 0 }, { name := "roomGranted", type := (.object "java/util/concurrent/locks/Condition"), accessFlags := 18, slot := 3, constantValue := 0 }, { name := "free", type := .long, accessFlags := 2, slot := 4, constantValue := 0 }, { name := "waiting", type := (.object "java/util/Deque"), accessFlags := 18, slot := 5, constantValue := 0 }]
  methods := #[k2m0]
  instanceTypes := #[.long, (.object "java/time/Duration"), (.object "java/util/concurrent/locks/ReentrantLock"), (.object "java/util/concurrent/locks/Condition"), .long, (.object "java/util/Deque")]
  staticTypes := #[.long, .long]
  resolved := Array.replicate 137 none
  statics := none }

def pool3 : Array CpInfo := pool [(1, u "java/lang/Cloneable"), (0, .class_ 1), (0, u "java/lang/Object"), (0, .class_ 3)] 3

/-- java/lang/Cloneable -/
def k3 : Class := { plain "java/lang/Cloneable" (some 0) with
  accessFlags := 1537
  interfaces := #[]
  cf := some (fileOf pool3 2 #[] #[] 1537 4 #[] #[])
  fields := #[]
  methods := #[]
  instanceTypes := #[]
  staticTypes := #[]
  resolved := Array.replicate 8 none
  statics := none }

def pool4 : Array CpInfo := pool [(1, u "java/io/Serializable"), (0, .class_ 1), (0, u "java/lang/Object"), (0, .class_ 3)] 3

/-- java/io/Serializable -/
def k4 : Class := { plain "java/io/Serializable" (some 0) with
  accessFlags := 1537
  interfaces := #[]
  cf := some (fileOf pool4 2 #[] #[] 1537 4 #[] #[])
  fields := #[]
  methods := #[]
  instanceTypes := #[]
  staticTypes := #[]
  resolved := Array.replicate 8 none
  statics := none }

/-- the primitive byte -/
def k5 : Class := { plain "byte" none with kind := .primitive 'B', accessFlags := 0x411 }
/-- [B -/
def k6 : Class := { plain "[B" (some 0) with kind := .array 5 .byte, interfaces := #[3, 4], accessFlags := 1041 }

/-- the primitive int -/
def k7 : Class := { plain "int" none with kind := .primitive 'I', accessFlags := 0x411 }
/-- [I -/
def k8 : Class := { plain "[I" (some 0) with kind := .array 7 .int, interfaces := #[3, 4], accessFlags := 1041 }

def heap : Heap := #[]
def classes : Array Class := #[k0, k1, k2, k3, k4, k5, k6, k7, k8]
def interned : List (Array UInt16 × Addr) := []
def slotsUsed : Nat := 0
def theMethod : MethodId := ⟨1, 1⟩
def args0 : Array Value := #[.long 5, .int 7]
def aboutOver (below : List Frame) : State where
  vm := { classes := classes, interned := interned.toArray }
  heap := heap
  slotsUsed := slotsUsed
  threads := #[{ frames := .invoking theMethod args0 :: below }]
def below0 : List Frame := [.native { method := ⟨0, 0⟩, args := #[] }]
def about1 : State := aboutOver below0
def p0 : Program := .bare "" "" ""
def e0 : Env := launch0.env 0 0 0
theorem w_frames : about1.frames = Frame.invoking theMethod args0 :: below0 := rfl
set_option maxRecDepth 65536 in
theorem w_args : argsFit about1.vm theMethod args0 = true := by decide +kernel
set_option maxRecDepth 65536 in
theorem w_heap : heapFits about1 = true := by decide +kernel
set_option maxRecDepth 65536 in
theorem w_runnable : about1.curStatus? = some .runnable := by decide +kernel
set_option maxRecDepth 65536 in
theorem w_alone : about1.alone = true := by decide +kernel
set_option maxRecDepth 65536 in
theorem w_named : about1.methodNamed? x = some theMethod := by decide +kernel
set_option maxRecDepth 65536 in
theorem w_hears : about1.hears theMethod below0 = true := by decide +kernel
set_option maxRecDepth 65536 in
theorem w_ripe : about1.ripe theMethod args0 below0 = true := by decide +kernel
theorem w_running : about1.status = .running := rfl
set_option maxRecDepth 65536 in
theorem w_room : about1.hasRoom e0.platform room_1 = true :=
  launch0.hasRoom_least _ room_1 (by decide +kernel) (by decide +kernel) (by decide +kernel) (by decide +kernel) (by decide +kernel) (by decide +kernel)
theorem allAtoms_all (ts : List Jvm.Cond) (a : Array Jvm.Value) (st : Jvm.State) : (allAtoms ts).before a st = ts.all (fun c => c.before a st) := by
  induction ts with
  | nil => rfl
  | cons c t ih =>
    show (Jvm.Cond.and c (allAtoms t)).before a st = _
    rw [Jvm.Cond.before_and, ih, List.all_cons]
def words1 : List Jvm.Cond := Jvm.Cond.code x code maxLocals ret :: tables_1
/-- a 'code' word, met by the world's own term for the bytes: nothing is compared byte by byte -/
theorem code_word {y : MethodName} {bytes : ByteArray} {mx : Nat} {rt : Option FieldType} {a : Array Value} {s : State} {m : MethodId} {meth : Method} {c : Code} (h1 : s.methodNamed? y = some m) (h2 : s.vm.method? m = some meth) (h3 : meth.code = some c) (h4 : c.code = bytes)
    (h5 : (c.maxLocals == mx && c.exceptionTable.isEmpty && decide (c.maxStack ≤ mostOperands) && decide (meth.sig.returnType = rt) && !meth.locks && decide (parseMethodDescriptor y.desc = some meth.sig)) = true) : (Jvm.Cond.code y bytes mx rt).before a s = true := by
  simp only [Bool.and_eq_true, beq_iff_eq, Bool.not_eq_true', decide_eq_true_eq] at h5
  obtain ⟨⟨⟨⟨⟨g1, g2⟩, g3⟩, g4⟩, g5⟩, g6⟩ := h5
  simp [Cond.before, Cond.holds, Cond.value, h1, h2, h3, h4, g1, g2, g3, g4, g5, g6]
def isCode : Jvm.Cond → Bool
  | .code _ _ _ _ => true
  | _ => false
theorem all_split {L : List Jvm.Cond} {P : Jvm.Cond → Bool} (h1 : L.all (fun c => isCode c || P c) = true) (h2 : ∀ c ∈ L.filter isCode, P c = true) : L.all P = true := by
  refine List.all_eq_true.mpr fun c hc => ?_
  have h := List.all_eq_true.mp h1 c hc
  rcases Bool.eq_false_or_eq_true (isCode c) with hi | hi
  · exact h2 c (List.mem_filter.mpr ⟨hc, hi⟩)
  · simpa [hi] using h
set_option maxRecDepth 65536 in
theorem w_c0 : (Jvm.Cond.code x code maxLocals ret).before args0 about1 = true := code_word (m := ⟨1, 1⟩) (meth := k1m1) (c := k1c1) (by decide +kernel) rfl rfl rfl (by decide +kernel)
set_option maxRecDepth 65536 in
theorem w_c1 : (Jvm.Cond.code ({ cls := "com/example/renkei/renkei/budget/HeapBudget", name := "mebibytes", desc := "(J)J" } : Jvm.MethodName) prog_10_method_7_code (2 : Nat) (Option.some Jvm.ClassFile.FieldType.long)).before args0 about1 = true := code_word (m := ⟨2, 0⟩) (meth := k2m0) (c := k2c0) (by decide +kernel) rfl rfl rfl (by decide +kernel)
def codes1 : List Jvm.Cond := [Jvm.Cond.code x code maxLocals ret, Jvm.Cond.code ({ cls := "com/example/renkei/renkei/budget/HeapBudget", name := "mebibytes", desc := "(J)J" } : Jvm.MethodName) prog_10_method_7_code (2 : Nat) (Option.some Jvm.ClassFile.FieldType.long)]
set_option maxRecDepth 65536 in
theorem codes_eq : words1.filter isCode = codes1 := rfl
theorem w_codes : ∀ c ∈ words1.filter isCode, c.before args0 about1 = true := by
  rw [codes_eq]
  intro c hc
  simp only [codes1, List.mem_cons, List.not_mem_nil, or_false] at hc
  rcases hc with rfl | rfl
  · exact w_c0
  · exact w_c1
set_option maxRecDepth 65536 in
theorem w_t1 : words1.all (fun c => isCode c || c.before args0 about1) = true := by decide +kernel
theorem w_tables : (allAtoms (Jvm.Cond.code x code maxLocals ret :: tables_1)).before args0 about1 = true := by
  rw [allAtoms_all]
  show words1.all (fun c => c.before args0 about1) = true
  refine all_split ?_ w_codes
  rw [w_t1]
set_option maxRecDepth 65536 in
theorem w_case : (Jvm.Cond.and given_1 narrow_1).before args0 about1 = true := by decide +kernel
theorem w_applies : (headSpec (Jvm.Cond.code x code maxLocals ret :: tables_1) room_1).applies x e0.platform about1 = true :=
  (Spec.applies_iff w_frames).mpr ⟨w_running, w_runnable, w_alone, w_named, w_hears, w_ripe, w_room, w_tables⟩
theorem atStart : AtStart classFile x code maxLocals ret World_1 tables_1 room_1 Calls_1 rest_1 Pre_1 launch0 p0 e0 about1 theMethod args0 below0 :=
  ⟨lists_1, trivial, launch0.admits_env _ _ _, launch0.least_env, fairChoices_fair.cas, fairChoices_fair.clock, w_frames, w_args, w_heap, w_applies, trivial, trivial, w_case⟩
end start1
theorem witness_1 : WitnessClaimed_1 := ⟨start1.p0, start1.e0, start1.about1, start1.theMethod, start1.args0, start1.below0, start1.atStart⟩
end Jvm.Pilot.@@N@@
