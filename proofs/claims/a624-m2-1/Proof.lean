import JvmDerived
import JvmDerived.Pilot.@@N@@Statement
import JvmDerived.Pilot.@@N@@Code
set_option linter.unusedVariables false
set_option linter.unusedSimpArgs false
namespace Jvm.RoadKit
open Sem ClassFile Op Lib Jvm.Stand Jvm.Free Jvm.LawKit
section New
variable {p : Program} {l : Launch} {e : Env} {R : Room} {s : State} {m : MethodId} {args : Array Value} {below : List Frame} {meth : Method} {c : Code} {T : State} {locs : List Loc} {cells slots : Nat}
theorem retI (X : Stand p l e R s m args below meth c T locs cells slots) (hx : p.tables.exec = Jvm.exec) {pc : Nat} {Ls : Array Slot} {z : Int32} {rest : List Value} (hret : meth.sig.returnType = some .int) (hd : decode c.code pc = .ok (.ireturn, 1)) {fs : List Frame}
    (hl : ∀ (f : JFrame) (acts : List Action), f.method = m → f.locked = none → f.entered = [] → (doReturn e (T.setTop f) acts (some (.int z))).1 = T.setFrames fs) : Steps p.tables e below (T.setTop (mkF m pc Ls (.int z :: rest))) (T.setFrames fs) := by
  have hm' : T.vm.method? m = some meth := X.method'
  have hn : narrow .int (.int z) = .int z := rfl
  show Steps p.tables e below (T.setTop { method := m, pc := pc, locals := Ls, stack := _ :: rest, locked := none }) _
  jvm_step X.here [X.here.top, hx, hd, hm', hret, hn]
  first | (intro acts; rw [hl _ acts rfl rfl rfl]) | rw [hl _ _ rfl rfl rfl]
  exact Steps.refl _
end New
end Jvm.RoadKit
namespace Jvm.Pilot.@@N@@
open Jvm Jvm.ClassFile Sem Op Lib Jvm.Free Jvm.Stand Jvm.LawKit Jvm.RoadKit Bundle Jvm.Pilot.@@N@@.Jvm.D
def Goes (tb : Tables) (e : Env) (below : List Frame) (Q : Outcome → State → Prop) (A : State) : Prop := ∃ s₂ o, Steps tb e below A s₂ ∧ s₂.status = .running ∧ Ended s₂ below o ∧ Q o s₂
theorem Goes.step {tb : Tables} {e : Env} {below : List Frame} {Q : Outcome → State → Prop} {A B : State} (h : ∀ t, Steps tb e below A t → Steps tb e below B t) (k : Goes tb e below Q A) : Goes tb e below Q B := by
  obtain ⟨s₂, o, h1, h2⟩ := k
  exact ⟨s₂, o, h _ h1, h2⟩
theorem Goes.start {tb : Tables} {e : Env} {below : List Frame} {Q : Outcome → State → Prop} {A B : State} (h : ∀ t, Steps tb e below A t → Steps tb e below B t) (k : Goes tb e below Q A) : ∃ s₂ o, Steps tb e below B s₂ ∧ s₂.status = .running ∧ Ended s₂ below o ∧ Q o s₂ := Goes.step h k
theorem Goes.done {tb : Tables} {e : Env} {below : List Frame} {Q : Outcome → State → Prop} {A s₂ : State} {o : Outcome} (h1 : Steps tb e below A s₂) (h2 : s₂.status = .running) (h3 : Ended s₂ below o) (h4 : Q o s₂) : Goes tb e below Q A := ⟨s₂, o, h1, h2, h3, h4⟩
def exceedsF (s m : Int64) : Int32 := if m = 0 then 0 else if s = 0 then 1 else if m < s then 1 else 0
def keyF (x : Int64) : Int64 := (x - (1 : Int64)) ^^^ (-9223372036854775808 : Int64)
def unkeyF (x : Int64) : Int64 := (x ^^^ (-9223372036854775808 : Int64)) + (1 : Int64)
def minF (a b : Int64) : Int64 := if b < a then b else a
def limF (s m : Int64) : Int64 := if exceedsF s m = 0 then s else m
theorem own_natxor (n : Nat) (h : n < 2 ^ 64) : (n < 2 ^ 63 → n ^^^ 2 ^ 63 = n + 2 ^ 63) ∧ (2 ^ 63 ≤ n → n ^^^ 2 ^ 63 = n - 2 ^ 63) := by
  have m1 : (n ^^^ 2 ^ 63) % 2 ^ 63 = n % 2 ^ 63 := by rw [Nat.xor_mod_two_pow]; simp
  have d1 : (n ^^^ 2 ^ 63) / 2 ^ 63 = (n / 2 ^ 63) ^^^ 1 := by rw [Nat.xor_div_two_pow]
  have q : n / 2 ^ 63 = 0 ∨ n / 2 ^ 63 = 1 := by omega
  constructor
  · intro hl
    have q0 : n / 2 ^ 63 = 0 := by omega
    rw [q0] at d1
    have e : (0 ^^^ 1 : Nat) = 1 := by decide
    rw [e] at d1; omega
  · intro hl
    have q0 : n / 2 ^ 63 = 1 := by omega
    rw [q0] at d1
    have e : (1 ^^^ 1 : Nat) = 0 := by decide
    rw [e] at d1; omega
theorem own_xor (x : Int64) : (x.toInt < 0 → (x ^^^ (-9223372036854775808 : Int64)).toInt = x.toInt + 9223372036854775808) ∧ (0 ≤ x.toInt → (x ^^^ (-9223372036854775808 : Int64)).toInt = x.toInt - 9223372036854775808) := by
  have hn : (x ^^^ (-9223372036854775808 : Int64)).toBitVec.toNat = x.toBitVec.toNat ^^^ 2 ^ 63 := by rw [Int64.toBitVec_xor, BitVec.toNat_xor]; rfl
  have hx := own_natxor x.toBitVec.toNat x.toBitVec.isLt
  have e1 : (x ^^^ (-9223372036854775808 : Int64)).toInt = (x ^^^ (-9223372036854775808 : Int64)).toBitVec.toInt := rfl
  have e2 : x.toInt = x.toBitVec.toInt := rfl
  have l := x.toBitVec.isLt
  have l2 := (x ^^^ (-9223372036854775808 : Int64)).toBitVec.isLt
  rw [e1, e2, BitVec.toInt_eq_toNat_cond, BitVec.toInt_eq_toNat_cond, hn]
  rw [hn] at l2
  generalize x.toBitVec.toNat = n at *
  by_cases hl : n < 2 ^ 63
  · have := hx.1 hl
    rw [this] at *
    constructor <;> intro h <;> split at * <;> omega
  · have := hx.2 (by omega)
    rw [this] at *
    constructor <;> intro h <;> split at * <;> omega
theorem own_uk (x : Int64) : unkeyF (keyF x) = x := by
  simp only [unkeyF, keyF, Int64.xor_assoc, Int64.xor_self, Int64.xor_zero, Int64.sub_add_cancel]
theorem own_key (x : Int64) (h : 0 ≤ x.toInt) : (x = 0 → (keyF x).toInt = 9223372036854775807) ∧ (¬ x = 0 → (keyF x).toInt = x.toInt - 1 - 9223372036854775808) := by
  have e := c_lsub x 1
  have l1 : (1 : Int64).toInt = 1 := by decide
  rw [l1] at e
  have r := rng64 (x - 1)
  have rx := rng64 x
  have q := own_xor (x - 1)
  constructor
  · intro h0; subst h0; decide
  · intro h0
    have h1 : ¬ x.toInt = 0 := fun w => h0 (by rw [← Int64.toInt_inj, w]; decide)
    have e2 : (x - 1).toInt = x.toInt - 1 := by omega
    have := q.2 (by omega)
    show ((x - (1 : Int64)) ^^^ (-9223372036854775808 : Int64)).toInt = _
    rw [this, e2]
theorem own_lim (s m : Int64) (hs : 0 ≤ s.toInt) (hm : 0 ≤ m.toInt) : limF s m = unkeyF (minF (keyF s) (keyF m)) := by
  have ks := own_key s hs
  have km := own_key m hm
  have rs := rng64 s
  have rm := rng64 m
  have z : (0 : Int64).toInt = 0 := by decide
  by_cases h1 : m = 0
  · have k1 := km.1 h1
    have hn : ¬ keyF m < keyF s := by
      rw [Int64.lt_iff_toInt_lt, k1]; have := rng64 (keyF s); omega
    rw [minF, if_neg hn, own_uk, limF, exceedsF, if_pos h1]; rfl
  · have k1 := km.2 h1
    by_cases h2 : s = 0
    · have k2 := ks.1 h2
      have hn : keyF m < keyF s := by rw [Int64.lt_iff_toInt_lt, k1, k2]; omega
      rw [minF, if_pos hn, own_uk, limF, exceedsF, if_neg h1, if_pos h2, if_neg (by decide)]
    · have k2 := ks.2 h2
      by_cases h3 : m < s
      · have h3' := h3
        rw [Int64.lt_iff_toInt_lt] at h3'
        have hn : keyF m < keyF s := by rw [Int64.lt_iff_toInt_lt, k1, k2]; omega
        rw [minF, if_pos hn, own_uk, limF, exceedsF, if_neg h1, if_neg h2, if_pos h3, if_neg (by decide)]
      · have h3' := h3
        rw [Int64.lt_iff_toInt_lt] at h3'
        have hn : ¬ keyF m < keyF s := by rw [Int64.lt_iff_toInt_lt, k1, k2]; omega
        rw [minF, if_neg hn, own_uk, limF, exceedsF, if_neg h1, if_neg h2, if_neg h3]; rfl
theorem own_nn (x : Int64) : 0 ≤ (x &&& (9223372036854775807 : Int64)).toInt := by
  have e := c_maskL x 9223372036854775807 63 (by decide) (by decide)
  rw [e]; have r := rng64 x; omega
theorem own_n0 : 0 ≤ (0 : Int64).toInt := by decide
theorem ef_5 (m : MethodId) (x0 : Int64) (x1 : Int64) : entryFrame m #[(.long x0), (.long x1)] 4 = mkF m 0 #[.val (.long x0), .second, .val (.long x1), .second] [] := by first | (simp [entryFrame, mkF, argsToLocals, Value.category]; done) | rfl
def Q5 (Z : State) (q1 : Int64) (q2 : Int64) (h0 : Heap) (n0 : Nat) (v : Option Value) (h : Heap) (L : List Loc) : Prop := v = some (.int (exceedsF q1 q2)) ∧ Fr n0 L ∧ h = h0
theorem d5_0 : decode prog_19_method_3_code 0 = .ok (.lload_n 2, 1) := by decide +kernel
theorem d5_1 : decode prog_19_method_3_code 1 = .ok (.lconst 0, 1) := by decide +kernel
theorem d5_2 : decode prog_19_method_3_code 2 = .ok (.lcmp, 1) := by decide +kernel
theorem d5_3 : decode prog_19_method_3_code 3 = .ok (.ifCond .eq 19, 3) := by decide +kernel
theorem d5_6 : decode prog_19_method_3_code 6 = .ok (.lload_n 0, 1) := by decide +kernel
theorem d5_7 : decode prog_19_method_3_code 7 = .ok (.lconst 0, 1) := by decide +kernel
theorem d5_8 : decode prog_19_method_3_code 8 = .ok (.lcmp, 1) := by decide +kernel
theorem d5_9 : decode prog_19_method_3_code 9 = .ok (.ifCond .eq 9, 3) := by decide +kernel
theorem d5_12 : decode prog_19_method_3_code 12 = .ok (.lload_n 0, 1) := by decide +kernel
theorem d5_13 : decode prog_19_method_3_code 13 = .ok (.lload_n 2, 1) := by decide +kernel
theorem d5_14 : decode prog_19_method_3_code 14 = .ok (.lcmp, 1) := by decide +kernel
theorem d5_15 : decode prog_19_method_3_code 15 = .ok (.ifCond .le 7, 3) := by decide +kernel
theorem d5_18 : decode prog_19_method_3_code 18 = .ok (.iconst 1, 1) := by decide +kernel
theorem d5_19 : decode prog_19_method_3_code 19 = .ok (.goto 4, 3) := by decide +kernel
theorem d5_22 : decode prog_19_method_3_code 22 = .ok (.iconst 0, 1) := by decide +kernel
theorem d5_23 : decode prog_19_method_3_code 23 = .ok (.ireturn, 1) := by decide +kernel
theorem pn_5 : plainName "com/example/madingley/madingley/core/UwsDuration" = true := by first | (simp [plainName, overriddenIn]; done) | decide +kernel
set_option maxRecDepth 65536 in
set_option maxHeartbeats 40000000 in
theorem rm5 (l : Launch) (Z : State) (a0 : Array Value) (hw : ∀ d ∈ tables_1, d.before a0 Z = true) (ws : List Jvm.Cond) (q1 : Int64) (q2 : Int64) (h0 : Heap) (n0 : Nat) (Z0 : n0 ≤ h0.size) :
    MetFree l (⟨"com/example/madingley/madingley/core/UwsDuration", "exceeds", "(JJ)Z"⟩ : MethodName) (head1 (Jvm.Cond.code (⟨"com/example/madingley/madingley/core/UwsDuration", "exceeds", "(JJ)Z"⟩ : MethodName) prog_19_method_3_code 4 (some .boolean) :: ws) ({ frames := 0, cells := 0, slots := 0, locals := 0 } : Room)) (fun a U => a = #[(.long q1), (.long q2)] ∧ Z.Warmed39 U.vm ∧ U.heap = h0) (fun _ _ _ _ _ => True) (fun _ U o U' => ∃ v L, o = .returned v ∧ Q5 Z q1 q2 h0 n0 v U'.heap L ∧ FrameEnd U o U' L ({ frames := 0, cells := 0, slots := 0, locals := 0 } : Room).cells ({ frames := 0, cells := 0, slots := 0, locals := 0 } : Room).slots) := by
  refine MetFree.of_bodySF (plainFor_of_name pn_5) hisR ?_
  intro p e s m args below meth c s₁ Bd hml0 hP hK
  obtain ⟨rfl, hZ, hh⟩ := hP
  have hx := Bd.exec
  have hby := Bd.bytes
  have hml : c.maxLocals = 4 := hml0
  have hown : s.vm.findClass "com/example/madingley/madingley/core/UwsDuration" = some m.cls := findClass_of_methodNamed Bd.named
  have hnm := (name_of_methodNamed Bd.named Bd.method).1
  have X0 : Stand p l e ({ frames := 0, cells := 0, slots := 0, locals := 0 } : Room) s m #[(.long q1), (.long q2)] below meth c s₁ [] 0 0 := Stand.of_body Bd
  have e0 : s₁.heap = h0 := by rw [← hh, Bd.state]; rfl
  have N0 := Fr.nil n0
  refine Goes.start (Q := (fun o U' => ∃ v L, o = .returned v ∧ Q5 Z q1 q2 h0 n0 v U'.heap L ∧ FrameEnd s o U' L ({ frames := 0, cells := 0, slots := 0, locals := 0 } : Room).cells ({ frames := 0, cells := 0, slots := 0, locals := 0 } : Room).slots)) (A := s₁.setTop (mkF m 0 #[.val (.long q1), .second, .val (.long q2), .second] [])) (fun t k => castTop (ef_5 m q1 q2) k) ?_
  refine Goes.step (A := s₁.setTop (mkF m 3 #[.val (.long q1), .second, .val (.long q2), .second] [(.int (lcmpW q2 (0 : Int64)))])) (fun t kt => ?_) ?_
  · refine XS.lloadN X0.here hx rfl (hb hby d5_0) rfl ?_
    show Steps p.tables e below (s₁.setTop (mkF m 1 #[.val (.long q1), .second, .val (.long q2), .second] [(.long q2)])) _
    refine XS.lconst X0.here hx rfl (hb hby d5_1) ?_
    show Steps p.tables e below (s₁.setTop (mkF m 2 #[.val (.long q1), .second, .val (.long q2), .second] [(.long (0 : Int64)), (.long q2)])) _
    refine XS.lcmp X0.here hx rfl (hb hby d5_2) rfl ?_
    exact kt
  by_cases hc3_1 : q2 = (0 : Int64)
  · refine Goes.step (A := s₁.setTop (mkF m 22 #[.val (.long q1), .second, .val (.long q2), .second] [])) (fun t kt => XS.ifYes X0.here hx rfl (pc0 := 3) (pc' := 22) rfl (hb hby d5_3) rfl ((if0 _ _).trans (teq ((lw_eq _ _).mpr hc3_1)).1) (by decide) (by decide) kt) ?_
    refine Goes.step (A := s₁.setTop (mkF m 23 #[.val (.long q1), .second, .val (.long q2), .second] [(.int (0 : Int32))])) (fun t kt => ?_) ?_
    · refine XS.iconst X0.here hx rfl (hb hby d5_22) ?_
      exact kt
    obtain ⟨fs, hr, hrun, hended, hW, hsame⟩ := X0.leave (v := some (.int (0 : Int32))) (fun h => by rw [Bd.returns] at h; cases h)
    refine Goes.done ?_ hrun hended ⟨_, _, rfl, ?_, ⟨_, rfl⟩, hW, hsame.mono (by decide) (by decide)⟩
    · exact retN X0 hx (t := .boolean) Bd.returns (by simp) (hb hby d5_23) hr
    · show Q5 Z q1 q2 h0 n0 _ s₁.heap _
      rw [e0]
      exact ⟨congrArg some (congrArg Value.int (by simp [exceedsF, hc3_1])), N0, rfl⟩
  · refine Goes.step (A := s₁.setTop (mkF m 6 #[.val (.long q1), .second, .val (.long q2), .second] [])) (fun t kt => XS.ifNo X0.here hx rfl (hb hby d5_3) rfl ((if0 _ _).trans (feq (fun q => hc3_1 ((lw_eq _ _).mp q))).1) kt) ?_
    refine Goes.step (A := s₁.setTop (mkF m 9 #[.val (.long q1), .second, .val (.long q2), .second] [(.int (lcmpW q1 (0 : Int64)))])) (fun t kt => ?_) ?_
    · refine XS.lloadN X0.here hx rfl (hb hby d5_6) rfl ?_
      show Steps p.tables e below (s₁.setTop (mkF m 7 #[.val (.long q1), .second, .val (.long q2), .second] [(.long q1)])) _
      refine XS.lconst X0.here hx rfl (hb hby d5_7) ?_
      show Steps p.tables e below (s₁.setTop (mkF m 8 #[.val (.long q1), .second, .val (.long q2), .second] [(.long (0 : Int64)), (.long q1)])) _
      refine XS.lcmp X0.here hx rfl (hb hby d5_8) rfl ?_
      exact kt
    by_cases hc9_2 : q1 = (0 : Int64)
    · refine Goes.step (A := s₁.setTop (mkF m 18 #[.val (.long q1), .second, .val (.long q2), .second] [])) (fun t kt => XS.ifYes X0.here hx rfl (pc0 := 9) (pc' := 18) rfl (hb hby d5_9) rfl ((if0 _ _).trans (teq ((lw_eq _ _).mpr hc9_2)).1) (by decide) (by decide) kt) ?_
      refine Goes.step (A := s₁.setTop (mkF m 23 #[.val (.long q1), .second, .val (.long q2), .second] [(.int (1 : Int32))])) (fun t kt => ?_) ?_
      · refine XS.iconst X0.here hx rfl (hb hby d5_18) ?_
        show Steps p.tables e below (s₁.setTop (mkF m 19 #[.val (.long q1), .second, .val (.long q2), .second] [(.int (1 : Int32))])) _
        refine XS.goto X0.here hx rfl (pc0 := 19) (pc' := 23) rfl (hb hby d5_19) (by decide) (by decide) ?_
        exact kt
      obtain ⟨fs, hr, hrun, hended, hW, hsame⟩ := X0.leave (v := some (.int (1 : Int32))) (fun h => by rw [Bd.returns] at h; cases h)
      refine Goes.done ?_ hrun hended ⟨_, _, rfl, ?_, ⟨_, rfl⟩, hW, hsame.mono (by decide) (by decide)⟩
      · exact retN X0 hx (t := .boolean) Bd.returns (by simp) (hb hby d5_23) hr
      · show Q5 Z q1 q2 h0 n0 _ s₁.heap _
        rw [e0]
        exact ⟨congrArg some (congrArg Value.int (by simp [exceedsF, hc3_1, hc9_2])), N0, rfl⟩
    · refine Goes.step (A := s₁.setTop (mkF m 12 #[.val (.long q1), .second, .val (.long q2), .second] [])) (fun t kt => XS.ifNo X0.here hx rfl (hb hby d5_9) rfl ((if0 _ _).trans (feq (fun q => hc9_2 ((lw_eq _ _).mp q))).1) kt) ?_
      refine Goes.step (A := s₁.setTop (mkF m 15 #[.val (.long q1), .second, .val (.long q2), .second] [(.int (lcmpW q1 q2))])) (fun t kt => ?_) ?_
      · refine XS.lloadN X0.here hx rfl (hb hby d5_12) rfl ?_
        show Steps p.tables e below (s₁.setTop (mkF m 13 #[.val (.long q1), .second, .val (.long q2), .second] [(.long q1)])) _
        refine XS.lloadN X0.here hx rfl (hb hby d5_13) rfl ?_
        show Steps p.tables e below (s₁.setTop (mkF m 14 #[.val (.long q1), .second, .val (.long q2), .second] [(.long q2), (.long q1)])) _
        refine XS.lcmp X0.here hx rfl (hb hby d5_14) rfl ?_
        exact kt
      by_cases hc15_3 : q2 < q1
      · refine Goes.step (A := s₁.setTop (mkF m 18 #[.val (.long q1), .second, .val (.long q2), .second] [])) (fun t kt => XS.ifNo X0.here hx rfl (hb hby d5_15) rfl ((if0 _ _).trans (tlt ((lw_gt _ _).mpr hc15_3)).2.2.2) kt) ?_
        refine Goes.step (A := s₁.setTop (mkF m 23 #[.val (.long q1), .second, .val (.long q2), .second] [(.int (1 : Int32))])) (fun t kt => ?_) ?_
        · refine XS.iconst X0.here hx rfl (hb hby d5_18) ?_
          show Steps p.tables e below (s₁.setTop (mkF m 19 #[.val (.long q1), .second, .val (.long q2), .second] [(.int (1 : Int32))])) _
          refine XS.goto X0.here hx rfl (pc0 := 19) (pc' := 23) rfl (hb hby d5_19) (by decide) (by decide) ?_
          exact kt
        obtain ⟨fs, hr, hrun, hended, hW, hsame⟩ := X0.leave (v := some (.int (1 : Int32))) (fun h => by rw [Bd.returns] at h; cases h)
        refine Goes.done ?_ hrun hended ⟨_, _, rfl, ?_, ⟨_, rfl⟩, hW, hsame.mono (by decide) (by decide)⟩
        · exact retN X0 hx (t := .boolean) Bd.returns (by simp) (hb hby d5_23) hr
        · show Q5 Z q1 q2 h0 n0 _ s₁.heap _
          rw [e0]
          exact ⟨congrArg some (congrArg Value.int (by simp [exceedsF, hc3_1, hc9_2, hc15_3])), N0, rfl⟩
      · refine Goes.step (A := s₁.setTop (mkF m 22 #[.val (.long q1), .second, .val (.long q2), .second] [])) (fun t kt => XS.ifYes X0.here hx rfl (pc0 := 15) (pc' := 22) rfl (hb hby d5_15) rfl ((if0 _ _).trans (flt (fun q => hc15_3 ((lw_gt _ _).mp q))).2.2.2) (by decide) (by decide) kt) ?_
        refine Goes.step (A := s₁.setTop (mkF m 23 #[.val (.long q1), .second, .val (.long q2), .second] [(.int (0 : Int32))])) (fun t kt => ?_) ?_
        · refine XS.iconst X0.here hx rfl (hb hby d5_22) ?_
          exact kt
        obtain ⟨fs, hr, hrun, hended, hW, hsame⟩ := X0.leave (v := some (.int (0 : Int32))) (fun h => by rw [Bd.returns] at h; cases h)
        refine Goes.done ?_ hrun hended ⟨_, _, rfl, ?_, ⟨_, rfl⟩, hW, hsame.mono (by decide) (by decide)⟩
        · exact retN X0 hx (t := .boolean) Bd.returns (by simp) (hb hby d5_23) hr
        · show Q5 Z q1 q2 h0 n0 _ s₁.heap _
          rw [e0]
          exact ⟨congrArg some (congrArg Value.int (by simp [exceedsF, hc3_1, hc9_2, hc15_3])), N0, rfl⟩
theorem ef_4 (m : MethodId) (x0 : Int64) (x1 : Int64) : entryFrame m #[(.long x0), (.long x1)] 4 = mkF m 0 #[.val (.long x0), .second, .val (.long x1), .second] [] := by first | (simp [entryFrame, mkF, argsToLocals, Value.category]; done) | rfl
def Q4 (Z : State) (q1 : Int64) (q2 : Int64) (h0 : Heap) (n0 : Nat) (v : Option Value) (h : Heap) (L : List Loc) : Prop := v = some (.long (limF q1 q2)) ∧ Fr n0 L ∧ h = h0
theorem d4_0 : decode prog_19_method_4_code 0 = .ok (.lload_n 0, 1) := by decide +kernel
theorem d4_1 : decode prog_19_method_4_code 1 = .ok (.lload_n 2, 1) := by decide +kernel
theorem d4_2 : decode prog_19_method_4_code 2 = .ok (.invokestatic 56, 3) := by decide +kernel
theorem d4_5 : decode prog_19_method_4_code 5 = .ok (.ifCond .eq 7, 3) := by decide +kernel
theorem d4_8 : decode prog_19_method_4_code 8 = .ok (.lload_n 2, 1) := by decide +kernel
theorem d4_9 : decode prog_19_method_4_code 9 = .ok (.goto 4, 3) := by decide +kernel
theorem d4_12 : decode prog_19_method_4_code 12 = .ok (.lload_n 0, 1) := by decide +kernel
theorem d4_13 : decode prog_19_method_4_code 13 = .ok (.lreturn, 1) := by decide +kernel
theorem pn_4 : plainName "com/example/madingley/madingley/core/UwsDuration" = true := by first | (simp [plainName, overriddenIn]; done) | decide +kernel
theorem pd_0 : parseMethodDescriptor "(JJ)Z" = some ⟨[.long, .long], some .boolean⟩ := by decide +kernel
set_option maxRecDepth 65536 in
set_option maxHeartbeats 40000000 in
theorem rm4 (l : Launch) (Z : State) (a0 : Array Value) (hw : ∀ d ∈ tables_1, d.before a0 Z = true) (ws : List Jvm.Cond) (q1 : Int64) (q2 : Int64) (h0 : Heap) (n0 : Nat) (Z0 : n0 ≤ h0.size) :
    MetFree l (⟨"com/example/madingley/madingley/core/UwsDuration", "limit", "(JJ)J"⟩ : MethodName) (head1 (Jvm.Cond.code (⟨"com/example/madingley/madingley/core/UwsDuration", "limit", "(JJ)J"⟩ : MethodName) prog_19_method_4_code 4 (some .long) :: ws) ({ frames := 1, cells := 0, slots := 0, locals := 15 } : Room)) (fun a U => a = #[(.long q1), (.long q2)] ∧ Z.Warmed39 U.vm ∧ U.heap = h0) (fun _ _ _ _ _ => True) (fun _ U o U' => ∃ v L, o = .returned v ∧ Q4 Z q1 q2 h0 n0 v U'.heap L ∧ FrameEnd U o U' L ({ frames := 1, cells := 0, slots := 0, locals := 15 } : Room).cells ({ frames := 1, cells := 0, slots := 0, locals := 15 } : Room).slots) := by
  refine MetFree.of_bodySF (plainFor_of_name pn_4) hisR ?_
  intro p e s m args below meth c s₁ Bd hml0 hP hK
  obtain ⟨rfl, hZ, hh⟩ := hP
  have hx := Bd.exec
  have hby := Bd.bytes
  have hml : c.maxLocals = 4 := hml0
  have hown : s.vm.findClass "com/example/madingley/madingley/core/UwsDuration" = some m.cls := findClass_of_methodNamed Bd.named
  have hnm := (name_of_methodNamed Bd.named Bd.method).1
  have X0 : Stand p l e ({ frames := 1, cells := 0, slots := 0, locals := 15 } : Room) s m #[(.long q1), (.long q2)] below meth c s₁ [] 0 0 := Stand.of_body Bd
  have e0 : s₁.heap = h0 := by rw [← hh, Bd.state]; rfl
  have N0 := Fr.nil n0
  refine Goes.start (Q := (fun o U' => ∃ v L, o = .returned v ∧ Q4 Z q1 q2 h0 n0 v U'.heap L ∧ FrameEnd s o U' L ({ frames := 1, cells := 0, slots := 0, locals := 15 } : Room).cells ({ frames := 1, cells := 0, slots := 0, locals := 15 } : Room).slots)) (A := s₁.setTop (mkF m 0 #[.val (.long q1), .second, .val (.long q2), .second] [])) (fun t k => castTop (ef_4 m q1 q2) k) ?_
  refine Goes.step (A := s₁.setTop (mkF m 2 #[.val (.long q1), .second, .val (.long q2), .second] [(.long q2), (.long q1)])) (fun t kt => ?_) ?_
  · refine XS.lloadN X0.here hx rfl (hb hby d4_0) rfl ?_
    show Steps p.tables e below (s₁.setTop (mkF m 1 #[.val (.long q1), .second, .val (.long q2), .second] [(.long q1)])) _
    refine XS.lloadN X0.here hx rfl (hb hby d4_1) rfl ?_
    exact kt
  obtain ⟨_, _, ⟨T1, L1, k1, n1⟩, -, X1, ⟨Lc1, hQ1, l1, y1, z1⟩, st1⟩ := Jvm.LawKit.callS X0 hx (y := (⟨"com/example/madingley/madingley/core/UwsDuration", "exceeds", "(JJ)Z"⟩ : MethodName)) hown (mvT hZ (hw _ (List.mem_of_getElem? (i := 17) rfl))) (mvT hZ (hw _ (List.mem_of_getElem? (i := 18) rfl))) (mvT hZ (hw _ (List.mem_of_getElem? (i := 15) rfl))) (mvT hZ (hw _ (List.mem_of_getElem? (i := 19) rfl))) (by decide) (backOf (W := 0) (rm5 l Z a0 hw [] q1 q2 h0 n0 Z0) hZ (hw _ (List.mem_of_getElem? (i := 19) rfl)) (hw _ (List.mem_of_getElem? (i := 15) rfl)) (by decide) (by decide)) (g := (mkF m 2 #[.val (.long q1), .second, .val (.long q2), .second] [(.long q2), (.long q1)])) rfl (by rw [hml]; rfl) (argsL := [(.long q1), (.long q2)]) (rest := []) (lenOf pd_0 rfl) rfl (by show 2 * 0 + _ ≤ _; exact Nat.le_of_eq rfl) (hb hby d4_2) (fun _ _ => ⟨rfl, e0, (by decide : 0 + 0 ≤ _), (by decide : 0 + 0 ≤ _)⟩)
  dsimp only [Pt.U, Pt.locs, Pt.cells, Pt.slots] at X1 l1 y1 z1 st1 hQ1
  subst l1 y1 z1
  obtain ⟨rfl, N1q, e1⟩ := hQ1
  have N1 := Fr.app N0 N1q
  refine Goes.step (A := T1.setTop (mkF m 5 #[.val (.long q1), .second, .val (.long q2), .second] [(.int (exceedsF q1 q2))])) (fun t kt => st1 _ kt) ?_
  by_cases hc5_4 : (exceedsF q1 q2) = (0 : Int32)
  · refine Goes.step (A := T1.setTop (mkF m 12 #[.val (.long q1), .second, .val (.long q2), .second] [])) (fun t kt => XS.ifYes X1.here hx rfl (pc0 := 5) (pc' := 12) rfl (hb hby d4_5) rfl ((if0 _ _).trans (teq hc5_4).1) (by decide) (by decide) kt) ?_
    refine Goes.step (A := T1.setTop (mkF m 13 #[.val (.long q1), .second, .val (.long q2), .second] [(.long q1)])) (fun t kt => ?_) ?_
    · refine XS.lloadN X1.here hx rfl (hb hby d4_12) rfl ?_
      exact kt
    obtain ⟨fs, hr, hrun, hended, hW, hsame⟩ := X1.leave (v := some (.long q1)) (fun h => by rw [Bd.returns] at h; cases h)
    refine Goes.done ?_ hrun hended ⟨_, _, rfl, ?_, ⟨_, rfl⟩, hW, hsame.mono (by decide) (by decide)⟩
    · jvm_step X1.here [X1.here.top, hx, (hb hby d4_13), X1.method', Bd.returns, narrow]
      first | (intro acts; rw [hr _ acts rfl rfl rfl]) | rw [hr _ _ rfl rfl rfl]
      exact Steps.refl _
    · show Q4 Z q1 q2 h0 n0 _ T1.heap _
      rw [e1]
      exact ⟨congrArg some (congrArg Value.long (by simp [limF, hc5_4])), N1, rfl⟩
  · refine Goes.step (A := T1.setTop (mkF m 8 #[.val (.long q1), .second, .val (.long q2), .second] [])) (fun t kt => XS.ifNo X1.here hx rfl (hb hby d4_5) rfl ((if0 _ _).trans (feq hc5_4).1) kt) ?_
    refine Goes.step (A := T1.setTop (mkF m 13 #[.val (.long q1), .second, .val (.long q2), .second] [(.long q2)])) (fun t kt => ?_) ?_
    · refine XS.lloadN X1.here hx rfl (hb hby d4_8) rfl ?_
      show Steps p.tables e below (T1.setTop (mkF m 9 #[.val (.long q1), .second, .val (.long q2), .second] [(.long q2)])) _
      refine XS.goto X1.here hx rfl (pc0 := 9) (pc' := 13) rfl (hb hby d4_9) (by decide) (by decide) ?_
      exact kt
    obtain ⟨fs, hr, hrun, hended, hW, hsame⟩ := X1.leave (v := some (.long q2)) (fun h => by rw [Bd.returns] at h; cases h)
    refine Goes.done ?_ hrun hended ⟨_, _, rfl, ?_, ⟨_, rfl⟩, hW, hsame.mono (by decide) (by decide)⟩
    · jvm_step X1.here [X1.here.top, hx, (hb hby d4_13), X1.method', Bd.returns, narrow]
      first | (intro acts; rw [hr _ acts rfl rfl rfl]) | rw [hr _ _ rfl rfl rfl]
      exact Steps.refl _
    · show Q4 Z q1 q2 h0 n0 _ T1.heap _
      rw [e1]
      exact ⟨congrArg some (congrArg Value.long (by simp [limF, hc5_4])), N1, rfl⟩
theorem ef_1 (m : MethodId) (x0 : Int64) : entryFrame m #[(.long x0)] 2 = mkF m 0 #[.val (.long x0), .second] [] := by first | (simp [entryFrame, mkF, argsToLocals, Value.category]; done) | rfl
def Q1 (Z : State) (q1 : Int64) (h0 : Heap) (n0 : Nat) (v : Option Value) (h : Heap) (L : List Loc) : Prop := v = some (.long (keyF q1)) ∧ Fr n0 L ∧ h = h0
theorem d1_0 : decode method_2_code 0 = .ok (.lload_n 0, 1) := by decide +kernel
theorem d1_1 : decode method_2_code 1 = .ok (.lconst 1, 1) := by decide +kernel
theorem d1_2 : decode method_2_code 2 = .ok (.lsub, 1) := by decide +kernel
theorem d1_3 : decode method_2_code 3 = .ok (.ldc2_w 9, 3) := by decide +kernel
theorem d1_6 : decode method_2_code 6 = .ok (.lxor, 1) := by decide +kernel
theorem d1_7 : decode method_2_code 7 = .ok (.lreturn, 1) := by decide +kernel
theorem pn_1 : plainName "com/example/madingley/madingley/core/UwsDurationLimitPinLaw" = true := by first | (simp [plainName, overriddenIn]; done) | decide +kernel
set_option maxRecDepth 65536 in
set_option maxHeartbeats 40000000 in
theorem rm1 (l : Launch) (Z : State) (a0 : Array Value) (hw : ∀ d ∈ tables_1, d.before a0 Z = true) (ws : List Jvm.Cond) (q1 : Int64) (h0 : Heap) (n0 : Nat) (Z0 : n0 ≤ h0.size) :
    MetFree l (⟨"com/example/madingley/madingley/core/UwsDurationLimitPinLaw", "key", "(J)J"⟩ : MethodName) (head1 (Jvm.Cond.code (⟨"com/example/madingley/madingley/core/UwsDurationLimitPinLaw", "key", "(J)J"⟩ : MethodName) method_2_code 2 (some .long) :: ws) ({ frames := 0, cells := 0, slots := 0, locals := 0 } : Room)) (fun a U => a = #[(.long q1)] ∧ Z.Warmed39 U.vm ∧ U.heap = h0) (fun _ _ _ _ _ => True) (fun _ U o U' => ∃ v L, o = .returned v ∧ Q1 Z q1 h0 n0 v U'.heap L ∧ FrameEnd U o U' L ({ frames := 0, cells := 0, slots := 0, locals := 0 } : Room).cells ({ frames := 0, cells := 0, slots := 0, locals := 0 } : Room).slots) := by
  refine MetFree.of_bodySF (plainFor_of_name pn_1) hisR ?_
  intro p e s m args below meth c s₁ Bd hml0 hP hK
  obtain ⟨rfl, hZ, hh⟩ := hP
  have hx := Bd.exec
  have hby := Bd.bytes
  have hml : c.maxLocals = 2 := hml0
  have hown : s.vm.findClass "com/example/madingley/madingley/core/UwsDurationLimitPinLaw" = some m.cls := findClass_of_methodNamed Bd.named
  have hnm := (name_of_methodNamed Bd.named Bd.method).1
  have X0 : Stand p l e ({ frames := 0, cells := 0, slots := 0, locals := 0 } : Room) s m #[(.long q1)] below meth c s₁ [] 0 0 := Stand.of_body Bd
  have e0 : s₁.heap = h0 := by rw [← hh, Bd.state]; rfl
  have N0 := Fr.nil n0
  refine Goes.start (Q := (fun o U' => ∃ v L, o = .returned v ∧ Q1 Z q1 h0 n0 v U'.heap L ∧ FrameEnd s o U' L ({ frames := 0, cells := 0, slots := 0, locals := 0 } : Room).cells ({ frames := 0, cells := 0, slots := 0, locals := 0 } : Room).slots)) (A := s₁.setTop (mkF m 0 #[.val (.long q1), .second] [])) (fun t k => castTop (ef_1 m q1) k) ?_
  refine Goes.step (A := s₁.setTop (mkF m 7 #[.val (.long q1), .second] [(.long ((q1 - (1 : Int64)) ^^^ (-9223372036854775808 : Int64)))])) (fun t kt => ?_) ?_
  · refine XS.lloadN X0.here hx rfl (hb hby d1_0) rfl ?_
    show Steps p.tables e below (s₁.setTop (mkF m 1 #[.val (.long q1), .second] [(.long q1)])) _
    refine XS.lconst X0.here hx rfl (hb hby d1_1) ?_
    show Steps p.tables e below (s₁.setTop (mkF m 2 #[.val (.long q1), .second] [(.long (1 : Int64)), (.long q1)])) _
    refine XS.lsub X0.here hx rfl (hb hby d1_2) rfl ?_
    show Steps p.tables e below (s₁.setTop (mkF m 3 #[.val (.long q1), .second] [(.long (q1 - (1 : Int64)))])) _
    refine X0.ldc2Long hx hown (mvT hZ (hw _ (List.mem_of_getElem? (i := 5) rfl))) (g := (mkF m 3 #[.val (.long q1), .second] [(.long (q1 - (1 : Int64)))])) rfl (hb hby d1_3) _ ?_
    show Steps p.tables e below (s₁.setTop (mkF m 6 #[.val (.long q1), .second] [(.long (-9223372036854775808 : Int64)), (.long (q1 - (1 : Int64)))])) _
    refine XS.lxor X0.here hx rfl (hb hby d1_6) rfl ?_
    exact kt
  obtain ⟨fs, hr, hrun, hended, hW, hsame⟩ := X0.leave (v := some (.long ((q1 - (1 : Int64)) ^^^ (-9223372036854775808 : Int64)))) (fun h => by rw [Bd.returns] at h; cases h)
  refine Goes.done ?_ hrun hended ⟨_, _, rfl, ?_, ⟨_, rfl⟩, hW, hsame.mono (by decide) (by decide)⟩
  · jvm_step X0.here [X0.here.top, hx, (hb hby d1_7), X0.method', Bd.returns, narrow]
    first | (intro acts; rw [hr _ acts rfl rfl rfl]) | rw [hr _ _ rfl rfl rfl]
    exact Steps.refl _
  · show Q1 Z q1 h0 n0 _ s₁.heap _
    rw [e0]
    exact ⟨congrArg some (congrArg Value.long (rfl)), N0, rfl⟩
theorem ef_3 (m : MethodId) (x0 : Int64) : entryFrame m #[(.long x0)] 2 = mkF m 0 #[.val (.long x0), .second] [] := by first | (simp [entryFrame, mkF, argsToLocals, Value.category]; done) | rfl
def Q3 (Z : State) (q1 : Int64) (h0 : Heap) (n0 : Nat) (v : Option Value) (h : Heap) (L : List Loc) : Prop := v = some (.long (unkeyF q1)) ∧ Fr n0 L ∧ h = h0
theorem d3_0 : decode method_3_code 0 = .ok (.lload_n 0, 1) := by decide +kernel
theorem d3_1 : decode method_3_code 1 = .ok (.ldc2_w 9, 3) := by decide +kernel
theorem d3_4 : decode method_3_code 4 = .ok (.lxor, 1) := by decide +kernel
theorem d3_5 : decode method_3_code 5 = .ok (.lconst 1, 1) := by decide +kernel
theorem d3_6 : decode method_3_code 6 = .ok (.ladd, 1) := by decide +kernel
theorem d3_7 : decode method_3_code 7 = .ok (.lreturn, 1) := by decide +kernel
theorem pn_3 : plainName "com/example/madingley/madingley/core/UwsDurationLimitPinLaw" = true := by first | (simp [plainName, overriddenIn]; done) | decide +kernel
set_option maxRecDepth 65536 in
set_option maxHeartbeats 40000000 in
theorem rm3 (l : Launch) (Z : State) (a0 : Array Value) (hw : ∀ d ∈ tables_1, d.before a0 Z = true) (ws : List Jvm.Cond) (q1 : Int64) (h0 : Heap) (n0 : Nat) (Z0 : n0 ≤ h0.size) :
    MetFree l (⟨"com/example/madingley/madingley/core/UwsDurationLimitPinLaw", "unkey", "(J)J"⟩ : MethodName) (head1 (Jvm.Cond.code (⟨"com/example/madingley/madingley/core/UwsDurationLimitPinLaw", "unkey", "(J)J"⟩ : MethodName) method_3_code 2 (some .long) :: ws) ({ frames := 0, cells := 0, slots := 0, locals := 0 } : Room)) (fun a U => a = #[(.long q1)] ∧ Z.Warmed39 U.vm ∧ U.heap = h0) (fun _ _ _ _ _ => True) (fun _ U o U' => ∃ v L, o = .returned v ∧ Q3 Z q1 h0 n0 v U'.heap L ∧ FrameEnd U o U' L ({ frames := 0, cells := 0, slots := 0, locals := 0 } : Room).cells ({ frames := 0, cells := 0, slots := 0, locals := 0 } : Room).slots) := by
  refine MetFree.of_bodySF (plainFor_of_name pn_3) hisR ?_
  intro p e s m args below meth c s₁ Bd hml0 hP hK
  obtain ⟨rfl, hZ, hh⟩ := hP
  have hx := Bd.exec
  have hby := Bd.bytes
  have hml : c.maxLocals = 2 := hml0
  have hown : s.vm.findClass "com/example/madingley/madingley/core/UwsDurationLimitPinLaw" = some m.cls := findClass_of_methodNamed Bd.named
  have hnm := (name_of_methodNamed Bd.named Bd.method).1
  have X0 : Stand p l e ({ frames := 0, cells := 0, slots := 0, locals := 0 } : Room) s m #[(.long q1)] below meth c s₁ [] 0 0 := Stand.of_body Bd
  have e0 : s₁.heap = h0 := by rw [← hh, Bd.state]; rfl
  have N0 := Fr.nil n0
  refine Goes.start (Q := (fun o U' => ∃ v L, o = .returned v ∧ Q3 Z q1 h0 n0 v U'.heap L ∧ FrameEnd s o U' L ({ frames := 0, cells := 0, slots := 0, locals := 0 } : Room).cells ({ frames := 0, cells := 0, slots := 0, locals := 0 } : Room).slots)) (A := s₁.setTop (mkF m 0 #[.val (.long q1), .second] [])) (fun t k => castTop (ef_3 m q1) k) ?_
  refine Goes.step (A := s₁.setTop (mkF m 7 #[.val (.long q1), .second] [(.long ((q1 ^^^ (-9223372036854775808 : Int64)) + (1 : Int64)))])) (fun t kt => ?_) ?_
  · refine XS.lloadN X0.here hx rfl (hb hby d3_0) rfl ?_
    show Steps p.tables e below (s₁.setTop (mkF m 1 #[.val (.long q1), .second] [(.long q1)])) _
    refine X0.ldc2Long hx hown (mvT hZ (hw _ (List.mem_of_getElem? (i := 5) rfl))) (g := (mkF m 1 #[.val (.long q1), .second] [(.long q1)])) rfl (hb hby d3_1) _ ?_
    show Steps p.tables e below (s₁.setTop (mkF m 4 #[.val (.long q1), .second] [(.long (-9223372036854775808 : Int64)), (.long q1)])) _
    refine XS.lxor X0.here hx rfl (hb hby d3_4) rfl ?_
    show Steps p.tables e below (s₁.setTop (mkF m 5 #[.val (.long q1), .second] [(.long (q1 ^^^ (-9223372036854775808 : Int64)))])) _
    refine XS.lconst X0.here hx rfl (hb hby d3_5) ?_
    show Steps p.tables e below (s₁.setTop (mkF m 6 #[.val (.long q1), .second] [(.long (1 : Int64)), (.long (q1 ^^^ (-9223372036854775808 : Int64)))])) _
    refine XS.ladd X0.here hx rfl (hb hby d3_6) rfl ?_
    exact kt
  obtain ⟨fs, hr, hrun, hended, hW, hsame⟩ := X0.leave (v := some (.long ((q1 ^^^ (-9223372036854775808 : Int64)) + (1 : Int64)))) (fun h => by rw [Bd.returns] at h; cases h)
  refine Goes.done ?_ hrun hended ⟨_, _, rfl, ?_, ⟨_, rfl⟩, hW, hsame.mono (by decide) (by decide)⟩
  · jvm_step X0.here [X0.here.top, hx, (hb hby d3_7), X0.method', Bd.returns, narrow]
    first | (intro acts; rw [hr _ acts rfl rfl rfl]) | rw [hr _ _ rfl rfl rfl]
    exact Steps.refl _
  · show Q3 Z q1 h0 n0 _ s₁.heap _
    rw [e0]
    exact ⟨congrArg some (congrArg Value.long (rfl)), N0, rfl⟩
theorem ef_2 (m : MethodId) (x0 : Int64) (x1 : Int64) : entryFrame m #[(.long x0), (.long x1)] 4 = mkF m 0 #[.val (.long x0), .second, .val (.long x1), .second] [] := by first | (simp [entryFrame, mkF, argsToLocals, Value.category]; done) | rfl
def Q2 (Z : State) (q1 : Int64) (q2 : Int64) (h0 : Heap) (n0 : Nat) (v : Option Value) (h : Heap) (L : List Loc) : Prop := v = some (.long (minF q1 q2)) ∧ Fr n0 L ∧ h = h0
theorem d2_0 : decode jdk_29_method_70_code 0 = .ok (.lload_n 0, 1) := by decide +kernel
theorem d2_1 : decode jdk_29_method_70_code 1 = .ok (.lload_n 2, 1) := by decide +kernel
theorem d2_2 : decode jdk_29_method_70_code 2 = .ok (.lcmp, 1) := by decide +kernel
theorem d2_3 : decode jdk_29_method_70_code 3 = .ok (.ifCond .gt 7, 3) := by decide +kernel
theorem d2_6 : decode jdk_29_method_70_code 6 = .ok (.lload_n 0, 1) := by decide +kernel
theorem d2_7 : decode jdk_29_method_70_code 7 = .ok (.goto 4, 3) := by decide +kernel
theorem d2_10 : decode jdk_29_method_70_code 10 = .ok (.lload_n 2, 1) := by decide +kernel
theorem d2_11 : decode jdk_29_method_70_code 11 = .ok (.lreturn, 1) := by decide +kernel
set_option maxRecDepth 65536 in
set_option maxHeartbeats 40000000 in
theorem rm2 (l : Launch) (Z : State) (a0 : Array Value) (hw : ∀ d ∈ tables_1, d.before a0 Z = true) (ws : List Jvm.Cond) (q1 : Int64) (q2 : Int64) (h0 : Heap) (n0 : Nat) (Z0 : n0 ≤ h0.size) :
    MetFree l (⟨"java/lang/Math", "min", "(JJ)J"⟩ : MethodName) (head1 (Jvm.Cond.code (⟨"java/lang/Math", "min", "(JJ)J"⟩ : MethodName) jdk_29_method_70_code 4 (some .long) :: ws) ({ frames := 0, cells := 0, slots := 0, locals := 0 } : Room)) (fun a U => a = #[(.long q1), (.long q2)] ∧ Z.Warmed39 U.vm ∧ U.heap = h0) (fun _ _ _ _ _ => True) (fun _ U o U' => ∃ v L, o = .returned v ∧ Q2 Z q1 q2 h0 n0 v U'.heap L ∧ FrameEnd U o U' L ({ frames := 0, cells := 0, slots := 0, locals := 0 } : Room).cells ({ frames := 0, cells := 0, slots := 0, locals := 0 } : Room).slots) := by
  refine MetFree.of_bodySF (Jvm.Free.JP.mathPlain rfl (by decide +kernel)) hisR ?_
  intro p e s m args below meth c s₁ Bd hml0 hP hK
  obtain ⟨rfl, hZ, hh⟩ := hP
  have hx := Bd.exec
  have hby := Bd.bytes
  have hml : c.maxLocals = 4 := hml0
  have hown : s.vm.findClass "java/lang/Math" = some m.cls := findClass_of_methodNamed Bd.named
  have hnm := (name_of_methodNamed Bd.named Bd.method).1
  have X0 : Stand p l e ({ frames := 0, cells := 0, slots := 0, locals := 0 } : Room) s m #[(.long q1), (.long q2)] below meth c s₁ [] 0 0 := Stand.of_body Bd
  have e0 : s₁.heap = h0 := by rw [← hh, Bd.state]; rfl
  have N0 := Fr.nil n0
  refine Goes.start (Q := (fun o U' => ∃ v L, o = .returned v ∧ Q2 Z q1 q2 h0 n0 v U'.heap L ∧ FrameEnd s o U' L ({ frames := 0, cells := 0, slots := 0, locals := 0 } : Room).cells ({ frames := 0, cells := 0, slots := 0, locals := 0 } : Room).slots)) (A := s₁.setTop (mkF m 0 #[.val (.long q1), .second, .val (.long q2), .second] [])) (fun t k => castTop (ef_2 m q1 q2) k) ?_
  refine Goes.step (A := s₁.setTop (mkF m 3 #[.val (.long q1), .second, .val (.long q2), .second] [(.int (lcmpW q1 q2))])) (fun t kt => ?_) ?_
  · refine XS.lloadN X0.here hx rfl (hb hby d2_0) rfl ?_
    show Steps p.tables e below (s₁.setTop (mkF m 1 #[.val (.long q1), .second, .val (.long q2), .second] [(.long q1)])) _
    refine XS.lloadN X0.here hx rfl (hb hby d2_1) rfl ?_
    show Steps p.tables e below (s₁.setTop (mkF m 2 #[.val (.long q1), .second, .val (.long q2), .second] [(.long q2), (.long q1)])) _
    refine XS.lcmp X0.here hx rfl (hb hby d2_2) rfl ?_
    exact kt
  by_cases hc3_5 : q2 < q1
  · refine Goes.step (A := s₁.setTop (mkF m 10 #[.val (.long q1), .second, .val (.long q2), .second] [])) (fun t kt => XS.ifYes X0.here hx rfl (pc0 := 3) (pc' := 10) rfl (hb hby d2_3) rfl ((if0 _ _).trans (tlt ((lw_gt _ _).mpr hc3_5)).2.2.1) (by decide) (by decide) kt) ?_
    refine Goes.step (A := s₁.setTop (mkF m 11 #[.val (.long q1), .second, .val (.long q2), .second] [(.long q2)])) (fun t kt => ?_) ?_
    · refine XS.lloadN X0.here hx rfl (hb hby d2_10) rfl ?_
      exact kt
    obtain ⟨fs, hr, hrun, hended, hW, hsame⟩ := X0.leave (v := some (.long q2)) (fun h => by rw [Bd.returns] at h; cases h)
    refine Goes.done ?_ hrun hended ⟨_, _, rfl, ?_, ⟨_, rfl⟩, hW, hsame.mono (by decide) (by decide)⟩
    · jvm_step X0.here [X0.here.top, hx, (hb hby d2_11), X0.method', Bd.returns, narrow]
      first | (intro acts; rw [hr _ acts rfl rfl rfl]) | rw [hr _ _ rfl rfl rfl]
      exact Steps.refl _
    · show Q2 Z q1 q2 h0 n0 _ s₁.heap _
      rw [e0]
      exact ⟨congrArg some (congrArg Value.long (by simp [minF, hc3_5])), N0, rfl⟩
  · refine Goes.step (A := s₁.setTop (mkF m 6 #[.val (.long q1), .second, .val (.long q2), .second] [])) (fun t kt => XS.ifNo X0.here hx rfl (hb hby d2_3) rfl ((if0 _ _).trans (flt (fun q => hc3_5 ((lw_gt _ _).mp q))).2.2.1) kt) ?_
    refine Goes.step (A := s₁.setTop (mkF m 11 #[.val (.long q1), .second, .val (.long q2), .second] [(.long q1)])) (fun t kt => ?_) ?_
    · refine XS.lloadN X0.here hx rfl (hb hby d2_6) rfl ?_
      show Steps p.tables e below (s₁.setTop (mkF m 7 #[.val (.long q1), .second, .val (.long q2), .second] [(.long q1)])) _
      refine XS.goto X0.here hx rfl (pc0 := 7) (pc' := 11) rfl (hb hby d2_7) (by decide) (by decide) ?_
      exact kt
    obtain ⟨fs, hr, hrun, hended, hW, hsame⟩ := X0.leave (v := some (.long q1)) (fun h => by rw [Bd.returns] at h; cases h)
    refine Goes.done ?_ hrun hended ⟨_, _, rfl, ?_, ⟨_, rfl⟩, hW, hsame.mono (by decide) (by decide)⟩
    · jvm_step X0.here [X0.here.top, hx, (hb hby d2_11), X0.method', Bd.returns, narrow]
      first | (intro acts; rw [hr _ acts rfl rfl rfl]) | rw [hr _ _ rfl rfl rfl]
      exact Steps.refl _
    · show Q2 Z q1 q2 h0 n0 _ s₁.heap _
      rw [e0]
      exact ⟨congrArg some (congrArg Value.long (by simp [minF, hc3_5])), N0, rfl⟩
theorem ef_0 (m : MethodId) (x0 : Int64) (x1 : Int64) (x2 : Int32) : entryFrame m #[(.long x0), (.long x1), (.int x2)] maxLocals = mkF m 0 #[.val (.long x0), .second, .val (.long x1), .second, .val (.int x2), .unset, .unset, .unset, .unset, .unset, .unset] [] := by first | (simp [entryFrame, mkF, argsToLocals, Value.category, maxLocals]; done) | rfl
def Q0 (Z : State) (q1 : Int64) (q2 : Int64) (p3 : Int32) (h0 : Heap) (n0 : Nat) (v : Option Value) (h : Heap) (L : List Loc) : Prop := v = some (.int 1) ∧ Fr n0 L
theorem pn_0 : plainName "com/example/madingley/madingley/core/UwsDurationLimitPinLaw" = true := by first | (simp [plainName, overriddenIn]; done) | decide +kernel
theorem pd_1 : parseMethodDescriptor "(J)J" = some ⟨[.long], some .long⟩ := by decide +kernel
theorem pd_2 : parseMethodDescriptor "(JJ)J" = some ⟨[.long, .long], some .long⟩ := by decide +kernel
set_option maxRecDepth 65536 in
set_option maxHeartbeats 40000000 in
theorem rm0 (l : Launch) (Z : State) (a0 : Array Value) (hw : ∀ d ∈ tables_1, d.before a0 Z = true) (ws : List Jvm.Cond) (q1 : Int64) (q2 : Int64) (p3 : Int32) (h0 : Heap) (n0 : Nat) (Z0 : n0 ≤ h0.size) :
    MetFree l x (head1 (Jvm.Cond.code x code maxLocals ret :: ws) room_1) (fun a U => a = #[(.long q1), (.long q2), (.int p3)] ∧ Z.Warmed39 U.vm ∧ U.heap = h0) (fun _ _ _ _ _ => True) (fun _ U o U' => ∃ v L, o = .returned v ∧ Q0 Z q1 q2 p3 h0 n0 v U'.heap L ∧ FrameEnd U o U' L room_1.cells room_1.slots) := by
  refine MetFree.of_bodySF (plainFor_of_name pn_0) hisR ?_
  intro p e s m args below meth c s₁ Bd hml0 hP hK
  obtain ⟨rfl, hZ, hh⟩ := hP
  have hx := Bd.exec
  have hby := Bd.bytes
  have hml : c.maxLocals = 11 := hml0
  have hown : s.vm.findClass "com/example/madingley/madingley/core/UwsDurationLimitPinLaw" = some m.cls := findClass_of_methodNamed Bd.named
  have hnm := (name_of_methodNamed Bd.named Bd.method).1
  have X0 : Stand p l e room_1 s m #[(.long q1), (.long q2), (.int p3)] below meth c s₁ [] 0 0 := Stand.of_body Bd
  have e0 : s₁.heap = h0 := by rw [← hh, Bd.state]; rfl
  have N0 := Fr.nil n0
  refine Goes.start (Q := (fun o U' => ∃ v L, o = .returned v ∧ Q0 Z q1 q2 p3 h0 n0 v U'.heap L ∧ FrameEnd s o U' L room_1.cells room_1.slots)) (A := s₁.setTop (mkF m 0 #[.val (.long q1), .second, .val (.long q2), .second, .val (.int p3), .unset, .unset, .unset, .unset, .unset, .unset] [])) (fun t k => castTop (ef_0 m q1 q2 p3) k) ?_
  have cont : ∀ (sv mv : Int64) (hs : 0 ≤ sv.toInt) (hm : 0 ≤ mv.toInt), Goes p.tables e below (fun o U' => ∃ v L, o = .returned v ∧ Q0 Z q1 q2 p3 h0 n0 v U'.heap L ∧ FrameEnd s o U' L room_1.cells room_1.slots) (s₁.setTop (mkF m 50 #[.val (.long q1), .second, .val (.long q2), .second, .val (.int p3), .val (.long sv), .second, .val (.long mv), .second, .unset, .unset] [])) := by
    intro sv mv hs hm
    refine Goes.step (A := s₁.setTop (mkF m 52 #[.val (.long q1), .second, .val (.long q2), .second, .val (.int p3), .val (.long sv), .second, .val (.long mv), .second, .unset, .unset] [(.long sv)])) (fun t kt => ?_) ?_
    · refine XS.lload X0.here hx rfl (hb hby at_50) rfl ?_
      exact kt
    obtain ⟨_, _, ⟨T1, L1, k1, n1⟩, -, X1, ⟨Lc1, hQ1, l1, y1, z1⟩, st1⟩ := Jvm.LawKit.callS X0 hx (y := (⟨"com/example/madingley/madingley/core/UwsDurationLimitPinLaw", "key", "(J)J"⟩ : MethodName)) hown (mvT hZ (hw _ (List.mem_of_getElem? (i := 1) rfl))) (mvT hZ (hw _ (List.mem_of_getElem? (i := 2) rfl))) (mvT hZ (hw _ (List.mem_of_getElem? (i := 3) rfl))) (mvT hZ (hw _ (List.mem_of_getElem? (i := 4) rfl))) (by decide) (backOf (W := 0) (rm1 l Z a0 hw [] sv h0 n0 Z0) hZ (hw _ (List.mem_of_getElem? (i := 4) rfl)) (hw _ (List.mem_of_getElem? (i := 3) rfl)) (by decide) (by decide)) (g := (mkF m 52 #[.val (.long q1), .second, .val (.long q2), .second, .val (.int p3), .val (.long sv), .second, .val (.long mv), .second, .unset, .unset] [(.long sv)])) rfl (by rw [hml]; rfl) (argsL := [(.long sv)]) (rest := []) (lenOf pd_1 rfl) rfl (by show 2 * 0 + _ ≤ _; exact Nat.le_of_eq rfl) (hb hby at_52) (fun _ _ => ⟨rfl, e0, (by decide : 0 + 0 ≤ _), (by decide : 0 + 0 ≤ _)⟩)
    dsimp only [Pt.U, Pt.locs, Pt.cells, Pt.slots] at X1 l1 y1 z1 st1 hQ1
    subst l1 y1 z1
    obtain ⟨rfl, N1q, e1⟩ := hQ1
    have N1 := Fr.app N0 N1q
    refine Goes.step (A := T1.setTop (mkF m 55 #[.val (.long q1), .second, .val (.long q2), .second, .val (.int p3), .val (.long sv), .second, .val (.long mv), .second, .unset, .unset] [(.long (keyF sv))])) (fun t kt => st1 _ kt) ?_
    refine Goes.step (A := T1.setTop (mkF m 57 #[.val (.long q1), .second, .val (.long q2), .second, .val (.int p3), .val (.long sv), .second, .val (.long mv), .second, .unset, .unset] [(.long mv), (.long (keyF sv))])) (fun t kt => ?_) ?_
    · refine XS.lload X1.here hx rfl (hb hby at_55) rfl ?_
      exact kt
    obtain ⟨_, _, ⟨T2, L2, k2, n2⟩, -, X2, ⟨Lc2, hQ2, l2, y2, z2⟩, st2⟩ := Jvm.LawKit.callS X1 hx (y := (⟨"com/example/madingley/madingley/core/UwsDurationLimitPinLaw", "key", "(J)J"⟩ : MethodName)) hown (mvT hZ (hw _ (List.mem_of_getElem? (i := 1) rfl))) (mvT hZ (hw _ (List.mem_of_getElem? (i := 2) rfl))) (mvT hZ (hw _ (List.mem_of_getElem? (i := 3) rfl))) (mvT hZ (hw _ (List.mem_of_getElem? (i := 4) rfl))) (by decide) (backOf (W := 2) (rm1 l Z a0 hw [] mv h0 n0 Z0) hZ (hw _ (List.mem_of_getElem? (i := 4) rfl)) (hw _ (List.mem_of_getElem? (i := 3) rfl)) (by decide) (by decide)) (g := (mkF m 57 #[.val (.long q1), .second, .val (.long q2), .second, .val (.int p3), .val (.long sv), .second, .val (.long mv), .second, .unset, .unset] [(.long mv), (.long (keyF sv))])) rfl (by rw [hml]; rfl) (argsL := [(.long mv)]) (rest := [(.long (keyF sv))]) (lenOf pd_1 rfl) rfl (by show 2 * 0 + _ ≤ _; exact Nat.le_of_eq rfl) (hb hby at_57) (fun _ _ => ⟨rfl, e1, (by decide : 0 + 0 ≤ _), (by decide : 0 + 0 ≤ _)⟩)
    dsimp only [Pt.U, Pt.locs, Pt.cells, Pt.slots] at X2 l2 y2 z2 st2 hQ2
    subst l2 y2 z2
    obtain ⟨rfl, N2q, e2⟩ := hQ2
    have N2 := Fr.app N1 N2q
    refine Goes.step (A := T2.setTop (mkF m 60 #[.val (.long q1), .second, .val (.long q2), .second, .val (.int p3), .val (.long sv), .second, .val (.long mv), .second, .unset, .unset] [(.long (keyF mv)), (.long (keyF sv))])) (fun t kt => st2 _ kt) ?_
    obtain ⟨_, _, ⟨T3, L3, k3, n3⟩, -, X3, ⟨Lc3, hQ3, l3, y3, z3⟩, st3⟩ := Jvm.LawKit.callS X2 hx (y := (⟨"java/lang/Math", "min", "(JJ)J"⟩ : MethodName)) hown (mvT hZ (hw _ (List.mem_of_getElem? (i := 6) rfl))) (mvT hZ (hw _ (List.mem_of_getElem? (i := 7) rfl))) (mvT hZ (hw _ (List.mem_of_getElem? (i := 8) rfl))) (mvT hZ (hw _ (List.mem_of_getElem? (i := 9) rfl))) (by decide) (backOf (W := 0) (rm2 l Z a0 hw [] (keyF sv) (keyF mv) h0 n0 Z0) hZ (hw _ (List.mem_of_getElem? (i := 9) rfl)) (hw _ (List.mem_of_getElem? (i := 8) rfl)) (by decide) (by decide)) (g := (mkF m 60 #[.val (.long q1), .second, .val (.long q2), .second, .val (.int p3), .val (.long sv), .second, .val (.long mv), .second, .unset, .unset] [(.long (keyF mv)), (.long (keyF sv))])) rfl (by rw [hml]; rfl) (argsL := [(.long (keyF sv)), (.long (keyF mv))]) (rest := []) (lenOf pd_2 rfl) rfl (by show 2 * 0 + _ ≤ _; exact Nat.le_of_eq rfl) (hb hby at_60) (fun _ _ => ⟨rfl, e2, (by decide : 0 + 0 ≤ _), (by decide : 0 + 0 ≤ _)⟩)
    dsimp only [Pt.U, Pt.locs, Pt.cells, Pt.slots] at X3 l3 y3 z3 st3 hQ3
    subst l3 y3 z3
    obtain ⟨rfl, N3q, e3⟩ := hQ3
    have N3 := Fr.app N2 N3q
    refine Goes.step (A := T3.setTop (mkF m 63 #[.val (.long q1), .second, .val (.long q2), .second, .val (.int p3), .val (.long sv), .second, .val (.long mv), .second, .unset, .unset] [(.long (minF (keyF sv) (keyF mv)))])) (fun t kt => st3 _ kt) ?_
    obtain ⟨_, _, ⟨T4, L4, k4, n4⟩, -, X4, ⟨Lc4, hQ4, l4, y4, z4⟩, st4⟩ := Jvm.LawKit.callS X3 hx (y := (⟨"com/example/madingley/madingley/core/UwsDurationLimitPinLaw", "unkey", "(J)J"⟩ : MethodName)) hown (mvT hZ (hw _ (List.mem_of_getElem? (i := 10) rfl))) (mvT hZ (hw _ (List.mem_of_getElem? (i := 11) rfl))) (mvT hZ (hw _ (List.mem_of_getElem? (i := 3) rfl))) (mvT hZ (hw _ (List.mem_of_getElem? (i := 12) rfl))) (by decide) (backOf (W := 0) (rm3 l Z a0 hw [] (minF (keyF sv) (keyF mv)) h0 n0 Z0) hZ (hw _ (List.mem_of_getElem? (i := 12) rfl)) (hw _ (List.mem_of_getElem? (i := 3) rfl)) (by decide) (by decide)) (g := (mkF m 63 #[.val (.long q1), .second, .val (.long q2), .second, .val (.int p3), .val (.long sv), .second, .val (.long mv), .second, .unset, .unset] [(.long (minF (keyF sv) (keyF mv)))])) rfl (by rw [hml]; rfl) (argsL := [(.long (minF (keyF sv) (keyF mv)))]) (rest := []) (lenOf pd_1 rfl) rfl (by show 2 * 0 + _ ≤ _; exact Nat.le_of_eq rfl) (hb hby at_63) (fun _ _ => ⟨rfl, e3, (by decide : 0 + 0 ≤ _), (by decide : 0 + 0 ≤ _)⟩)
    dsimp only [Pt.U, Pt.locs, Pt.cells, Pt.slots] at X4 l4 y4 z4 st4 hQ4
    subst l4 y4 z4
    obtain ⟨rfl, N4q, e4⟩ := hQ4
    have N4 := Fr.app N3 N4q
    refine Goes.step (A := T4.setTop (mkF m 66 #[.val (.long q1), .second, .val (.long q2), .second, .val (.int p3), .val (.long sv), .second, .val (.long mv), .second, .unset, .unset] [(.long (unkeyF (minF (keyF sv) (keyF mv))))])) (fun t kt => st4 _ kt) ?_
    refine Goes.step (A := T4.setTop (mkF m 72 #[.val (.long q1), .second, .val (.long q2), .second, .val (.int p3), .val (.long sv), .second, .val (.long mv), .second, .val (.long (unkeyF (minF (keyF sv) (keyF mv)))), .second] [(.long mv), (.long sv)])) (fun t kt => ?_) ?_
    · refine XS.lstore X4.here hx rfl (hb hby at_66) rfl (l' := #[.val (.long q1), .second, .val (.long q2), .second, .val (.int p3), .val (.long sv), .second, .val (.long mv), .second, .val (.long (unkeyF (minF (keyF sv) (keyF mv)))), .second]) rfl ?_
      show Steps p.tables e below (T4.setTop (mkF m 68 #[.val (.long q1), .second, .val (.long q2), .second, .val (.int p3), .val (.long sv), .second, .val (.long mv), .second, .val (.long (unkeyF (minF (keyF sv) (keyF mv)))), .second] [])) _
      refine XS.lload X4.here hx rfl (hb hby at_68) rfl ?_
      show Steps p.tables e below (T4.setTop (mkF m 70 #[.val (.long q1), .second, .val (.long q2), .second, .val (.int p3), .val (.long sv), .second, .val (.long mv), .second, .val (.long (unkeyF (minF (keyF sv) (keyF mv)))), .second] [(.long sv)])) _
      refine XS.lload X4.here hx rfl (hb hby at_70) rfl ?_
      exact kt
    obtain ⟨_, _, ⟨T5, L5, k5, n5⟩, -, X5, ⟨Lc5, hQ5, l5, y5, z5⟩, st5⟩ := Jvm.LawKit.callS X4 hx (y := (⟨"com/example/madingley/madingley/core/UwsDuration", "limit", "(JJ)J"⟩ : MethodName)) hown (mvT hZ (hw _ (List.mem_of_getElem? (i := 13) rfl))) (mvT hZ (hw _ (List.mem_of_getElem? (i := 14) rfl))) (mvT hZ (hw _ (List.mem_of_getElem? (i := 15) rfl))) (mvT hZ (hw _ (List.mem_of_getElem? (i := 16) rfl))) (by decide) (backOf (W := 0) (rm4 l Z a0 hw [] sv mv h0 n0 Z0) hZ (hw _ (List.mem_of_getElem? (i := 16) rfl)) (hw _ (List.mem_of_getElem? (i := 15) rfl)) (by decide) (by decide)) (g := (mkF m 72 #[.val (.long q1), .second, .val (.long q2), .second, .val (.int p3), .val (.long sv), .second, .val (.long mv), .second, .val (.long (unkeyF (minF (keyF sv) (keyF mv)))), .second] [(.long mv), (.long sv)])) rfl (by rw [hml]; rfl) (argsL := [(.long sv), (.long mv)]) (rest := []) (lenOf pd_2 rfl) rfl (by show 2 * 0 + _ ≤ _; exact Nat.le_of_eq rfl) (hb hby at_72) (fun _ _ => ⟨rfl, e4, (by decide : 0 + 0 ≤ _), (by decide : 0 + 0 ≤ _)⟩)
    dsimp only [Pt.U, Pt.locs, Pt.cells, Pt.slots] at X5 l5 y5 z5 st5 hQ5
    subst l5 y5 z5
    obtain ⟨rfl, N5q, e5⟩ := hQ5
    have N5 := Fr.app N4 N5q
    refine Goes.step (A := T5.setTop (mkF m 75 #[.val (.long q1), .second, .val (.long q2), .second, .val (.int p3), .val (.long sv), .second, .val (.long mv), .second, .val (.long (unkeyF (minF (keyF sv) (keyF mv)))), .second] [(.long (limF sv mv))])) (fun t kt => st5 _ kt) ?_
    refine Goes.step (A := T5.setTop (mkF m 78 #[.val (.long q1), .second, .val (.long q2), .second, .val (.int p3), .val (.long sv), .second, .val (.long mv), .second, .val (.long (unkeyF (minF (keyF sv) (keyF mv)))), .second] [(.int (lcmpW (limF sv mv) (unkeyF (minF (keyF sv) (keyF mv)))))])) (fun t kt => ?_) ?_
    · refine XS.lload X5.here hx rfl (hb hby at_75) rfl ?_
      show Steps p.tables e below (T5.setTop (mkF m 77 #[.val (.long q1), .second, .val (.long q2), .second, .val (.int p3), .val (.long sv), .second, .val (.long mv), .second, .val (.long (unkeyF (minF (keyF sv) (keyF mv)))), .second] [(.long (unkeyF (minF (keyF sv) (keyF mv)))), (.long (limF sv mv))])) _
      refine XS.lcmp X5.here hx rfl (hb hby at_77) rfl ?_
      exact kt
    refine Goes.step (A := T5.setTop (mkF m 81 #[.val (.long q1), .second, .val (.long q2), .second, .val (.int p3), .val (.long sv), .second, .val (.long mv), .second, .val (.long (unkeyF (minF (keyF sv) (keyF mv)))), .second] [])) (fun t kt => XS.ifNo X5.here hx rfl (hb hby at_78) rfl ((if0 _ _).trans (teq ((lw_eq _ _).mpr (own_lim sv mv hs hm : (limF sv mv) = (unkeyF (minF (keyF sv) (keyF mv)))))).2) kt) ?_
    refine Goes.step (A := T5.setTop (mkF m 86 #[.val (.long q1), .second, .val (.long q2), .second, .val (.int p3), .val (.long sv), .second, .val (.long mv), .second, .val (.long (unkeyF (minF (keyF sv) (keyF mv)))), .second] [(.int (1 : Int32))])) (fun t kt => ?_) ?_
    · refine XS.iconst X5.here hx rfl (hb hby at_81) ?_
      show Steps p.tables e below (T5.setTop (mkF m 82 #[.val (.long q1), .second, .val (.long q2), .second, .val (.int p3), .val (.long sv), .second, .val (.long mv), .second, .val (.long (unkeyF (minF (keyF sv) (keyF mv)))), .second] [(.int (1 : Int32))])) _
      refine XS.goto X5.here hx rfl (pc0 := 82) (pc' := 86) rfl (hb hby at_82) (by decide) (by decide) ?_
      exact kt
    obtain ⟨fs, hr, hrun, hended, hW, hsame⟩ := X5.leave (v := some (.int (1 : Int32))) (fun h => by rw [Bd.returns] at h; cases h)
    refine Goes.done ?_ hrun hended ⟨_, _, rfl, ?_, ⟨_, rfl⟩, hW, hsame.mono (by decide) (by decide)⟩
    · exact retN X5 hx (t := .boolean) Bd.returns (by simp) (hb hby at_86) hr
    · show Q0 Z q1 q2 p3 h0 n0 _ T5.heap _
      rw [e5]
      exact ⟨rfl, N5⟩
  refine Goes.step (A := s₁.setTop (mkF m 19 #[.val (.long q1), .second, .val (.long q2), .second, .val (.int p3), .val (.long (q1 &&& (9223372036854775807 : Int64))), .second, .val (.long (q2 &&& (9223372036854775807 : Int64))), .second, .unset, .unset] [(.int (1 : Int32)), (.int (p3 &&& (3 : Int32)))])) (fun t kt => ?_) ?_
  · refine XS.lloadN X0.here hx rfl (hb hby at_0) rfl ?_
    show Steps p.tables e below (s₁.setTop (mkF m 1 #[.val (.long q1), .second, .val (.long q2), .second, .val (.int p3), .unset, .unset, .unset, .unset, .unset, .unset] [(.long q1)])) _
    refine X0.ldc2Long hx hown (mvT hZ (hw _ (List.mem_of_getElem? (i := 0) rfl))) (g := (mkF m 1 #[.val (.long q1), .second, .val (.long q2), .second, .val (.int p3), .unset, .unset, .unset, .unset, .unset, .unset] [(.long q1)])) rfl (hb hby at_1) _ ?_
    show Steps p.tables e below (s₁.setTop (mkF m 4 #[.val (.long q1), .second, .val (.long q2), .second, .val (.int p3), .unset, .unset, .unset, .unset, .unset, .unset] [(.long (9223372036854775807 : Int64)), (.long q1)])) _
    refine XS.land X0.here hx rfl (hb hby at_4) rfl ?_
    show Steps p.tables e below (s₁.setTop (mkF m 5 #[.val (.long q1), .second, .val (.long q2), .second, .val (.int p3), .unset, .unset, .unset, .unset, .unset, .unset] [(.long (q1 &&& (9223372036854775807 : Int64)))])) _
    refine XS.lstore X0.here hx rfl (hb hby at_5) rfl (l' := #[.val (.long q1), .second, .val (.long q2), .second, .val (.int p3), .val (.long (q1 &&& (9223372036854775807 : Int64))), .second, .unset, .unset, .unset, .unset]) rfl ?_
    show Steps p.tables e below (s₁.setTop (mkF m 7 #[.val (.long q1), .second, .val (.long q2), .second, .val (.int p3), .val (.long (q1 &&& (9223372036854775807 : Int64))), .second, .unset, .unset, .unset, .unset] [])) _
    refine XS.lloadN X0.here hx rfl (hb hby at_7) rfl ?_
    show Steps p.tables e below (s₁.setTop (mkF m 8 #[.val (.long q1), .second, .val (.long q2), .second, .val (.int p3), .val (.long (q1 &&& (9223372036854775807 : Int64))), .second, .unset, .unset, .unset, .unset] [(.long q2)])) _
    refine X0.ldc2Long hx hown (mvT hZ (hw _ (List.mem_of_getElem? (i := 0) rfl))) (g := (mkF m 8 #[.val (.long q1), .second, .val (.long q2), .second, .val (.int p3), .val (.long (q1 &&& (9223372036854775807 : Int64))), .second, .unset, .unset, .unset, .unset] [(.long q2)])) rfl (hb hby at_8) _ ?_
    show Steps p.tables e below (s₁.setTop (mkF m 11 #[.val (.long q1), .second, .val (.long q2), .second, .val (.int p3), .val (.long (q1 &&& (9223372036854775807 : Int64))), .second, .unset, .unset, .unset, .unset] [(.long (9223372036854775807 : Int64)), (.long q2)])) _
    refine XS.land X0.here hx rfl (hb hby at_11) rfl ?_
    show Steps p.tables e below (s₁.setTop (mkF m 12 #[.val (.long q1), .second, .val (.long q2), .second, .val (.int p3), .val (.long (q1 &&& (9223372036854775807 : Int64))), .second, .unset, .unset, .unset, .unset] [(.long (q2 &&& (9223372036854775807 : Int64)))])) _
    refine XS.lstore X0.here hx rfl (hb hby at_12) rfl (l' := #[.val (.long q1), .second, .val (.long q2), .second, .val (.int p3), .val (.long (q1 &&& (9223372036854775807 : Int64))), .second, .val (.long (q2 &&& (9223372036854775807 : Int64))), .second, .unset, .unset]) rfl ?_
    show Steps p.tables e below (s₁.setTop (mkF m 14 #[.val (.long q1), .second, .val (.long q2), .second, .val (.int p3), .val (.long (q1 &&& (9223372036854775807 : Int64))), .second, .val (.long (q2 &&& (9223372036854775807 : Int64))), .second, .unset, .unset] [])) _
    refine XS.iload X0.here hx rfl (hb hby at_14) rfl ?_
    show Steps p.tables e below (s₁.setTop (mkF m 16 #[.val (.long q1), .second, .val (.long q2), .second, .val (.int p3), .val (.long (q1 &&& (9223372036854775807 : Int64))), .second, .val (.long (q2 &&& (9223372036854775807 : Int64))), .second, .unset, .unset] [(.int p3)])) _
    refine XS.iconst X0.here hx rfl (hb hby at_16) ?_
    show Steps p.tables e below (s₁.setTop (mkF m 17 #[.val (.long q1), .second, .val (.long q2), .second, .val (.int p3), .val (.long (q1 &&& (9223372036854775807 : Int64))), .second, .val (.long (q2 &&& (9223372036854775807 : Int64))), .second, .unset, .unset] [(.int (3 : Int32)), (.int p3)])) _
    refine XS.iand X0.here hx rfl (hb hby at_17) rfl ?_
    show Steps p.tables e below (s₁.setTop (mkF m 18 #[.val (.long q1), .second, .val (.long q2), .second, .val (.int p3), .val (.long (q1 &&& (9223372036854775807 : Int64))), .second, .val (.long (q2 &&& (9223372036854775807 : Int64))), .second, .unset, .unset] [(.int (p3 &&& (3 : Int32)))])) _
    refine XS.iconst X0.here hx rfl (hb hby at_18) ?_
    exact kt
  by_cases hc19_6 : (p3 &&& (3 : Int32)) = (1 : Int32)
  · refine Goes.step (A := s₁.setTop (mkF m 22 #[.val (.long q1), .second, .val (.long q2), .second, .val (.int p3), .val (.long (q1 &&& (9223372036854775807 : Int64))), .second, .val (.long (q2 &&& (9223372036854775807 : Int64))), .second, .unset, .unset] [])) (fun t kt => XS.icmpNo X0.here hx rfl (hb hby at_19) rfl (teq hc19_6).2 kt) ?_
    refine Goes.step (A := s₁.setTop (mkF m 32 #[.val (.long q1), .second, .val (.long q2), .second, .val (.int p3), .val (.long (0 : Int64)), .second, .val (.long (q2 &&& (9223372036854775807 : Int64))), .second, .unset, .unset] [(.int (1 : Int32)), (.int ((p3 >>> ((2 : Int32) &&& 31)) &&& (3 : Int32)))])) (fun t kt => ?_) ?_
    · refine XS.lconst X0.here hx rfl (hb hby at_22) ?_
      show Steps p.tables e below (s₁.setTop (mkF m 23 #[.val (.long q1), .second, .val (.long q2), .second, .val (.int p3), .val (.long (q1 &&& (9223372036854775807 : Int64))), .second, .val (.long (q2 &&& (9223372036854775807 : Int64))), .second, .unset, .unset] [(.long (0 : Int64))])) _
      refine XS.lstore X0.here hx rfl (hb hby at_23) rfl (l' := #[.val (.long q1), .second, .val (.long q2), .second, .val (.int p3), .val (.long (0 : Int64)), .second, .val (.long (q2 &&& (9223372036854775807 : Int64))), .second, .unset, .unset]) rfl ?_
      show Steps p.tables e below (s₁.setTop (mkF m 25 #[.val (.long q1), .second, .val (.long q2), .second, .val (.int p3), .val (.long (0 : Int64)), .second, .val (.long (q2 &&& (9223372036854775807 : Int64))), .second, .unset, .unset] [])) _
      refine XS.iload X0.here hx rfl (hb hby at_25) rfl ?_
      show Steps p.tables e below (s₁.setTop (mkF m 27 #[.val (.long q1), .second, .val (.long q2), .second, .val (.int p3), .val (.long (0 : Int64)), .second, .val (.long (q2 &&& (9223372036854775807 : Int64))), .second, .unset, .unset] [(.int p3)])) _
      refine XS.iconst X0.here hx rfl (hb hby at_27) ?_
      show Steps p.tables e below (s₁.setTop (mkF m 28 #[.val (.long q1), .second, .val (.long q2), .second, .val (.int p3), .val (.long (0 : Int64)), .second, .val (.long (q2 &&& (9223372036854775807 : Int64))), .second, .unset, .unset] [(.int (2 : Int32)), (.int p3)])) _
      refine XS.ishr X0.here hx rfl (hb hby at_28) rfl ?_
      show Steps p.tables e below (s₁.setTop (mkF m 29 #[.val (.long q1), .second, .val (.long q2), .second, .val (.int p3), .val (.long (0 : Int64)), .second, .val (.long (q2 &&& (9223372036854775807 : Int64))), .second, .unset, .unset] [(.int (p3 >>> ((2 : Int32) &&& 31)))])) _
      refine XS.iconst X0.here hx rfl (hb hby at_29) ?_
      show Steps p.tables e below (s₁.setTop (mkF m 30 #[.val (.long q1), .second, .val (.long q2), .second, .val (.int p3), .val (.long (0 : Int64)), .second, .val (.long (q2 &&& (9223372036854775807 : Int64))), .second, .unset, .unset] [(.int (3 : Int32)), (.int (p3 >>> ((2 : Int32) &&& 31)))])) _
      refine XS.iand X0.here hx rfl (hb hby at_30) rfl ?_
      show Steps p.tables e below (s₁.setTop (mkF m 31 #[.val (.long q1), .second, .val (.long q2), .second, .val (.int p3), .val (.long (0 : Int64)), .second, .val (.long (q2 &&& (9223372036854775807 : Int64))), .second, .unset, .unset] [(.int ((p3 >>> ((2 : Int32) &&& 31)) &&& (3 : Int32)))])) _
      refine XS.iconst X0.here hx rfl (hb hby at_31) ?_
      exact kt
    by_cases hc32_7 : ((p3 >>> ((2 : Int32) &&& 31)) &&& (3 : Int32)) = (1 : Int32)
    · refine Goes.step (A := s₁.setTop (mkF m 35 #[.val (.long q1), .second, .val (.long q2), .second, .val (.int p3), .val (.long (0 : Int64)), .second, .val (.long (q2 &&& (9223372036854775807 : Int64))), .second, .unset, .unset] [])) (fun t kt => XS.icmpNo X0.here hx rfl (hb hby at_32) rfl (teq hc32_7).2 kt) ?_
      refine Goes.step (A := s₁.setTop (mkF m 43 #[.val (.long q1), .second, .val (.long q2), .second, .val (.int p3), .val (.long (0 : Int64)), .second, .val (.long (0 : Int64)), .second, .unset, .unset] [(.int (p3 &&& (16 : Int32)))])) (fun t kt => ?_) ?_
      · refine XS.lconst X0.here hx rfl (hb hby at_35) ?_
        show Steps p.tables e below (s₁.setTop (mkF m 36 #[.val (.long q1), .second, .val (.long q2), .second, .val (.int p3), .val (.long (0 : Int64)), .second, .val (.long (q2 &&& (9223372036854775807 : Int64))), .second, .unset, .unset] [(.long (0 : Int64))])) _
        refine XS.lstore X0.here hx rfl (hb hby at_36) rfl (l' := #[.val (.long q1), .second, .val (.long q2), .second, .val (.int p3), .val (.long (0 : Int64)), .second, .val (.long (0 : Int64)), .second, .unset, .unset]) rfl ?_
        show Steps p.tables e below (s₁.setTop (mkF m 38 #[.val (.long q1), .second, .val (.long q2), .second, .val (.int p3), .val (.long (0 : Int64)), .second, .val (.long (0 : Int64)), .second, .unset, .unset] [])) _
        refine XS.iload X0.here hx rfl (hb hby at_38) rfl ?_
        show Steps p.tables e below (s₁.setTop (mkF m 40 #[.val (.long q1), .second, .val (.long q2), .second, .val (.int p3), .val (.long (0 : Int64)), .second, .val (.long (0 : Int64)), .second, .unset, .unset] [(.int p3)])) _
        refine XS.bipush X0.here hx rfl (hb hby at_40) ?_
        show Steps p.tables e below (s₁.setTop (mkF m 42 #[.val (.long q1), .second, .val (.long q2), .second, .val (.int p3), .val (.long (0 : Int64)), .second, .val (.long (0 : Int64)), .second, .unset, .unset] [(.int (16 : Int32)), (.int p3)])) _
        refine XS.iand X0.here hx rfl (hb hby at_42) rfl ?_
        exact kt
      by_cases hc43_8 : (p3 &&& (16 : Int32)) = (0 : Int32)
      · refine Goes.step (A := s₁.setTop (mkF m 50 #[.val (.long q1), .second, .val (.long q2), .second, .val (.int p3), .val (.long (0 : Int64)), .second, .val (.long (0 : Int64)), .second, .unset, .unset] [])) (fun t kt => XS.ifYes X0.here hx rfl (pc0 := 43) (pc' := 50) rfl (hb hby at_43) rfl ((if0 _ _).trans (teq hc43_8).1) (by decide) (by decide) kt) ?_
        exact cont _ _ own_n0 own_n0
      · refine Goes.step (A := s₁.setTop (mkF m 46 #[.val (.long q1), .second, .val (.long q2), .second, .val (.int p3), .val (.long (0 : Int64)), .second, .val (.long (0 : Int64)), .second, .unset, .unset] [])) (fun t kt => XS.ifNo X0.here hx rfl (hb hby at_43) rfl ((if0 _ _).trans (feq hc43_8).1) kt) ?_
        refine Goes.step (A := s₁.setTop (mkF m 50 #[.val (.long q1), .second, .val (.long q2), .second, .val (.int p3), .val (.long (0 : Int64)), .second, .val (.long (0 : Int64)), .second, .unset, .unset] [])) (fun t kt => ?_) ?_
        · refine XS.lload X0.here hx rfl (hb hby at_46) rfl ?_
          show Steps p.tables e below (s₁.setTop (mkF m 48 #[.val (.long q1), .second, .val (.long q2), .second, .val (.int p3), .val (.long (0 : Int64)), .second, .val (.long (0 : Int64)), .second, .unset, .unset] [(.long (0 : Int64))])) _
          refine XS.lstore X0.here hx rfl (hb hby at_48) rfl (l' := #[.val (.long q1), .second, .val (.long q2), .second, .val (.int p3), .val (.long (0 : Int64)), .second, .val (.long (0 : Int64)), .second, .unset, .unset]) rfl ?_
          exact kt
        exact cont _ _ own_n0 own_n0
    · refine Goes.step (A := s₁.setTop (mkF m 38 #[.val (.long q1), .second, .val (.long q2), .second, .val (.int p3), .val (.long (0 : Int64)), .second, .val (.long (q2 &&& (9223372036854775807 : Int64))), .second, .unset, .unset] [])) (fun t kt => XS.icmpYes X0.here hx rfl (pc0 := 32) (pc' := 38) rfl (hb hby at_32) rfl (feq hc32_7).2 (by decide) (by decide) kt) ?_
      refine Goes.step (A := s₁.setTop (mkF m 43 #[.val (.long q1), .second, .val (.long q2), .second, .val (.int p3), .val (.long (0 : Int64)), .second, .val (.long (q2 &&& (9223372036854775807 : Int64))), .second, .unset, .unset] [(.int (p3 &&& (16 : Int32)))])) (fun t kt => ?_) ?_
      · refine XS.iload X0.here hx rfl (hb hby at_38) rfl ?_
        show Steps p.tables e below (s₁.setTop (mkF m 40 #[.val (.long q1), .second, .val (.long q2), .second, .val (.int p3), .val (.long (0 : Int64)), .second, .val (.long (q2 &&& (9223372036854775807 : Int64))), .second, .unset, .unset] [(.int p3)])) _
        refine XS.bipush X0.here hx rfl (hb hby at_40) ?_
        show Steps p.tables e below (s₁.setTop (mkF m 42 #[.val (.long q1), .second, .val (.long q2), .second, .val (.int p3), .val (.long (0 : Int64)), .second, .val (.long (q2 &&& (9223372036854775807 : Int64))), .second, .unset, .unset] [(.int (16 : Int32)), (.int p3)])) _
        refine XS.iand X0.here hx rfl (hb hby at_42) rfl ?_
        exact kt
      by_cases hc43_9 : (p3 &&& (16 : Int32)) = (0 : Int32)
      · refine Goes.step (A := s₁.setTop (mkF m 50 #[.val (.long q1), .second, .val (.long q2), .second, .val (.int p3), .val (.long (0 : Int64)), .second, .val (.long (q2 &&& (9223372036854775807 : Int64))), .second, .unset, .unset] [])) (fun t kt => XS.ifYes X0.here hx rfl (pc0 := 43) (pc' := 50) rfl (hb hby at_43) rfl ((if0 _ _).trans (teq hc43_9).1) (by decide) (by decide) kt) ?_
        exact cont _ _ own_n0 (own_nn q2)
      · refine Goes.step (A := s₁.setTop (mkF m 46 #[.val (.long q1), .second, .val (.long q2), .second, .val (.int p3), .val (.long (0 : Int64)), .second, .val (.long (q2 &&& (9223372036854775807 : Int64))), .second, .unset, .unset] [])) (fun t kt => XS.ifNo X0.here hx rfl (hb hby at_43) rfl ((if0 _ _).trans (feq hc43_9).1) kt) ?_
        refine Goes.step (A := s₁.setTop (mkF m 50 #[.val (.long q1), .second, .val (.long q2), .second, .val (.int p3), .val (.long (q2 &&& (9223372036854775807 : Int64))), .second, .val (.long (q2 &&& (9223372036854775807 : Int64))), .second, .unset, .unset] [])) (fun t kt => ?_) ?_
        · refine XS.lload X0.here hx rfl (hb hby at_46) rfl ?_
          show Steps p.tables e below (s₁.setTop (mkF m 48 #[.val (.long q1), .second, .val (.long q2), .second, .val (.int p3), .val (.long (0 : Int64)), .second, .val (.long (q2 &&& (9223372036854775807 : Int64))), .second, .unset, .unset] [(.long (q2 &&& (9223372036854775807 : Int64)))])) _
          refine XS.lstore X0.here hx rfl (hb hby at_48) rfl (l' := #[.val (.long q1), .second, .val (.long q2), .second, .val (.int p3), .val (.long (q2 &&& (9223372036854775807 : Int64))), .second, .val (.long (q2 &&& (9223372036854775807 : Int64))), .second, .unset, .unset]) rfl ?_
          exact kt
        exact cont _ _ (own_nn q2) (own_nn q2)
  · refine Goes.step (A := s₁.setTop (mkF m 25 #[.val (.long q1), .second, .val (.long q2), .second, .val (.int p3), .val (.long (q1 &&& (9223372036854775807 : Int64))), .second, .val (.long (q2 &&& (9223372036854775807 : Int64))), .second, .unset, .unset] [])) (fun t kt => XS.icmpYes X0.here hx rfl (pc0 := 19) (pc' := 25) rfl (hb hby at_19) rfl (feq hc19_6).2 (by decide) (by decide) kt) ?_
    refine Goes.step (A := s₁.setTop (mkF m 32 #[.val (.long q1), .second, .val (.long q2), .second, .val (.int p3), .val (.long (q1 &&& (9223372036854775807 : Int64))), .second, .val (.long (q2 &&& (9223372036854775807 : Int64))), .second, .unset, .unset] [(.int (1 : Int32)), (.int ((p3 >>> ((2 : Int32) &&& 31)) &&& (3 : Int32)))])) (fun t kt => ?_) ?_
    · refine XS.iload X0.here hx rfl (hb hby at_25) rfl ?_
      show Steps p.tables e below (s₁.setTop (mkF m 27 #[.val (.long q1), .second, .val (.long q2), .second, .val (.int p3), .val (.long (q1 &&& (9223372036854775807 : Int64))), .second, .val (.long (q2 &&& (9223372036854775807 : Int64))), .second, .unset, .unset] [(.int p3)])) _
      refine XS.iconst X0.here hx rfl (hb hby at_27) ?_
      show Steps p.tables e below (s₁.setTop (mkF m 28 #[.val (.long q1), .second, .val (.long q2), .second, .val (.int p3), .val (.long (q1 &&& (9223372036854775807 : Int64))), .second, .val (.long (q2 &&& (9223372036854775807 : Int64))), .second, .unset, .unset] [(.int (2 : Int32)), (.int p3)])) _
      refine XS.ishr X0.here hx rfl (hb hby at_28) rfl ?_
      show Steps p.tables e below (s₁.setTop (mkF m 29 #[.val (.long q1), .second, .val (.long q2), .second, .val (.int p3), .val (.long (q1 &&& (9223372036854775807 : Int64))), .second, .val (.long (q2 &&& (9223372036854775807 : Int64))), .second, .unset, .unset] [(.int (p3 >>> ((2 : Int32) &&& 31)))])) _
      refine XS.iconst X0.here hx rfl (hb hby at_29) ?_
      show Steps p.tables e below (s₁.setTop (mkF m 30 #[.val (.long q1), .second, .val (.long q2), .second, .val (.int p3), .val (.long (q1 &&& (9223372036854775807 : Int64))), .second, .val (.long (q2 &&& (9223372036854775807 : Int64))), .second, .unset, .unset] [(.int (3 : Int32)), (.int (p3 >>> ((2 : Int32) &&& 31)))])) _
      refine XS.iand X0.here hx rfl (hb hby at_30) rfl ?_
      show Steps p.tables e below (s₁.setTop (mkF m 31 #[.val (.long q1), .second, .val (.long q2), .second, .val (.int p3), .val (.long (q1 &&& (9223372036854775807 : Int64))), .second, .val (.long (q2 &&& (9223372036854775807 : Int64))), .second, .unset, .unset] [(.int ((p3 >>> ((2 : Int32) &&& 31)) &&& (3 : Int32)))])) _
      refine XS.iconst X0.here hx rfl (hb hby at_31) ?_
      exact kt
    by_cases hc32_10 : ((p3 >>> ((2 : Int32) &&& 31)) &&& (3 : Int32)) = (1 : Int32)
    · refine Goes.step (A := s₁.setTop (mkF m 35 #[.val (.long q1), .second, .val (.long q2), .second, .val (.int p3), .val (.long (q1 &&& (9223372036854775807 : Int64))), .second, .val (.long (q2 &&& (9223372036854775807 : Int64))), .second, .unset, .unset] [])) (fun t kt => XS.icmpNo X0.here hx rfl (hb hby at_32) rfl (teq hc32_10).2 kt) ?_
      refine Goes.step (A := s₁.setTop (mkF m 43 #[.val (.long q1), .second, .val (.long q2), .second, .val (.int p3), .val (.long (q1 &&& (9223372036854775807 : Int64))), .second, .val (.long (0 : Int64)), .second, .unset, .unset] [(.int (p3 &&& (16 : Int32)))])) (fun t kt => ?_) ?_
      · refine XS.lconst X0.here hx rfl (hb hby at_35) ?_
        show Steps p.tables e below (s₁.setTop (mkF m 36 #[.val (.long q1), .second, .val (.long q2), .second, .val (.int p3), .val (.long (q1 &&& (9223372036854775807 : Int64))), .second, .val (.long (q2 &&& (9223372036854775807 : Int64))), .second, .unset, .unset] [(.long (0 : Int64))])) _
        refine XS.lstore X0.here hx rfl (hb hby at_36) rfl (l' := #[.val (.long q1), .second, .val (.long q2), .second, .val (.int p3), .val (.long (q1 &&& (9223372036854775807 : Int64))), .second, .val (.long (0 : Int64)), .second, .unset, .unset]) rfl ?_
        show Steps p.tables e below (s₁.setTop (mkF m 38 #[.val (.long q1), .second, .val (.long q2), .second, .val (.int p3), .val (.long (q1 &&& (9223372036854775807 : Int64))), .second, .val (.long (0 : Int64)), .second, .unset, .unset] [])) _
        refine XS.iload X0.here hx rfl (hb hby at_38) rfl ?_
        show Steps p.tables e below (s₁.setTop (mkF m 40 #[.val (.long q1), .second, .val (.long q2), .second, .val (.int p3), .val (.long (q1 &&& (9223372036854775807 : Int64))), .second, .val (.long (0 : Int64)), .second, .unset, .unset] [(.int p3)])) _
        refine XS.bipush X0.here hx rfl (hb hby at_40) ?_
        show Steps p.tables e below (s₁.setTop (mkF m 42 #[.val (.long q1), .second, .val (.long q2), .second, .val (.int p3), .val (.long (q1 &&& (9223372036854775807 : Int64))), .second, .val (.long (0 : Int64)), .second, .unset, .unset] [(.int (16 : Int32)), (.int p3)])) _
        refine XS.iand X0.here hx rfl (hb hby at_42) rfl ?_
        exact kt
      by_cases hc43_11 : (p3 &&& (16 : Int32)) = (0 : Int32)
      · refine Goes.step (A := s₁.setTop (mkF m 50 #[.val (.long q1), .second, .val (.long q2), .second, .val (.int p3), .val (.long (q1 &&& (9223372036854775807 : Int64))), .second, .val (.long (0 : Int64)), .second, .unset, .unset] [])) (fun t kt => XS.ifYes X0.here hx rfl (pc0 := 43) (pc' := 50) rfl (hb hby at_43) rfl ((if0 _ _).trans (teq hc43_11).1) (by decide) (by decide) kt) ?_
        exact cont _ _ (own_nn q1) own_n0
      · refine Goes.step (A := s₁.setTop (mkF m 46 #[.val (.long q1), .second, .val (.long q2), .second, .val (.int p3), .val (.long (q1 &&& (9223372036854775807 : Int64))), .second, .val (.long (0 : Int64)), .second, .unset, .unset] [])) (fun t kt => XS.ifNo X0.here hx rfl (hb hby at_43) rfl ((if0 _ _).trans (feq hc43_11).1) kt) ?_
        refine Goes.step (A := s₁.setTop (mkF m 50 #[.val (.long q1), .second, .val (.long q2), .second, .val (.int p3), .val (.long (0 : Int64)), .second, .val (.long (0 : Int64)), .second, .unset, .unset] [])) (fun t kt => ?_) ?_
        · refine XS.lload X0.here hx rfl (hb hby at_46) rfl ?_
          show Steps p.tables e below (s₁.setTop (mkF m 48 #[.val (.long q1), .second, .val (.long q2), .second, .val (.int p3), .val (.long (q1 &&& (9223372036854775807 : Int64))), .second, .val (.long (0 : Int64)), .second, .unset, .unset] [(.long (0 : Int64))])) _
          refine XS.lstore X0.here hx rfl (hb hby at_48) rfl (l' := #[.val (.long q1), .second, .val (.long q2), .second, .val (.int p3), .val (.long (0 : Int64)), .second, .val (.long (0 : Int64)), .second, .unset, .unset]) rfl ?_
          exact kt
        exact cont _ _ own_n0 own_n0
    · refine Goes.step (A := s₁.setTop (mkF m 38 #[.val (.long q1), .second, .val (.long q2), .second, .val (.int p3), .val (.long (q1 &&& (9223372036854775807 : Int64))), .second, .val (.long (q2 &&& (9223372036854775807 : Int64))), .second, .unset, .unset] [])) (fun t kt => XS.icmpYes X0.here hx rfl (pc0 := 32) (pc' := 38) rfl (hb hby at_32) rfl (feq hc32_10).2 (by decide) (by decide) kt) ?_
      refine Goes.step (A := s₁.setTop (mkF m 43 #[.val (.long q1), .second, .val (.long q2), .second, .val (.int p3), .val (.long (q1 &&& (9223372036854775807 : Int64))), .second, .val (.long (q2 &&& (9223372036854775807 : Int64))), .second, .unset, .unset] [(.int (p3 &&& (16 : Int32)))])) (fun t kt => ?_) ?_
      · refine XS.iload X0.here hx rfl (hb hby at_38) rfl ?_
        show Steps p.tables e below (s₁.setTop (mkF m 40 #[.val (.long q1), .second, .val (.long q2), .second, .val (.int p3), .val (.long (q1 &&& (9223372036854775807 : Int64))), .second, .val (.long (q2 &&& (9223372036854775807 : Int64))), .second, .unset, .unset] [(.int p3)])) _
        refine XS.bipush X0.here hx rfl (hb hby at_40) ?_
        show Steps p.tables e below (s₁.setTop (mkF m 42 #[.val (.long q1), .second, .val (.long q2), .second, .val (.int p3), .val (.long (q1 &&& (9223372036854775807 : Int64))), .second, .val (.long (q2 &&& (9223372036854775807 : Int64))), .second, .unset, .unset] [(.int (16 : Int32)), (.int p3)])) _
        refine XS.iand X0.here hx rfl (hb hby at_42) rfl ?_
        exact kt
      by_cases hc43_12 : (p3 &&& (16 : Int32)) = (0 : Int32)
      · refine Goes.step (A := s₁.setTop (mkF m 50 #[.val (.long q1), .second, .val (.long q2), .second, .val (.int p3), .val (.long (q1 &&& (9223372036854775807 : Int64))), .second, .val (.long (q2 &&& (9223372036854775807 : Int64))), .second, .unset, .unset] [])) (fun t kt => XS.ifYes X0.here hx rfl (pc0 := 43) (pc' := 50) rfl (hb hby at_43) rfl ((if0 _ _).trans (teq hc43_12).1) (by decide) (by decide) kt) ?_
        exact cont _ _ (own_nn q1) (own_nn q2)
      · refine Goes.step (A := s₁.setTop (mkF m 46 #[.val (.long q1), .second, .val (.long q2), .second, .val (.int p3), .val (.long (q1 &&& (9223372036854775807 : Int64))), .second, .val (.long (q2 &&& (9223372036854775807 : Int64))), .second, .unset, .unset] [])) (fun t kt => XS.ifNo X0.here hx rfl (hb hby at_43) rfl ((if0 _ _).trans (feq hc43_12).1) kt) ?_
        refine Goes.step (A := s₁.setTop (mkF m 50 #[.val (.long q1), .second, .val (.long q2), .second, .val (.int p3), .val (.long (q2 &&& (9223372036854775807 : Int64))), .second, .val (.long (q2 &&& (9223372036854775807 : Int64))), .second, .unset, .unset] [])) (fun t kt => ?_) ?_
        · refine XS.lload X0.here hx rfl (hb hby at_46) rfl ?_
          show Steps p.tables e below (s₁.setTop (mkF m 48 #[.val (.long q1), .second, .val (.long q2), .second, .val (.int p3), .val (.long (q1 &&& (9223372036854775807 : Int64))), .second, .val (.long (q2 &&& (9223372036854775807 : Int64))), .second, .unset, .unset] [(.long (q2 &&& (9223372036854775807 : Int64)))])) _
          refine XS.lstore X0.here hx rfl (hb hby at_48) rfl (l' := #[.val (.long q1), .second, .val (.long q2), .second, .val (.int p3), .val (.long (q2 &&& (9223372036854775807 : Int64))), .second, .val (.long (q2 &&& (9223372036854775807 : Int64))), .second, .unset, .unset]) rfl ?_
          exact kt
        exact cont _ _ (own_nn q2) (own_nn q2)
set_option maxRecDepth 65536 in
set_option maxHeartbeats 40000000 in
theorem comes_1 {Post : Tables → Env → Array Value → State → Outcome → State → Prop} (hpost : ∀ tb e args s v u, (limb_1_1.after args s (.returned v) u = true ∧ limb_1_2.after args s (.returned v) u = true ∧ True) → FrameEnd s (.returned v) u (Jvm.fieldLocs frame_1_writes args s ++ Jvm.arrayLocs frame_1_arrays args s ++ Jvm.staticLocs frame_1_statics s) 0 0 → Post tb e args s (.returned v) u) :
    ArmFor flags0 classFile x code maxLocals ret World_1 tables_1 room_1 Calls_1 rest_1 Pre_1 Post := by
  intro l hfl _ _ p e ha hc hk s m args below hf hA hF happ hP
  obtain ⟨hcalls, hrest, hpre⟩ := hP
  obtain ⟨-, -, -, hnamed, -, -, -, hat⟩ := (Spec.applies_iff hf).mp happ
  obtain ⟨hg, hn⟩ := and_e (Cond.before_iff.mp (show (Jvm.Cond.and given_1 narrow_1).before args s = true from hpre))
  obtain ⟨hcnt, hr0⟩ := and_e hg
  obtain ⟨ha0, hr1⟩ := and_e hr0
  obtain ⟨ha1, hr2⟩ := and_e hr1
  obtain ⟨w0, w1, w2, rfl⟩ : ∃ w0 w1 w2 : Value, args = #[w0, w1, w2] := by
    have hs : args.size = 3 := by simpa [Cond.value, given_1] using hcnt
    obtain ⟨L⟩ := args
    match L, hs with
    | [w0, w1, w2], _ => exact ⟨w0, w1, w2, rfl⟩
  have hw := fun d (hd : d ∈ tables_1) => atoms_spec (ws := Jvm.Cond.code x code maxLocals ret :: tables_1) hat d (List.mem_cons_of_mem _ hd)
  obtain ⟨i0, ei0⟩ := isL_v ha0
  obtain rfl : w0 = (.long i0) := Option.some.inj ei0
  obtain ⟨i1, ei1⟩ := isL_v ha1
  obtain rfl : w1 = (.long i1) := Option.some.inj ei1
  obtain ⟨i2, ei2⟩ := is_v hr2
  obtain rfl : w2 = (.int i2) := Option.some.inj ei2
  obtain ⟨n, o, h1, h2, h3, _, L, rfl, ⟨rfl, N⟩, hq⟩ := rm0 l s _ hw tables_1 i0 i1 i2 s.heap s.heap.size (Nat.le_refl _) p e ha hc hk s m _ below hf ((Spec.applies_iff_loose hf).mp happ).1 ⟨rfl, State.Warmed39.refl s, rfl⟩ trivial
  refine ⟨n, _, h1, h2, h3, hpost _ _ _ _ _ _ ⟨Cond.after_iff.mpr rfl, Cond.after_iff.mpr (eq_i res_at (Term.int_eval (1)) rfl), trivial⟩ ⟨hq.1, hq.2.1, (hq.2.2.sift fun y hy => Or.inr (N y hy)).mono (by decide) (by decide)⟩⟩
theorem main_1_1 : Claimed_1_1 := comes_1 fun _ _ _ _ _ _ h hF => ⟨h.1, hF⟩
theorem main_1_2 : Claimed_1_2 := comes_1 fun _ _ _ _ _ _ h hF => ⟨h.2.1, hF⟩
end Jvm.Pilot.@@N@@
namespace Jvm.Pilot.@@N@@
open Jvm Jvm.ClassFile Sem Op Lib Jvm.Free Jvm.Stand Jvm.Pilot.@@N@@.Jvm.D
/-! MADE BY PROGRAM (witnessworld.py) out of the Statement's table words and the real class files: 10 classes; the members and pool entries that the words name. The judged class is class 1, her method 3. -/
namespace start1
open Jvm.ClassFile
def u (s : String) : CpInfo := .utf8 (stringToUtf16 s)
/-- a pool by its gaps: so many unusable entries, then the entry; so many at the end -/
def gap : Nat → List CpInfo → List CpInfo
  | 0, r => r
  | n + 1, r => .unusable :: gap n r
def poolList (es : List (Nat × CpInfo)) (last : Nat) : List CpInfo := es.foldr (fun e r => gap e.1 (e.2 :: r)) (gap last [])
def pool (es : List (Nat × CpInfo)) (last : Nat) : Array CpInfo := ⟨poolList es last⟩
def fileOf (pool : Array CpInfo) (this : Nat) (attrs : Array Attribute := #[]) (ms : Array MethodInfo := #[]) (fl : Nat := 33) (sup : Nat := 0) (ifs : Array Nat := #[]) (fds : Array FieldInfo := #[]) : ClassFile where
  minorVersion := 0
  majorVersion := 65
  constantPool := pool
  accessFlags := fl
  thisClass := this
  superClass := sup
  interfaces := ifs
  fields := fds
  methods := ms
  attributes := attrs
def plain (name : String) (sup : Option ClassId) : Class where
  name := name
  kind := .ordinary
  loader := none
  accessFlags := 33
  super := sup
  interfaces := #[]
  cf := none
  fields := #[]
  methods := #[]
  instanceTypes := #[]
  staticTypes := #[]
  resolved := #[]
  callSites := []
  init := .initialized
  statics := none
  mirror := none

def pool0 : Array CpInfo := pool [(5, u "<init>"), (0, u "()V"), (1, .class_ 10), (1, u "java/lang/Object")] 113

def k0m0 : Method := { name := "<init>", desc := "()V", sig := { parameters := [], returnType := none }, accessFlags := 1, code := none }
/-- java/lang/Object -/
def k0 : Class := { plain "java/lang/Object" none with
  accessFlags := 33
  interfaces := #[]
  cf := some (fileOf pool0 8 #[] #[{ accessFlags := 1, nameIndex := 5, descriptorIndex := 6, attributes := #[] }] 33 0 #[] #[])
  fields := #[]
  methods := #[k0m0]
  instanceTypes := #[]
  staticTypes := #[]
  resolved := Array.replicate 124 none
  statics := none }

def pool1 : Array CpInfo := pool [(2, .class_ 4), (1, u "java/lang/Object"), (0, u "<init>"), (0, u "()V"), (2, .long 9223372036854775808), (1, .long 9223372036854775807), (1, .methodref 14 15), (0, .class_ 16), (0, .nameAndType 17 18), (0, u "com/example/madingley/madingley/core/UwsDurationLimitPinLaw"), (0, u "key"), (0, u "(J)J"), (0, .methodref 20 21), (0, .class_ 22), (0, .nameAndType 23 24), (0, u "java/lang/Math"), (0, u "min"), (0, u "(JJ)J"), (0, .methodref 14 26), (0, .nameAndType 27 18), (0, u "unkey"), (0, .methodref 29 30), (0, .class_ 31), (0, .nameAndType 32 24), (0, u "com/example/madingley/madingley/core/UwsDuration"), (0, u "limit"), (2, u "law"), (0, u "(JJI)Z")] 3

def k1m0 : Method := { name := "<init>", desc := "()V", sig := { parameters := [], returnType := none }, accessFlags := 2, code := none }
def k1c1 : Code := { maxStack := 4, maxLocals := 2, code := method_2_code, exceptionTable := #[], attributes := #[] }
def k1m1 : Method := { name := "key", desc := "(J)J", sig := { parameters := [.long], returnType := some .long }, accessFlags := 10, code := some k1c1 }
def k1c2 : Code := { maxStack := 4, maxLocals := 2, code := method_3_code, exceptionTable := #[], attributes := #[] }
def k1m2 : Method := { name := "unkey", desc := "(J)J", sig := { parameters := [.long], returnType := some .long }, accessFlags := 10, code := some k1c2 }
def k1c3 : Code := { maxStack := 4, maxLocals := 11, code := code, exceptionTable := #[], attributes := #[] }
def k1m3 : Method := { name := "law", desc := "(JJI)Z", sig := { parameters := [.long, .long, .int], returnType := some .boolean }, accessFlags := 9, code := some k1c3 }
/-- com/example/madingley/madingley/core/UwsDurationLimitPinLaw -/
def k1 : Class := { plain "com/example/madingley/madingley/core/UwsDurationLimitPinLaw" (some 0) with
  accessFlags := 49
  interfaces := #[]
  cf := some (fileOf pool1 14 #[] #[{ accessFlags := 2, nameIndex := 5, descriptorIndex := 6, attributes := #[] }, { accessFlags := 10, nameIndex := 17, descriptorIndex := 18, attributes := #[] }, { accessFlags := 10, nameIndex := 27, descriptorIndex := 18, attributes := #[] }, { accessFlags := 9, nameIndex := 35, descriptorIndex := 36, attributes := #[] }] 49 2 #[] #[])
  fields := #[]
  methods := #[k1m0, k1m1, k1m2, k1m3]
  instanceTypes := #[]
  staticTypes := #[]
  resolved := Array.replicate 40 none
  statics := none }

def pool2 : Array CpInfo := pool [(1, .class_ 2), (0, u "java/lang/Math"), (1, .class_ 6), (1, u "java/lang/Object"), (0, u "<init>"), (0, u "()V"), (89, .class_ 100), (1, u "java/lang/Math$RandomNumberGeneratorHolder"), (20, u "(JJ)J"), (50, u "negativeZeroFloatBits"), (0, u "J"), (2, u "negativeZeroDoubleBits"), (24, u "min"), (43, u "$assertionsDisabled"), (0, u "Z"), (91, u "twoToTheDoubleScaleDown"), (0, u "D"), (4, u "twoToTheDoubleScaleUp"), (9, u "E"), (3, u "PI"), (2, u "TAU"), (2, u "DEGREES_TO_RADIANS"), (0, u "RADIANS_TO_DEGREES")] 94

def k2m0 : Method := { name := "<init>", desc := "()V", sig := { parameters := [], returnType := none }, accessFlags := 2, code := none }
def k2c1 : Code := { maxStack := 4, maxLocals := 4, code := jdk_29_method_70_code, exceptionTable := #[], attributes := #[] }
def k2m1 : Method := { name := "min", desc := "(JJ)J", sig := { parameters := [.long, .long], returnType := some .long }, accessFlags := 9, code := some k2c1 }
/-- java/lang/Math -/
def k2 : Class := { plain "java/lang/Math" (some 0) with
  accessFlags := 49
  interfaces := #[]
  cf := some (fileOf pool2 1 #[.nestMembers #[98]] #[{ accessFlags := 2, nameIndex := 7, descriptorIndex := 8, attributes := #[] }, { accessFlags := 9, nameIndex := 201, descriptorIndex := 121, attributes := #[] }] 49 4 #[] #[{ accessFlags := 25, nameIndex := 354, descriptorIndex := 339, attributes := #[] }, { accessFlags := 25, nameIndex := 358, descriptorIndex := 339, attributes := #[] }, { accessFlags := 25, nameIndex := 361, descriptorIndex := 339, attributes := #[] }, { accessFlags := 26, nameIndex := 364, descriptorIndex := 339, attributes := #[] }, { accessFlags := 26, nameIndex := 365, descriptorIndex := 339, attributes := #[] }, { accessFlags := 26, nameIndex := 172, descriptorIndex := 173, attributes := #[] }, { accessFlags := 26, nameIndex := 176, descriptorIndex := 173, attributes := #[] }, { accessFlags := 8, nameIndex := 344, descriptorIndex := 339, attributes := #[] }, { accessFlags := 8, nameIndex := 338, descriptorIndex := 339, attributes := #[] }, { accessFlags := 4120, nameIndex := 245, descriptorIndex := 246, attributes := #[] }])
  fields := #[{ name := "E", type := .double, accessFlags := 25, slot := 0, constantValue := 0 }, { name := "PI", type := .double, accessFlags := 25, slot := 1, constantValue := 0 }, { name := "TAU", type := .double, accessFlags := 25, slot := 2, constantValue := 0 }, { name := "DEGREES_TO_RADIANS", type := .double, accessFlags := 26, slot := 3, constantValue := 0 }, { name := "RADIANS_TO_DEGREES", type := .double, accessFlags := 26, slot := 4, constantValue := 0 }, { name := "negativeZeroFloatBits", type := .long, accessFlags := 26, slot := 5, constantValue := 0 }, { name := "negativeZeroDoubleBits", type := .long, accessFlags := 26, slot := 6, constantValue := 0 }, { name := "twoToTheDoubleScaleUp", type := .double, accessFlags := 8, slot := 7, constantValue := 0 }, { name := "twoToTheDoubleScaleDown", type := .double, accessFlags := 8, slot := 8, constantValue := 0 }, { name := "$assertionsDisabled", type := .boolean, accessFlags := 4120, slot := 9, constantValue := 0 }]
  methods := #[k2m0, k2m1]
  instanceTypes := #[]
  staticTypes := #[.double, .double, .double, .double, .double, .long, .long, .double, .double, .boolean]
  resolved := Array.replicate 460 none
  statics := none }

def pool3 : Array CpInfo := pool [(4, .class_ 6), (1, u "java/lang/Object"), (0, u "<init>"), (0, u "()V"), (9, .class_ 20), (1, u "com/example/madingley/madingley/core/UwsDuration"), (0, u "DIGITS"), (0, u "Ljava/util/regex/Pattern;"), (33, .methodref 18 57), (0, .nameAndType 58 59), (0, u "exceeds"), (0, u "(JJ)Z"), (6, u "MAX"), (0, u "J"), (5, u "limit"), (0, u "(JJ)J")] 3

def k3m0 : Method := { name := "<init>", desc := "()V", sig := { parameters := [], returnType := none }, accessFlags := 2, code := none }
def k3c1 : Code := { maxStack := 4, maxLocals := 4, code := prog_19_method_3_code, exceptionTable := #[], attributes := #[] }
def k3m1 : Method := { name := "exceeds", desc := "(JJ)Z", sig := { parameters := [.long, .long], returnType := some .boolean }, accessFlags := 9, code := some k3c1 }
def k3c2 : Code := { maxStack := 4, maxLocals := 4, code := prog_19_method_4_code, exceptionTable := #[], attributes := #[] }
def k3m2 : Method := { name := "limit", desc := "(JJ)J", sig := { parameters := [.long, .long], returnType := some .long }, accessFlags := 9, code := some k3c2 }
/-- com/example/madingley/madingley/core/UwsDuration -/
def k3 : Class := { plain "com/example/madingley/madingley/core/UwsDuration" (some 0) with
  accessFlags := 49
  interfaces := #[]
  cf := some (fileOf pool3 18 #[] #[{ accessFlags := 2, nameIndex := 7, descriptorIndex := 8, attributes := #[] }, { accessFlags := 9, nameIndex := 58, descriptorIndex := 59, attributes := #[] }, { accessFlags := 9, nameIndex := 73, descriptorIndex := 74, attributes := #[] }] 49 4 #[] #[{ accessFlags := 25, nameIndex := 66, descriptorIndex := 67, attributes := #[] }, { accessFlags := 26, nameIndex := 21, descriptorIndex := 22, attributes := #[] }])
  fields := #[{ name := "MAX", type := .long, accessFlags := 25, slot := 0, constantValue := 0 }, { name := "DIGITS", type := (.object "java/util/regex/Pattern"), accessFlags := 26, slot := 1, constantValue := 0 }]
  methods := #[k3m0, k3m1, k3m2]
  instanceTypes := #[]
  staticTypes := #[.long, (.object "java/util/regex/Pattern")]
  resolved := Array.replicate 78 none
  statics := none }

def pool4 : Array CpInfo := pool [(1, u "java/lang/Cloneable"), (0, .class_ 1), (0, u "java/lang/Object"), (0, .class_ 3)] 3

/-- java/lang/Cloneable -/
def k4 : Class := { plain "java/lang/Cloneable" (some 0) with
  accessFlags := 1537
  interfaces := #[]
  cf := some (fileOf pool4 2 #[] #[] 1537 4 #[] #[])
  fields := #[]
  methods := #[]
  instanceTypes := #[]
  staticTypes := #[]
  resolved := Array.replicate 8 none
  statics := none }

def pool5 : Array CpInfo := pool [(1, u "java/io/Serializable"), (0, .class_ 1), (0, u "java/lang/Object"), (0, .class_ 3)] 3

/-- java/io/Serializable -/
def k5 : Class := { plain "java/io/Serializable" (some 0) with
  accessFlags := 1537
  interfaces := #[]
  cf := some (fileOf pool5 2 #[] #[] 1537 4 #[] #[])
  fields := #[]
  methods := #[]
  instanceTypes := #[]
  staticTypes := #[]
  resolved := Array.replicate 8 none
  statics := none }

/-- the primitive byte -/
def k6 : Class := { plain "byte" none with kind := .primitive 'B', accessFlags := 0x411 }
/-- [B -/
def k7 : Class := { plain "[B" (some 0) with kind := .array 6 .byte, interfaces := #[4, 5], accessFlags := 1041 }

/-- the primitive int -/
def k8 : Class := { plain "int" none with kind := .primitive 'I', accessFlags := 0x411 }
/-- [I -/
def k9 : Class := { plain "[I" (some 0) with kind := .array 8 .int, interfaces := #[4, 5], accessFlags := 1041 }

def heap : Heap := #[]
def classes : Array Class := #[k0, k1, k2, k3, k4, k5, k6, k7, k8, k9]
def interned : List (Array UInt16 × Addr) := []
def slotsUsed : Nat := 0
def theMethod : MethodId := ⟨1, 3⟩
def args0 : Array Value := #[.long 5, .long 7, .int 3]
def aboutOver (below : List Frame) : State where
  vm := { classes := classes, interned := interned.toArray }
  heap := heap
  slotsUsed := slotsUsed
  threads := #[{ frames := .invoking theMethod args0 :: below }]
def below0 : List Frame := [.native { method := ⟨0, 0⟩, args := #[] }]
def about1 : State := aboutOver below0
def p0 : Program := .bare "" "" ""
def e0 : Env := launch0.env 0 0 0
theorem w_frames : about1.frames = Frame.invoking theMethod args0 :: below0 := rfl
set_option maxRecDepth 65536 in
theorem w_args : argsFit about1.vm theMethod args0 = true := by decide +kernel
set_option maxRecDepth 65536 in
theorem w_heap : heapFits about1 = true := by decide +kernel
set_option maxRecDepth 65536 in
theorem w_runnable : about1.curStatus? = some .runnable := by decide +kernel
set_option maxRecDepth 65536 in
theorem w_alone : about1.alone = true := by decide +kernel
set_option maxRecDepth 65536 in
theorem w_named : about1.methodNamed? x = some theMethod := by decide +kernel
set_option maxRecDepth 65536 in
theorem w_hears : about1.hears theMethod below0 = true := by decide +kernel
set_option maxRecDepth 65536 in
theorem w_ripe : about1.ripe theMethod args0 below0 = true := by decide +kernel
theorem w_running : about1.status = .running := rfl
set_option maxRecDepth 65536 in
theorem w_room : about1.hasRoom e0.platform room_1 = true :=
  launch0.hasRoom_least _ room_1 (by decide +kernel) (by decide +kernel) (by decide +kernel) (by decide +kernel) (by decide +kernel) (by decide +kernel)
theorem allAtoms_all (ts : List Jvm.Cond) (a : Array Jvm.Value) (st : Jvm.State) : (allAtoms ts).before a st = ts.all (fun c => c.before a st) := by
  induction ts with
  | nil => rfl
  | cons c t ih =>
    show (Jvm.Cond.and c (allAtoms t)).before a st = _
    rw [Jvm.Cond.before_and, ih, List.all_cons]
def words1 : List Jvm.Cond := Jvm.Cond.code x code maxLocals ret :: tables_1
/-- a 'code' word, met by the world's own term for the bytes: nothing is compared byte by byte -/
theorem code_word {y : MethodName} {bytes : ByteArray} {mx : Nat} {rt : Option FieldType} {a : Array Value} {s : State} {m : MethodId} {meth : Method} {c : Code} (h1 : s.methodNamed? y = some m) (h2 : s.vm.method? m = some meth) (h3 : meth.code = some c) (h4 : c.code = bytes)
    (h5 : (c.maxLocals == mx && c.exceptionTable.isEmpty && decide (c.maxStack ≤ mostOperands) && decide (meth.sig.returnType = rt) && !meth.locks && decide (parseMethodDescriptor y.desc = some meth.sig)) = true) : (Jvm.Cond.code y bytes mx rt).before a s = true := by
  simp only [Bool.and_eq_true, beq_iff_eq, Bool.not_eq_true', decide_eq_true_eq] at h5
  obtain ⟨⟨⟨⟨⟨g1, g2⟩, g3⟩, g4⟩, g5⟩, g6⟩ := h5
  simp [Cond.before, Cond.holds, Cond.value, h1, h2, h3, h4, g1, g2, g3, g4, g5, g6]
def isCode : Jvm.Cond → Bool
  | .code _ _ _ _ => true
  | _ => false
theorem all_split {L : List Jvm.Cond} {P : Jvm.Cond → Bool} (h1 : L.all (fun c => isCode c || P c) = true) (h2 : ∀ c ∈ L.filter isCode, P c = true) : L.all P = true := by
  refine List.all_eq_true.mpr fun c hc => ?_
  have h := List.all_eq_true.mp h1 c hc
  rcases Bool.eq_false_or_eq_true (isCode c) with hi | hi
  · exact h2 c (List.mem_filter.mpr ⟨hc, hi⟩)
  · simpa [hi] using h
set_option maxRecDepth 65536 in
theorem w_c0 : (Jvm.Cond.code x code maxLocals ret).before args0 about1 = true := code_word (m := ⟨1, 3⟩) (meth := k1m3) (c := k1c3) (by decide +kernel) rfl rfl rfl (by decide +kernel)
set_option maxRecDepth 65536 in
theorem w_c1 : (Jvm.Cond.code ({ cls := "com/example/madingley/madingley/core/UwsDurationLimitPinLaw", name := "key", desc := "(J)J" } : Jvm.MethodName) method_2_code (2 : Nat) (Option.some Jvm.ClassFile.FieldType.long)).before args0 about1 = true := code_word (m := ⟨1, 1⟩) (meth := k1m1) (c := k1c1) (by decide +kernel) rfl rfl rfl (by decide +kernel)
set_option maxRecDepth 65536 in
theorem w_c2 : (Jvm.Cond.code ({ cls := "java/lang/Math", name := "min", desc := "(JJ)J" } : Jvm.MethodName) jdk_29_method_70_code (4 : Nat) (Option.some Jvm.ClassFile.FieldType.long)).before args0 about1 = true := code_word (m := ⟨2, 1⟩) (meth := k2m1) (c := k2c1) (by decide +kernel) rfl rfl rfl (by decide +kernel)
set_option maxRecDepth 65536 in
theorem w_c3 : (Jvm.Cond.code ({ cls := "com/example/madingley/madingley/core/UwsDurationLimitPinLaw", name := "unkey", desc := "(J)J" } : Jvm.MethodName) method_3_code (2 : Nat) (Option.some Jvm.ClassFile.FieldType.long)).before args0 about1 = true := code_word (m := ⟨1, 2⟩) (meth := k1m2) (c := k1c2) (by decide +kernel) rfl rfl rfl (by decide +kernel)
set_option maxRecDepth 65536 in
theorem w_c4 : (Jvm.Cond.code ({ cls := "com/example/madingley/madingley/core/UwsDuration", name := "limit", desc := "(JJ)J" } : Jvm.MethodName) prog_19_method_4_code (4 : Nat) (Option.some Jvm.ClassFile.FieldType.long)).before args0 about1 = true := code_word (m := ⟨3, 2⟩) (meth := k3m2) (c := k3c2) (by decide +kernel) rfl rfl rfl (by decide +kernel)
set_option maxRecDepth 65536 in
theorem w_c5 : (Jvm.Cond.code ({ cls := "com/example/madingley/madingley/core/UwsDuration", name := "exceeds", desc := "(JJ)Z" } : Jvm.MethodName) prog_19_method_3_code (4 : Nat) (Option.some Jvm.ClassFile.FieldType.boolean)).before args0 about1 = true := code_word (m := ⟨3, 1⟩) (meth := k3m1) (c := k3c1) (by decide +kernel) rfl rfl rfl (by decide +kernel)
def codes1 : List Jvm.Cond := [Jvm.Cond.code x code maxLocals ret, Jvm.Cond.code ({ cls := "com/example/madingley/madingley/core/UwsDurationLimitPinLaw", name := "key", desc := "(J)J" } : Jvm.MethodName) method_2_code (2 : Nat) (Option.some Jvm.ClassFile.FieldType.long), Jvm.Cond.code ({ cls := "java/lang/Math", name := "min", desc := "(JJ)J" } : Jvm.MethodName) jdk_29_method_70_code (4 : Nat) (Option.some Jvm.ClassFile.FieldType.long), Jvm.Cond.code ({ cls := "com/example/madingley/madingley/core/UwsDurationLimitPinLaw", name := "unkey", desc := "(J)J" } : Jvm.MethodName) method_3_code (2 : Nat) (Option.some Jvm.ClassFile.FieldType.long), Jvm.Cond.code ({ cls := "com/example/madingley/madingley/core/UwsDuration", name := "limit", desc := "(JJ)J" } : Jvm.MethodName) prog_19_method_4_code (4 : Nat) (Option.some Jvm.ClassFile.FieldType.long), Jvm.Cond.code ({ cls := "com/example/madingley/madingley/core/UwsDuration", name := "exceeds", desc := "(JJ)Z" } : Jvm.MethodName) prog_19_method_3_code (4 : Nat) (Option.some Jvm.ClassFile.FieldType.boolean)]
set_option maxRecDepth 65536 in
theorem codes_eq : words1.filter isCode = codes1 := rfl
theorem w_codes : ∀ c ∈ words1.filter isCode, c.before args0 about1 = true := by
  rw [codes_eq]
  intro c hc
  simp only [codes1, List.mem_cons, List.not_mem_nil, or_false] at hc
  rcases hc with rfl | rfl | rfl | rfl | rfl | rfl
  · exact w_c0
  · exact w_c1
  · exact w_c2
  · exact w_c3
  · exact w_c4
  · exact w_c5
set_option maxRecDepth 65536 in
theorem w_t1 : words1.all (fun c => isCode c || c.before args0 about1) = true := by decide +kernel
theorem w_tables : (allAtoms (Jvm.Cond.code x code maxLocals ret :: tables_1)).before args0 about1 = true := by
  rw [allAtoms_all]
  show words1.all (fun c => c.before args0 about1) = true
  refine all_split ?_ w_codes
  rw [w_t1]
set_option maxRecDepth 65536 in
theorem w_case : (Jvm.Cond.and given_1 narrow_1).before args0 about1 = true := by decide +kernel
theorem w_applies : (headSpec (Jvm.Cond.code x code maxLocals ret :: tables_1) room_1).applies x e0.platform about1 = true :=
  (Spec.applies_iff w_frames).mpr ⟨w_running, w_runnable, w_alone, w_named, w_hears, w_ripe, w_room, w_tables⟩
theorem atStart : AtStart classFile x code maxLocals ret World_1 tables_1 room_1 Calls_1 rest_1 Pre_1 launch0 p0 e0 about1 theMethod args0 below0 :=
  ⟨lists_1, trivial, launch0.admits_env _ _ _, launch0.least_env, fairChoices_fair.cas, fairChoices_fair.clock, w_frames, w_args, w_heap, w_applies, trivial, trivial, w_case⟩
end start1
theorem witness_1 : WitnessClaimed_1 := ⟨start1.p0, start1.e0, start1.about1, start1.theMethod, start1.args0, start1.below0, start1.atStart⟩
end Jvm.Pilot.@@N@@
