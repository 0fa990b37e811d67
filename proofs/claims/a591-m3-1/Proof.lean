import JvmDerived
import JvmDerived.Pilot.@@N@@Statement
import JvmDerived.Pilot.@@N@@Code
set_option linter.unusedVariables false
set_option linter.unusedSimpArgs false
namespace Jvm.RoadKit
open Sem ClassFile Op Lib Jvm.Stand Jvm.Free Jvm.LawKit
section New
variable {p : Program} {l : Launch} {e : Env} {R : Room} {s : State} {m : MethodId} {args : Array Value} {below : List Frame} {meth : Method} {c : Code} {T : State} {locs : List Loc} {cells slots : Nat}
theorem retI (X : Stand p l e R s m args below meth c T locs cells slots) (hx : p.tables.exec = Jvm.exec) {pc : Nat} {Ls : Array Slot} {z : Int32} {rest : List Value} (hret : meth.sig.returnType = some .int) (hd : decode c.code pc = .ok (.ireturn, 1)) {fs : List Frame}
    (hl : ∀ (f : JFrame) (acts : List Action), f.method = m → f.locked = none → f.entered = [] → (doReturn e (T.setTop f) acts (some (.int z))).1 = T.setFrames fs) : Steps p.tables e below (T.setTop (mkF m pc Ls (.int z :: rest))) (T.setFrames fs) := by
  have hm' : T.vm.method? m = some meth := X.method'
  have hn : narrow .int (.int z) = .int z := rfl
  show Steps p.tables e below (T.setTop { method := m, pc := pc, locals := Ls, stack := _ :: rest, locked := none }) _
  jvm_step X.here [X.here.top, hx, hd, hm', hret, hn]
  first | (intro acts; rw [hl _ acts rfl rfl rfl]) | rw [hl _ _ rfl rfl rfl]
  exact Steps.refl _
end New
end Jvm.RoadKit
namespace Jvm.Pilot.@@N@@
open Jvm Jvm.ClassFile Sem Op Lib Jvm.Free Jvm.Stand Jvm.LawKit Jvm.RoadKit Bundle Jvm.Pilot.@@N@@.Jvm.D
def Goes (tb : Tables) (e : Env) (below : List Frame) (Q : Outcome → State → Prop) (A : State) : Prop := ∃ s₂ o, Steps tb e below A s₂ ∧ s₂.status = .running ∧ Ended s₂ below o ∧ Q o s₂
theorem Goes.step {tb : Tables} {e : Env} {below : List Frame} {Q : Outcome → State → Prop} {A B : State} (h : ∀ t, Steps tb e below A t → Steps tb e below B t) (k : Goes tb e below Q A) : Goes tb e below Q B := by
  obtain ⟨s₂, o, h1, h2⟩ := k
  exact ⟨s₂, o, h _ h1, h2⟩
theorem Goes.start {tb : Tables} {e : Env} {below : List Frame} {Q : Outcome → State → Prop} {A B : State} (h : ∀ t, Steps tb e below A t → Steps tb e below B t) (k : Goes tb e below Q A) : ∃ s₂ o, Steps tb e below B s₂ ∧ s₂.status = .running ∧ Ended s₂ below o ∧ Q o s₂ := Goes.step h k
theorem Goes.done {tb : Tables} {e : Env} {below : List Frame} {Q : Outcome → State → Prop} {A s₂ : State} {o : Outcome} (h1 : Steps tb e below A s₂) (h2 : s₂.status = .running) (h3 : Ended s₂ below o) (h4 : Q o s₂) : Goes tb e below Q A := ⟨s₂, o, h1, h2, h3, h4⟩
def elemF (x0 x1 x2 x3 : Int64) (j : Int32) : Int64 := if j = 0 then x0 else if j = 1 then x1 else if j = 2 then x2 else x3
def Arr4 (Z : State) (h : Heap) (a : Addr) (xs : Int32 → Int64) : Prop := ∃ cl : Cell, Arr Z h a cl .long ∧ ∀ j : Int32, ¬ j < 0 → j < 4 → ¬ (j < 0 ∨ cl.slots.size ≤ j.toNatClampNeg) ∧ cl.slots[j.toNatClampNeg]? = some (.long (xs j))
theorem own_four (j : Int32) (h0 : ¬ j < 0) (h1 : j < 4) : j = 0 ∨ j = 1 ∨ j = 2 ∨ j = 3 := by
  have e0 : (0 : Int32).toInt = 0 := by decide
  have e1 : (1 : Int32).toInt = 1 := by decide
  have e2 : (2 : Int32).toInt = 2 := by decide
  have e3 : (3 : Int32).toInt = 3 := by decide
  have e4 : (4 : Int32).toInt = 4 := by decide
  rw [Int32.lt_iff_toInt_lt] at h0 h1
  rw [← Int32.toInt_inj, ← Int32.toInt_inj, ← Int32.toInt_inj, ← Int32.toInt_inj, e0, e1, e2, e3]
  rw [e0] at h0; rw [e4] at h1
  omega
theorem own_arr4 {Z : State} {h : Heap} {a : Addr} {k : ClassId} {x0 x1 x2 x3 : Int64} (F : Arv Z h a k .long (4 : Int32) [.long x0, .long x1, .long x2, .long x3] (.long (0 : Int64))) : Arr4 Z h a (elemF x0 x1 x2 x3) := by
  obtain ⟨cl, A, -, S, N, H, -⟩ := F
  refine ⟨cl, A, fun j h0 h1 => ?_⟩
  have hin := inb_of S ⟨h0, h1⟩
  refine ⟨hin, H.at hin ?_⟩
  rcases own_four j h0 h1 with rfl | rfl | rfl | rfl <;> rfl
def Inv (xs : Int32 → Int64) (f t b i : Int32) : Prop := 0 ≤ f.toInt ∧ t.toInt ≤ 4 ∧ f.toInt ≤ b.toInt ∧ b.toInt < i.toInt ∧ i.toInt ≤ t.toInt ∧ ∀ j : Int32, f.toInt ≤ j.toInt → j.toInt < i.toInt → (j.toInt < b.toInt → (xs j).toInt < (xs b).toInt) ∧ (xs j).toInt ≤ (xs b).toInt
def Top (xs : Int32 → Int64) (f t r : Int32) : Prop := 0 ≤ f.toInt ∧ t.toInt ≤ 4 ∧ f.toInt ≤ r.toInt ∧ r.toInt < t.toInt ∧ ∀ j : Int32, f.toInt ≤ j.toInt → j.toInt < t.toInt → (j.toInt < r.toInt → (xs j).toInt < (xs r).toInt) ∧ (xs j).toInt ≤ (xs r).toInt
theorem own_z : (0 : Int32).toInt = 0 := by decide
theorem own_o : (1 : Int32).toInt = 1 := by decide
theorem own_f : (4 : Int32).toInt = 4 := by decide
theorem own_inc (i : Int32) (h : i.toInt ≤ 4) : (i + (1 : Int32)).toInt = i.toInt + 1 := by
  have e := c_iadd i 1
  rw [own_o] at e
  have r := rng32 (i + 1)
  have r2 := rng32 i
  omega
theorem own_inv0 (xs : Int32 → Int64) (f t : Int32) (h0 : 0 ≤ f.toInt) (h1 : f.toInt < t.toInt) (h2 : t.toInt ≤ 4) : Inv xs f t f (f + (1 : Int32)) := by
  have e := own_inc f (by omega)
  refine ⟨h0, h2, Int.le_refl _, by omega, by omega, fun j a b => ?_⟩
  have : j = f := by rw [← Int32.toInt_inj]; omega
  subst this
  exact ⟨fun q => by omega, Int.le_refl _⟩
theorem own_step1 (xs : Int32 → Int64) (f t b i : Int32) (h : Inv xs f t b i) (hi : i < t) (hx : xs b < xs i) : Inv xs f t i (i + (1 : Int32)) := by
  obtain ⟨a1, a2, a3, a4, a5, a6⟩ := h
  rw [Int32.lt_iff_toInt_lt] at hi
  rw [Int64.lt_iff_toInt_lt] at hx
  have e := own_inc i (by omega)
  refine ⟨a1, a2, by omega, by omega, by omega, fun j u v => ?_⟩
  by_cases q : j.toInt < i.toInt
  · have := a6 j u q
    exact ⟨fun _ => by omega, by omega⟩
  · have : j = i := by rw [← Int32.toInt_inj]; omega
    subst this
    exact ⟨fun q => by omega, Int.le_refl _⟩
theorem own_step0 (xs : Int32 → Int64) (f t b i : Int32) (h : Inv xs f t b i) (hi : i < t) (hx : ¬ xs b < xs i) : Inv xs f t b (i + (1 : Int32)) := by
  obtain ⟨a1, a2, a3, a4, a5, a6⟩ := h
  rw [Int32.lt_iff_toInt_lt] at hi
  rw [Int64.lt_iff_toInt_lt] at hx
  have e := own_inc i (by omega)
  refine ⟨a1, a2, by omega, by omega, by omega, fun j u v => ?_⟩
  by_cases q : j.toInt < i.toInt
  · exact a6 j u q
  · have : j = i := by rw [← Int32.toInt_inj]; omega
    subst this
    exact ⟨fun q => by omega, by omega⟩
theorem own_fin (xs : Int32 → Int64) (f t b i : Int32) (h : Inv xs f t b i) (hi : ¬ i < t) : Top xs f t b := by
  obtain ⟨a1, a2, a3, a4, a5, a6⟩ := h
  rw [Int32.lt_iff_toInt_lt] at hi
  have e : i.toInt = t.toInt := by omega
  exact ⟨a1, a2, a3, by omega, fun j u v => a6 j u (by omega)⟩
theorem own_ix (xs : Int32 → Int64) (f t b i : Int32) (h : Inv xs f t b i) (hi : i < t) : (¬ i < 0 ∧ i < 4) ∧ (¬ b < 0 ∧ b < 4) := by
  obtain ⟨a1, a2, a3, a4, a5, a6⟩ := h
  simp only [Int32.lt_iff_toInt_lt, own_z, own_f] at hi ⊢
  omega
theorem own_k (i t : Int32) (k : Nat) (hi : i < t) (hk : i.toInt + (k + 1 : Nat) = t.toInt) (h4 : t.toInt ≤ 4) : (i + (1 : Int32)).toInt + k = t.toInt := by
  rw [own_inc i (by omega)]; omega
theorem own_in1 (k f t : Int32) (h1 : ¬ k < f) (h2 : k < t) (hf : 0 ≤ f.toInt) (ht : t.toInt ≤ 4) : ¬ k < 0 ∧ k < 4 := by
  simp only [Int32.lt_iff_toInt_lt, own_z, own_f] at h1 h2 ⊢
  omega
theorem own_in2 (xs : Int32 → Int64) (f t r : Int32) (h : Top xs f t r) : ¬ r < 0 ∧ r < 4 := by
  obtain ⟨a1, a2, a3, a4, a5⟩ := h
  simp only [Int32.lt_iff_toInt_lt, own_z, own_f]
  omega
def fitsF (xs : Int32 → Int64) (r f t k : Int32) : Int32 := if k < f then 1 else if k < t then (if k < r then (if xs k < xs r then 1 else 0) else (if xs r < xs k then 0 else 1)) else 1
theorem own_fits (xs : Int32 → Int64) (r f t k : Int32) (h : Top xs f t r) : ¬ (fitsF xs r f t k = (0 : Int32)) := by
  obtain ⟨a1, a2, a3, a4, a5⟩ := h
  by_cases h1 : k < f
  · simp [fitsF, h1]
  · by_cases h2 : k < t
    · have := a5 k (by rw [Int32.lt_iff_toInt_lt] at h1; omega) (by rw [Int32.lt_iff_toInt_lt] at h2; exact h2)
      by_cases h3 : k < r
      · have h4 : xs k < xs r := by rw [Int64.lt_iff_toInt_lt]; rw [Int32.lt_iff_toInt_lt] at h3; exact this.1 h3
        simp [fitsF, h1, h2, h3, h4]
      · have h4 : ¬ xs r < xs k := by rw [Int64.lt_iff_toInt_lt]; omega
        simp [fitsF, h1, h2, h3, h4]
    · simp [fitsF, h1, h2]
theorem own_top1 (xs : Int32 → Int64) (f t r : Int32) (h : Top xs f t r) : ¬ r < f := by obtain ⟨a1, a2, a3, a4, a5⟩ := h; rw [Int32.lt_iff_toInt_lt]; omega
theorem own_top2 (xs : Int32 → Int64) (f t r : Int32) (h : Top xs f t r) : r < t := by obtain ⟨a1, a2, a3, a4, a5⟩ := h; rw [Int32.lt_iff_toInt_lt]; omega
theorem own_from (s : Int32) : 0 ≤ (s &&& (3 : Int32)).toInt ∧ (s &&& (3 : Int32)).toInt ≤ 3 := by
  have e := c_mask s 3 2 (by decide) (by decide)
  rw [e]; have r := rng32 s; omega
theorem own_sub (s : Int32) : ((4 : Int32) - (s &&& (3 : Int32))).toInt = 4 - (s &&& (3 : Int32)).toInt := by
  have e := c_isub 4 (s &&& 3)
  rw [own_f] at e
  have r := rng32 ((4 : Int32) - (s &&& (3 : Int32)))
  have r2 := own_from s
  omega
theorem own_nz (s : Int32) : ((4 : Int32) - (s &&& (3 : Int32))) ≠ 0 := by
  intro q
  have e := own_sub s
  rw [q, own_z] at e
  have r2 := own_from s
  omega
theorem own_rng (s u : Int32) (hu : 0 ≤ u.toInt) : 0 ≤ (s &&& (3 : Int32)).toInt ∧ (s &&& (3 : Int32)).toInt < ((s &&& (3 : Int32)) + ((u % ((4 : Int32) - (s &&& (3 : Int32)))) + (1 : Int32))).toInt ∧ ((s &&& (3 : Int32)) + ((u % ((4 : Int32) - (s &&& (3 : Int32)))) + (1 : Int32))).toInt ≤ 4 := by
  have r2 := own_from s
  have e := own_sub s
  have m := (c_iremV u ((4 : Int32) - (s &&& (3 : Int32)))).1 hu (by omega)
  have a1 := c_iadd (u % ((4 : Int32) - (s &&& (3 : Int32)))) 1
  have a2 := c_iadd (s &&& (3 : Int32)) ((u % ((4 : Int32) - (s &&& (3 : Int32)))) + (1 : Int32))
  have g1 := rng32 ((u % ((4 : Int32) - (s &&& (3 : Int32)))) + (1 : Int32))
  have g2 := rng32 ((s &&& (3 : Int32)) + ((u % ((4 : Int32) - (s &&& (3 : Int32)))) + (1 : Int32)))
  rw [own_o] at a1
  omega
theorem ef_1 (m : MethodId) (x0 : Addr) (x1 : Int32) (x2 : Int32) : entryFrame m #[(.ref x0), (.int x1), (.int x2)] 5 = mkF m 0 #[.val (.ref x0), .val (.int x1), .val (.int x2), .unset, .unset] [] := by first | (simp [entryFrame, mkF, argsToLocals, Value.category]; done) | rfl
def Q1 (Z : State) (p0 : Addr) (p1 : Int32) (p2 : Int32) (xs : Int32 → Int64) (h0 : Heap) (n0 : Nat) (v : Option Value) (h : Heap) (L : List Loc) : Prop := ∃ r : Int32, v = some (.int r) ∧ Fr n0 L ∧ h = h0 ∧ Top xs p1 p2 r
theorem d1_0 : decode prog_20_method_6_code 0 = .ok (.iload_n 1, 1) := by decide +kernel
theorem d1_1 : decode prog_20_method_6_code 1 = .ok (.istore_n 3, 1) := by decide +kernel
theorem d1_2 : decode prog_20_method_6_code 2 = .ok (.iload_n 1, 1) := by decide +kernel
theorem d1_3 : decode prog_20_method_6_code 3 = .ok (.iconst 1, 1) := by decide +kernel
theorem d1_4 : decode prog_20_method_6_code 4 = .ok (.iadd, 1) := by decide +kernel
theorem d1_5 : decode prog_20_method_6_code 5 = .ok (.istore 4, 2) := by decide +kernel
theorem d1_7 : decode prog_20_method_6_code 7 = .ok (.iload 4, 2) := by decide +kernel
theorem d1_9 : decode prog_20_method_6_code 9 = .ok (.iload_n 2, 1) := by decide +kernel
theorem d1_10 : decode prog_20_method_6_code 10 = .ok (.if_icmp .ge 23, 3) := by decide +kernel
theorem d1_13 : decode prog_20_method_6_code 13 = .ok (.aload_n 0, 1) := by decide +kernel
theorem d1_14 : decode prog_20_method_6_code 14 = .ok (.iload 4, 2) := by decide +kernel
theorem d1_16 : decode prog_20_method_6_code 16 = .ok (.laload, 1) := by decide +kernel
theorem d1_17 : decode prog_20_method_6_code 17 = .ok (.aload_n 0, 1) := by decide +kernel
theorem d1_18 : decode prog_20_method_6_code 18 = .ok (.iload_n 3, 1) := by decide +kernel
theorem d1_19 : decode prog_20_method_6_code 19 = .ok (.laload, 1) := by decide +kernel
theorem d1_20 : decode prog_20_method_6_code 20 = .ok (.lcmp, 1) := by decide +kernel
theorem d1_21 : decode prog_20_method_6_code 21 = .ok (.ifCond .le 6, 3) := by decide +kernel
theorem d1_24 : decode prog_20_method_6_code 24 = .ok (.iload 4, 2) := by decide +kernel
theorem d1_26 : decode prog_20_method_6_code 26 = .ok (.istore_n 3, 1) := by decide +kernel
theorem d1_27 : decode prog_20_method_6_code 27 = .ok (.iinc 4 1, 3) := by decide +kernel
theorem d1_30 : decode prog_20_method_6_code 30 = .ok (.goto (-23), 3) := by decide +kernel
theorem d1_33 : decode prog_20_method_6_code 33 = .ok (.iload_n 3, 1) := by decide +kernel
theorem d1_34 : decode prog_20_method_6_code 34 = .ok (.ireturn, 1) := by decide +kernel
theorem pn_1 : plainName "com/example/shardwright/shardwright/fragment/FragmentBytes" = true := by first | (simp [plainName, overriddenIn]; done) | decide +kernel
set_option maxRecDepth 65536 in
set_option maxHeartbeats 40000000 in
theorem rm1 (l : Launch) (Z : State) (a0 : Array Value) (hw : ∀ d ∈ tables_1, d.before a0 Z = true) (ws : List Jvm.Cond) (p0 : Addr) (p1 : Int32) (p2 : Int32) (xs : Int32 → Int64) (h0 : Heap) (n0 : Nat) (Z0 : n0 ≤ h0.size) (A4 : Arr4 Z h0 p0 xs) (hf : 0 ≤ p1.toInt) (hft : p1.toInt < p2.toInt) (ht : p2.toInt ≤ 4) :
    MetFree l (⟨"com/example/shardwright/shardwright/fragment/FragmentBytes", "heaviest", "([JII)I"⟩ : MethodName) (head1 (Jvm.Cond.code (⟨"com/example/shardwright/shardwright/fragment/FragmentBytes", "heaviest", "([JII)I"⟩ : MethodName) prog_20_method_6_code 5 (some .int) :: ws) ({ frames := 0, cells := 0, slots := 0, locals := 0 } : Room)) (fun a U => a = #[(.ref p0), (.int p1), (.int p2)] ∧ Z.Warmed39 U.vm ∧ U.heap = h0) (fun _ _ _ _ _ => True) (fun _ U o U' => ∃ v L, o = .returned v ∧ Q1 Z p0 p1 p2 xs h0 n0 v U'.heap L ∧ FrameEnd U o U' L ({ frames := 0, cells := 0, slots := 0, locals := 0 } : Room).cells ({ frames := 0, cells := 0, slots := 0, locals := 0 } : Room).slots) := by
  refine MetFree.of_bodySF (plainFor_of_name pn_1) hisR ?_
  intro p e s m args below meth c s₁ Bd hml0 hP hK
  obtain ⟨rfl, hZ, hh⟩ := hP
  have hx := Bd.exec
  have hby := Bd.bytes
  have hml : c.maxLocals = 5 := hml0
  have hown : s.vm.findClass "com/example/shardwright/shardwright/fragment/FragmentBytes" = some m.cls := findClass_of_methodNamed Bd.named
  have hnm := (name_of_methodNamed Bd.named Bd.method).1
  have X0 : Stand p l e ({ frames := 0, cells := 0, slots := 0, locals := 0 } : Room) s m #[(.ref p0), (.int p1), (.int p2)] below meth c s₁ [] 0 0 := Stand.of_body Bd
  have e0 : s₁.heap = h0 := by rw [← hh, Bd.state]; rfl
  have N0 := Fr.nil n0
  refine Goes.start (Q := (fun o U' => ∃ v L, o = .returned v ∧ Q1 Z p0 p1 p2 xs h0 n0 v U'.heap L ∧ FrameEnd s o U' L ({ frames := 0, cells := 0, slots := 0, locals := 0 } : Room).cells ({ frames := 0, cells := 0, slots := 0, locals := 0 } : Room).slots)) (A := s₁.setTop (mkF m 0 #[.val (.ref p0), .val (.int p1), .val (.int p2), .unset, .unset] [])) (fun t k => castTop (ef_1 m p0 p1 p2) k) ?_
  obtain ⟨cl, Ar, Hat⟩ := A4
  have loop : ∀ (k : Nat) (bb ii : Int32), ii.toInt + k = p2.toInt → Inv xs p1 p2 bb ii → Goes p.tables e below (fun o U' => ∃ v L, o = .returned v ∧ Q1 Z p0 p1 p2 xs h0 n0 v U'.heap L ∧ FrameEnd s o U' L ({ frames := 0, cells := 0, slots := 0, locals := 0 } : Room).cells ({ frames := 0, cells := 0, slots := 0, locals := 0 } : Room).slots) (s₁.setTop (mkF m 7 #[.val (.ref p0), .val (.int p1), .val (.int p2), .val (.int bb), .val (.int ii)] [])) := by
    intro k
    induction k with
    | zero =>
      intro bb ii hk hinv
      have hlt : ¬ ii < p2 := by rw [Int32.lt_iff_toInt_lt]; omega
      refine Goes.step (A := s₁.setTop (mkF m 10 #[.val (.ref p0), .val (.int p1), .val (.int p2), .val (.int bb), .val (.int ii)] [(.int p2), (.int ii)])) (fun t kt => ?_) ?_
      · refine XS.iload X0.here hx rfl (hb hby d1_7) rfl ?_
        show Steps p.tables e below (s₁.setTop (mkF m 9 #[.val (.ref p0), .val (.int p1), .val (.int p2), .val (.int bb), .val (.int ii)] [(.int ii)])) _
        refine XS.iloadN X0.here hx rfl (hb hby d1_9) rfl ?_
        exact kt
      refine Goes.step (A := s₁.setTop (mkF m 33 #[.val (.ref p0), .val (.int p1), .val (.int p2), .val (.int bb), .val (.int ii)] [])) (fun t kt => XS.icmpYes X0.here hx rfl (pc0 := 10) (pc' := 33) rfl (hb hby d1_10) rfl (flt (hlt : ¬ (ii < p2))).2.1 (by decide) (by decide) kt) ?_
      refine Goes.step (A := s₁.setTop (mkF m 34 #[.val (.ref p0), .val (.int p1), .val (.int p2), .val (.int bb), .val (.int ii)] [(.int bb)])) (fun t kt => ?_) ?_
      · refine XS.iloadN X0.here hx rfl (hb hby d1_33) rfl ?_
        exact kt
      obtain ⟨fs, hr, hrun, hended, hW, hsame⟩ := X0.leave (v := some (.int bb)) (fun h => by rw [Bd.returns] at h; cases h)
      refine Goes.done ?_ hrun hended ⟨_, _, rfl, ?_, ⟨_, rfl⟩, hW, hsame.mono (by decide) (by decide)⟩
      · exact retI X0 hx Bd.returns (hb hby d1_34) hr
      · show Q1 Z p0 p1 p2 xs h0 n0 _ s₁.heap _
        rw [e0]
        exact ⟨_, rfl, N0, rfl, own_fin xs p1 p2 bb ii hinv hlt⟩
    | succ k ih =>
      intro bb ii hk hinv
      have hlt : ii < p2 := by rw [Int32.lt_iff_toInt_lt]; omega
      refine Goes.step (A := s₁.setTop (mkF m 10 #[.val (.ref p0), .val (.int p1), .val (.int p2), .val (.int bb), .val (.int ii)] [(.int p2), (.int ii)])) (fun t kt => ?_) ?_
      · refine XS.iload X0.here hx rfl (hb hby d1_7) rfl ?_
        show Steps p.tables e below (s₁.setTop (mkF m 9 #[.val (.ref p0), .val (.int p1), .val (.int p2), .val (.int bb), .val (.int ii)] [(.int ii)])) _
        refine XS.iloadN X0.here hx rfl (hb hby d1_9) rfl ?_
        exact kt
      refine Goes.step (A := s₁.setTop (mkF m 13 #[.val (.ref p0), .val (.int p1), .val (.int p2), .val (.int bb), .val (.int ii)] [])) (fun t kt => XS.icmpNo X0.here hx rfl (hb hby d1_10) rfl (tlt (hlt : ii < p2)).2.1 kt) ?_
      refine Goes.step (A := s₁.setTop (mkF m 21 #[.val (.ref p0), .val (.int p1), .val (.int p2), .val (.int bb), .val (.int ii)] [(.int (lcmpW (xs ii) (xs bb)))])) (fun t kt => ?_) ?_
      · refine XS.aloadN X0.here hx rfl (hb hby d1_13) rfl rfl ?_
        show Steps p.tables e below (s₁.setTop (mkF m 14 #[.val (.ref p0), .val (.int p1), .val (.int p2), .val (.int bb), .val (.int ii)] [(.ref p0)])) _
        refine XS.iload X0.here hx rfl (hb hby d1_14) rfl ?_
        show Steps p.tables e below (s₁.setTop (mkF m 16 #[.val (.ref p0), .val (.int p1), .val (.int p2), .val (.int bb), .val (.int ii)] [(.int ii), (.ref p0)])) _
        refine X0.laload hx (j := ii) (v := (.long (xs ii))) (by rw [e0]; exact Ar.1) (State.isArrayOf_alike hZ.alike Ar.2.1) Ar.2.2 (Hat ii (own_ix xs p1 p2 bb ii hinv hlt).1.1 (own_ix xs p1 p2 bb ii hinv hlt).1.2).1 (Hat ii (own_ix xs p1 p2 bb ii hinv hlt).1.1 (own_ix xs p1 p2 bb ii hinv hlt).1.2).2 (g := (mkF m 16 #[.val (.ref p0), .val (.int p1), .val (.int p2), .val (.int bb), .val (.int ii)] [(.int ii), (.ref p0)])) rfl rfl (hb hby d1_16) _ ?_
        show Steps p.tables e below (s₁.setTop (mkF m 17 #[.val (.ref p0), .val (.int p1), .val (.int p2), .val (.int bb), .val (.int ii)] [(.long (xs ii))])) _
        refine XS.aloadN X0.here hx rfl (hb hby d1_17) rfl rfl ?_
        show Steps p.tables e below (s₁.setTop (mkF m 18 #[.val (.ref p0), .val (.int p1), .val (.int p2), .val (.int bb), .val (.int ii)] [(.ref p0), (.long (xs ii))])) _
        refine XS.iloadN X0.here hx rfl (hb hby d1_18) rfl ?_
        show Steps p.tables e below (s₁.setTop (mkF m 19 #[.val (.ref p0), .val (.int p1), .val (.int p2), .val (.int bb), .val (.int ii)] [(.int bb), (.ref p0), (.long (xs ii))])) _
        refine X0.laload hx (j := bb) (v := (.long (xs bb))) (by rw [e0]; exact Ar.1) (State.isArrayOf_alike hZ.alike Ar.2.1) Ar.2.2 (Hat bb (own_ix xs p1 p2 bb ii hinv hlt).2.1 (own_ix xs p1 p2 bb ii hinv hlt).2.2).1 (Hat bb (own_ix xs p1 p2 bb ii hinv hlt).2.1 (own_ix xs p1 p2 bb ii hinv hlt).2.2).2 (g := (mkF m 19 #[.val (.ref p0), .val (.int p1), .val (.int p2), .val (.int bb), .val (.int ii)] [(.int bb), (.ref p0), (.long (xs ii))])) rfl rfl (hb hby d1_19) _ ?_
        show Steps p.tables e below (s₁.setTop (mkF m 20 #[.val (.ref p0), .val (.int p1), .val (.int p2), .val (.int bb), .val (.int ii)] [(.long (xs bb)), (.long (xs ii))])) _
        refine XS.lcmp X0.here hx rfl (hb hby d1_20) rfl ?_
        exact kt
      by_cases hc21_1 : (xs bb) < (xs ii)
      · refine Goes.step (A := s₁.setTop (mkF m 24 #[.val (.ref p0), .val (.int p1), .val (.int p2), .val (.int bb), .val (.int ii)] [])) (fun t kt => XS.ifNo X0.here hx rfl (hb hby d1_21) rfl ((if0 _ _).trans (tlt ((lw_gt _ _).mpr hc21_1)).2.2.2) kt) ?_
        refine Goes.step (A := s₁.setTop (mkF m 7 #[.val (.ref p0), .val (.int p1), .val (.int p2), .val (.int ii), .val (.int (ii + (1 : Int32)))] [])) (fun t kt => ?_) ?_
        · refine XS.iload X0.here hx rfl (hb hby d1_24) rfl ?_
          show Steps p.tables e below (s₁.setTop (mkF m 26 #[.val (.ref p0), .val (.int p1), .val (.int p2), .val (.int bb), .val (.int ii)] [(.int ii)])) _
          refine XS.istoreN X0.here hx rfl (hb hby d1_26) rfl (l' := #[.val (.ref p0), .val (.int p1), .val (.int p2), .val (.int ii), .val (.int ii)]) rfl ?_
          show Steps p.tables e below (s₁.setTop (mkF m 27 #[.val (.ref p0), .val (.int p1), .val (.int p2), .val (.int ii), .val (.int ii)] [])) _
          refine XS.iinc X0.here hx rfl (hb hby d1_27) rfl (l' := #[.val (.ref p0), .val (.int p1), .val (.int p2), .val (.int ii), .val (.int (ii + (1 : Int32)))]) rfl ?_
          show Steps p.tables e below (s₁.setTop (mkF m 30 #[.val (.ref p0), .val (.int p1), .val (.int p2), .val (.int ii), .val (.int (ii + (1 : Int32)))] [])) _
          refine XS.goto X0.here hx rfl (pc0 := 30) (pc' := 7) rfl (hb hby d1_30) (by decide) (by decide) ?_
          exact kt
        exact ih _ _ (own_k ii p2 k hlt hk hinv.2.1) (own_step1 xs p1 p2 bb ii hinv hlt hc21_1)
      · refine Goes.step (A := s₁.setTop (mkF m 27 #[.val (.ref p0), .val (.int p1), .val (.int p2), .val (.int bb), .val (.int ii)] [])) (fun t kt => XS.ifYes X0.here hx rfl (pc0 := 21) (pc' := 27) rfl (hb hby d1_21) rfl ((if0 _ _).trans (flt (fun q => hc21_1 ((lw_gt _ _).mp q))).2.2.2) (by decide) (by decide) kt) ?_
        refine Goes.step (A := s₁.setTop (mkF m 7 #[.val (.ref p0), .val (.int p1), .val (.int p2), .val (.int bb), .val (.int (ii + (1 : Int32)))] [])) (fun t kt => ?_) ?_
        · refine XS.iinc X0.here hx rfl (hb hby d1_27) rfl (l' := #[.val (.ref p0), .val (.int p1), .val (.int p2), .val (.int bb), .val (.int (ii + (1 : Int32)))]) rfl ?_
          show Steps p.tables e below (s₁.setTop (mkF m 30 #[.val (.ref p0), .val (.int p1), .val (.int p2), .val (.int bb), .val (.int (ii + (1 : Int32)))] [])) _
          refine XS.goto X0.here hx rfl (pc0 := 30) (pc' := 7) rfl (hb hby d1_30) (by decide) (by decide) ?_
          exact kt
        exact ih _ _ (own_k ii p2 k hlt hk hinv.2.1) (own_step0 xs p1 p2 bb ii hinv hlt hc21_1)
  refine Goes.step (A := s₁.setTop (mkF m 7 #[.val (.ref p0), .val (.int p1), .val (.int p2), .val (.int p1), .val (.int (p1 + (1 : Int32)))] [])) (fun t kt => ?_) ?_
  · refine XS.iloadN X0.here hx rfl (hb hby d1_0) rfl ?_
    show Steps p.tables e below (s₁.setTop (mkF m 1 #[.val (.ref p0), .val (.int p1), .val (.int p2), .unset, .unset] [(.int p1)])) _
    refine XS.istoreN X0.here hx rfl (hb hby d1_1) rfl (l' := #[.val (.ref p0), .val (.int p1), .val (.int p2), .val (.int p1), .unset]) rfl ?_
    show Steps p.tables e below (s₁.setTop (mkF m 2 #[.val (.ref p0), .val (.int p1), .val (.int p2), .val (.int p1), .unset] [])) _
    refine XS.iloadN X0.here hx rfl (hb hby d1_2) rfl ?_
    show Steps p.tables e below (s₁.setTop (mkF m 3 #[.val (.ref p0), .val (.int p1), .val (.int p2), .val (.int p1), .unset] [(.int p1)])) _
    refine XS.iconst X0.here hx rfl (hb hby d1_3) ?_
    show Steps p.tables e below (s₁.setTop (mkF m 4 #[.val (.ref p0), .val (.int p1), .val (.int p2), .val (.int p1), .unset] [(.int (1 : Int32)), (.int p1)])) _
    refine XS.iadd X0.here hx rfl (hb hby d1_4) rfl ?_
    show Steps p.tables e below (s₁.setTop (mkF m 5 #[.val (.ref p0), .val (.int p1), .val (.int p2), .val (.int p1), .unset] [(.int (p1 + (1 : Int32)))])) _
    refine XS.istore X0.here hx rfl (hb hby d1_5) rfl (l' := #[.val (.ref p0), .val (.int p1), .val (.int p2), .val (.int p1), .val (.int (p1 + (1 : Int32)))]) rfl ?_
    exact kt
  exact loop (p2.toInt - (p1.toInt + 1)).toNat _ _ (by rw [own_inc p1 (by omega)]; omega) (own_inv0 xs p1 p2 hf hft ht)
theorem ef_2 (m : MethodId) (x0 : Addr) (x1 : Int32) (x2 : Int32) (x3 : Int32) (x4 : Int32) : entryFrame m #[(.ref x0), (.int x1), (.int x2), (.int x3), (.int x4)] 5 = mkF m 0 #[.val (.ref x0), .val (.int x1), .val (.int x2), .val (.int x3), .val (.int x4)] [] := by first | (simp [entryFrame, mkF, argsToLocals, Value.category]; done) | rfl
def Q2 (Z : State) (p0 : Addr) (p1 : Int32) (p2 : Int32) (p3 : Int32) (p4 : Int32) (xs : Int32 → Int64) (h0 : Heap) (n0 : Nat) (v : Option Value) (h : Heap) (L : List Loc) : Prop := v = some (.int (fitsF xs p1 p2 p3 p4)) ∧ Fr n0 L ∧ h = h0
theorem d2_0 : decode method_3_code 0 = .ok (.iload 4, 2) := by decide +kernel
theorem d2_2 : decode method_3_code 2 = .ok (.iload_n 2, 1) := by decide +kernel
theorem d2_3 : decode method_3_code 3 = .ok (.if_icmp .lt 9, 3) := by decide +kernel
theorem d2_6 : decode method_3_code 6 = .ok (.iload 4, 2) := by decide +kernel
theorem d2_8 : decode method_3_code 8 = .ok (.iload_n 3, 1) := by decide +kernel
theorem d2_9 : decode method_3_code 9 = .ok (.if_icmp .lt 5, 3) := by decide +kernel
theorem d2_12 : decode method_3_code 12 = .ok (.iconst 1, 1) := by decide +kernel
theorem d2_13 : decode method_3_code 13 = .ok (.ireturn, 1) := by decide +kernel
theorem d2_14 : decode method_3_code 14 = .ok (.iload 4, 2) := by decide +kernel
theorem d2_16 : decode method_3_code 16 = .ok (.iload_n 1, 1) := by decide +kernel
theorem d2_17 : decode method_3_code 17 = .ok (.if_icmp .ge 20, 3) := by decide +kernel
theorem d2_20 : decode method_3_code 20 = .ok (.aload_n 0, 1) := by decide +kernel
theorem d2_21 : decode method_3_code 21 = .ok (.iload 4, 2) := by decide +kernel
theorem d2_23 : decode method_3_code 23 = .ok (.laload, 1) := by decide +kernel
theorem d2_24 : decode method_3_code 24 = .ok (.aload_n 0, 1) := by decide +kernel
theorem d2_25 : decode method_3_code 25 = .ok (.iload_n 1, 1) := by decide +kernel
theorem d2_26 : decode method_3_code 26 = .ok (.laload, 1) := by decide +kernel
theorem d2_27 : decode method_3_code 27 = .ok (.lcmp, 1) := by decide +kernel
theorem d2_28 : decode method_3_code 28 = .ok (.ifCond .ge 7, 3) := by decide +kernel
theorem d2_31 : decode method_3_code 31 = .ok (.iconst 1, 1) := by decide +kernel
theorem d2_32 : decode method_3_code 32 = .ok (.goto 4, 3) := by decide +kernel
theorem d2_35 : decode method_3_code 35 = .ok (.iconst 0, 1) := by decide +kernel
theorem d2_36 : decode method_3_code 36 = .ok (.ireturn, 1) := by decide +kernel
theorem d2_37 : decode method_3_code 37 = .ok (.aload_n 0, 1) := by decide +kernel
theorem d2_38 : decode method_3_code 38 = .ok (.iload 4, 2) := by decide +kernel
theorem d2_40 : decode method_3_code 40 = .ok (.laload, 1) := by decide +kernel
theorem d2_41 : decode method_3_code 41 = .ok (.aload_n 0, 1) := by decide +kernel
theorem d2_42 : decode method_3_code 42 = .ok (.iload_n 1, 1) := by decide +kernel
theorem d2_43 : decode method_3_code 43 = .ok (.laload, 1) := by decide +kernel
theorem d2_44 : decode method_3_code 44 = .ok (.lcmp, 1) := by decide +kernel
theorem d2_45 : decode method_3_code 45 = .ok (.ifCond .gt 7, 3) := by decide +kernel
theorem d2_48 : decode method_3_code 48 = .ok (.iconst 1, 1) := by decide +kernel
theorem d2_49 : decode method_3_code 49 = .ok (.goto 4, 3) := by decide +kernel
theorem d2_52 : decode method_3_code 52 = .ok (.iconst 0, 1) := by decide +kernel
theorem d2_53 : decode method_3_code 53 = .ok (.ireturn, 1) := by decide +kernel
theorem pn_2 : plainName "com/example/shardwright/shardwright/fragment/FragmentBytesHeaviestPinLaw" = true := by first | (simp [plainName, overriddenIn]; done) | decide +kernel
set_option maxRecDepth 65536 in
set_option maxHeartbeats 40000000 in
theorem rm2 (l : Launch) (Z : State) (a0 : Array Value) (hw : ∀ d ∈ tables_1, d.before a0 Z = true) (ws : List Jvm.Cond) (p0 : Addr) (p1 : Int32) (p2 : Int32) (p3 : Int32) (p4 : Int32) (xs : Int32 → Int64) (h0 : Heap) (n0 : Nat) (Z0 : n0 ≤ h0.size) (A4 : Arr4 Z h0 p0 xs) (hT : Top xs p2 p3 p1) :
    MetFree l (⟨"com/example/shardwright/shardwright/fragment/FragmentBytesHeaviestPinLaw", "fits", "([JIIII)Z"⟩ : MethodName) (head1 (Jvm.Cond.code (⟨"com/example/shardwright/shardwright/fragment/FragmentBytesHeaviestPinLaw", "fits", "([JIIII)Z"⟩ : MethodName) method_3_code 5 (some .boolean) :: ws) ({ frames := 0, cells := 0, slots := 0, locals := 0 } : Room)) (fun a U => a = #[(.ref p0), (.int p1), (.int p2), (.int p3), (.int p4)] ∧ Z.Warmed39 U.vm ∧ U.heap = h0) (fun _ _ _ _ _ => True) (fun _ U o U' => ∃ v L, o = .returned v ∧ Q2 Z p0 p1 p2 p3 p4 xs h0 n0 v U'.heap L ∧ FrameEnd U o U' L ({ frames := 0, cells := 0, slots := 0, locals := 0 } : Room).cells ({ frames := 0, cells := 0, slots := 0, locals := 0 } : Room).slots) := by
  refine MetFree.of_bodySF (plainFor_of_name pn_2) hisR ?_
  intro p e s m args below meth c s₁ Bd hml0 hP hK
  obtain ⟨rfl, hZ, hh⟩ := hP
  have hx := Bd.exec
  have hby := Bd.bytes
  have hml : c.maxLocals = 5 := hml0
  have hown : s.vm.findClass "com/example/shardwright/shardwright/fragment/FragmentBytesHeaviestPinLaw" = some m.cls := findClass_of_methodNamed Bd.named
  have hnm := (name_of_methodNamed Bd.named Bd.method).1
  have X0 : Stand p l e ({ frames := 0, cells := 0, slots := 0, locals := 0 } : Room) s m #[(.ref p0), (.int p1), (.int p2), (.int p3), (.int p4)] below meth c s₁ [] 0 0 := Stand.of_body Bd
  have e0 : s₁.heap = h0 := by rw [← hh, Bd.state]; rfl
  have N0 := Fr.nil n0
  refine Goes.start (Q := (fun o U' => ∃ v L, o = .returned v ∧ Q2 Z p0 p1 p2 p3 p4 xs h0 n0 v U'.heap L ∧ FrameEnd s o U' L ({ frames := 0, cells := 0, slots := 0, locals := 0 } : Room).cells ({ frames := 0, cells := 0, slots := 0, locals := 0 } : Room).slots)) (A := s₁.setTop (mkF m 0 #[.val (.ref p0), .val (.int p1), .val (.int p2), .val (.int p3), .val (.int p4)] [])) (fun t k => castTop (ef_2 m p0 p1 p2 p3 p4) k) ?_
  obtain ⟨cl, Ar, Hat⟩ := A4
  refine Goes.step (A := s₁.setTop (mkF m 3 #[.val (.ref p0), .val (.int p1), .val (.int p2), .val (.int p3), .val (.int p4)] [(.int p2), (.int p4)])) (fun t kt => ?_) ?_
  · refine XS.iload X0.here hx rfl (hb hby d2_0) rfl ?_
    show Steps p.tables e below (s₁.setTop (mkF m 2 #[.val (.ref p0), .val (.int p1), .val (.int p2), .val (.int p3), .val (.int p4)] [(.int p4)])) _
    refine XS.iloadN X0.here hx rfl (hb hby d2_2) rfl ?_
    exact kt
  by_cases hc3_2 : p4 < p2
  · refine Goes.step (A := s₁.setTop (mkF m 12 #[.val (.ref p0), .val (.int p1), .val (.int p2), .val (.int p3), .val (.int p4)] [])) (fun t kt => XS.icmpYes X0.here hx rfl (pc0 := 3) (pc' := 12) rfl (hb hby d2_3) rfl (tlt hc3_2).1 (by decide) (by decide) kt) ?_
    refine Goes.step (A := s₁.setTop (mkF m 13 #[.val (.ref p0), .val (.int p1), .val (.int p2), .val (.int p3), .val (.int p4)] [(.int (1 : Int32))])) (fun t kt => ?_) ?_
    · refine XS.iconst X0.here hx rfl (hb hby d2_12) ?_
      exact kt
    obtain ⟨fs, hr, hrun, hended, hW, hsame⟩ := X0.leave (v := some (.int (1 : Int32))) (fun h => by rw [Bd.returns] at h; cases h)
    refine Goes.done ?_ hrun hended ⟨_, _, rfl, ?_, ⟨_, rfl⟩, hW, hsame.mono (by decide) (by decide)⟩
    · exact retN X0 hx (t := .boolean) Bd.returns (by simp) (hb hby d2_13) hr
    · show Q2 Z p0 p1 p2 p3 p4 xs h0 n0 _ s₁.heap _
      rw [e0]
      exact ⟨congrArg some (congrArg Value.int (by simp [fitsF, hc3_2])), N0, rfl⟩
  · refine Goes.step (A := s₁.setTop (mkF m 6 #[.val (.ref p0), .val (.int p1), .val (.int p2), .val (.int p3), .val (.int p4)] [])) (fun t kt => XS.icmpNo X0.here hx rfl (hb hby d2_3) rfl (flt hc3_2).1 kt) ?_
    refine Goes.step (A := s₁.setTop (mkF m 9 #[.val (.ref p0), .val (.int p1), .val (.int p2), .val (.int p3), .val (.int p4)] [(.int p3), (.int p4)])) (fun t kt => ?_) ?_
    · refine XS.iload X0.here hx rfl (hb hby d2_6) rfl ?_
      show Steps p.tables e below (s₁.setTop (mkF m 8 #[.val (.ref p0), .val (.int p1), .val (.int p2), .val (.int p3), .val (.int p4)] [(.int p4)])) _
      refine XS.iloadN X0.here hx rfl (hb hby d2_8) rfl ?_
      exact kt
    by_cases hc9_3 : p4 < p3
    · refine Goes.step (A := s₁.setTop (mkF m 14 #[.val (.ref p0), .val (.int p1), .val (.int p2), .val (.int p3), .val (.int p4)] [])) (fun t kt => XS.icmpYes X0.here hx rfl (pc0 := 9) (pc' := 14) rfl (hb hby d2_9) rfl (tlt hc9_3).1 (by decide) (by decide) kt) ?_
      refine Goes.step (A := s₁.setTop (mkF m 17 #[.val (.ref p0), .val (.int p1), .val (.int p2), .val (.int p3), .val (.int p4)] [(.int p1), (.int p4)])) (fun t kt => ?_) ?_
      · refine XS.iload X0.here hx rfl (hb hby d2_14) rfl ?_
        show Steps p.tables e below (s₁.setTop (mkF m 16 #[.val (.ref p0), .val (.int p1), .val (.int p2), .val (.int p3), .val (.int p4)] [(.int p4)])) _
        refine XS.iloadN X0.here hx rfl (hb hby d2_16) rfl ?_
        exact kt
      by_cases hc17_4 : p4 < p1
      · refine Goes.step (A := s₁.setTop (mkF m 20 #[.val (.ref p0), .val (.int p1), .val (.int p2), .val (.int p3), .val (.int p4)] [])) (fun t kt => XS.icmpNo X0.here hx rfl (hb hby d2_17) rfl (tlt hc17_4).2.1 kt) ?_
        refine Goes.step (A := s₁.setTop (mkF m 28 #[.val (.ref p0), .val (.int p1), .val (.int p2), .val (.int p3), .val (.int p4)] [(.int (lcmpW (xs p4) (xs p1)))])) (fun t kt => ?_) ?_
        · refine XS.aloadN X0.here hx rfl (hb hby d2_20) rfl rfl ?_
          show Steps p.tables e below (s₁.setTop (mkF m 21 #[.val (.ref p0), .val (.int p1), .val (.int p2), .val (.int p3), .val (.int p4)] [(.ref p0)])) _
          refine XS.iload X0.here hx rfl (hb hby d2_21) rfl ?_
          show Steps p.tables e below (s₁.setTop (mkF m 23 #[.val (.ref p0), .val (.int p1), .val (.int p2), .val (.int p3), .val (.int p4)] [(.int p4), (.ref p0)])) _
          refine X0.laload hx (j := p4) (v := (.long (xs p4))) (by rw [e0]; exact Ar.1) (State.isArrayOf_alike hZ.alike Ar.2.1) Ar.2.2 (Hat p4 (own_in1 p4 p2 p3 hc3_2 hc9_3 hT.1 hT.2.1).1 (own_in1 p4 p2 p3 hc3_2 hc9_3 hT.1 hT.2.1).2).1 (Hat p4 (own_in1 p4 p2 p3 hc3_2 hc9_3 hT.1 hT.2.1).1 (own_in1 p4 p2 p3 hc3_2 hc9_3 hT.1 hT.2.1).2).2 (g := (mkF m 23 #[.val (.ref p0), .val (.int p1), .val (.int p2), .val (.int p3), .val (.int p4)] [(.int p4), (.ref p0)])) rfl rfl (hb hby d2_23) _ ?_
          show Steps p.tables e below (s₁.setTop (mkF m 24 #[.val (.ref p0), .val (.int p1), .val (.int p2), .val (.int p3), .val (.int p4)] [(.long (xs p4))])) _
          refine XS.aloadN X0.here hx rfl (hb hby d2_24) rfl rfl ?_
          show Steps p.tables e below (s₁.setTop (mkF m 25 #[.val (.ref p0), .val (.int p1), .val (.int p2), .val (.int p3), .val (.int p4)] [(.ref p0), (.long (xs p4))])) _
          refine XS.iloadN X0.here hx rfl (hb hby d2_25) rfl ?_
          show Steps p.tables e below (s₁.setTop (mkF m 26 #[.val (.ref p0), .val (.int p1), .val (.int p2), .val (.int p3), .val (.int p4)] [(.int p1), (.ref p0), (.long (xs p4))])) _
          refine X0.laload hx (j := p1) (v := (.long (xs p1))) (by rw [e0]; exact Ar.1) (State.isArrayOf_alike hZ.alike Ar.2.1) Ar.2.2 (Hat p1 (own_in2 xs p2 p3 p1 hT).1 (own_in2 xs p2 p3 p1 hT).2).1 (Hat p1 (own_in2 xs p2 p3 p1 hT).1 (own_in2 xs p2 p3 p1 hT).2).2 (g := (mkF m 26 #[.val (.ref p0), .val (.int p1), .val (.int p2), .val (.int p3), .val (.int p4)] [(.int p1), (.ref p0), (.long (xs p4))])) rfl rfl (hb hby d2_26) _ ?_
          show Steps p.tables e below (s₁.setTop (mkF m 27 #[.val (.ref p0), .val (.int p1), .val (.int p2), .val (.int p3), .val (.int p4)] [(.long (xs p1)), (.long (xs p4))])) _
          refine XS.lcmp X0.here hx rfl (hb hby d2_27) rfl ?_
          exact kt
        by_cases hc28_5 : (xs p4) < (xs p1)
        · refine Goes.step (A := s₁.setTop (mkF m 31 #[.val (.ref p0), .val (.int p1), .val (.int p2), .val (.int p3), .val (.int p4)] [])) (fun t kt => XS.ifNo X0.here hx rfl (hb hby d2_28) rfl ((if0 _ _).trans (tlt ((lw_lt _ _).mpr hc28_5)).2.1) kt) ?_
          refine Goes.step (A := s₁.setTop (mkF m 36 #[.val (.ref p0), .val (.int p1), .val (.int p2), .val (.int p3), .val (.int p4)] [(.int (1 : Int32))])) (fun t kt => ?_) ?_
          · refine XS.iconst X0.here hx rfl (hb hby d2_31) ?_
            show Steps p.tables e below (s₁.setTop (mkF m 32 #[.val (.ref p0), .val (.int p1), .val (.int p2), .val (.int p3), .val (.int p4)] [(.int (1 : Int32))])) _
            refine XS.goto X0.here hx rfl (pc0 := 32) (pc' := 36) rfl (hb hby d2_32) (by decide) (by decide) ?_
            exact kt
          obtain ⟨fs, hr, hrun, hended, hW, hsame⟩ := X0.leave (v := some (.int (1 : Int32))) (fun h => by rw [Bd.returns] at h; cases h)
          refine Goes.done ?_ hrun hended ⟨_, _, rfl, ?_, ⟨_, rfl⟩, hW, hsame.mono (by decide) (by decide)⟩
          · exact retN X0 hx (t := .boolean) Bd.returns (by simp) (hb hby d2_36) hr
          · show Q2 Z p0 p1 p2 p3 p4 xs h0 n0 _ s₁.heap _
            rw [e0]
            exact ⟨congrArg some (congrArg Value.int (by simp [fitsF, hc3_2, hc9_3, hc17_4, hc28_5])), N0, rfl⟩
        · refine Goes.step (A := s₁.setTop (mkF m 35 #[.val (.ref p0), .val (.int p1), .val (.int p2), .val (.int p3), .val (.int p4)] [])) (fun t kt => XS.ifYes X0.here hx rfl (pc0 := 28) (pc' := 35) rfl (hb hby d2_28) rfl ((if0 _ _).trans (flt (fun q => hc28_5 ((lw_lt _ _).mp q))).2.1) (by decide) (by decide) kt) ?_
          refine Goes.step (A := s₁.setTop (mkF m 36 #[.val (.ref p0), .val (.int p1), .val (.int p2), .val (.int p3), .val (.int p4)] [(.int (0 : Int32))])) (fun t kt => ?_) ?_
          · refine XS.iconst X0.here hx rfl (hb hby d2_35) ?_
            exact kt
          obtain ⟨fs, hr, hrun, hended, hW, hsame⟩ := X0.leave (v := some (.int (0 : Int32))) (fun h => by rw [Bd.returns] at h; cases h)
          refine Goes.done ?_ hrun hended ⟨_, _, rfl, ?_, ⟨_, rfl⟩, hW, hsame.mono (by decide) (by decide)⟩
          · exact retN X0 hx (t := .boolean) Bd.returns (by simp) (hb hby d2_36) hr
          · show Q2 Z p0 p1 p2 p3 p4 xs h0 n0 _ s₁.heap _
            rw [e0]
            exact ⟨congrArg some (congrArg Value.int (by simp [fitsF, hc3_2, hc9_3, hc17_4, hc28_5])), N0, rfl⟩
      · refine Goes.step (A := s₁.setTop (mkF m 37 #[.val (.ref p0), .val (.int p1), .val (.int p2), .val (.int p3), .val (.int p4)] [])) (fun t kt => XS.icmpYes X0.here hx rfl (pc0 := 17) (pc' := 37) rfl (hb hby d2_17) rfl (flt hc17_4).2.1 (by decide) (by decide) kt) ?_
        refine Goes.step (A := s₁.setTop (mkF m 45 #[.val (.ref p0), .val (.int p1), .val (.int p2), .val (.int p3), .val (.int p4)] [(.int (lcmpW (xs p4) (xs p1)))])) (fun t kt => ?_) ?_
        · refine XS.aloadN X0.here hx rfl (hb hby d2_37) rfl rfl ?_
          show Steps p.tables e below (s₁.setTop (mkF m 38 #[.val (.ref p0), .val (.int p1), .val (.int p2), .val (.int p3), .val (.int p4)] [(.ref p0)])) _
          refine XS.iload X0.here hx rfl (hb hby d2_38) rfl ?_
          show Steps p.tables e below (s₁.setTop (mkF m 40 #[.val (.ref p0), .val (.int p1), .val (.int p2), .val (.int p3), .val (.int p4)] [(.int p4), (.ref p0)])) _
          refine X0.laload hx (j := p4) (v := (.long (xs p4))) (by rw [e0]; exact Ar.1) (State.isArrayOf_alike hZ.alike Ar.2.1) Ar.2.2 (Hat p4 (own_in1 p4 p2 p3 hc3_2 hc9_3 hT.1 hT.2.1).1 (own_in1 p4 p2 p3 hc3_2 hc9_3 hT.1 hT.2.1).2).1 (Hat p4 (own_in1 p4 p2 p3 hc3_2 hc9_3 hT.1 hT.2.1).1 (own_in1 p4 p2 p3 hc3_2 hc9_3 hT.1 hT.2.1).2).2 (g := (mkF m 40 #[.val (.ref p0), .val (.int p1), .val (.int p2), .val (.int p3), .val (.int p4)] [(.int p4), (.ref p0)])) rfl rfl (hb hby d2_40) _ ?_
          show Steps p.tables e below (s₁.setTop (mkF m 41 #[.val (.ref p0), .val (.int p1), .val (.int p2), .val (.int p3), .val (.int p4)] [(.long (xs p4))])) _
          refine XS.aloadN X0.here hx rfl (hb hby d2_41) rfl rfl ?_
          show Steps p.tables e below (s₁.setTop (mkF m 42 #[.val (.ref p0), .val (.int p1), .val (.int p2), .val (.int p3), .val (.int p4)] [(.ref p0), (.long (xs p4))])) _
          refine XS.iloadN X0.here hx rfl (hb hby d2_42) rfl ?_
          show Steps p.tables e below (s₁.setTop (mkF m 43 #[.val (.ref p0), .val (.int p1), .val (.int p2), .val (.int p3), .val (.int p4)] [(.int p1), (.ref p0), (.long (xs p4))])) _
          refine X0.laload hx (j := p1) (v := (.long (xs p1))) (by rw [e0]; exact Ar.1) (State.isArrayOf_alike hZ.alike Ar.2.1) Ar.2.2 (Hat p1 (own_in2 xs p2 p3 p1 hT).1 (own_in2 xs p2 p3 p1 hT).2).1 (Hat p1 (own_in2 xs p2 p3 p1 hT).1 (own_in2 xs p2 p3 p1 hT).2).2 (g := (mkF m 43 #[.val (.ref p0), .val (.int p1), .val (.int p2), .val (.int p3), .val (.int p4)] [(.int p1), (.ref p0), (.long (xs p4))])) rfl rfl (hb hby d2_43) _ ?_
          show Steps p.tables e below (s₁.setTop (mkF m 44 #[.val (.ref p0), .val (.int p1), .val (.int p2), .val (.int p3), .val (.int p4)] [(.long (xs p1)), (.long (xs p4))])) _
          refine XS.lcmp X0.here hx rfl (hb hby d2_44) rfl ?_
          exact kt
        by_cases hc45_6 : (xs p1) < (xs p4)
        · refine Goes.step (A := s₁.setTop (mkF m 52 #[.val (.ref p0), .val (.int p1), .val (.int p2), .val (.int p3), .val (.int p4)] [])) (fun t kt => XS.ifYes X0.here hx rfl (pc0 := 45) (pc' := 52) rfl (hb hby d2_45) rfl ((if0 _ _).trans (tlt ((lw_gt _ _).mpr hc45_6)).2.2.1) (by decide) (by decide) kt) ?_
          refine Goes.step (A := s₁.setTop (mkF m 53 #[.val (.ref p0), .val (.int p1), .val (.int p2), .val (.int p3), .val (.int p4)] [(.int (0 : Int32))])) (fun t kt => ?_) ?_
          · refine XS.iconst X0.here hx rfl (hb hby d2_52) ?_
            exact kt
          obtain ⟨fs, hr, hrun, hended, hW, hsame⟩ := X0.leave (v := some (.int (0 : Int32))) (fun h => by rw [Bd.returns] at h; cases h)
          refine Goes.done ?_ hrun hended ⟨_, _, rfl, ?_, ⟨_, rfl⟩, hW, hsame.mono (by decide) (by decide)⟩
          · exact retN X0 hx (t := .boolean) Bd.returns (by simp) (hb hby d2_53) hr
          · show Q2 Z p0 p1 p2 p3 p4 xs h0 n0 _ s₁.heap _
            rw [e0]
            exact ⟨congrArg some (congrArg Value.int (by simp [fitsF, hc3_2, hc9_3, hc17_4, hc45_6])), N0, rfl⟩
        · refine Goes.step (A := s₁.setTop (mkF m 48 #[.val (.ref p0), .val (.int p1), .val (.int p2), .val (.int p3), .val (.int p4)] [])) (fun t kt => XS.ifNo X0.here hx rfl (hb hby d2_45) rfl ((if0 _ _).trans (flt (fun q => hc45_6 ((lw_gt _ _).mp q))).2.2.1) kt) ?_
          refine Goes.step (A := s₁.setTop (mkF m 53 #[.val (.ref p0), .val (.int p1), .val (.int p2), .val (.int p3), .val (.int p4)] [(.int (1 : Int32))])) (fun t kt => ?_) ?_
          · refine XS.iconst X0.here hx rfl (hb hby d2_48) ?_
            show Steps p.tables e below (s₁.setTop (mkF m 49 #[.val (.ref p0), .val (.int p1), .val (.int p2), .val (.int p3), .val (.int p4)] [(.int (1 : Int32))])) _
            refine XS.goto X0.here hx rfl (pc0 := 49) (pc' := 53) rfl (hb hby d2_49) (by decide) (by decide) ?_
            exact kt
          obtain ⟨fs, hr, hrun, hended, hW, hsame⟩ := X0.leave (v := some (.int (1 : Int32))) (fun h => by rw [Bd.returns] at h; cases h)
          refine Goes.done ?_ hrun hended ⟨_, _, rfl, ?_, ⟨_, rfl⟩, hW, hsame.mono (by decide) (by decide)⟩
          · exact retN X0 hx (t := .boolean) Bd.returns (by simp) (hb hby d2_53) hr
          · show Q2 Z p0 p1 p2 p3 p4 xs h0 n0 _ s₁.heap _
            rw [e0]
            exact ⟨congrArg some (congrArg Value.int (by simp [fitsF, hc3_2, hc9_3, hc17_4, hc45_6])), N0, rfl⟩
    · refine Goes.step (A := s₁.setTop (mkF m 12 #[.val (.ref p0), .val (.int p1), .val (.int p2), .val (.int p3), .val (.int p4)] [])) (fun t kt => XS.icmpNo X0.here hx rfl (hb hby d2_9) rfl (flt hc9_3).1 kt) ?_
      refine Goes.step (A := s₁.setTop (mkF m 13 #[.val (.ref p0), .val (.int p1), .val (.int p2), .val (.int p3), .val (.int p4)] [(.int (1 : Int32))])) (fun t kt => ?_) ?_
      · refine XS.iconst X0.here hx rfl (hb hby d2_12) ?_
        exact kt
      obtain ⟨fs, hr, hrun, hended, hW, hsame⟩ := X0.leave (v := some (.int (1 : Int32))) (fun h => by rw [Bd.returns] at h; cases h)
      refine Goes.done ?_ hrun hended ⟨_, _, rfl, ?_, ⟨_, rfl⟩, hW, hsame.mono (by decide) (by decide)⟩
      · exact retN X0 hx (t := .boolean) Bd.returns (by simp) (hb hby d2_13) hr
      · show Q2 Z p0 p1 p2 p3 p4 xs h0 n0 _ s₁.heap _
        rw [e0]
        exact ⟨congrArg some (congrArg Value.int (by simp [fitsF, hc3_2, hc9_3])), N0, rfl⟩
theorem ef_0 (m : MethodId) (x0 : Int64) (x1 : Int64) (x2 : Int64) (x3 : Int64) (x4 : Int32) (x5 : Int32) : entryFrame m #[(.long x0), (.long x1), (.long x2), (.long x3), (.int x4), (.int x5)] maxLocals = mkF m 0 #[.val (.long x0), .second, .val (.long x1), .second, .val (.long x2), .second, .val (.long x3), .second, .val (.int x4), .val (.int x5), .unset, .unset, .unset, .unset, .unset] [] := by first | (simp [entryFrame, mkF, argsToLocals, Value.category, maxLocals]; done) | rfl
def Q0 (Z : State) (q1 : Int64) (q2 : Int64) (q3 : Int64) (q4 : Int64) (p5 : Int32) (p6 : Int32) (h0 : Heap) (n0 : Nat) (v : Option Value) (h : Heap) (L : List Loc) : Prop := v = some (.int 1) ∧ Fr n0 L
theorem pn_0 : plainName "com/example/shardwright/shardwright/fragment/FragmentBytesHeaviestPinLaw" = true := by first | (simp [plainName, overriddenIn]; done) | decide +kernel
theorem pd_0 : parseMethodDescriptor "([JII)I" = some ⟨[(.array .long), .int, .int], some .int⟩ := by decide +kernel
theorem pd_1 : parseMethodDescriptor "([JIIII)Z" = some ⟨[(.array .long), .int, .int, .int, .int], some .boolean⟩ := by decide +kernel
set_option maxRecDepth 65536 in
set_option maxHeartbeats 40000000 in
theorem rm0 (l : Launch) (Z : State) (a0 : Array Value) (hw : ∀ d ∈ tables_1, d.before a0 Z = true) (ws : List Jvm.Cond) (q1 : Int64) (q2 : Int64) (q3 : Int64) (q4 : Int64) (p5 : Int32) (p6 : Int32) (h0 : Heap) (n0 : Nat) (Z0 : n0 ≤ h0.size) :
    MetFree l x (head1 (Jvm.Cond.code x code maxLocals ret :: ws) room_1) (fun a U => a = #[(.long q1), (.long q2), (.long q3), (.long q4), (.int p5), (.int p6)] ∧ Z.Warmed39 U.vm ∧ U.heap = h0) (fun _ _ _ _ _ => True) (fun _ U o U' => ∃ v L, o = .returned v ∧ Q0 Z q1 q2 q3 q4 p5 p6 h0 n0 v U'.heap L ∧ FrameEnd U o U' L room_1.cells room_1.slots) := by
  refine MetFree.of_bodySF (plainFor_of_name pn_0) hisR ?_
  intro p e s m args below meth c s₁ Bd hml0 hP hK
  obtain ⟨rfl, hZ, hh⟩ := hP
  have hx := Bd.exec
  have hby := Bd.bytes
  have hml : c.maxLocals = 15 := hml0
  have hown : s.vm.findClass "com/example/shardwright/shardwright/fragment/FragmentBytesHeaviestPinLaw" = some m.cls := findClass_of_methodNamed Bd.named
  have hnm := (name_of_methodNamed Bd.named Bd.method).1
  have X0 : Stand p l e room_1 s m #[(.long q1), (.long q2), (.long q3), (.long q4), (.int p5), (.int p6)] below meth c s₁ [] 0 0 := Stand.of_body Bd
  have e0 : s₁.heap = h0 := by rw [← hh, Bd.state]; rfl
  have N0 := Fr.nil n0
  refine Goes.start (Q := (fun o U' => ∃ v L, o = .returned v ∧ Q0 Z q1 q2 q3 q4 p5 p6 h0 n0 v U'.heap L ∧ FrameEnd s o U' L room_1.cells room_1.slots)) (A := s₁.setTop (mkF m 0 #[.val (.long q1), .second, .val (.long q2), .second, .val (.long q3), .second, .val (.long q4), .second, .val (.int p5), .val (.int p6), .unset, .unset, .unset, .unset, .unset] [])) (fun t k => castTop (ef_0 m q1 q2 q3 q4 p5 p6) k) ?_
  have cont : ∀ (bv cv dv : Int64), Goes p.tables e below (fun o U' => ∃ v L, o = .returned v ∧ Q0 Z q1 q2 q3 q4 p5 p6 h0 n0 v U'.heap L ∧ FrameEnd s o U' L room_1.cells room_1.slots) (s₁.setTop (mkF m 29 #[.val (.long q1), .second, .val (.long bv), .second, .val (.long cv), .second, .val (.long dv), .second, .val (.int p5), .val (.int p6), .unset, .unset, .unset, .unset, .unset] [])) := by
    intro bv cv dv
    refine Goes.step (A := s₁.setTop (mkF m 30 #[.val (.long q1), .second, .val (.long bv), .second, .val (.long cv), .second, .val (.long dv), .second, .val (.int p5), .val (.int p6), .unset, .unset, .unset, .unset, .unset] [(.int (4 : Int32))])) (fun t kt => ?_) ?_
    · refine XS.iconst X0.here hx rfl (hb hby at_29) ?_
      exact kt
    obtain ⟨T1, h1, k1, X1, e1, E1, A1, st1⟩ := newP X0 hx hZ (hw _ (List.mem_of_getElem? (i := 0) rfl)) e0 (g := (mkF m 30 #[.val (.long q1), .second, .val (.long bv), .second, .val (.long cv), .second, .val (.long dv), .second, .val (.int p5), .val (.int p6), .unset, .unset, .unset, .unset, .unset] [(.int (4 : Int32))])) rfl (hb hby at_30) rfl (by decide) (cap := 4) (by decide) (by decide) (by decide) (by decide)
    obtain ⟨b1, g1⟩ : ∃ z, z = h0.size := ⟨_, rfl⟩
    rw [← g1] at A1 st1
    have gb_b1 : n0 ≤ b1 := Nat.le_trans Z0 (Nat.le_of_eq g1.symm)
    have Z1 : n0 ≤ h1.size := Nat.le_trans Z0 E1.1
    have V1_b1 : Arv Z h1 b1 k1 .long (4 : Int32) [(.long (0 : Int64)), (.long (0 : Int64)), (.long (0 : Int64)), (.long (0 : Int64))] (.long (0 : Int64)) := (Arv.new A1 (by decide)).pad (pad_rep [] (.long (0 : Int64)) 4)
    refine Goes.step (A := T1.setTop (mkF m 32 #[.val (.long q1), .second, .val (.long bv), .second, .val (.long cv), .second, .val (.long dv), .second, .val (.int p5), .val (.int p6), .unset, .unset, .unset, .unset, .unset] [(.ref b1)])) (fun t kt => st1 _ kt) ?_
    refine Goes.step (A := T1.setTop (mkF m 35 #[.val (.long q1), .second, .val (.long bv), .second, .val (.long cv), .second, .val (.long dv), .second, .val (.int p5), .val (.int p6), .unset, .unset, .unset, .unset, .unset] [(.long q1), (.int (0 : Int32)), (.ref b1), (.ref b1)])) (fun t kt => ?_) ?_
    · refine XS.dup X1.here hx rfl (hb hby at_32) rfl rfl ?_
      show Steps p.tables e below (T1.setTop (mkF m 33 #[.val (.long q1), .second, .val (.long bv), .second, .val (.long cv), .second, .val (.long dv), .second, .val (.int p5), .val (.int p6), .unset, .unset, .unset, .unset, .unset] [(.ref b1), (.ref b1)])) _
      refine XS.iconst X1.here hx rfl (hb hby at_33) ?_
      show Steps p.tables e below (T1.setTop (mkF m 34 #[.val (.long q1), .second, .val (.long bv), .second, .val (.long cv), .second, .val (.long dv), .second, .val (.int p5), .val (.int p6), .unset, .unset, .unset, .unset, .unset] [(.int (0 : Int32)), (.ref b1), (.ref b1)])) _
      refine XS.lloadN X1.here hx rfl (hb hby at_34) rfl ?_
      exact kt
    obtain ⟨cl2, Ar2, qc2, S2, N2x, H2, G2⟩ := V1_b1
    have hin2 : ¬ ((0 : Int32) < 0 ∨ cl2.slots.size ≤ ((0 : Int32)).toNatClampNeg) := inb_of S2 ⟨by decide, by decide⟩
    obtain ⟨T2, h2, X2, e2, W2, st2⟩ := stJ X1 hx hZ e1 Ar2 (j := (0 : Int32)) hin2 (g := (mkF m 35 #[.val (.long q1), .second, .val (.long bv), .second, .val (.long cv), .second, .val (.long dv), .second, .val (.int p5), .val (.int p6), .unset, .unset, .unset, .unset, .unset] [(.long q1), (.int (0 : Int32)), (.ref b1), (.ref b1)])) rfl rfl (hb hby at_35)
    have N2 := Fr.snoc X2 N0 gb_b1
    have V2_b1 : Arv Z h2 b1 k1 .long (4 : Int32) [(.long q1), (.long (0 : Int64)), (.long (0 : Int64)), (.long (0 : Int64))] (.long (0 : Int64)) := Arv.set Ar2 qc2 S2 N2x H2 G2 rfl W2 0 rfl (Nat.le_of_ble_eq_true rfl)
    have Z2 : n0 ≤ h2.size := Nat.le_trans Z1 (Keep.of_wr W2).1
    refine Goes.step (A := T2.setTop (mkF m 36 #[.val (.long q1), .second, .val (.long bv), .second, .val (.long cv), .second, .val (.long dv), .second, .val (.int p5), .val (.int p6), .unset, .unset, .unset, .unset, .unset] [(.ref b1)])) (fun t kt => st2 _ kt) ?_
    refine Goes.step (A := T2.setTop (mkF m 39 #[.val (.long q1), .second, .val (.long bv), .second, .val (.long cv), .second, .val (.long dv), .second, .val (.int p5), .val (.int p6), .unset, .unset, .unset, .unset, .unset] [(.long bv), (.int (1 : Int32)), (.ref b1), (.ref b1)])) (fun t kt => ?_) ?_
    · refine XS.dup X2.here hx rfl (hb hby at_36) rfl rfl ?_
      show Steps p.tables e below (T2.setTop (mkF m 37 #[.val (.long q1), .second, .val (.long bv), .second, .val (.long cv), .second, .val (.long dv), .second, .val (.int p5), .val (.int p6), .unset, .unset, .unset, .unset, .unset] [(.ref b1), (.ref b1)])) _
      refine XS.iconst X2.here hx rfl (hb hby at_37) ?_
      show Steps p.tables e below (T2.setTop (mkF m 38 #[.val (.long q1), .second, .val (.long bv), .second, .val (.long cv), .second, .val (.long dv), .second, .val (.int p5), .val (.int p6), .unset, .unset, .unset, .unset, .unset] [(.int (1 : Int32)), (.ref b1), (.ref b1)])) _
      refine XS.lloadN X2.here hx rfl (hb hby at_38) rfl ?_
      exact kt
    obtain ⟨cl3, Ar3, qc3, S3, N3x, H3, G3⟩ := V2_b1
    have hin3 : ¬ ((1 : Int32) < 0 ∨ cl3.slots.size ≤ ((1 : Int32)).toNatClampNeg) := inb_of S3 ⟨by decide, by decide⟩
    obtain ⟨T3, h3, X3, e3, W3, st3⟩ := stJ X2 hx hZ e2 Ar3 (j := (1 : Int32)) hin3 (g := (mkF m 39 #[.val (.long q1), .second, .val (.long bv), .second, .val (.long cv), .second, .val (.long dv), .second, .val (.int p5), .val (.int p6), .unset, .unset, .unset, .unset, .unset] [(.long bv), (.int (1 : Int32)), (.ref b1), (.ref b1)])) rfl rfl (hb hby at_39)
    have N3 := Fr.snoc X3 N2 gb_b1
    have V3_b1 : Arv Z h3 b1 k1 .long (4 : Int32) [(.long q1), (.long bv), (.long (0 : Int64)), (.long (0 : Int64))] (.long (0 : Int64)) := Arv.set Ar3 qc3 S3 N3x H3 G3 rfl W3 1 rfl (Nat.le_of_ble_eq_true rfl)
    have Z3 : n0 ≤ h3.size := Nat.le_trans Z2 (Keep.of_wr W3).1
    refine Goes.step (A := T3.setTop (mkF m 40 #[.val (.long q1), .second, .val (.long bv), .second, .val (.long cv), .second, .val (.long dv), .second, .val (.int p5), .val (.int p6), .unset, .unset, .unset, .unset, .unset] [(.ref b1)])) (fun t kt => st3 _ kt) ?_
    refine Goes.step (A := T3.setTop (mkF m 44 #[.val (.long q1), .second, .val (.long bv), .second, .val (.long cv), .second, .val (.long dv), .second, .val (.int p5), .val (.int p6), .unset, .unset, .unset, .unset, .unset] [(.long cv), (.int (2 : Int32)), (.ref b1), (.ref b1)])) (fun t kt => ?_) ?_
    · refine XS.dup X3.here hx rfl (hb hby at_40) rfl rfl ?_
      show Steps p.tables e below (T3.setTop (mkF m 41 #[.val (.long q1), .second, .val (.long bv), .second, .val (.long cv), .second, .val (.long dv), .second, .val (.int p5), .val (.int p6), .unset, .unset, .unset, .unset, .unset] [(.ref b1), (.ref b1)])) _
      refine XS.iconst X3.here hx rfl (hb hby at_41) ?_
      show Steps p.tables e below (T3.setTop (mkF m 42 #[.val (.long q1), .second, .val (.long bv), .second, .val (.long cv), .second, .val (.long dv), .second, .val (.int p5), .val (.int p6), .unset, .unset, .unset, .unset, .unset] [(.int (2 : Int32)), (.ref b1), (.ref b1)])) _
      refine XS.lload X3.here hx rfl (hb hby at_42) rfl ?_
      exact kt
    obtain ⟨cl4, Ar4, qc4, S4, N4x, H4, G4⟩ := V3_b1
    have hin4 : ¬ ((2 : Int32) < 0 ∨ cl4.slots.size ≤ ((2 : Int32)).toNatClampNeg) := inb_of S4 ⟨by decide, by decide⟩
    obtain ⟨T4, h4, X4, e4, W4, st4⟩ := stJ X3 hx hZ e3 Ar4 (j := (2 : Int32)) hin4 (g := (mkF m 44 #[.val (.long q1), .second, .val (.long bv), .second, .val (.long cv), .second, .val (.long dv), .second, .val (.int p5), .val (.int p6), .unset, .unset, .unset, .unset, .unset] [(.long cv), (.int (2 : Int32)), (.ref b1), (.ref b1)])) rfl rfl (hb hby at_44)
    have N4 := Fr.snoc X4 N3 gb_b1
    have V4_b1 : Arv Z h4 b1 k1 .long (4 : Int32) [(.long q1), (.long bv), (.long cv), (.long (0 : Int64))] (.long (0 : Int64)) := Arv.set Ar4 qc4 S4 N4x H4 G4 rfl W4 2 rfl (Nat.le_of_ble_eq_true rfl)
    have Z4 : n0 ≤ h4.size := Nat.le_trans Z3 (Keep.of_wr W4).1
    refine Goes.step (A := T4.setTop (mkF m 45 #[.val (.long q1), .second, .val (.long bv), .second, .val (.long cv), .second, .val (.long dv), .second, .val (.int p5), .val (.int p6), .unset, .unset, .unset, .unset, .unset] [(.ref b1)])) (fun t kt => st4 _ kt) ?_
    refine Goes.step (A := T4.setTop (mkF m 49 #[.val (.long q1), .second, .val (.long bv), .second, .val (.long cv), .second, .val (.long dv), .second, .val (.int p5), .val (.int p6), .unset, .unset, .unset, .unset, .unset] [(.long dv), (.int (3 : Int32)), (.ref b1), (.ref b1)])) (fun t kt => ?_) ?_
    · refine XS.dup X4.here hx rfl (hb hby at_45) rfl rfl ?_
      show Steps p.tables e below (T4.setTop (mkF m 46 #[.val (.long q1), .second, .val (.long bv), .second, .val (.long cv), .second, .val (.long dv), .second, .val (.int p5), .val (.int p6), .unset, .unset, .unset, .unset, .unset] [(.ref b1), (.ref b1)])) _
      refine XS.iconst X4.here hx rfl (hb hby at_46) ?_
      show Steps p.tables e below (T4.setTop (mkF m 47 #[.val (.long q1), .second, .val (.long bv), .second, .val (.long cv), .second, .val (.long dv), .second, .val (.int p5), .val (.int p6), .unset, .unset, .unset, .unset, .unset] [(.int (3 : Int32)), (.ref b1), (.ref b1)])) _
      refine XS.lload X4.here hx rfl (hb hby at_47) rfl ?_
      exact kt
    obtain ⟨cl5, Ar5, qc5, S5, N5x, H5, G5⟩ := V4_b1
    have hin5 : ¬ ((3 : Int32) < 0 ∨ cl5.slots.size ≤ ((3 : Int32)).toNatClampNeg) := inb_of S5 ⟨by decide, by decide⟩
    obtain ⟨T5, h5, X5, e5, W5, st5⟩ := stJ X4 hx hZ e4 Ar5 (j := (3 : Int32)) hin5 (g := (mkF m 49 #[.val (.long q1), .second, .val (.long bv), .second, .val (.long cv), .second, .val (.long dv), .second, .val (.int p5), .val (.int p6), .unset, .unset, .unset, .unset, .unset] [(.long dv), (.int (3 : Int32)), (.ref b1), (.ref b1)])) rfl rfl (hb hby at_49)
    have N5 := Fr.snoc X5 N4 gb_b1
    have V5_b1 : Arv Z h5 b1 k1 .long (4 : Int32) [(.long q1), (.long bv), (.long cv), (.long dv)] (.long (0 : Int64)) := Arv.set Ar5 qc5 S5 N5x H5 G5 rfl W5 3 rfl (Nat.le_of_ble_eq_true rfl)
    have Z5 : n0 ≤ h5.size := Nat.le_trans Z4 (Keep.of_wr W5).1
    refine Goes.step (A := T5.setTop (mkF m 50 #[.val (.long q1), .second, .val (.long bv), .second, .val (.long cv), .second, .val (.long dv), .second, .val (.int p5), .val (.int p6), .unset, .unset, .unset, .unset, .unset] [(.ref b1)])) (fun t kt => st5 _ kt) ?_
    refine Goes.step (A := T5.setTop (mkF m 86 #[.val (.long q1), .second, .val (.long bv), .second, .val (.long cv), .second, .val (.long dv), .second, .val (.int p5), .val (.int p6), .val (.ref b1), .val (.int (p5 &&& (3 : Int32))), .val (.int (((((p5.toUInt32 >>> ((2 : Int32) &&& 31).toUInt32).toInt32) &&& (3 : Int32)) % ((4 : Int32) - (p5 &&& (3 : Int32)))) + (1 : Int32))), .val (.int ((p5 &&& (3 : Int32)) + (((((p5.toUInt32 >>> ((2 : Int32) &&& 31).toUInt32).toInt32) &&& (3 : Int32)) % ((4 : Int32) - (p5 &&& (3 : Int32)))) + (1 : Int32)))), .unset] [(.int ((p5 &&& (3 : Int32)) + (((((p5.toUInt32 >>> ((2 : Int32) &&& 31).toUInt32).toInt32) &&& (3 : Int32)) % ((4 : Int32) - (p5 &&& (3 : Int32)))) + (1 : Int32)))), (.int (p5 &&& (3 : Int32))), (.ref b1)])) (fun t kt => ?_) ?_
    · refine XS.astore X5.here hx rfl (hb hby at_50) rfl rfl (l' := #[.val (.long q1), .second, .val (.long bv), .second, .val (.long cv), .second, .val (.long dv), .second, .val (.int p5), .val (.int p6), .val (.ref b1), .unset, .unset, .unset, .unset]) rfl ?_
      show Steps p.tables e below (T5.setTop (mkF m 52 #[.val (.long q1), .second, .val (.long bv), .second, .val (.long cv), .second, .val (.long dv), .second, .val (.int p5), .val (.int p6), .val (.ref b1), .unset, .unset, .unset, .unset] [])) _
      refine XS.iload X5.here hx rfl (hb hby at_52) rfl ?_
      show Steps p.tables e below (T5.setTop (mkF m 54 #[.val (.long q1), .second, .val (.long bv), .second, .val (.long cv), .second, .val (.long dv), .second, .val (.int p5), .val (.int p6), .val (.ref b1), .unset, .unset, .unset, .unset] [(.int p5)])) _
      refine XS.iconst X5.here hx rfl (hb hby at_54) ?_
      show Steps p.tables e below (T5.setTop (mkF m 55 #[.val (.long q1), .second, .val (.long bv), .second, .val (.long cv), .second, .val (.long dv), .second, .val (.int p5), .val (.int p6), .val (.ref b1), .unset, .unset, .unset, .unset] [(.int (3 : Int32)), (.int p5)])) _
      refine XS.iand X5.here hx rfl (hb hby at_55) rfl ?_
      show Steps p.tables e below (T5.setTop (mkF m 56 #[.val (.long q1), .second, .val (.long bv), .second, .val (.long cv), .second, .val (.long dv), .second, .val (.int p5), .val (.int p6), .val (.ref b1), .unset, .unset, .unset, .unset] [(.int (p5 &&& (3 : Int32)))])) _
      refine XS.istore X5.here hx rfl (hb hby at_56) rfl (l' := #[.val (.long q1), .second, .val (.long bv), .second, .val (.long cv), .second, .val (.long dv), .second, .val (.int p5), .val (.int p6), .val (.ref b1), .val (.int (p5 &&& (3 : Int32))), .unset, .unset, .unset]) rfl ?_
      show Steps p.tables e below (T5.setTop (mkF m 58 #[.val (.long q1), .second, .val (.long bv), .second, .val (.long cv), .second, .val (.long dv), .second, .val (.int p5), .val (.int p6), .val (.ref b1), .val (.int (p5 &&& (3 : Int32))), .unset, .unset, .unset] [])) _
      refine XS.iload X5.here hx rfl (hb hby at_58) rfl ?_
      show Steps p.tables e below (T5.setTop (mkF m 60 #[.val (.long q1), .second, .val (.long bv), .second, .val (.long cv), .second, .val (.long dv), .second, .val (.int p5), .val (.int p6), .val (.ref b1), .val (.int (p5 &&& (3 : Int32))), .unset, .unset, .unset] [(.int p5)])) _
      refine XS.iconst X5.here hx rfl (hb hby at_60) ?_
      show Steps p.tables e below (T5.setTop (mkF m 61 #[.val (.long q1), .second, .val (.long bv), .second, .val (.long cv), .second, .val (.long dv), .second, .val (.int p5), .val (.int p6), .val (.ref b1), .val (.int (p5 &&& (3 : Int32))), .unset, .unset, .unset] [(.int (2 : Int32)), (.int p5)])) _
      refine XS.iushr X5.here hx rfl (hb hby at_61) rfl ?_
      show Steps p.tables e below (T5.setTop (mkF m 62 #[.val (.long q1), .second, .val (.long bv), .second, .val (.long cv), .second, .val (.long dv), .second, .val (.int p5), .val (.int p6), .val (.ref b1), .val (.int (p5 &&& (3 : Int32))), .unset, .unset, .unset] [(.int ((p5.toUInt32 >>> ((2 : Int32) &&& 31).toUInt32).toInt32))])) _
      refine XS.iconst X5.here hx rfl (hb hby at_62) ?_
      show Steps p.tables e below (T5.setTop (mkF m 63 #[.val (.long q1), .second, .val (.long bv), .second, .val (.long cv), .second, .val (.long dv), .second, .val (.int p5), .val (.int p6), .val (.ref b1), .val (.int (p5 &&& (3 : Int32))), .unset, .unset, .unset] [(.int (3 : Int32)), (.int ((p5.toUInt32 >>> ((2 : Int32) &&& 31).toUInt32).toInt32))])) _
      refine XS.iand X5.here hx rfl (hb hby at_63) rfl ?_
      show Steps p.tables e below (T5.setTop (mkF m 64 #[.val (.long q1), .second, .val (.long bv), .second, .val (.long cv), .second, .val (.long dv), .second, .val (.int p5), .val (.int p6), .val (.ref b1), .val (.int (p5 &&& (3 : Int32))), .unset, .unset, .unset] [(.int (((p5.toUInt32 >>> ((2 : Int32) &&& 31).toUInt32).toInt32) &&& (3 : Int32)))])) _
      refine XS.iconst X5.here hx rfl (hb hby at_64) ?_
      show Steps p.tables e below (T5.setTop (mkF m 65 #[.val (.long q1), .second, .val (.long bv), .second, .val (.long cv), .second, .val (.long dv), .second, .val (.int p5), .val (.int p6), .val (.ref b1), .val (.int (p5 &&& (3 : Int32))), .unset, .unset, .unset] [(.int (4 : Int32)), (.int (((p5.toUInt32 >>> ((2 : Int32) &&& 31).toUInt32).toInt32) &&& (3 : Int32)))])) _
      refine XS.iload X5.here hx rfl (hb hby at_65) rfl ?_
      show Steps p.tables e below (T5.setTop (mkF m 67 #[.val (.long q1), .second, .val (.long bv), .second, .val (.long cv), .second, .val (.long dv), .second, .val (.int p5), .val (.int p6), .val (.ref b1), .val (.int (p5 &&& (3 : Int32))), .unset, .unset, .unset] [(.int (p5 &&& (3 : Int32))), (.int (4 : Int32)), (.int (((p5.toUInt32 >>> ((2 : Int32) &&& 31).toUInt32).toInt32) &&& (3 : Int32)))])) _
      refine XS.isub X5.here hx rfl (hb hby at_67) rfl ?_
      show Steps p.tables e below (T5.setTop (mkF m 68 #[.val (.long q1), .second, .val (.long bv), .second, .val (.long cv), .second, .val (.long dv), .second, .val (.int p5), .val (.int p6), .val (.ref b1), .val (.int (p5 &&& (3 : Int32))), .unset, .unset, .unset] [(.int ((4 : Int32) - (p5 &&& (3 : Int32)))), (.int (((p5.toUInt32 >>> ((2 : Int32) &&& 31).toUInt32).toInt32) &&& (3 : Int32)))])) _
      refine Jvm.RoadKit.iremM X5 hx rfl (hb hby at_68) rfl (own_nz p5) ?_
      show Steps p.tables e below (T5.setTop (mkF m 69 #[.val (.long q1), .second, .val (.long bv), .second, .val (.long cv), .second, .val (.long dv), .second, .val (.int p5), .val (.int p6), .val (.ref b1), .val (.int (p5 &&& (3 : Int32))), .unset, .unset, .unset] [(.int ((((p5.toUInt32 >>> ((2 : Int32) &&& 31).toUInt32).toInt32) &&& (3 : Int32)) % ((4 : Int32) - (p5 &&& (3 : Int32)))))])) _
      refine XS.iconst X5.here hx rfl (hb hby at_69) ?_
      show Steps p.tables e below (T5.setTop (mkF m 70 #[.val (.long q1), .second, .val (.long bv), .second, .val (.long cv), .second, .val (.long dv), .second, .val (.int p5), .val (.int p6), .val (.ref b1), .val (.int (p5 &&& (3 : Int32))), .unset, .unset, .unset] [(.int (1 : Int32)), (.int ((((p5.toUInt32 >>> ((2 : Int32) &&& 31).toUInt32).toInt32) &&& (3 : Int32)) % ((4 : Int32) - (p5 &&& (3 : Int32)))))])) _
      refine XS.iadd X5.here hx rfl (hb hby at_70) rfl ?_
      show Steps p.tables e below (T5.setTop (mkF m 71 #[.val (.long q1), .second, .val (.long bv), .second, .val (.long cv), .second, .val (.long dv), .second, .val (.int p5), .val (.int p6), .val (.ref b1), .val (.int (p5 &&& (3 : Int32))), .unset, .unset, .unset] [(.int (((((p5.toUInt32 >>> ((2 : Int32) &&& 31).toUInt32).toInt32) &&& (3 : Int32)) % ((4 : Int32) - (p5 &&& (3 : Int32)))) + (1 : Int32)))])) _
      refine XS.istore X5.here hx rfl (hb hby at_71) rfl (l' := #[.val (.long q1), .second, .val (.long bv), .second, .val (.long cv), .second, .val (.long dv), .second, .val (.int p5), .val (.int p6), .val (.ref b1), .val (.int (p5 &&& (3 : Int32))), .val (.int (((((p5.toUInt32 >>> ((2 : Int32) &&& 31).toUInt32).toInt32) &&& (3 : Int32)) % ((4 : Int32) - (p5 &&& (3 : Int32)))) + (1 : Int32))), .unset, .unset]) rfl ?_
      show Steps p.tables e below (T5.setTop (mkF m 73 #[.val (.long q1), .second, .val (.long bv), .second, .val (.long cv), .second, .val (.long dv), .second, .val (.int p5), .val (.int p6), .val (.ref b1), .val (.int (p5 &&& (3 : Int32))), .val (.int (((((p5.toUInt32 >>> ((2 : Int32) &&& 31).toUInt32).toInt32) &&& (3 : Int32)) % ((4 : Int32) - (p5 &&& (3 : Int32)))) + (1 : Int32))), .unset, .unset] [])) _
      refine XS.iload X5.here hx rfl (hb hby at_73) rfl ?_
      show Steps p.tables e below (T5.setTop (mkF m 75 #[.val (.long q1), .second, .val (.long bv), .second, .val (.long cv), .second, .val (.long dv), .second, .val (.int p5), .val (.int p6), .val (.ref b1), .val (.int (p5 &&& (3 : Int32))), .val (.int (((((p5.toUInt32 >>> ((2 : Int32) &&& 31).toUInt32).toInt32) &&& (3 : Int32)) % ((4 : Int32) - (p5 &&& (3 : Int32)))) + (1 : Int32))), .unset, .unset] [(.int (p5 &&& (3 : Int32)))])) _
      refine XS.iload X5.here hx rfl (hb hby at_75) rfl ?_
      show Steps p.tables e below (T5.setTop (mkF m 77 #[.val (.long q1), .second, .val (.long bv), .second, .val (.long cv), .second, .val (.long dv), .second, .val (.int p5), .val (.int p6), .val (.ref b1), .val (.int (p5 &&& (3 : Int32))), .val (.int (((((p5.toUInt32 >>> ((2 : Int32) &&& 31).toUInt32).toInt32) &&& (3 : Int32)) % ((4 : Int32) - (p5 &&& (3 : Int32)))) + (1 : Int32))), .unset, .unset] [(.int (((((p5.toUInt32 >>> ((2 : Int32) &&& 31).toUInt32).toInt32) &&& (3 : Int32)) % ((4 : Int32) - (p5 &&& (3 : Int32)))) + (1 : Int32))), (.int (p5 &&& (3 : Int32)))])) _
      refine XS.iadd X5.here hx rfl (hb hby at_77) rfl ?_
      show Steps p.tables e below (T5.setTop (mkF m 78 #[.val (.long q1), .second, .val (.long bv), .second, .val (.long cv), .second, .val (.long dv), .second, .val (.int p5), .val (.int p6), .val (.ref b1), .val (.int (p5 &&& (3 : Int32))), .val (.int (((((p5.toUInt32 >>> ((2 : Int32) &&& 31).toUInt32).toInt32) &&& (3 : Int32)) % ((4 : Int32) - (p5 &&& (3 : Int32)))) + (1 : Int32))), .unset, .unset] [(.int ((p5 &&& (3 : Int32)) + (((((p5.toUInt32 >>> ((2 : Int32) &&& 31).toUInt32).toInt32) &&& (3 : Int32)) % ((4 : Int32) - (p5 &&& (3 : Int32)))) + (1 : Int32))))])) _
      refine XS.istore X5.here hx rfl (hb hby at_78) rfl (l' := #[.val (.long q1), .second, .val (.long bv), .second, .val (.long cv), .second, .val (.long dv), .second, .val (.int p5), .val (.int p6), .val (.ref b1), .val (.int (p5 &&& (3 : Int32))), .val (.int (((((p5.toUInt32 >>> ((2 : Int32) &&& 31).toUInt32).toInt32) &&& (3 : Int32)) % ((4 : Int32) - (p5 &&& (3 : Int32)))) + (1 : Int32))), .val (.int ((p5 &&& (3 : Int32)) + (((((p5.toUInt32 >>> ((2 : Int32) &&& 31).toUInt32).toInt32) &&& (3 : Int32)) % ((4 : Int32) - (p5 &&& (3 : Int32)))) + (1 : Int32)))), .unset]) rfl ?_
      show Steps p.tables e below (T5.setTop (mkF m 80 #[.val (.long q1), .second, .val (.long bv), .second, .val (.long cv), .second, .val (.long dv), .second, .val (.int p5), .val (.int p6), .val (.ref b1), .val (.int (p5 &&& (3 : Int32))), .val (.int (((((p5.toUInt32 >>> ((2 : Int32) &&& 31).toUInt32).toInt32) &&& (3 : Int32)) % ((4 : Int32) - (p5 &&& (3 : Int32)))) + (1 : Int32))), .val (.int ((p5 &&& (3 : Int32)) + (((((p5.toUInt32 >>> ((2 : Int32) &&& 31).toUInt32).toInt32) &&& (3 : Int32)) % ((4 : Int32) - (p5 &&& (3 : Int32)))) + (1 : Int32)))), .unset] [])) _
      refine XS.aload X5.here hx rfl (hb hby at_80) rfl rfl ?_
      show Steps p.tables e below (T5.setTop (mkF m 82 #[.val (.long q1), .second, .val (.long bv), .second, .val (.long cv), .second, .val (.long dv), .second, .val (.int p5), .val (.int p6), .val (.ref b1), .val (.int (p5 &&& (3 : Int32))), .val (.int (((((p5.toUInt32 >>> ((2 : Int32) &&& 31).toUInt32).toInt32) &&& (3 : Int32)) % ((4 : Int32) - (p5 &&& (3 : Int32)))) + (1 : Int32))), .val (.int ((p5 &&& (3 : Int32)) + (((((p5.toUInt32 >>> ((2 : Int32) &&& 31).toUInt32).toInt32) &&& (3 : Int32)) % ((4 : Int32) - (p5 &&& (3 : Int32)))) + (1 : Int32)))), .unset] [(.ref b1)])) _
      refine XS.iload X5.here hx rfl (hb hby at_82) rfl ?_
      show Steps p.tables e below (T5.setTop (mkF m 84 #[.val (.long q1), .second, .val (.long bv), .second, .val (.long cv), .second, .val (.long dv), .second, .val (.int p5), .val (.int p6), .val (.ref b1), .val (.int (p5 &&& (3 : Int32))), .val (.int (((((p5.toUInt32 >>> ((2 : Int32) &&& 31).toUInt32).toInt32) &&& (3 : Int32)) % ((4 : Int32) - (p5 &&& (3 : Int32)))) + (1 : Int32))), .val (.int ((p5 &&& (3 : Int32)) + (((((p5.toUInt32 >>> ((2 : Int32) &&& 31).toUInt32).toInt32) &&& (3 : Int32)) % ((4 : Int32) - (p5 &&& (3 : Int32)))) + (1 : Int32)))), .unset] [(.int (p5 &&& (3 : Int32))), (.ref b1)])) _
      refine XS.iload X5.here hx rfl (hb hby at_84) rfl ?_
      exact kt
    have A4 := own_arr4 V5_b1
    have hrng := own_rng p5 (((p5.toUInt32 >>> ((2 : Int32) &&& 31).toUInt32).toInt32) &&& (3 : Int32)) (own_from _).1
    obtain ⟨_, _, ⟨T6, L6, k6, n6⟩, -, X6, ⟨Lc6, hQ6, l6, y6, z6⟩, st6⟩ := Jvm.LawKit.callS X5 hx (y := (⟨"com/example/shardwright/shardwright/fragment/FragmentBytes", "heaviest", "([JII)I"⟩ : MethodName)) hown (mvT hZ (hw _ (List.mem_of_getElem? (i := 1) rfl))) (mvT hZ (hw _ (List.mem_of_getElem? (i := 2) rfl))) (mvT hZ (hw _ (List.mem_of_getElem? (i := 3) rfl))) (mvT hZ (hw _ (List.mem_of_getElem? (i := 4) rfl))) (by decide) (backOf (W := 0) (rm1 l Z a0 hw [] b1 (p5 &&& (3 : Int32)) ((p5 &&& (3 : Int32)) + (((((p5.toUInt32 >>> ((2 : Int32) &&& 31).toUInt32).toInt32) &&& (3 : Int32)) % ((4 : Int32) - (p5 &&& (3 : Int32)))) + (1 : Int32))) (elemF q1 bv cv dv) h5 n0 Z5 A4 hrng.1 hrng.2.1 hrng.2.2) hZ (hw _ (List.mem_of_getElem? (i := 4) rfl)) (hw _ (List.mem_of_getElem? (i := 3) rfl)) (by decide) (by decide)) (g := (mkF m 86 #[.val (.long q1), .second, .val (.long bv), .second, .val (.long cv), .second, .val (.long dv), .second, .val (.int p5), .val (.int p6), .val (.ref b1), .val (.int (p5 &&& (3 : Int32))), .val (.int (((((p5.toUInt32 >>> ((2 : Int32) &&& 31).toUInt32).toInt32) &&& (3 : Int32)) % ((4 : Int32) - (p5 &&& (3 : Int32)))) + (1 : Int32))), .val (.int ((p5 &&& (3 : Int32)) + (((((p5.toUInt32 >>> ((2 : Int32) &&& 31).toUInt32).toInt32) &&& (3 : Int32)) % ((4 : Int32) - (p5 &&& (3 : Int32)))) + (1 : Int32)))), .unset] [(.int ((p5 &&& (3 : Int32)) + (((((p5.toUInt32 >>> ((2 : Int32) &&& 31).toUInt32).toInt32) &&& (3 : Int32)) % ((4 : Int32) - (p5 &&& (3 : Int32)))) + (1 : Int32)))), (.int (p5 &&& (3 : Int32))), (.ref b1)])) rfl (by rw [hml]; rfl) (argsL := [(.ref b1), (.int (p5 &&& (3 : Int32))), (.int ((p5 &&& (3 : Int32)) + (((((p5.toUInt32 >>> ((2 : Int32) &&& 31).toUInt32).toInt32) &&& (3 : Int32)) % ((4 : Int32) - (p5 &&& (3 : Int32)))) + (1 : Int32))))]) (rest := []) (lenOf pd_0 rfl) rfl (by show 2 * 0 + _ ≤ _; exact Nat.le_of_eq rfl) (hb hby at_86) (fun _ _ => ⟨rfl, e5, (by decide : 1 + 0 ≤ _), (by decide : 4 + 0 ≤ _)⟩)
    dsimp only [Pt.U, Pt.locs, Pt.cells, Pt.slots] at X6 l6 y6 z6 st6 hQ6
    subst l6 y6 z6
    obtain ⟨r6, rfl, N6q, e6, hT⟩ := hQ6
    have N6 := Fr.app N5 N6q
    refine Goes.step (A := T6.setTop (mkF m 89 #[.val (.long q1), .second, .val (.long bv), .second, .val (.long cv), .second, .val (.long dv), .second, .val (.int p5), .val (.int p6), .val (.ref b1), .val (.int (p5 &&& (3 : Int32))), .val (.int (((((p5.toUInt32 >>> ((2 : Int32) &&& 31).toUInt32).toInt32) &&& (3 : Int32)) % ((4 : Int32) - (p5 &&& (3 : Int32)))) + (1 : Int32))), .val (.int ((p5 &&& (3 : Int32)) + (((((p5.toUInt32 >>> ((2 : Int32) &&& 31).toUInt32).toInt32) &&& (3 : Int32)) % ((4 : Int32) - (p5 &&& (3 : Int32)))) + (1 : Int32)))), .unset] [(.int r6)])) (fun t kt => st6 _ kt) ?_
    refine Goes.step (A := T6.setTop (mkF m 95 #[.val (.long q1), .second, .val (.long bv), .second, .val (.long cv), .second, .val (.long dv), .second, .val (.int p5), .val (.int p6), .val (.ref b1), .val (.int (p5 &&& (3 : Int32))), .val (.int (((((p5.toUInt32 >>> ((2 : Int32) &&& 31).toUInt32).toInt32) &&& (3 : Int32)) % ((4 : Int32) - (p5 &&& (3 : Int32)))) + (1 : Int32))), .val (.int ((p5 &&& (3 : Int32)) + (((((p5.toUInt32 >>> ((2 : Int32) &&& 31).toUInt32).toInt32) &&& (3 : Int32)) % ((4 : Int32) - (p5 &&& (3 : Int32)))) + (1 : Int32)))), .val (.int r6)] [(.int (p5 &&& (3 : Int32))), (.int r6)])) (fun t kt => ?_) ?_
    · refine XS.istore X6.here hx rfl (hb hby at_89) rfl (l' := #[.val (.long q1), .second, .val (.long bv), .second, .val (.long cv), .second, .val (.long dv), .second, .val (.int p5), .val (.int p6), .val (.ref b1), .val (.int (p5 &&& (3 : Int32))), .val (.int (((((p5.toUInt32 >>> ((2 : Int32) &&& 31).toUInt32).toInt32) &&& (3 : Int32)) % ((4 : Int32) - (p5 &&& (3 : Int32)))) + (1 : Int32))), .val (.int ((p5 &&& (3 : Int32)) + (((((p5.toUInt32 >>> ((2 : Int32) &&& 31).toUInt32).toInt32) &&& (3 : Int32)) % ((4 : Int32) - (p5 &&& (3 : Int32)))) + (1 : Int32)))), .val (.int r6)]) rfl ?_
      show Steps p.tables e below (T6.setTop (mkF m 91 #[.val (.long q1), .second, .val (.long bv), .second, .val (.long cv), .second, .val (.long dv), .second, .val (.int p5), .val (.int p6), .val (.ref b1), .val (.int (p5 &&& (3 : Int32))), .val (.int (((((p5.toUInt32 >>> ((2 : Int32) &&& 31).toUInt32).toInt32) &&& (3 : Int32)) % ((4 : Int32) - (p5 &&& (3 : Int32)))) + (1 : Int32))), .val (.int ((p5 &&& (3 : Int32)) + (((((p5.toUInt32 >>> ((2 : Int32) &&& 31).toUInt32).toInt32) &&& (3 : Int32)) % ((4 : Int32) - (p5 &&& (3 : Int32)))) + (1 : Int32)))), .val (.int r6)] [])) _
      refine XS.iload X6.here hx rfl (hb hby at_91) rfl ?_
      show Steps p.tables e below (T6.setTop (mkF m 93 #[.val (.long q1), .second, .val (.long bv), .second, .val (.long cv), .second, .val (.long dv), .second, .val (.int p5), .val (.int p6), .val (.ref b1), .val (.int (p5 &&& (3 : Int32))), .val (.int (((((p5.toUInt32 >>> ((2 : Int32) &&& 31).toUInt32).toInt32) &&& (3 : Int32)) % ((4 : Int32) - (p5 &&& (3 : Int32)))) + (1 : Int32))), .val (.int ((p5 &&& (3 : Int32)) + (((((p5.toUInt32 >>> ((2 : Int32) &&& 31).toUInt32).toInt32) &&& (3 : Int32)) % ((4 : Int32) - (p5 &&& (3 : Int32)))) + (1 : Int32)))), .val (.int r6)] [(.int r6)])) _
      refine XS.iload X6.here hx rfl (hb hby at_93) rfl ?_
      exact kt
    refine Goes.step (A := T6.setTop (mkF m 98 #[.val (.long q1), .second, .val (.long bv), .second, .val (.long cv), .second, .val (.long dv), .second, .val (.int p5), .val (.int p6), .val (.ref b1), .val (.int (p5 &&& (3 : Int32))), .val (.int (((((p5.toUInt32 >>> ((2 : Int32) &&& 31).toUInt32).toInt32) &&& (3 : Int32)) % ((4 : Int32) - (p5 &&& (3 : Int32)))) + (1 : Int32))), .val (.int ((p5 &&& (3 : Int32)) + (((((p5.toUInt32 >>> ((2 : Int32) &&& 31).toUInt32).toInt32) &&& (3 : Int32)) % ((4 : Int32) - (p5 &&& (3 : Int32)))) + (1 : Int32)))), .val (.int r6)] [])) (fun t kt => XS.icmpNo X6.here hx rfl (hb hby at_95) rfl (flt (own_top1 _ _ _ _ hT : ¬ (r6 < (p5 &&& (3 : Int32))))).1 kt) ?_
    refine Goes.step (A := T6.setTop (mkF m 102 #[.val (.long q1), .second, .val (.long bv), .second, .val (.long cv), .second, .val (.long dv), .second, .val (.int p5), .val (.int p6), .val (.ref b1), .val (.int (p5 &&& (3 : Int32))), .val (.int (((((p5.toUInt32 >>> ((2 : Int32) &&& 31).toUInt32).toInt32) &&& (3 : Int32)) % ((4 : Int32) - (p5 &&& (3 : Int32)))) + (1 : Int32))), .val (.int ((p5 &&& (3 : Int32)) + (((((p5.toUInt32 >>> ((2 : Int32) &&& 31).toUInt32).toInt32) &&& (3 : Int32)) % ((4 : Int32) - (p5 &&& (3 : Int32)))) + (1 : Int32)))), .val (.int r6)] [(.int ((p5 &&& (3 : Int32)) + (((((p5.toUInt32 >>> ((2 : Int32) &&& 31).toUInt32).toInt32) &&& (3 : Int32)) % ((4 : Int32) - (p5 &&& (3 : Int32)))) + (1 : Int32)))), (.int r6)])) (fun t kt => ?_) ?_
    · refine XS.iload X6.here hx rfl (hb hby at_98) rfl ?_
      show Steps p.tables e below (T6.setTop (mkF m 100 #[.val (.long q1), .second, .val (.long bv), .second, .val (.long cv), .second, .val (.long dv), .second, .val (.int p5), .val (.int p6), .val (.ref b1), .val (.int (p5 &&& (3 : Int32))), .val (.int (((((p5.toUInt32 >>> ((2 : Int32) &&& 31).toUInt32).toInt32) &&& (3 : Int32)) % ((4 : Int32) - (p5 &&& (3 : Int32)))) + (1 : Int32))), .val (.int ((p5 &&& (3 : Int32)) + (((((p5.toUInt32 >>> ((2 : Int32) &&& 31).toUInt32).toInt32) &&& (3 : Int32)) % ((4 : Int32) - (p5 &&& (3 : Int32)))) + (1 : Int32)))), .val (.int r6)] [(.int r6)])) _
      refine XS.iload X6.here hx rfl (hb hby at_100) rfl ?_
      exact kt
    refine Goes.step (A := T6.setTop (mkF m 107 #[.val (.long q1), .second, .val (.long bv), .second, .val (.long cv), .second, .val (.long dv), .second, .val (.int p5), .val (.int p6), .val (.ref b1), .val (.int (p5 &&& (3 : Int32))), .val (.int (((((p5.toUInt32 >>> ((2 : Int32) &&& 31).toUInt32).toInt32) &&& (3 : Int32)) % ((4 : Int32) - (p5 &&& (3 : Int32)))) + (1 : Int32))), .val (.int ((p5 &&& (3 : Int32)) + (((((p5.toUInt32 >>> ((2 : Int32) &&& 31).toUInt32).toInt32) &&& (3 : Int32)) % ((4 : Int32) - (p5 &&& (3 : Int32)))) + (1 : Int32)))), .val (.int r6)] [])) (fun t kt => XS.icmpYes X6.here hx rfl (pc0 := 102) (pc' := 107) rfl (hb hby at_102) rfl (tlt (own_top2 _ _ _ _ hT : r6 < ((p5 &&& (3 : Int32)) + (((((p5.toUInt32 >>> ((2 : Int32) &&& 31).toUInt32).toInt32) &&& (3 : Int32)) % ((4 : Int32) - (p5 &&& (3 : Int32)))) + (1 : Int32))))).1 (by decide) (by decide) kt) ?_
    refine Goes.step (A := T6.setTop (mkF m 116 #[.val (.long q1), .second, .val (.long bv), .second, .val (.long cv), .second, .val (.long dv), .second, .val (.int p5), .val (.int p6), .val (.ref b1), .val (.int (p5 &&& (3 : Int32))), .val (.int (((((p5.toUInt32 >>> ((2 : Int32) &&& 31).toUInt32).toInt32) &&& (3 : Int32)) % ((4 : Int32) - (p5 &&& (3 : Int32)))) + (1 : Int32))), .val (.int ((p5 &&& (3 : Int32)) + (((((p5.toUInt32 >>> ((2 : Int32) &&& 31).toUInt32).toInt32) &&& (3 : Int32)) % ((4 : Int32) - (p5 &&& (3 : Int32)))) + (1 : Int32)))), .val (.int r6)] [(.int (0 : Int32)), (.int ((p5 &&& (3 : Int32)) + (((((p5.toUInt32 >>> ((2 : Int32) &&& 31).toUInt32).toInt32) &&& (3 : Int32)) % ((4 : Int32) - (p5 &&& (3 : Int32)))) + (1 : Int32)))), (.int (p5 &&& (3 : Int32))), (.int r6), (.ref b1)])) (fun t kt => ?_) ?_
    · refine XS.aload X6.here hx rfl (hb hby at_107) rfl rfl ?_
      show Steps p.tables e below (T6.setTop (mkF m 109 #[.val (.long q1), .second, .val (.long bv), .second, .val (.long cv), .second, .val (.long dv), .second, .val (.int p5), .val (.int p6), .val (.ref b1), .val (.int (p5 &&& (3 : Int32))), .val (.int (((((p5.toUInt32 >>> ((2 : Int32) &&& 31).toUInt32).toInt32) &&& (3 : Int32)) % ((4 : Int32) - (p5 &&& (3 : Int32)))) + (1 : Int32))), .val (.int ((p5 &&& (3 : Int32)) + (((((p5.toUInt32 >>> ((2 : Int32) &&& 31).toUInt32).toInt32) &&& (3 : Int32)) % ((4 : Int32) - (p5 &&& (3 : Int32)))) + (1 : Int32)))), .val (.int r6)] [(.ref b1)])) _
      refine XS.iload X6.here hx rfl (hb hby at_109) rfl ?_
      show Steps p.tables e below (T6.setTop (mkF m 111 #[.val (.long q1), .second, .val (.long bv), .second, .val (.long cv), .second, .val (.long dv), .second, .val (.int p5), .val (.int p6), .val (.ref b1), .val (.int (p5 &&& (3 : Int32))), .val (.int (((((p5.toUInt32 >>> ((2 : Int32) &&& 31).toUInt32).toInt32) &&& (3 : Int32)) % ((4 : Int32) - (p5 &&& (3 : Int32)))) + (1 : Int32))), .val (.int ((p5 &&& (3 : Int32)) + (((((p5.toUInt32 >>> ((2 : Int32) &&& 31).toUInt32).toInt32) &&& (3 : Int32)) % ((4 : Int32) - (p5 &&& (3 : Int32)))) + (1 : Int32)))), .val (.int r6)] [(.int r6), (.ref b1)])) _
      refine XS.iload X6.here hx rfl (hb hby at_111) rfl ?_
      show Steps p.tables e below (T6.setTop (mkF m 113 #[.val (.long q1), .second, .val (.long bv), .second, .val (.long cv), .second, .val (.long dv), .second, .val (.int p5), .val (.int p6), .val (.ref b1), .val (.int (p5 &&& (3 : Int32))), .val (.int (((((p5.toUInt32 >>> ((2 : Int32) &&& 31).toUInt32).toInt32) &&& (3 : Int32)) % ((4 : Int32) - (p5 &&& (3 : Int32)))) + (1 : Int32))), .val (.int ((p5 &&& (3 : Int32)) + (((((p5.toUInt32 >>> ((2 : Int32) &&& 31).toUInt32).toInt32) &&& (3 : Int32)) % ((4 : Int32) - (p5 &&& (3 : Int32)))) + (1 : Int32)))), .val (.int r6)] [(.int (p5 &&& (3 : Int32))), (.int r6), (.ref b1)])) _
      refine XS.iload X6.here hx rfl (hb hby at_113) rfl ?_
      show Steps p.tables e below (T6.setTop (mkF m 115 #[.val (.long q1), .second, .val (.long bv), .second, .val (.long cv), .second, .val (.long dv), .second, .val (.int p5), .val (.int p6), .val (.ref b1), .val (.int (p5 &&& (3 : Int32))), .val (.int (((((p5.toUInt32 >>> ((2 : Int32) &&& 31).toUInt32).toInt32) &&& (3 : Int32)) % ((4 : Int32) - (p5 &&& (3 : Int32)))) + (1 : Int32))), .val (.int ((p5 &&& (3 : Int32)) + (((((p5.toUInt32 >>> ((2 : Int32) &&& 31).toUInt32).toInt32) &&& (3 : Int32)) % ((4 : Int32) - (p5 &&& (3 : Int32)))) + (1 : Int32)))), .val (.int r6)] [(.int ((p5 &&& (3 : Int32)) + (((((p5.toUInt32 >>> ((2 : Int32) &&& 31).toUInt32).toInt32) &&& (3 : Int32)) % ((4 : Int32) - (p5 &&& (3 : Int32)))) + (1 : Int32)))), (.int (p5 &&& (3 : Int32))), (.int r6), (.ref b1)])) _
      refine XS.iconst X6.here hx rfl (hb hby at_115) ?_
      exact kt
    obtain ⟨_, _, ⟨T7, L7, k7, n7⟩, -, X7, ⟨Lc7, hQ7, l7, y7, z7⟩, st7⟩ := Jvm.LawKit.callS X6 hx (y := (⟨"com/example/shardwright/shardwright/fragment/FragmentBytesHeaviestPinLaw", "fits", "([JIIII)Z"⟩ : MethodName)) hown (mvT hZ (hw _ (List.mem_of_getElem? (i := 5) rfl))) (mvT hZ (hw _ (List.mem_of_getElem? (i := 6) rfl))) (mvT hZ (hw _ (List.mem_of_getElem? (i := 7) rfl))) (mvT hZ (hw _ (List.mem_of_getElem? (i := 8) rfl))) (by decide) (backOf (W := 0) (rm2 l Z a0 hw [] b1 r6 (p5 &&& (3 : Int32)) ((p5 &&& (3 : Int32)) + (((((p5.toUInt32 >>> ((2 : Int32) &&& 31).toUInt32).toInt32) &&& (3 : Int32)) % ((4 : Int32) - (p5 &&& (3 : Int32)))) + (1 : Int32))) (0 : Int32) (elemF q1 bv cv dv) h5 n0 Z5 A4 hT) hZ (hw _ (List.mem_of_getElem? (i := 8) rfl)) (hw _ (List.mem_of_getElem? (i := 7) rfl)) (by decide) (by decide)) (g := (mkF m 116 #[.val (.long q1), .second, .val (.long bv), .second, .val (.long cv), .second, .val (.long dv), .second, .val (.int p5), .val (.int p6), .val (.ref b1), .val (.int (p5 &&& (3 : Int32))), .val (.int (((((p5.toUInt32 >>> ((2 : Int32) &&& 31).toUInt32).toInt32) &&& (3 : Int32)) % ((4 : Int32) - (p5 &&& (3 : Int32)))) + (1 : Int32))), .val (.int ((p5 &&& (3 : Int32)) + (((((p5.toUInt32 >>> ((2 : Int32) &&& 31).toUInt32).toInt32) &&& (3 : Int32)) % ((4 : Int32) - (p5 &&& (3 : Int32)))) + (1 : Int32)))), .val (.int r6)] [(.int (0 : Int32)), (.int ((p5 &&& (3 : Int32)) + (((((p5.toUInt32 >>> ((2 : Int32) &&& 31).toUInt32).toInt32) &&& (3 : Int32)) % ((4 : Int32) - (p5 &&& (3 : Int32)))) + (1 : Int32)))), (.int (p5 &&& (3 : Int32))), (.int r6), (.ref b1)])) rfl (by rw [hml]; rfl) (argsL := [(.ref b1), (.int r6), (.int (p5 &&& (3 : Int32))), (.int ((p5 &&& (3 : Int32)) + (((((p5.toUInt32 >>> ((2 : Int32) &&& 31).toUInt32).toInt32) &&& (3 : Int32)) % ((4 : Int32) - (p5 &&& (3 : Int32)))) + (1 : Int32)))), (.int (0 : Int32))]) (rest := []) (lenOf pd_1 rfl) rfl (by show 2 * 0 + _ ≤ _; exact Nat.le_of_eq rfl) (hb hby at_116) (fun _ _ => ⟨rfl, e6, (by decide : 1 + 0 ≤ _), (by decide : 4 + 0 ≤ _)⟩)
    dsimp only [Pt.U, Pt.locs, Pt.cells, Pt.slots] at X7 l7 y7 z7 st7 hQ7
    subst l7 y7 z7
    obtain ⟨rfl, N7q, e7⟩ := hQ7
    have N7 := Fr.app N6 N7q
    refine Goes.step (A := T7.setTop (mkF m 119 #[.val (.long q1), .second, .val (.long bv), .second, .val (.long cv), .second, .val (.long dv), .second, .val (.int p5), .val (.int p6), .val (.ref b1), .val (.int (p5 &&& (3 : Int32))), .val (.int (((((p5.toUInt32 >>> ((2 : Int32) &&& 31).toUInt32).toInt32) &&& (3 : Int32)) % ((4 : Int32) - (p5 &&& (3 : Int32)))) + (1 : Int32))), .val (.int ((p5 &&& (3 : Int32)) + (((((p5.toUInt32 >>> ((2 : Int32) &&& 31).toUInt32).toInt32) &&& (3 : Int32)) % ((4 : Int32) - (p5 &&& (3 : Int32)))) + (1 : Int32)))), .val (.int r6)] [(.int (fitsF (elemF q1 bv cv dv) r6 (p5 &&& (3 : Int32)) ((p5 &&& (3 : Int32)) + (((((p5.toUInt32 >>> ((2 : Int32) &&& 31).toUInt32).toInt32) &&& (3 : Int32)) % ((4 : Int32) - (p5 &&& (3 : Int32)))) + (1 : Int32))) (0 : Int32)))])) (fun t kt => st7 _ kt) ?_
    refine Goes.step (A := T7.setTop (mkF m 122 #[.val (.long q1), .second, .val (.long bv), .second, .val (.long cv), .second, .val (.long dv), .second, .val (.int p5), .val (.int p6), .val (.ref b1), .val (.int (p5 &&& (3 : Int32))), .val (.int (((((p5.toUInt32 >>> ((2 : Int32) &&& 31).toUInt32).toInt32) &&& (3 : Int32)) % ((4 : Int32) - (p5 &&& (3 : Int32)))) + (1 : Int32))), .val (.int ((p5 &&& (3 : Int32)) + (((((p5.toUInt32 >>> ((2 : Int32) &&& 31).toUInt32).toInt32) &&& (3 : Int32)) % ((4 : Int32) - (p5 &&& (3 : Int32)))) + (1 : Int32)))), .val (.int r6)] [])) (fun t kt => XS.ifNo X7.here hx rfl (hb hby at_119) rfl ((if0 _ _).trans (feq (own_fits _ _ _ _ _ hT : ¬ ((fitsF (elemF q1 bv cv dv) r6 (p5 &&& (3 : Int32)) ((p5 &&& (3 : Int32)) + (((((p5.toUInt32 >>> ((2 : Int32) &&& 31).toUInt32).toInt32) &&& (3 : Int32)) % ((4 : Int32) - (p5 &&& (3 : Int32)))) + (1 : Int32))) (0 : Int32)) = (0 : Int32)))).1) kt) ?_
    refine Goes.step (A := T7.setTop (mkF m 131 #[.val (.long q1), .second, .val (.long bv), .second, .val (.long cv), .second, .val (.long dv), .second, .val (.int p5), .val (.int p6), .val (.ref b1), .val (.int (p5 &&& (3 : Int32))), .val (.int (((((p5.toUInt32 >>> ((2 : Int32) &&& 31).toUInt32).toInt32) &&& (3 : Int32)) % ((4 : Int32) - (p5 &&& (3 : Int32)))) + (1 : Int32))), .val (.int ((p5 &&& (3 : Int32)) + (((((p5.toUInt32 >>> ((2 : Int32) &&& 31).toUInt32).toInt32) &&& (3 : Int32)) % ((4 : Int32) - (p5 &&& (3 : Int32)))) + (1 : Int32)))), .val (.int r6)] [(.int (1 : Int32)), (.int ((p5 &&& (3 : Int32)) + (((((p5.toUInt32 >>> ((2 : Int32) &&& 31).toUInt32).toInt32) &&& (3 : Int32)) % ((4 : Int32) - (p5 &&& (3 : Int32)))) + (1 : Int32)))), (.int (p5 &&& (3 : Int32))), (.int r6), (.ref b1)])) (fun t kt => ?_) ?_
    · refine XS.aload X7.here hx rfl (hb hby at_122) rfl rfl ?_
      show Steps p.tables e below (T7.setTop (mkF m 124 #[.val (.long q1), .second, .val (.long bv), .second, .val (.long cv), .second, .val (.long dv), .second, .val (.int p5), .val (.int p6), .val (.ref b1), .val (.int (p5 &&& (3 : Int32))), .val (.int (((((p5.toUInt32 >>> ((2 : Int32) &&& 31).toUInt32).toInt32) &&& (3 : Int32)) % ((4 : Int32) - (p5 &&& (3 : Int32)))) + (1 : Int32))), .val (.int ((p5 &&& (3 : Int32)) + (((((p5.toUInt32 >>> ((2 : Int32) &&& 31).toUInt32).toInt32) &&& (3 : Int32)) % ((4 : Int32) - (p5 &&& (3 : Int32)))) + (1 : Int32)))), .val (.int r6)] [(.ref b1)])) _
      refine XS.iload X7.here hx rfl (hb hby at_124) rfl ?_
      show Steps p.tables e below (T7.setTop (mkF m 126 #[.val (.long q1), .second, .val (.long bv), .second, .val (.long cv), .second, .val (.long dv), .second, .val (.int p5), .val (.int p6), .val (.ref b1), .val (.int (p5 &&& (3 : Int32))), .val (.int (((((p5.toUInt32 >>> ((2 : Int32) &&& 31).toUInt32).toInt32) &&& (3 : Int32)) % ((4 : Int32) - (p5 &&& (3 : Int32)))) + (1 : Int32))), .val (.int ((p5 &&& (3 : Int32)) + (((((p5.toUInt32 >>> ((2 : Int32) &&& 31).toUInt32).toInt32) &&& (3 : Int32)) % ((4 : Int32) - (p5 &&& (3 : Int32)))) + (1 : Int32)))), .val (.int r6)] [(.int r6), (.ref b1)])) _
      refine XS.iload X7.here hx rfl (hb hby at_126) rfl ?_
      show Steps p.tables e below (T7.setTop (mkF m 128 #[.val (.long q1), .second, .val (.long bv), .second, .val (.long cv), .second, .val (.long dv), .second, .val (.int p5), .val (.int p6), .val (.ref b1), .val (.int (p5 &&& (3 : Int32))), .val (.int (((((p5.toUInt32 >>> ((2 : Int32) &&& 31).toUInt32).toInt32) &&& (3 : Int32)) % ((4 : Int32) - (p5 &&& (3 : Int32)))) + (1 : Int32))), .val (.int ((p5 &&& (3 : Int32)) + (((((p5.toUInt32 >>> ((2 : Int32) &&& 31).toUInt32).toInt32) &&& (3 : Int32)) % ((4 : Int32) - (p5 &&& (3 : Int32)))) + (1 : Int32)))), .val (.int r6)] [(.int (p5 &&& (3 : Int32))), (.int r6), (.ref b1)])) _
      refine XS.iload X7.here hx rfl (hb hby at_128) rfl ?_
      show Steps p.tables e below (T7.setTop (mkF m 130 #[.val (.long q1), .second, .val (.long bv), .second, .val (.long cv), .second, .val (.long dv), .second, .val (.int p5), .val (.int p6), .val (.ref b1), .val (.int (p5 &&& (3 : Int32))), .val (.int (((((p5.toUInt32 >>> ((2 : Int32) &&& 31).toUInt32).toInt32) &&& (3 : Int32)) % ((4 : Int32) - (p5 &&& (3 : Int32)))) + (1 : Int32))), .val (.int ((p5 &&& (3 : Int32)) + (((((p5.toUInt32 >>> ((2 : Int32) &&& 31).toUInt32).toInt32) &&& (3 : Int32)) % ((4 : Int32) - (p5 &&& (3 : Int32)))) + (1 : Int32)))), .val (.int r6)] [(.int ((p5 &&& (3 : Int32)) + (((((p5.toUInt32 >>> ((2 : Int32) &&& 31).toUInt32).toInt32) &&& (3 : Int32)) % ((4 : Int32) - (p5 &&& (3 : Int32)))) + (1 : Int32)))), (.int (p5 &&& (3 : Int32))), (.int r6), (.ref b1)])) _
      refine XS.iconst X7.here hx rfl (hb hby at_130) ?_
      exact kt
    obtain ⟨_, _, ⟨T8, L8, k8, n8⟩, -, X8, ⟨Lc8, hQ8, l8, y8, z8⟩, st8⟩ := Jvm.LawKit.callS X7 hx (y := (⟨"com/example/shardwright/shardwright/fragment/FragmentBytesHeaviestPinLaw", "fits", "([JIIII)Z"⟩ : MethodName)) hown (mvT hZ (hw _ (List.mem_of_getElem? (i := 5) rfl))) (mvT hZ (hw _ (List.mem_of_getElem? (i := 6) rfl))) (mvT hZ (hw _ (List.mem_of_getElem? (i := 7) rfl))) (mvT hZ (hw _ (List.mem_of_getElem? (i := 8) rfl))) (by decide) (backOf (W := 0) (rm2 l Z a0 hw [] b1 r6 (p5 &&& (3 : Int32)) ((p5 &&& (3 : Int32)) + (((((p5.toUInt32 >>> ((2 : Int32) &&& 31).toUInt32).toInt32) &&& (3 : Int32)) % ((4 : Int32) - (p5 &&& (3 : Int32)))) + (1 : Int32))) (1 : Int32) (elemF q1 bv cv dv) h5 n0 Z5 A4 hT) hZ (hw _ (List.mem_of_getElem? (i := 8) rfl)) (hw _ (List.mem_of_getElem? (i := 7) rfl)) (by decide) (by decide)) (g := (mkF m 131 #[.val (.long q1), .second, .val (.long bv), .second, .val (.long cv), .second, .val (.long dv), .second, .val (.int p5), .val (.int p6), .val (.ref b1), .val (.int (p5 &&& (3 : Int32))), .val (.int (((((p5.toUInt32 >>> ((2 : Int32) &&& 31).toUInt32).toInt32) &&& (3 : Int32)) % ((4 : Int32) - (p5 &&& (3 : Int32)))) + (1 : Int32))), .val (.int ((p5 &&& (3 : Int32)) + (((((p5.toUInt32 >>> ((2 : Int32) &&& 31).toUInt32).toInt32) &&& (3 : Int32)) % ((4 : Int32) - (p5 &&& (3 : Int32)))) + (1 : Int32)))), .val (.int r6)] [(.int (1 : Int32)), (.int ((p5 &&& (3 : Int32)) + (((((p5.toUInt32 >>> ((2 : Int32) &&& 31).toUInt32).toInt32) &&& (3 : Int32)) % ((4 : Int32) - (p5 &&& (3 : Int32)))) + (1 : Int32)))), (.int (p5 &&& (3 : Int32))), (.int r6), (.ref b1)])) rfl (by rw [hml]; rfl) (argsL := [(.ref b1), (.int r6), (.int (p5 &&& (3 : Int32))), (.int ((p5 &&& (3 : Int32)) + (((((p5.toUInt32 >>> ((2 : Int32) &&& 31).toUInt32).toInt32) &&& (3 : Int32)) % ((4 : Int32) - (p5 &&& (3 : Int32)))) + (1 : Int32)))), (.int (1 : Int32))]) (rest := []) (lenOf pd_1 rfl) rfl (by show 2 * 0 + _ ≤ _; exact Nat.le_of_eq rfl) (hb hby at_131) (fun _ _ => ⟨rfl, e7, (by decide : 1 + 0 ≤ _), (by decide : 4 + 0 ≤ _)⟩)
    dsimp only [Pt.U, Pt.locs, Pt.cells, Pt.slots] at X8 l8 y8 z8 st8 hQ8
    subst l8 y8 z8
    obtain ⟨rfl, N8q, e8⟩ := hQ8
    have N8 := Fr.app N7 N8q
    refine Goes.step (A := T8.setTop (mkF m 134 #[.val (.long q1), .second, .val (.long bv), .second, .val (.long cv), .second, .val (.long dv), .second, .val (.int p5), .val (.int p6), .val (.ref b1), .val (.int (p5 &&& (3 : Int32))), .val (.int (((((p5.toUInt32 >>> ((2 : Int32) &&& 31).toUInt32).toInt32) &&& (3 : Int32)) % ((4 : Int32) - (p5 &&& (3 : Int32)))) + (1 : Int32))), .val (.int ((p5 &&& (3 : Int32)) + (((((p5.toUInt32 >>> ((2 : Int32) &&& 31).toUInt32).toInt32) &&& (3 : Int32)) % ((4 : Int32) - (p5 &&& (3 : Int32)))) + (1 : Int32)))), .val (.int r6)] [(.int (fitsF (elemF q1 bv cv dv) r6 (p5 &&& (3 : Int32)) ((p5 &&& (3 : Int32)) + (((((p5.toUInt32 >>> ((2 : Int32) &&& 31).toUInt32).toInt32) &&& (3 : Int32)) % ((4 : Int32) - (p5 &&& (3 : Int32)))) + (1 : Int32))) (1 : Int32)))])) (fun t kt => st8 _ kt) ?_
    refine Goes.step (A := T8.setTop (mkF m 137 #[.val (.long q1), .second, .val (.long bv), .second, .val (.long cv), .second, .val (.long dv), .second, .val (.int p5), .val (.int p6), .val (.ref b1), .val (.int (p5 &&& (3 : Int32))), .val (.int (((((p5.toUInt32 >>> ((2 : Int32) &&& 31).toUInt32).toInt32) &&& (3 : Int32)) % ((4 : Int32) - (p5 &&& (3 : Int32)))) + (1 : Int32))), .val (.int ((p5 &&& (3 : Int32)) + (((((p5.toUInt32 >>> ((2 : Int32) &&& 31).toUInt32).toInt32) &&& (3 : Int32)) % ((4 : Int32) - (p5 &&& (3 : Int32)))) + (1 : Int32)))), .val (.int r6)] [])) (fun t kt => XS.ifNo X8.here hx rfl (hb hby at_134) rfl ((if0 _ _).trans (feq (own_fits _ _ _ _ _ hT : ¬ ((fitsF (elemF q1 bv cv dv) r6 (p5 &&& (3 : Int32)) ((p5 &&& (3 : Int32)) + (((((p5.toUInt32 >>> ((2 : Int32) &&& 31).toUInt32).toInt32) &&& (3 : Int32)) % ((4 : Int32) - (p5 &&& (3 : Int32)))) + (1 : Int32))) (1 : Int32)) = (0 : Int32)))).1) kt) ?_
    refine Goes.step (A := T8.setTop (mkF m 146 #[.val (.long q1), .second, .val (.long bv), .second, .val (.long cv), .second, .val (.long dv), .second, .val (.int p5), .val (.int p6), .val (.ref b1), .val (.int (p5 &&& (3 : Int32))), .val (.int (((((p5.toUInt32 >>> ((2 : Int32) &&& 31).toUInt32).toInt32) &&& (3 : Int32)) % ((4 : Int32) - (p5 &&& (3 : Int32)))) + (1 : Int32))), .val (.int ((p5 &&& (3 : Int32)) + (((((p5.toUInt32 >>> ((2 : Int32) &&& 31).toUInt32).toInt32) &&& (3 : Int32)) % ((4 : Int32) - (p5 &&& (3 : Int32)))) + (1 : Int32)))), .val (.int r6)] [(.int (2 : Int32)), (.int ((p5 &&& (3 : Int32)) + (((((p5.toUInt32 >>> ((2 : Int32) &&& 31).toUInt32).toInt32) &&& (3 : Int32)) % ((4 : Int32) - (p5 &&& (3 : Int32)))) + (1 : Int32)))), (.int (p5 &&& (3 : Int32))), (.int r6), (.ref b1)])) (fun t kt => ?_) ?_
    · refine XS.aload X8.here hx rfl (hb hby at_137) rfl rfl ?_
      show Steps p.tables e below (T8.setTop (mkF m 139 #[.val (.long q1), .second, .val (.long bv), .second, .val (.long cv), .second, .val (.long dv), .second, .val (.int p5), .val (.int p6), .val (.ref b1), .val (.int (p5 &&& (3 : Int32))), .val (.int (((((p5.toUInt32 >>> ((2 : Int32) &&& 31).toUInt32).toInt32) &&& (3 : Int32)) % ((4 : Int32) - (p5 &&& (3 : Int32)))) + (1 : Int32))), .val (.int ((p5 &&& (3 : Int32)) + (((((p5.toUInt32 >>> ((2 : Int32) &&& 31).toUInt32).toInt32) &&& (3 : Int32)) % ((4 : Int32) - (p5 &&& (3 : Int32)))) + (1 : Int32)))), .val (.int r6)] [(.ref b1)])) _
      refine XS.iload X8.here hx rfl (hb hby at_139) rfl ?_
      show Steps p.tables e below (T8.setTop (mkF m 141 #[.val (.long q1), .second, .val (.long bv), .second, .val (.long cv), .second, .val (.long dv), .second, .val (.int p5), .val (.int p6), .val (.ref b1), .val (.int (p5 &&& (3 : Int32))), .val (.int (((((p5.toUInt32 >>> ((2 : Int32) &&& 31).toUInt32).toInt32) &&& (3 : Int32)) % ((4 : Int32) - (p5 &&& (3 : Int32)))) + (1 : Int32))), .val (.int ((p5 &&& (3 : Int32)) + (((((p5.toUInt32 >>> ((2 : Int32) &&& 31).toUInt32).toInt32) &&& (3 : Int32)) % ((4 : Int32) - (p5 &&& (3 : Int32)))) + (1 : Int32)))), .val (.int r6)] [(.int r6), (.ref b1)])) _
      refine XS.iload X8.here hx rfl (hb hby at_141) rfl ?_
      show Steps p.tables e below (T8.setTop (mkF m 143 #[.val (.long q1), .second, .val (.long bv), .second, .val (.long cv), .second, .val (.long dv), .second, .val (.int p5), .val (.int p6), .val (.ref b1), .val (.int (p5 &&& (3 : Int32))), .val (.int (((((p5.toUInt32 >>> ((2 : Int32) &&& 31).toUInt32).toInt32) &&& (3 : Int32)) % ((4 : Int32) - (p5 &&& (3 : Int32)))) + (1 : Int32))), .val (.int ((p5 &&& (3 : Int32)) + (((((p5.toUInt32 >>> ((2 : Int32) &&& 31).toUInt32).toInt32) &&& (3 : Int32)) % ((4 : Int32) - (p5 &&& (3 : Int32)))) + (1 : Int32)))), .val (.int r6)] [(.int (p5 &&& (3 : Int32))), (.int r6), (.ref b1)])) _
      refine XS.iload X8.here hx rfl (hb hby at_143) rfl ?_
      show Steps p.tables e below (T8.setTop (mkF m 145 #[.val (.long q1), .second, .val (.long bv), .second, .val (.long cv), .second, .val (.long dv), .second, .val (.int p5), .val (.int p6), .val (.ref b1), .val (.int (p5 &&& (3 : Int32))), .val (.int (((((p5.toUInt32 >>> ((2 : Int32) &&& 31).toUInt32).toInt32) &&& (3 : Int32)) % ((4 : Int32) - (p5 &&& (3 : Int32)))) + (1 : Int32))), .val (.int ((p5 &&& (3 : Int32)) + (((((p5.toUInt32 >>> ((2 : Int32) &&& 31).toUInt32).toInt32) &&& (3 : Int32)) % ((4 : Int32) - (p5 &&& (3 : Int32)))) + (1 : Int32)))), .val (.int r6)] [(.int ((p5 &&& (3 : Int32)) + (((((p5.toUInt32 >>> ((2 : Int32) &&& 31).toUInt32).toInt32) &&& (3 : Int32)) % ((4 : Int32) - (p5 &&& (3 : Int32)))) + (1 : Int32)))), (.int (p5 &&& (3 : Int32))), (.int r6), (.ref b1)])) _
      refine XS.iconst X8.here hx rfl (hb hby at_145) ?_
      exact kt
    obtain ⟨_, _, ⟨T9, L9, k9, n9⟩, -, X9, ⟨Lc9, hQ9, l9, y9, z9⟩, st9⟩ := Jvm.LawKit.callS X8 hx (y := (⟨"com/example/shardwright/shardwright/fragment/FragmentBytesHeaviestPinLaw", "fits", "([JIIII)Z"⟩ : MethodName)) hown (mvT hZ (hw _ (List.mem_of_getElem? (i := 5) rfl))) (mvT hZ (hw _ (List.mem_of_getElem? (i := 6) rfl))) (mvT hZ (hw _ (List.mem_of_getElem? (i := 7) rfl))) (mvT hZ (hw _ (List.mem_of_getElem? (i := 8) rfl))) (by decide) (backOf (W := 0) (rm2 l Z a0 hw [] b1 r6 (p5 &&& (3 : Int32)) ((p5 &&& (3 : Int32)) + (((((p5.toUInt32 >>> ((2 : Int32) &&& 31).toUInt32).toInt32) &&& (3 : Int32)) % ((4 : Int32) - (p5 &&& (3 : Int32)))) + (1 : Int32))) (2 : Int32) (elemF q1 bv cv dv) h5 n0 Z5 A4 hT) hZ (hw _ (List.mem_of_getElem? (i := 8) rfl)) (hw _ (List.mem_of_getElem? (i := 7) rfl)) (by decide) (by decide)) (g := (mkF m 146 #[.val (.long q1), .second, .val (.long bv), .second, .val (.long cv), .second, .val (.long dv), .second, .val (.int p5), .val (.int p6), .val (.ref b1), .val (.int (p5 &&& (3 : Int32))), .val (.int (((((p5.toUInt32 >>> ((2 : Int32) &&& 31).toUInt32).toInt32) &&& (3 : Int32)) % ((4 : Int32) - (p5 &&& (3 : Int32)))) + (1 : Int32))), .val (.int ((p5 &&& (3 : Int32)) + (((((p5.toUInt32 >>> ((2 : Int32) &&& 31).toUInt32).toInt32) &&& (3 : Int32)) % ((4 : Int32) - (p5 &&& (3 : Int32)))) + (1 : Int32)))), .val (.int r6)] [(.int (2 : Int32)), (.int ((p5 &&& (3 : Int32)) + (((((p5.toUInt32 >>> ((2 : Int32) &&& 31).toUInt32).toInt32) &&& (3 : Int32)) % ((4 : Int32) - (p5 &&& (3 : Int32)))) + (1 : Int32)))), (.int (p5 &&& (3 : Int32))), (.int r6), (.ref b1)])) rfl (by rw [hml]; rfl) (argsL := [(.ref b1), (.int r6), (.int (p5 &&& (3 : Int32))), (.int ((p5 &&& (3 : Int32)) + (((((p5.toUInt32 >>> ((2 : Int32) &&& 31).toUInt32).toInt32) &&& (3 : Int32)) % ((4 : Int32) - (p5 &&& (3 : Int32)))) + (1 : Int32)))), (.int (2 : Int32))]) (rest := []) (lenOf pd_1 rfl) rfl (by show 2 * 0 + _ ≤ _; exact Nat.le_of_eq rfl) (hb hby at_146) (fun _ _ => ⟨rfl, e8, (by decide : 1 + 0 ≤ _), (by decide : 4 + 0 ≤ _)⟩)
    dsimp only [Pt.U, Pt.locs, Pt.cells, Pt.slots] at X9 l9 y9 z9 st9 hQ9
    subst l9 y9 z9
    obtain ⟨rfl, N9q, e9⟩ := hQ9
    have N9 := Fr.app N8 N9q
    refine Goes.step (A := T9.setTop (mkF m 149 #[.val (.long q1), .second, .val (.long bv), .second, .val (.long cv), .second, .val (.long dv), .second, .val (.int p5), .val (.int p6), .val (.ref b1), .val (.int (p5 &&& (3 : Int32))), .val (.int (((((p5.toUInt32 >>> ((2 : Int32) &&& 31).toUInt32).toInt32) &&& (3 : Int32)) % ((4 : Int32) - (p5 &&& (3 : Int32)))) + (1 : Int32))), .val (.int ((p5 &&& (3 : Int32)) + (((((p5.toUInt32 >>> ((2 : Int32) &&& 31).toUInt32).toInt32) &&& (3 : Int32)) % ((4 : Int32) - (p5 &&& (3 : Int32)))) + (1 : Int32)))), .val (.int r6)] [(.int (fitsF (elemF q1 bv cv dv) r6 (p5 &&& (3 : Int32)) ((p5 &&& (3 : Int32)) + (((((p5.toUInt32 >>> ((2 : Int32) &&& 31).toUInt32).toInt32) &&& (3 : Int32)) % ((4 : Int32) - (p5 &&& (3 : Int32)))) + (1 : Int32))) (2 : Int32)))])) (fun t kt => st9 _ kt) ?_
    refine Goes.step (A := T9.setTop (mkF m 152 #[.val (.long q1), .second, .val (.long bv), .second, .val (.long cv), .second, .val (.long dv), .second, .val (.int p5), .val (.int p6), .val (.ref b1), .val (.int (p5 &&& (3 : Int32))), .val (.int (((((p5.toUInt32 >>> ((2 : Int32) &&& 31).toUInt32).toInt32) &&& (3 : Int32)) % ((4 : Int32) - (p5 &&& (3 : Int32)))) + (1 : Int32))), .val (.int ((p5 &&& (3 : Int32)) + (((((p5.toUInt32 >>> ((2 : Int32) &&& 31).toUInt32).toInt32) &&& (3 : Int32)) % ((4 : Int32) - (p5 &&& (3 : Int32)))) + (1 : Int32)))), .val (.int r6)] [])) (fun t kt => XS.ifNo X9.here hx rfl (hb hby at_149) rfl ((if0 _ _).trans (feq (own_fits _ _ _ _ _ hT : ¬ ((fitsF (elemF q1 bv cv dv) r6 (p5 &&& (3 : Int32)) ((p5 &&& (3 : Int32)) + (((((p5.toUInt32 >>> ((2 : Int32) &&& 31).toUInt32).toInt32) &&& (3 : Int32)) % ((4 : Int32) - (p5 &&& (3 : Int32)))) + (1 : Int32))) (2 : Int32)) = (0 : Int32)))).1) kt) ?_
    refine Goes.step (A := T9.setTop (mkF m 161 #[.val (.long q1), .second, .val (.long bv), .second, .val (.long cv), .second, .val (.long dv), .second, .val (.int p5), .val (.int p6), .val (.ref b1), .val (.int (p5 &&& (3 : Int32))), .val (.int (((((p5.toUInt32 >>> ((2 : Int32) &&& 31).toUInt32).toInt32) &&& (3 : Int32)) % ((4 : Int32) - (p5 &&& (3 : Int32)))) + (1 : Int32))), .val (.int ((p5 &&& (3 : Int32)) + (((((p5.toUInt32 >>> ((2 : Int32) &&& 31).toUInt32).toInt32) &&& (3 : Int32)) % ((4 : Int32) - (p5 &&& (3 : Int32)))) + (1 : Int32)))), .val (.int r6)] [(.int (3 : Int32)), (.int ((p5 &&& (3 : Int32)) + (((((p5.toUInt32 >>> ((2 : Int32) &&& 31).toUInt32).toInt32) &&& (3 : Int32)) % ((4 : Int32) - (p5 &&& (3 : Int32)))) + (1 : Int32)))), (.int (p5 &&& (3 : Int32))), (.int r6), (.ref b1)])) (fun t kt => ?_) ?_
    · refine XS.aload X9.here hx rfl (hb hby at_152) rfl rfl ?_
      show Steps p.tables e below (T9.setTop (mkF m 154 #[.val (.long q1), .second, .val (.long bv), .second, .val (.long cv), .second, .val (.long dv), .second, .val (.int p5), .val (.int p6), .val (.ref b1), .val (.int (p5 &&& (3 : Int32))), .val (.int (((((p5.toUInt32 >>> ((2 : Int32) &&& 31).toUInt32).toInt32) &&& (3 : Int32)) % ((4 : Int32) - (p5 &&& (3 : Int32)))) + (1 : Int32))), .val (.int ((p5 &&& (3 : Int32)) + (((((p5.toUInt32 >>> ((2 : Int32) &&& 31).toUInt32).toInt32) &&& (3 : Int32)) % ((4 : Int32) - (p5 &&& (3 : Int32)))) + (1 : Int32)))), .val (.int r6)] [(.ref b1)])) _
      refine XS.iload X9.here hx rfl (hb hby at_154) rfl ?_
      show Steps p.tables e below (T9.setTop (mkF m 156 #[.val (.long q1), .second, .val (.long bv), .second, .val (.long cv), .second, .val (.long dv), .second, .val (.int p5), .val (.int p6), .val (.ref b1), .val (.int (p5 &&& (3 : Int32))), .val (.int (((((p5.toUInt32 >>> ((2 : Int32) &&& 31).toUInt32).toInt32) &&& (3 : Int32)) % ((4 : Int32) - (p5 &&& (3 : Int32)))) + (1 : Int32))), .val (.int ((p5 &&& (3 : Int32)) + (((((p5.toUInt32 >>> ((2 : Int32) &&& 31).toUInt32).toInt32) &&& (3 : Int32)) % ((4 : Int32) - (p5 &&& (3 : Int32)))) + (1 : Int32)))), .val (.int r6)] [(.int r6), (.ref b1)])) _
      refine XS.iload X9.here hx rfl (hb hby at_156) rfl ?_
      show Steps p.tables e below (T9.setTop (mkF m 158 #[.val (.long q1), .second, .val (.long bv), .second, .val (.long cv), .second, .val (.long dv), .second, .val (.int p5), .val (.int p6), .val (.ref b1), .val (.int (p5 &&& (3 : Int32))), .val (.int (((((p5.toUInt32 >>> ((2 : Int32) &&& 31).toUInt32).toInt32) &&& (3 : Int32)) % ((4 : Int32) - (p5 &&& (3 : Int32)))) + (1 : Int32))), .val (.int ((p5 &&& (3 : Int32)) + (((((p5.toUInt32 >>> ((2 : Int32) &&& 31).toUInt32).toInt32) &&& (3 : Int32)) % ((4 : Int32) - (p5 &&& (3 : Int32)))) + (1 : Int32)))), .val (.int r6)] [(.int (p5 &&& (3 : Int32))), (.int r6), (.ref b1)])) _
      refine XS.iload X9.here hx rfl (hb hby at_158) rfl ?_
      show Steps p.tables e below (T9.setTop (mkF m 160 #[.val (.long q1), .second, .val (.long bv), .second, .val (.long cv), .second, .val (.long dv), .second, .val (.int p5), .val (.int p6), .val (.ref b1), .val (.int (p5 &&& (3 : Int32))), .val (.int (((((p5.toUInt32 >>> ((2 : Int32) &&& 31).toUInt32).toInt32) &&& (3 : Int32)) % ((4 : Int32) - (p5 &&& (3 : Int32)))) + (1 : Int32))), .val (.int ((p5 &&& (3 : Int32)) + (((((p5.toUInt32 >>> ((2 : Int32) &&& 31).toUInt32).toInt32) &&& (3 : Int32)) % ((4 : Int32) - (p5 &&& (3 : Int32)))) + (1 : Int32)))), .val (.int r6)] [(.int ((p5 &&& (3 : Int32)) + (((((p5.toUInt32 >>> ((2 : Int32) &&& 31).toUInt32).toInt32) &&& (3 : Int32)) % ((4 : Int32) - (p5 &&& (3 : Int32)))) + (1 : Int32)))), (.int (p5 &&& (3 : Int32))), (.int r6), (.ref b1)])) _
      refine XS.iconst X9.here hx rfl (hb hby at_160) ?_
      exact kt
    obtain ⟨_, _, ⟨T10, L10, k10, n10⟩, -, X10, ⟨Lc10, hQ10, l10, y10, z10⟩, st10⟩ := Jvm.LawKit.callS X9 hx (y := (⟨"com/example/shardwright/shardwright/fragment/FragmentBytesHeaviestPinLaw", "fits", "([JIIII)Z"⟩ : MethodName)) hown (mvT hZ (hw _ (List.mem_of_getElem? (i := 5) rfl))) (mvT hZ (hw _ (List.mem_of_getElem? (i := 6) rfl))) (mvT hZ (hw _ (List.mem_of_getElem? (i := 7) rfl))) (mvT hZ (hw _ (List.mem_of_getElem? (i := 8) rfl))) (by decide) (backOf (W := 0) (rm2 l Z a0 hw [] b1 r6 (p5 &&& (3 : Int32)) ((p5 &&& (3 : Int32)) + (((((p5.toUInt32 >>> ((2 : Int32) &&& 31).toUInt32).toInt32) &&& (3 : Int32)) % ((4 : Int32) - (p5 &&& (3 : Int32)))) + (1 : Int32))) (3 : Int32) (elemF q1 bv cv dv) h5 n0 Z5 A4 hT) hZ (hw _ (List.mem_of_getElem? (i := 8) rfl)) (hw _ (List.mem_of_getElem? (i := 7) rfl)) (by decide) (by decide)) (g := (mkF m 161 #[.val (.long q1), .second, .val (.long bv), .second, .val (.long cv), .second, .val (.long dv), .second, .val (.int p5), .val (.int p6), .val (.ref b1), .val (.int (p5 &&& (3 : Int32))), .val (.int (((((p5.toUInt32 >>> ((2 : Int32) &&& 31).toUInt32).toInt32) &&& (3 : Int32)) % ((4 : Int32) - (p5 &&& (3 : Int32)))) + (1 : Int32))), .val (.int ((p5 &&& (3 : Int32)) + (((((p5.toUInt32 >>> ((2 : Int32) &&& 31).toUInt32).toInt32) &&& (3 : Int32)) % ((4 : Int32) - (p5 &&& (3 : Int32)))) + (1 : Int32)))), .val (.int r6)] [(.int (3 : Int32)), (.int ((p5 &&& (3 : Int32)) + (((((p5.toUInt32 >>> ((2 : Int32) &&& 31).toUInt32).toInt32) &&& (3 : Int32)) % ((4 : Int32) - (p5 &&& (3 : Int32)))) + (1 : Int32)))), (.int (p5 &&& (3 : Int32))), (.int r6), (.ref b1)])) rfl (by rw [hml]; rfl) (argsL := [(.ref b1), (.int r6), (.int (p5 &&& (3 : Int32))), (.int ((p5 &&& (3 : Int32)) + (((((p5.toUInt32 >>> ((2 : Int32) &&& 31).toUInt32).toInt32) &&& (3 : Int32)) % ((4 : Int32) - (p5 &&& (3 : Int32)))) + (1 : Int32)))), (.int (3 : Int32))]) (rest := []) (lenOf pd_1 rfl) rfl (by show 2 * 0 + _ ≤ _; exact Nat.le_of_eq rfl) (hb hby at_161) (fun _ _ => ⟨rfl, e9, (by decide : 1 + 0 ≤ _), (by decide : 4 + 0 ≤ _)⟩)
    dsimp only [Pt.U, Pt.locs, Pt.cells, Pt.slots] at X10 l10 y10 z10 st10 hQ10
    subst l10 y10 z10
    obtain ⟨rfl, N10q, e10⟩ := hQ10
    have N10 := Fr.app N9 N10q
    refine Goes.step (A := T10.setTop (mkF m 164 #[.val (.long q1), .second, .val (.long bv), .second, .val (.long cv), .second, .val (.long dv), .second, .val (.int p5), .val (.int p6), .val (.ref b1), .val (.int (p5 &&& (3 : Int32))), .val (.int (((((p5.toUInt32 >>> ((2 : Int32) &&& 31).toUInt32).toInt32) &&& (3 : Int32)) % ((4 : Int32) - (p5 &&& (3 : Int32)))) + (1 : Int32))), .val (.int ((p5 &&& (3 : Int32)) + (((((p5.toUInt32 >>> ((2 : Int32) &&& 31).toUInt32).toInt32) &&& (3 : Int32)) % ((4 : Int32) - (p5 &&& (3 : Int32)))) + (1 : Int32)))), .val (.int r6)] [(.int (fitsF (elemF q1 bv cv dv) r6 (p5 &&& (3 : Int32)) ((p5 &&& (3 : Int32)) + (((((p5.toUInt32 >>> ((2 : Int32) &&& 31).toUInt32).toInt32) &&& (3 : Int32)) % ((4 : Int32) - (p5 &&& (3 : Int32)))) + (1 : Int32))) (3 : Int32)))])) (fun t kt => st10 _ kt) ?_
    refine Goes.step (A := T10.setTop (mkF m 167 #[.val (.long q1), .second, .val (.long bv), .second, .val (.long cv), .second, .val (.long dv), .second, .val (.int p5), .val (.int p6), .val (.ref b1), .val (.int (p5 &&& (3 : Int32))), .val (.int (((((p5.toUInt32 >>> ((2 : Int32) &&& 31).toUInt32).toInt32) &&& (3 : Int32)) % ((4 : Int32) - (p5 &&& (3 : Int32)))) + (1 : Int32))), .val (.int ((p5 &&& (3 : Int32)) + (((((p5.toUInt32 >>> ((2 : Int32) &&& 31).toUInt32).toInt32) &&& (3 : Int32)) % ((4 : Int32) - (p5 &&& (3 : Int32)))) + (1 : Int32)))), .val (.int r6)] [])) (fun t kt => XS.ifNo X10.here hx rfl (hb hby at_164) rfl ((if0 _ _).trans (feq (own_fits _ _ _ _ _ hT : ¬ ((fitsF (elemF q1 bv cv dv) r6 (p5 &&& (3 : Int32)) ((p5 &&& (3 : Int32)) + (((((p5.toUInt32 >>> ((2 : Int32) &&& 31).toUInt32).toInt32) &&& (3 : Int32)) % ((4 : Int32) - (p5 &&& (3 : Int32)))) + (1 : Int32))) (3 : Int32)) = (0 : Int32)))).1) kt) ?_
    refine Goes.step (A := T10.setTop (mkF m 172 #[.val (.long q1), .second, .val (.long bv), .second, .val (.long cv), .second, .val (.long dv), .second, .val (.int p5), .val (.int p6), .val (.ref b1), .val (.int (p5 &&& (3 : Int32))), .val (.int (((((p5.toUInt32 >>> ((2 : Int32) &&& 31).toUInt32).toInt32) &&& (3 : Int32)) % ((4 : Int32) - (p5 &&& (3 : Int32)))) + (1 : Int32))), .val (.int ((p5 &&& (3 : Int32)) + (((((p5.toUInt32 >>> ((2 : Int32) &&& 31).toUInt32).toInt32) &&& (3 : Int32)) % ((4 : Int32) - (p5 &&& (3 : Int32)))) + (1 : Int32)))), .val (.int r6)] [(.int (1 : Int32))])) (fun t kt => ?_) ?_
    · refine XS.iconst X10.here hx rfl (hb hby at_167) ?_
      show Steps p.tables e below (T10.setTop (mkF m 168 #[.val (.long q1), .second, .val (.long bv), .second, .val (.long cv), .second, .val (.long dv), .second, .val (.int p5), .val (.int p6), .val (.ref b1), .val (.int (p5 &&& (3 : Int32))), .val (.int (((((p5.toUInt32 >>> ((2 : Int32) &&& 31).toUInt32).toInt32) &&& (3 : Int32)) % ((4 : Int32) - (p5 &&& (3 : Int32)))) + (1 : Int32))), .val (.int ((p5 &&& (3 : Int32)) + (((((p5.toUInt32 >>> ((2 : Int32) &&& 31).toUInt32).toInt32) &&& (3 : Int32)) % ((4 : Int32) - (p5 &&& (3 : Int32)))) + (1 : Int32)))), .val (.int r6)] [(.int (1 : Int32))])) _
      refine XS.goto X10.here hx rfl (pc0 := 168) (pc' := 172) rfl (hb hby at_168) (by decide) (by decide) ?_
      exact kt
    obtain ⟨fs, hr, hrun, hended, hW, hsame⟩ := X10.leave (v := some (.int (1 : Int32))) (fun h => by rw [Bd.returns] at h; cases h)
    refine Goes.done ?_ hrun hended ⟨_, _, rfl, ?_, ⟨_, rfl⟩, hW, hsame.mono (by decide) (by decide)⟩
    · exact retN X10 hx (t := .boolean) Bd.returns (by simp) (hb hby at_172) hr
    · show Q0 Z q1 q2 q3 q4 p5 p6 h0 n0 _ T10.heap _
      rw [e10]
      exact ⟨rfl, N10⟩
  refine Goes.step (A := s₁.setTop (mkF m 4 #[.val (.long q1), .second, .val (.long q2), .second, .val (.long q3), .second, .val (.long q4), .second, .val (.int p5), .val (.int p6), .unset, .unset, .unset, .unset, .unset] [(.int (p6 &&& (1 : Int32)))])) (fun t kt => ?_) ?_
  · refine XS.iload X0.here hx rfl (hb hby at_0) rfl ?_
    show Steps p.tables e below (s₁.setTop (mkF m 2 #[.val (.long q1), .second, .val (.long q2), .second, .val (.long q3), .second, .val (.long q4), .second, .val (.int p5), .val (.int p6), .unset, .unset, .unset, .unset, .unset] [(.int p6)])) _
    refine XS.iconst X0.here hx rfl (hb hby at_2) ?_
    show Steps p.tables e below (s₁.setTop (mkF m 3 #[.val (.long q1), .second, .val (.long q2), .second, .val (.long q3), .second, .val (.long q4), .second, .val (.int p5), .val (.int p6), .unset, .unset, .unset, .unset, .unset] [(.int (1 : Int32)), (.int p6)])) _
    refine XS.iand X0.here hx rfl (hb hby at_3) rfl ?_
    exact kt
  by_cases hc4_7 : (p6 &&& (1 : Int32)) = (0 : Int32)
  · refine Goes.step (A := s₁.setTop (mkF m 9 #[.val (.long q1), .second, .val (.long q2), .second, .val (.long q3), .second, .val (.long q4), .second, .val (.int p5), .val (.int p6), .unset, .unset, .unset, .unset, .unset] [])) (fun t kt => XS.ifYes X0.here hx rfl (pc0 := 4) (pc' := 9) rfl (hb hby at_4) rfl ((if0 _ _).trans (teq hc4_7).1) (by decide) (by decide) kt) ?_
    refine Goes.step (A := s₁.setTop (mkF m 13 #[.val (.long q1), .second, .val (.long q2), .second, .val (.long q3), .second, .val (.long q4), .second, .val (.int p5), .val (.int p6), .unset, .unset, .unset, .unset, .unset] [(.int (p6 &&& (2 : Int32)))])) (fun t kt => ?_) ?_
    · refine XS.iload X0.here hx rfl (hb hby at_9) rfl ?_
      show Steps p.tables e below (s₁.setTop (mkF m 11 #[.val (.long q1), .second, .val (.long q2), .second, .val (.long q3), .second, .val (.long q4), .second, .val (.int p5), .val (.int p6), .unset, .unset, .unset, .unset, .unset] [(.int p6)])) _
      refine XS.iconst X0.here hx rfl (hb hby at_11) ?_
      show Steps p.tables e below (s₁.setTop (mkF m 12 #[.val (.long q1), .second, .val (.long q2), .second, .val (.long q3), .second, .val (.long q4), .second, .val (.int p5), .val (.int p6), .unset, .unset, .unset, .unset, .unset] [(.int (2 : Int32)), (.int p6)])) _
      refine XS.iand X0.here hx rfl (hb hby at_12) rfl ?_
      exact kt
    by_cases hc13_8 : (p6 &&& (2 : Int32)) = (0 : Int32)
    · refine Goes.step (A := s₁.setTop (mkF m 19 #[.val (.long q1), .second, .val (.long q2), .second, .val (.long q3), .second, .val (.long q4), .second, .val (.int p5), .val (.int p6), .unset, .unset, .unset, .unset, .unset] [])) (fun t kt => XS.ifYes X0.here hx rfl (pc0 := 13) (pc' := 19) rfl (hb hby at_13) rfl ((if0 _ _).trans (teq hc13_8).1) (by decide) (by decide) kt) ?_
      refine Goes.step (A := s₁.setTop (mkF m 23 #[.val (.long q1), .second, .val (.long q2), .second, .val (.long q3), .second, .val (.long q4), .second, .val (.int p5), .val (.int p6), .unset, .unset, .unset, .unset, .unset] [(.int (p6 &&& (4 : Int32)))])) (fun t kt => ?_) ?_
      · refine XS.iload X0.here hx rfl (hb hby at_19) rfl ?_
        show Steps p.tables e below (s₁.setTop (mkF m 21 #[.val (.long q1), .second, .val (.long q2), .second, .val (.long q3), .second, .val (.long q4), .second, .val (.int p5), .val (.int p6), .unset, .unset, .unset, .unset, .unset] [(.int p6)])) _
        refine XS.iconst X0.here hx rfl (hb hby at_21) ?_
        show Steps p.tables e below (s₁.setTop (mkF m 22 #[.val (.long q1), .second, .val (.long q2), .second, .val (.long q3), .second, .val (.long q4), .second, .val (.int p5), .val (.int p6), .unset, .unset, .unset, .unset, .unset] [(.int (4 : Int32)), (.int p6)])) _
        refine XS.iand X0.here hx rfl (hb hby at_22) rfl ?_
        exact kt
      by_cases hc23_9 : (p6 &&& (4 : Int32)) = (0 : Int32)
      · refine Goes.step (A := s₁.setTop (mkF m 29 #[.val (.long q1), .second, .val (.long q2), .second, .val (.long q3), .second, .val (.long q4), .second, .val (.int p5), .val (.int p6), .unset, .unset, .unset, .unset, .unset] [])) (fun t kt => XS.ifYes X0.here hx rfl (pc0 := 23) (pc' := 29) rfl (hb hby at_23) rfl ((if0 _ _).trans (teq hc23_9).1) (by decide) (by decide) kt) ?_
        exact cont _ _ _
      · refine Goes.step (A := s₁.setTop (mkF m 26 #[.val (.long q1), .second, .val (.long q2), .second, .val (.long q3), .second, .val (.long q4), .second, .val (.int p5), .val (.int p6), .unset, .unset, .unset, .unset, .unset] [])) (fun t kt => XS.ifNo X0.here hx rfl (hb hby at_23) rfl ((if0 _ _).trans (feq hc23_9).1) kt) ?_
        refine Goes.step (A := s₁.setTop (mkF m 29 #[.val (.long q1), .second, .val (.long q2), .second, .val (.long q3), .second, .val (.long q1), .second, .val (.int p5), .val (.int p6), .unset, .unset, .unset, .unset, .unset] [])) (fun t kt => ?_) ?_
        · refine XS.lloadN X0.here hx rfl (hb hby at_26) rfl ?_
          show Steps p.tables e below (s₁.setTop (mkF m 27 #[.val (.long q1), .second, .val (.long q2), .second, .val (.long q3), .second, .val (.long q4), .second, .val (.int p5), .val (.int p6), .unset, .unset, .unset, .unset, .unset] [(.long q1)])) _
          refine XS.lstore X0.here hx rfl (hb hby at_27) rfl (l' := #[.val (.long q1), .second, .val (.long q2), .second, .val (.long q3), .second, .val (.long q1), .second, .val (.int p5), .val (.int p6), .unset, .unset, .unset, .unset, .unset]) rfl ?_
          exact kt
        exact cont _ _ _
    · refine Goes.step (A := s₁.setTop (mkF m 16 #[.val (.long q1), .second, .val (.long q2), .second, .val (.long q3), .second, .val (.long q4), .second, .val (.int p5), .val (.int p6), .unset, .unset, .unset, .unset, .unset] [])) (fun t kt => XS.ifNo X0.here hx rfl (hb hby at_13) rfl ((if0 _ _).trans (feq hc13_8).1) kt) ?_
      refine Goes.step (A := s₁.setTop (mkF m 23 #[.val (.long q1), .second, .val (.long q2), .second, .val (.long q2), .second, .val (.long q4), .second, .val (.int p5), .val (.int p6), .unset, .unset, .unset, .unset, .unset] [(.int (p6 &&& (4 : Int32)))])) (fun t kt => ?_) ?_
      · refine XS.lloadN X0.here hx rfl (hb hby at_16) rfl ?_
        show Steps p.tables e below (s₁.setTop (mkF m 17 #[.val (.long q1), .second, .val (.long q2), .second, .val (.long q3), .second, .val (.long q4), .second, .val (.int p5), .val (.int p6), .unset, .unset, .unset, .unset, .unset] [(.long q2)])) _
        refine XS.lstore X0.here hx rfl (hb hby at_17) rfl (l' := #[.val (.long q1), .second, .val (.long q2), .second, .val (.long q2), .second, .val (.long q4), .second, .val (.int p5), .val (.int p6), .unset, .unset, .unset, .unset, .unset]) rfl ?_
        show Steps p.tables e below (s₁.setTop (mkF m 19 #[.val (.long q1), .second, .val (.long q2), .second, .val (.long q2), .second, .val (.long q4), .second, .val (.int p5), .val (.int p6), .unset, .unset, .unset, .unset, .unset] [])) _
        refine XS.iload X0.here hx rfl (hb hby at_19) rfl ?_
        show Steps p.tables e below (s₁.setTop (mkF m 21 #[.val (.long q1), .second, .val (.long q2), .second, .val (.long q2), .second, .val (.long q4), .second, .val (.int p5), .val (.int p6), .unset, .unset, .unset, .unset, .unset] [(.int p6)])) _
        refine XS.iconst X0.here hx rfl (hb hby at_21) ?_
        show Steps p.tables e below (s₁.setTop (mkF m 22 #[.val (.long q1), .second, .val (.long q2), .second, .val (.long q2), .second, .val (.long q4), .second, .val (.int p5), .val (.int p6), .unset, .unset, .unset, .unset, .unset] [(.int (4 : Int32)), (.int p6)])) _
        refine XS.iand X0.here hx rfl (hb hby at_22) rfl ?_
        exact kt
      by_cases hc23_10 : (p6 &&& (4 : Int32)) = (0 : Int32)
      · refine Goes.step (A := s₁.setTop (mkF m 29 #[.val (.long q1), .second, .val (.long q2), .second, .val (.long q2), .second, .val (.long q4), .second, .val (.int p5), .val (.int p6), .unset, .unset, .unset, .unset, .unset] [])) (fun t kt => XS.ifYes X0.here hx rfl (pc0 := 23) (pc' := 29) rfl (hb hby at_23) rfl ((if0 _ _).trans (teq hc23_10).1) (by decide) (by decide) kt) ?_
        exact cont _ _ _
      · refine Goes.step (A := s₁.setTop (mkF m 26 #[.val (.long q1), .second, .val (.long q2), .second, .val (.long q2), .second, .val (.long q4), .second, .val (.int p5), .val (.int p6), .unset, .unset, .unset, .unset, .unset] [])) (fun t kt => XS.ifNo X0.here hx rfl (hb hby at_23) rfl ((if0 _ _).trans (feq hc23_10).1) kt) ?_
        refine Goes.step (A := s₁.setTop (mkF m 29 #[.val (.long q1), .second, .val (.long q2), .second, .val (.long q2), .second, .val (.long q1), .second, .val (.int p5), .val (.int p6), .unset, .unset, .unset, .unset, .unset] [])) (fun t kt => ?_) ?_
        · refine XS.lloadN X0.here hx rfl (hb hby at_26) rfl ?_
          show Steps p.tables e below (s₁.setTop (mkF m 27 #[.val (.long q1), .second, .val (.long q2), .second, .val (.long q2), .second, .val (.long q4), .second, .val (.int p5), .val (.int p6), .unset, .unset, .unset, .unset, .unset] [(.long q1)])) _
          refine XS.lstore X0.here hx rfl (hb hby at_27) rfl (l' := #[.val (.long q1), .second, .val (.long q2), .second, .val (.long q2), .second, .val (.long q1), .second, .val (.int p5), .val (.int p6), .unset, .unset, .unset, .unset, .unset]) rfl ?_
          exact kt
        exact cont _ _ _
  · refine Goes.step (A := s₁.setTop (mkF m 7 #[.val (.long q1), .second, .val (.long q2), .second, .val (.long q3), .second, .val (.long q4), .second, .val (.int p5), .val (.int p6), .unset, .unset, .unset, .unset, .unset] [])) (fun t kt => XS.ifNo X0.here hx rfl (hb hby at_4) rfl ((if0 _ _).trans (feq hc4_7).1) kt) ?_
    refine Goes.step (A := s₁.setTop (mkF m 13 #[.val (.long q1), .second, .val (.long q1), .second, .val (.long q3), .second, .val (.long q4), .second, .val (.int p5), .val (.int p6), .unset, .unset, .unset, .unset, .unset] [(.int (p6 &&& (2 : Int32)))])) (fun t kt => ?_) ?_
    · refine XS.lloadN X0.here hx rfl (hb hby at_7) rfl ?_
      show Steps p.tables e below (s₁.setTop (mkF m 8 #[.val (.long q1), .second, .val (.long q2), .second, .val (.long q3), .second, .val (.long q4), .second, .val (.int p5), .val (.int p6), .unset, .unset, .unset, .unset, .unset] [(.long q1)])) _
      refine XS.lstoreN X0.here hx rfl (hb hby at_8) rfl (l' := #[.val (.long q1), .second, .val (.long q1), .second, .val (.long q3), .second, .val (.long q4), .second, .val (.int p5), .val (.int p6), .unset, .unset, .unset, .unset, .unset]) rfl ?_
      show Steps p.tables e below (s₁.setTop (mkF m 9 #[.val (.long q1), .second, .val (.long q1), .second, .val (.long q3), .second, .val (.long q4), .second, .val (.int p5), .val (.int p6), .unset, .unset, .unset, .unset, .unset] [])) _
      refine XS.iload X0.here hx rfl (hb hby at_9) rfl ?_
      show Steps p.tables e below (s₁.setTop (mkF m 11 #[.val (.long q1), .second, .val (.long q1), .second, .val (.long q3), .second, .val (.long q4), .second, .val (.int p5), .val (.int p6), .unset, .unset, .unset, .unset, .unset] [(.int p6)])) _
      refine XS.iconst X0.here hx rfl (hb hby at_11) ?_
      show Steps p.tables e below (s₁.setTop (mkF m 12 #[.val (.long q1), .second, .val (.long q1), .second, .val (.long q3), .second, .val (.long q4), .second, .val (.int p5), .val (.int p6), .unset, .unset, .unset, .unset, .unset] [(.int (2 : Int32)), (.int p6)])) _
      refine XS.iand X0.here hx rfl (hb hby at_12) rfl ?_
      exact kt
    by_cases hc13_11 : (p6 &&& (2 : Int32)) = (0 : Int32)
    · refine Goes.step (A := s₁.setTop (mkF m 19 #[.val (.long q1), .second, .val (.long q1), .second, .val (.long q3), .second, .val (.long q4), .second, .val (.int p5), .val (.int p6), .unset, .unset, .unset, .unset, .unset] [])) (fun t kt => XS.ifYes X0.here hx rfl (pc0 := 13) (pc' := 19) rfl (hb hby at_13) rfl ((if0 _ _).trans (teq hc13_11).1) (by decide) (by decide) kt) ?_
      refine Goes.step (A := s₁.setTop (mkF m 23 #[.val (.long q1), .second, .val (.long q1), .second, .val (.long q3), .second, .val (.long q4), .second, .val (.int p5), .val (.int p6), .unset, .unset, .unset, .unset, .unset] [(.int (p6 &&& (4 : Int32)))])) (fun t kt => ?_) ?_
      · refine XS.iload X0.here hx rfl (hb hby at_19) rfl ?_
        show Steps p.tables e below (s₁.setTop (mkF m 21 #[.val (.long q1), .second, .val (.long q1), .second, .val (.long q3), .second, .val (.long q4), .second, .val (.int p5), .val (.int p6), .unset, .unset, .unset, .unset, .unset] [(.int p6)])) _
        refine XS.iconst X0.here hx rfl (hb hby at_21) ?_
        show Steps p.tables e below (s₁.setTop (mkF m 22 #[.val (.long q1), .second, .val (.long q1), .second, .val (.long q3), .second, .val (.long q4), .second, .val (.int p5), .val (.int p6), .unset, .unset, .unset, .unset, .unset] [(.int (4 : Int32)), (.int p6)])) _
        refine XS.iand X0.here hx rfl (hb hby at_22) rfl ?_
        exact kt
      by_cases hc23_12 : (p6 &&& (4 : Int32)) = (0 : Int32)
      · refine Goes.step (A := s₁.setTop (mkF m 29 #[.val (.long q1), .second, .val (.long q1), .second, .val (.long q3), .second, .val (.long q4), .second, .val (.int p5), .val (.int p6), .unset, .unset, .unset, .unset, .unset] [])) (fun t kt => XS.ifYes X0.here hx rfl (pc0 := 23) (pc' := 29) rfl (hb hby at_23) rfl ((if0 _ _).trans (teq hc23_12).1) (by decide) (by decide) kt) ?_
        exact cont _ _ _
      · refine Goes.step (A := s₁.setTop (mkF m 26 #[.val (.long q1), .second, .val (.long q1), .second, .val (.long q3), .second, .val (.long q4), .second, .val (.int p5), .val (.int p6), .unset, .unset, .unset, .unset, .unset] [])) (fun t kt => XS.ifNo X0.here hx rfl (hb hby at_23) rfl ((if0 _ _).trans (feq hc23_12).1) kt) ?_
        refine Goes.step (A := s₁.setTop (mkF m 29 #[.val (.long q1), .second, .val (.long q1), .second, .val (.long q3), .second, .val (.long q1), .second, .val (.int p5), .val (.int p6), .unset, .unset, .unset, .unset, .unset] [])) (fun t kt => ?_) ?_
        · refine XS.lloadN X0.here hx rfl (hb hby at_26) rfl ?_
          show Steps p.tables e below (s₁.setTop (mkF m 27 #[.val (.long q1), .second, .val (.long q1), .second, .val (.long q3), .second, .val (.long q4), .second, .val (.int p5), .val (.int p6), .unset, .unset, .unset, .unset, .unset] [(.long q1)])) _
          refine XS.lstore X0.here hx rfl (hb hby at_27) rfl (l' := #[.val (.long q1), .second, .val (.long q1), .second, .val (.long q3), .second, .val (.long q1), .second, .val (.int p5), .val (.int p6), .unset, .unset, .unset, .unset, .unset]) rfl ?_
          exact kt
        exact cont _ _ _
    · refine Goes.step (A := s₁.setTop (mkF m 16 #[.val (.long q1), .second, .val (.long q1), .second, .val (.long q3), .second, .val (.long q4), .second, .val (.int p5), .val (.int p6), .unset, .unset, .unset, .unset, .unset] [])) (fun t kt => XS.ifNo X0.here hx rfl (hb hby at_13) rfl ((if0 _ _).trans (feq hc13_11).1) kt) ?_
      refine Goes.step (A := s₁.setTop (mkF m 23 #[.val (.long q1), .second, .val (.long q1), .second, .val (.long q1), .second, .val (.long q4), .second, .val (.int p5), .val (.int p6), .unset, .unset, .unset, .unset, .unset] [(.int (p6 &&& (4 : Int32)))])) (fun t kt => ?_) ?_
      · refine XS.lloadN X0.here hx rfl (hb hby at_16) rfl ?_
        show Steps p.tables e below (s₁.setTop (mkF m 17 #[.val (.long q1), .second, .val (.long q1), .second, .val (.long q3), .second, .val (.long q4), .second, .val (.int p5), .val (.int p6), .unset, .unset, .unset, .unset, .unset] [(.long q1)])) _
        refine XS.lstore X0.here hx rfl (hb hby at_17) rfl (l' := #[.val (.long q1), .second, .val (.long q1), .second, .val (.long q1), .second, .val (.long q4), .second, .val (.int p5), .val (.int p6), .unset, .unset, .unset, .unset, .unset]) rfl ?_
        show Steps p.tables e below (s₁.setTop (mkF m 19 #[.val (.long q1), .second, .val (.long q1), .second, .val (.long q1), .second, .val (.long q4), .second, .val (.int p5), .val (.int p6), .unset, .unset, .unset, .unset, .unset] [])) _
        refine XS.iload X0.here hx rfl (hb hby at_19) rfl ?_
        show Steps p.tables e below (s₁.setTop (mkF m 21 #[.val (.long q1), .second, .val (.long q1), .second, .val (.long q1), .second, .val (.long q4), .second, .val (.int p5), .val (.int p6), .unset, .unset, .unset, .unset, .unset] [(.int p6)])) _
        refine XS.iconst X0.here hx rfl (hb hby at_21) ?_
        show Steps p.tables e below (s₁.setTop (mkF m 22 #[.val (.long q1), .second, .val (.long q1), .second, .val (.long q1), .second, .val (.long q4), .second, .val (.int p5), .val (.int p6), .unset, .unset, .unset, .unset, .unset] [(.int (4 : Int32)), (.int p6)])) _
        refine XS.iand X0.here hx rfl (hb hby at_22) rfl ?_
        exact kt
      by_cases hc23_13 : (p6 &&& (4 : Int32)) = (0 : Int32)
      · refine Goes.step (A := s₁.setTop (mkF m 29 #[.val (.long q1), .second, .val (.long q1), .second, .val (.long q1), .second, .val (.long q4), .second, .val (.int p5), .val (.int p6), .unset, .unset, .unset, .unset, .unset] [])) (fun t kt => XS.ifYes X0.here hx rfl (pc0 := 23) (pc' := 29) rfl (hb hby at_23) rfl ((if0 _ _).trans (teq hc23_13).1) (by decide) (by decide) kt) ?_
        exact cont _ _ _
      · refine Goes.step (A := s₁.setTop (mkF m 26 #[.val (.long q1), .second, .val (.long q1), .second, .val (.long q1), .second, .val (.long q4), .second, .val (.int p5), .val (.int p6), .unset, .unset, .unset, .unset, .unset] [])) (fun t kt => XS.ifNo X0.here hx rfl (hb hby at_23) rfl ((if0 _ _).trans (feq hc23_13).1) kt) ?_
        refine Goes.step (A := s₁.setTop (mkF m 29 #[.val (.long q1), .second, .val (.long q1), .second, .val (.long q1), .second, .val (.long q1), .second, .val (.int p5), .val (.int p6), .unset, .unset, .unset, .unset, .unset] [])) (fun t kt => ?_) ?_
        · refine XS.lloadN X0.here hx rfl (hb hby at_26) rfl ?_
          show Steps p.tables e below (s₁.setTop (mkF m 27 #[.val (.long q1), .second, .val (.long q1), .second, .val (.long q1), .second, .val (.long q4), .second, .val (.int p5), .val (.int p6), .unset, .unset, .unset, .unset, .unset] [(.long q1)])) _
          refine XS.lstore X0.here hx rfl (hb hby at_27) rfl (l' := #[.val (.long q1), .second, .val (.long q1), .second, .val (.long q1), .second, .val (.long q1), .second, .val (.int p5), .val (.int p6), .unset, .unset, .unset, .unset, .unset]) rfl ?_
          exact kt
        exact cont _ _ _
set_option maxRecDepth 65536 in
set_option maxHeartbeats 40000000 in
theorem comes_1 {Post : Tables → Env → Array Value → State → Outcome → State → Prop} (hpost : ∀ tb e args s v u, (limb_1_1.after args s (.returned v) u = true ∧ limb_1_2.after args s (.returned v) u = true ∧ True) → FrameEnd s (.returned v) u (Jvm.fieldLocs frame_1_writes args s ++ Jvm.arrayLocs frame_1_arrays args s ++ Jvm.staticLocs frame_1_statics s) 16 128 → Post tb e args s (.returned v) u) :
    ArmFor flags0 classFile x code maxLocals ret World_1 tables_1 room_1 Calls_1 rest_1 Pre_1 Post := by
  intro l hfl _ _ p e ha hc hk s m args below hf hA hF happ hP
  obtain ⟨hcalls, hrest, hpre⟩ := hP
  obtain ⟨-, -, -, hnamed, -, -, -, hat⟩ := (Spec.applies_iff hf).mp happ
  obtain ⟨hg, hn⟩ := and_e (Cond.before_iff.mp (show (Jvm.Cond.and given_1 narrow_1).before args s = true from hpre))
  obtain ⟨hcnt, hr0⟩ := and_e hg
  obtain ⟨ha0, hr1⟩ := and_e hr0
  obtain ⟨ha1, hr2⟩ := and_e hr1
  obtain ⟨ha2, hr3⟩ := and_e hr2
  obtain ⟨ha3, hr4⟩ := and_e hr3
  obtain ⟨ha4, hr5⟩ := and_e hr4
  obtain ⟨w0, w1, w2, w3, w4, w5, rfl⟩ : ∃ w0 w1 w2 w3 w4 w5 : Value, args = #[w0, w1, w2, w3, w4, w5] := by
    have hs : args.size = 6 := by simpa [Cond.value, given_1] using hcnt
    obtain ⟨L⟩ := args
    match L, hs with
    | [w0, w1, w2, w3, w4, w5], _ => exact ⟨w0, w1, w2, w3, w4, w5, rfl⟩
  have hw := fun d (hd : d ∈ tables_1) => atoms_spec (ws := Jvm.Cond.code x code maxLocals ret :: tables_1) hat d (List.mem_cons_of_mem _ hd)
  obtain ⟨i0, ei0⟩ := isL_v ha0
  obtain rfl : w0 = (.long i0) := Option.some.inj ei0
  obtain ⟨i1, ei1⟩ := isL_v ha1
  obtain rfl : w1 = (.long i1) := Option.some.inj ei1
  obtain ⟨i2, ei2⟩ := isL_v ha2
  obtain rfl : w2 = (.long i2) := Option.some.inj ei2
  obtain ⟨i3, ei3⟩ := isL_v ha3
  obtain rfl : w3 = (.long i3) := Option.some.inj ei3
  obtain ⟨i4, ei4⟩ := is_v ha4
  obtain rfl : w4 = (.int i4) := Option.some.inj ei4
  obtain ⟨i5, ei5⟩ := is_v hr5
  obtain rfl : w5 = (.int i5) := Option.some.inj ei5
  obtain ⟨n, o, h1, h2, h3, _, L, rfl, ⟨rfl, N⟩, hq⟩ := rm0 l s _ hw tables_1 i0 i1 i2 i3 i4 i5 s.heap s.heap.size (Nat.le_refl _) p e ha hc hk s m _ below hf ((Spec.applies_iff_loose hf).mp happ).1 ⟨rfl, State.Warmed39.refl s, rfl⟩ trivial
  refine ⟨n, _, h1, h2, h3, hpost _ _ _ _ _ _ ⟨Cond.after_iff.mpr rfl, Cond.after_iff.mpr (eq_i res_at (Term.int_eval (1)) rfl), trivial⟩ ⟨hq.1, hq.2.1, (hq.2.2.sift fun y hy => Or.inr (N y hy)).mono (by decide) (by decide)⟩⟩
theorem main_1_1 : Claimed_1_1 := comes_1 fun _ _ _ _ _ _ h hF => ⟨h.1, hF⟩
theorem main_1_2 : Claimed_1_2 := comes_1 fun _ _ _ _ _ _ h hF => ⟨h.2.1, hF⟩
end Jvm.Pilot.@@N@@
namespace Jvm.Pilot.@@N@@
open Jvm Jvm.ClassFile Sem Op Lib Jvm.Free Jvm.Stand Jvm.Pilot.@@N@@.Jvm.D
/-! MADE BY PROGRAM (witnessworld.py) out of the Statement's table words and the real class files: 11 classes; the members and pool entries that the words name. The judged class is class 1, her method 1. -/
namespace start1
open Jvm.ClassFile
def u (s : String) : CpInfo := .utf8 (stringToUtf16 s)
/-- a pool by its gaps: so many unusable entries, then the entry; so many at the end -/
def gap : Nat → List CpInfo → List CpInfo
  | 0, r => r
  | n + 1, r => .unusable :: gap n r
def poolList (es : List (Nat × CpInfo)) (last : Nat) : List CpInfo := es.foldr (fun e r => gap e.1 (e.2 :: r)) (gap last [])
def pool (es : List (Nat × CpInfo)) (last : Nat) : Array CpInfo := ⟨poolList es last⟩
def fileOf (pool : Array CpInfo) (this : Nat) (attrs : Array Attribute := #[]) (ms : Array MethodInfo := #[]) (fl : Nat := 33) (sup : Nat := 0) (ifs : Array Nat := #[]) (fds : Array FieldInfo := #[]) : ClassFile where
  minorVersion := 0
  majorVersion := 65
  constantPool := pool
  accessFlags := fl
  thisClass := this
  superClass := sup
  interfaces := ifs
  fields := fds
  methods := ms
  attributes := attrs
def plain (name : String) (sup : Option ClassId) : Class where
  name := name
  kind := .ordinary
  loader := none
  accessFlags := 33
  super := sup
  interfaces := #[]
  cf := none
  fields := #[]
  methods := #[]
  instanceTypes := #[]
  staticTypes := #[]
  resolved := #[]
  callSites := []
  init := .initialized
  statics := none
  mirror := none

def pool0 : Array CpInfo := pool [(5, u "<init>"), (0, u "()V"), (1, .class_ 10), (1, u "java/lang/Object")] 113

def k0m0 : Method := { name := "<init>", desc := "()V", sig := { parameters := [], returnType := none }, accessFlags := 1, code := none }
/-- java/lang/Object -/
def k0 : Class := { plain "java/lang/Object" none with
  accessFlags := 33
  interfaces := #[]
  cf := some (fileOf pool0 8 #[] #[{ accessFlags := 1, nameIndex := 5, descriptorIndex := 6, attributes := #[] }] 33 0 #[] #[])
  fields := #[]
  methods := #[k0m0]
  instanceTypes := #[]
  staticTypes := #[]
  resolved := Array.replicate 124 none
  statics := none }

def pool1 : Array CpInfo := pool [(2, .class_ 4), (1, u "java/lang/Object"), (0, u "<init>"), (0, u "()V"), (0, .methodref 8 9), (0, .class_ 10), (0, .nameAndType 11 12), (0, u "com/example/shardwright/shardwright/fragment/FragmentBytes"), (0, u "heaviest"), (0, u "([JII)I"), (0, .methodref 14 15), (0, .class_ 16), (0, .nameAndType 17 18), (0, u "com/example/shardwright/shardwright/fragment/FragmentBytesHeaviestPinLaw"), (0, u "fits"), (0, u "([JIIII)Z"), (2, u "law"), (0, u "(JJJJII)Z")] 5

def k1m0 : Method := { name := "<init>", desc := "()V", sig := { parameters := [], returnType := none }, accessFlags := 1, code := none }
def k1c1 : Code := { maxStack := 5, maxLocals := 15, code := code, exceptionTable := #[], attributes := #[] }
def k1m1 : Method := { name := "law", desc := "(JJJJII)Z", sig := { parameters := [.long, .long, .long, .long, .int, .int], returnType := some .boolean }, accessFlags := 9, code := some k1c1 }
def k1c2 : Code := { maxStack := 4, maxLocals := 5, code := method_3_code, exceptionTable := #[], attributes := #[] }
def k1m2 : Method := { name := "fits", desc := "([JIIII)Z", sig := { parameters := [(.array .long), .int, .int, .int, .int], returnType := some .boolean }, accessFlags := 10, code := some k1c2 }
/-- com/example/shardwright/shardwright/fragment/FragmentBytesHeaviestPinLaw -/
def k1 : Class := { plain "com/example/shardwright/shardwright/fragment/FragmentBytesHeaviestPinLaw" (some 0) with
  accessFlags := 49
  interfaces := #[]
  cf := some (fileOf pool1 14 #[] #[{ accessFlags := 1, nameIndex := 5, descriptorIndex := 6, attributes := #[] }, { accessFlags := 9, nameIndex := 21, descriptorIndex := 22, attributes := #[] }, { accessFlags := 10, nameIndex := 17, descriptorIndex := 18, attributes := #[] }] 49 2 #[] #[])
  fields := #[]
  methods := #[k1m0, k1m1, k1m2]
  instanceTypes := #[]
  staticTypes := #[]
  resolved := Array.replicate 28 none
  statics := none }

def pool2 : Array CpInfo := pool [(2, .class_ 4), (1, u "java/lang/Object"), (15, .class_ 22), (1, u "com/example/shardwright/shardwright/fragment/FragmentBytes"), (0, u "length"), (0, u "[J"), (15, u "fragmentCount"), (0, u "I"), (1, u "[I"), (8, u "firstHolder"), (41, u "holders"), (23, u "LOOKED_AT"), (15, u "heaviest"), (0, u "([JII)I")] 2

def k2c0 : Code := { maxStack := 4, maxLocals := 5, code := prog_20_method_6_code, exceptionTable := #[], attributes := #[] }
def k2m0 : Method := { name := "heaviest", desc := "([JII)I", sig := { parameters := [(.array .long), .int, .int], returnType := some .int }, accessFlags := 9, code := some k2c0 }
/-- com/example/shardwright/shardwright/fragment/FragmentBytes -/
def k2 : Class := { plain "com/example/shardwright/shardwright/fragment/FragmentBytes" (some 0) with
  accessFlags := 49
  interfaces := #[]
  cf := some (fileOf pool2 20 #[] #[{ accessFlags := 9, nameIndex := 134, descriptorIndex := 135, attributes := #[] }] 49 2 #[] #[{ accessFlags := 26, nameIndex := 118, descriptorIndex := 41, attributes := #[] }, { accessFlags := 18, nameIndex := 52, descriptorIndex := 43, attributes := #[] }, { accessFlags := 18, nameIndex := 94, descriptorIndex := 43, attributes := #[] }, { accessFlags := 18, nameIndex := 23, descriptorIndex := 24, attributes := #[] }, { accessFlags := 18, nameIndex := 40, descriptorIndex := 41, attributes := #[] }])
  fields := #[{ name := "LOOKED_AT", type := .int, accessFlags := 26, slot := 0, constantValue := 0 }, { name := "firstHolder", type := (.array .int), accessFlags := 18, slot := 0, constantValue := 0 }, { name := "holders", type := (.array .int), accessFlags := 18, slot := 1, constantValue := 0 }, { name := "length", type := (.array .long), accessFlags := 18, slot := 2, constantValue := 0 }, { name := "fragmentCount", type := .int, accessFlags := 18, slot := 3, constantValue := 0 }]
  methods := #[k2m0]
  instanceTypes := #[(.array .int), (.array .int), (.array .long), .int]
  staticTypes := #[.int]
  resolved := Array.replicate 138 none
  statics := none }

def pool3 : Array CpInfo := pool [(1, u "java/lang/Cloneable"), (0, .class_ 1), (0, u "java/lang/Object"), (0, .class_ 3)] 3

/-- java/lang/Cloneable -/
def k3 : Class := { plain "java/lang/Cloneable" (some 0) with
  accessFlags := 1537
  interfaces := #[]
  cf := some (fileOf pool3 2 #[] #[] 1537 4 #[] #[])
  fields := #[]
  methods := #[]
  instanceTypes := #[]
  staticTypes := #[]
  resolved := Array.replicate 8 none
  statics := none }

def pool4 : Array CpInfo := pool [(1, u "java/io/Serializable"), (0, .class_ 1), (0, u "java/lang/Object"), (0, .class_ 3)] 3

/-- java/io/Serializable -/
def k4 : Class := { plain "java/io/Serializable" (some 0) with
  accessFlags := 1537
  interfaces := #[]
  cf := some (fileOf pool4 2 #[] #[] 1537 4 #[] #[])
  fields := #[]
  methods := #[]
  instanceTypes := #[]
  staticTypes := #[]
  resolved := Array.replicate 8 none
  statics := none }

/-- the primitive byte -/
def k5 : Class := { plain "byte" none with kind := .primitive 'B', accessFlags := 0x411 }
/-- [B -/
def k6 : Class := { plain "[B" (some 0) with kind := .array 5 .byte, interfaces := #[3, 4], accessFlags := 1041 }

/-- the primitive int -/
def k7 : Class := { plain "int" none with kind := .primitive 'I', accessFlags := 0x411 }
/-- [I -/
def k8 : Class := { plain "[I" (some 0) with kind := .array 7 .int, interfaces := #[3, 4], accessFlags := 1041 }

/-- the primitive long -/
def k9 : Class := { plain "long" none with kind := .primitive 'J', accessFlags := 0x411 }
/-- [J -/
def k10 : Class := { plain "[J" (some 0) with kind := .array 9 .long, interfaces := #[3, 4], accessFlags := 1041 }

def heap : Heap := #[]
def classes : Array Class := #[k0, k1, k2, k3, k4, k5, k6, k7, k8, k9, k10]
def interned : List (Array UInt16 × Addr) := []
def slotsUsed : Nat := 0
def theMethod : MethodId := ⟨1, 1⟩
def args0 : Array Value := #[.long 5, .long 7, .long 2, .long 9, .int 5, .int 3]
def aboutOver (below : List Frame) : State where
  vm := { classes := classes, interned := interned.toArray }
  heap := heap
  slotsUsed := slotsUsed
  threads := #[{ frames := .invoking theMethod args0 :: below }]
def below0 : List Frame := [.native { method := ⟨0, 0⟩, args := #[] }]
def about1 : State := aboutOver below0
def p0 : Program := .bare "" "" ""
def e0 : Env := launch0.env 0 0 0
theorem w_frames : about1.frames = Frame.invoking theMethod args0 :: below0 := rfl
set_option maxRecDepth 65536 in
theorem w_args : argsFit about1.vm theMethod args0 = true := by decide +kernel
set_option maxRecDepth 65536 in
theorem w_heap : heapFits about1 = true := by decide +kernel
set_option maxRecDepth 65536 in
theorem w_runnable : about1.curStatus? = some .runnable := by decide +kernel
set_option maxRecDepth 65536 in
theorem w_alone : about1.alone = true := by decide +kernel
set_option maxRecDepth 65536 in
theorem w_named : about1.methodNamed? x = some theMethod := by decide +kernel
set_option maxRecDepth 65536 in
theorem w_hears : about1.hears theMethod below0 = true := by decide +kernel
set_option maxRecDepth 65536 in
theorem w_ripe : about1.ripe theMethod args0 below0 = true := by decide +kernel
theorem w_running : about1.status = .running := rfl
set_option maxRecDepth 65536 in
theorem w_room : about1.hasRoom e0.platform room_1 = true :=
  launch0.hasRoom_least _ room_1 (by decide +kernel) (by decide +kernel) (by decide +kernel) (by decide +kernel) (by decide +kernel) (by decide +kernel)
theorem allAtoms_all (ts : List Jvm.Cond) (a : Array Jvm.Value) (st : Jvm.State) : (allAtoms ts).before a st = ts.all (fun c => c.before a st) := by
  induction ts with
  | nil => rfl
  | cons c t ih =>
    show (Jvm.Cond.and c (allAtoms t)).before a st = _
    rw [Jvm.Cond.before_and, ih, List.all_cons]
def words1 : List Jvm.Cond := Jvm.Cond.code x code maxLocals ret :: tables_1
/-- a 'code' word, met by the world's own term for the bytes: nothing is compared byte by byte -/
theorem code_word {y : MethodName} {bytes : ByteArray} {mx : Nat} {rt : Option FieldType} {a : Array Value} {s : State} {m : MethodId} {meth : Method} {c : Code} (h1 : s.methodNamed? y = some m) (h2 : s.vm.method? m = some meth) (h3 : meth.code = some c) (h4 : c.code = bytes)
    (h5 : (c.maxLocals == mx && c.exceptionTable.isEmpty && decide (c.maxStack ≤ mostOperands) && decide (meth.sig.returnType = rt) && !meth.locks && decide (parseMethodDescriptor y.desc = some meth.sig)) = true) : (Jvm.Cond.code y bytes mx rt).before a s = true := by
  simp only [Bool.and_eq_true, beq_iff_eq, Bool.not_eq_true', decide_eq_true_eq] at h5
  obtain ⟨⟨⟨⟨⟨g1, g2⟩, g3⟩, g4⟩, g5⟩, g6⟩ := h5
  simp [Cond.before, Cond.holds, Cond.value, h1, h2, h3, h4, g1, g2, g3, g4, g5, g6]
def isCode : Jvm.Cond → Bool
  | .code _ _ _ _ => true
  | _ => false
theorem all_split {L : List Jvm.Cond} {P : Jvm.Cond → Bool} (h1 : L.all (fun c => isCode c || P c) = true) (h2 : ∀ c ∈ L.filter isCode, P c = true) : L.all P = true := by
  refine List.all_eq_true.mpr fun c hc => ?_
  have h := List.all_eq_true.mp h1 c hc
  rcases Bool.eq_false_or_eq_true (isCode c) with hi | hi
  · exact h2 c (List.mem_filter.mpr ⟨hc, hi⟩)
  · simpa [hi] using h
set_option maxRecDepth 65536 in
theorem w_c0 : (Jvm.Cond.code x code maxLocals ret).before args0 about1 = true := code_word (m := ⟨1, 1⟩) (meth := k1m1) (c := k1c1) (by decide +kernel) rfl rfl rfl (by decide +kernel)
set_option maxRecDepth 65536 in
theorem w_c1 : (Jvm.Cond.code ({ cls := "com/example/shardwright/shardwright/fragment/FragmentBytes", name := "heaviest", desc := "([JII)I" } : Jvm.MethodName) prog_20_method_6_code (5 : Nat) (Option.some Jvm.ClassFile.FieldType.int)).before args0 about1 = true := code_word (m := ⟨2, 0⟩) (meth := k2m0) (c := k2c0) (by decide +kernel) rfl rfl rfl (by decide +kernel)
set_option maxRecDepth 65536 in
theorem w_c2 : (Jvm.Cond.code ({ cls := "com/example/shardwright/shardwright/fragment/FragmentBytesHeaviestPinLaw", name := "fits", desc := "([JIIII)Z" } : Jvm.MethodName) method_3_code (5 : Nat) (Option.some Jvm.ClassFile.FieldType.boolean)).before args0 about1 = true := code_word (m := ⟨1, 2⟩) (meth := k1m2) (c := k1c2) (by decide +kernel) rfl rfl rfl (by decide +kernel)
def codes1 : List Jvm.Cond := [Jvm.Cond.code x code maxLocals ret, Jvm.Cond.code ({ cls := "com/example/shardwright/shardwright/fragment/FragmentBytes", name := "heaviest", desc := "([JII)I" } : Jvm.MethodName) prog_20_method_6_code (5 : Nat) (Option.some Jvm.ClassFile.FieldType.int), Jvm.Cond.code ({ cls := "com/example/shardwright/shardwright/fragment/FragmentBytesHeaviestPinLaw", name := "fits", desc := "([JIIII)Z" } : Jvm.MethodName) method_3_code (5 : Nat) (Option.some Jvm.ClassFile.FieldType.boolean)]
set_option maxRecDepth 65536 in
theorem codes_eq : words1.filter isCode = codes1 := rfl
theorem w_codes : ∀ c ∈ words1.filter isCode, c.before args0 about1 = true := by
  rw [codes_eq]
  intro c hc
  simp only [codes1, List.mem_cons, List.not_mem_nil, or_false] at hc
  rcases hc with rfl | rfl | rfl
  · exact w_c0
  · exact w_c1
  · exact w_c2
set_option maxRecDepth 65536 in
theorem w_t1 : words1.all (fun c => isCode c || c.before args0 about1) = true := by decide +kernel
theorem w_tables : (allAtoms (Jvm.Cond.code x code maxLocals ret :: tables_1)).before args0 about1 = true := by
  rw [allAtoms_all]
  show words1.all (fun c => c.before args0 about1) = true
  refine all_split ?_ w_codes
  rw [w_t1]
set_option maxRecDepth 65536 in
theorem w_case : (Jvm.Cond.and given_1 narrow_1).before args0 about1 = true := by decide +kernel
theorem w_applies : (headSpec (Jvm.Cond.code x code maxLocals ret :: tables_1) room_1).applies x e0.platform about1 = true :=
  (Spec.applies_iff w_frames).mpr ⟨w_running, w_runnable, w_alone, w_named, w_hears, w_ripe, w_room, w_tables⟩
theorem atStart : AtStart classFile x code maxLocals ret World_1 tables_1 room_1 Calls_1 rest_1 Pre_1 launch0 p0 e0 about1 theMethod args0 below0 :=
  ⟨lists_1, trivial, launch0.admits_env _ _ _, launch0.least_env, fairChoices_fair.cas, fairChoices_fair.clock, w_frames, w_args, w_heap, w_applies, trivial, trivial, w_case⟩
end start1
theorem witness_1 : WitnessClaimed_1 := ⟨start1.p0, start1.e0, start1.about1, start1.theMethod, start1.args0, start1.below0, start1.atStart⟩
end Jvm.Pilot.@@N@@
