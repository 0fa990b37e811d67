import JvmDerived
import JvmDerived.Pilot.@@N@@Statement
import JvmDerived.Pilot.@@N@@Code
set_option linter.unusedVariables false
set_option linter.unusedSimpArgs false
namespace Jvm.RoadKit
open Sem ClassFile Op Lib Jvm.Stand Jvm.Free Jvm.LawKit
section New
variable {p : Program} {l : Launch} {e : Env} {R : Room} {s : State} {m : MethodId} {args : Array Value} {below : List Frame} {meth : Method} {c : Code} {T : State} {locs : List Loc} {cells slots : Nat}
theorem retI (X : Stand p l e R s m args below meth c T locs cells slots) (hx : p.tables.exec = Jvm.exec) {pc : Nat} {Ls : Array Slot} {z : Int32} {rest : List Value} (hret : meth.sig.returnType = some .int) (hd : decode c.code pc = .ok (.ireturn, 1)) {fs : List Frame}
    (hl : ∀ (f : JFrame) (acts : List Action), f.method = m → f.locked = none → f.entered = [] → (doReturn e (T.setTop f) acts (some (.int z))).1 = T.setFrames fs) : Steps p.tables e below (T.setTop (mkF m pc Ls (.int z :: rest))) (T.setFrames fs) := by
  have hm' : T.vm.method? m = some meth := X.method'
  have hn : narrow .int (.int z) = .int z := rfl
  show Steps p.tables e below (T.setTop { method := m, pc := pc, locals := Ls, stack := _ :: rest, locked := none }) _
  jvm_step X.here [X.here.top, hx, hd, hm', hret, hn]
  first | (intro acts; rw [hl _ acts rfl rfl rfl]) | rw [hl _ _ rfl rfl rfl]
  exact Steps.refl _
end New
end Jvm.RoadKit
namespace Jvm.Pilot.@@N@@
open Jvm Jvm.ClassFile Sem Op Lib Jvm.Free Jvm.Stand Jvm.LawKit Jvm.RoadKit Bundle Jvm.Pilot.@@N@@.Jvm.D
def Goes (tb : Tables) (e : Env) (below : List Frame) (Q : Outcome → State → Prop) (A : State) : Prop := ∃ s₂ o, Steps tb e below A s₂ ∧ s₂.status = .running ∧ Ended s₂ below o ∧ Q o s₂
theorem Goes.step {tb : Tables} {e : Env} {below : List Frame} {Q : Outcome → State → Prop} {A B : State} (h : ∀ t, Steps tb e below A t → Steps tb e below B t) (k : Goes tb e below Q A) : Goes tb e below Q B := by
  obtain ⟨s₂, o, h1, h2⟩ := k
  exact ⟨s₂, o, h _ h1, h2⟩
theorem Goes.start {tb : Tables} {e : Env} {below : List Frame} {Q : Outcome → State → Prop} {A B : State} (h : ∀ t, Steps tb e below A t → Steps tb e below B t) (k : Goes tb e below Q A) : ∃ s₂ o, Steps tb e below B s₂ ∧ s₂.status = .running ∧ Ended s₂ below o ∧ Q o s₂ := Goes.step h k
theorem Goes.done {tb : Tables} {e : Env} {below : List Frame} {Q : Outcome → State → Prop} {A s₂ : State} {o : Outcome} (h1 : Steps tb e below A s₂) (h2 : s₂.status = .running) (h3 : Ended s₂ below o) (h4 : Q o s₂) : Goes tb e below Q A := ⟨s₂, o, h1, h2, h3, h4⟩
def IArr (Z : State) (h : Heap) (a : Addr) (n : Int32) (tk : Int32 → Int32) : Prop := ∃ cl : Cell, Arr Z h a cl .int ∧ cl.slots.size = n.toNatClampNeg ∧ ¬ n < 0 ∧ ∀ j : Int32, ¬ j < 0 → j < n → cl.slots[j.toNatClampNeg]? = some (.int (tk j))
theorem IArr.lt {Z : State} {h : Heap} {a : Addr} {n : Int32} {tk : Int32 → Int32} (F : IArr Z h a n tk) : a < h.size := by obtain ⟨cl, A, -⟩ := F; exact A.lt
theorem IArr.ext {Z : State} {h h' : Heap} {a : Addr} {n : Int32} {tk : Int32 → Int32} (F : IArr Z h a n tk) (E : Ext h h') : IArr Z h' a n tk := by obtain ⟨cl, A, r⟩ := F; exact ⟨cl, A.ext E, r⟩
theorem IArr.other {Z : State} {h h' : Heap} {a b : Addr} {sl : Nat} {v : Value} {n : Int32} {tk : Int32 → Int32} (F : IArr Z h a n tk) (W : Wr h h' b sl v) (q : a ≠ b) : IArr Z h' a n tk := by obtain ⟨cl, A, r⟩ := F; exact ⟨cl, A.other W q, r⟩
theorem IArr.congr {Z : State} {h : Heap} {a : Addr} {n : Int32} {tk tk' : Int32 → Int32} (F : IArr Z h a n tk) (q : ∀ j, tk' j = tk j) : IArr Z h a n tk' := by obtain ⟨cl, A, S, N, H⟩ := F; exact ⟨cl, A, S, N, fun j h0 h1 => by rw [q]; exact H j h0 h1⟩
theorem IArr.fresh {Z : State} {h : Heap} {a : Addr} {k : ClassId} {n : Int32} (A : Arr Z h a (newA k .int n) .int) (hn : ¬ n < 0) : IArr Z h a n (fun _ => 0) := ⟨_, A, sz_new _ _ _, hn, fun j h0 h1 => get_new (by have q := inb_of (sz_new k .int n) ⟨h0, h1⟩; rw [sz_new] at q; exact q)⟩
def upd (tk : Int32 → Int32) (s v : Int32) : Int32 → Int32 := fun i => if i = s then v else tk i
theorem IArr.set {Z : State} {h h' : Heap} {a : Addr} {n j v : Int32} {tk : Int32 → Int32} (F : IArr Z h a n tk) (h0 : ¬ j < 0) (h1 : j < n) (W : Wr h h' a j.toNatClampNeg (.int v)) : IArr Z h' a n (upd tk j v) := by
  obtain ⟨cl, A, S, N, H⟩ := F
  refine ⟨cl.setSlot j.toNatClampNeg (.int v), A.same W, by rw [sz_set]; exact S, N, fun i hi0 hi1 => ?_⟩
  by_cases e : i = j
  · rw [get_hit (inb_of S ⟨h0, h1⟩) e, upd, if_pos e]
  · rw [get_miss h0 hi0 e, H i hi0 hi1, upd, if_neg e]
def Site (Z : State) (h : Heap) (o a1 a2 : Addr) (nn col cnt : Int32) (tk : Int32 → Int32) : Prop := Exa Z h o "com/example/shardwright/shardwright/recommend/SitesToTry" ∧ Fld Z h o "com/example/shardwright/shardwright/recommend/SitesToTry" "siteCount" "I" (.int nn) ∧ Fld Z h o "com/example/shardwright/shardwright/recommend/SitesToTry" "takenIn" "[I" (.ref a1) ∧ Fld Z h o "com/example/shardwright/shardwright/recommend/SitesToTry" "taken" "[I" (.ref a2) ∧ Fld Z h o "com/example/shardwright/shardwright/recommend/SitesToTry" "collection" "I" (.int col) ∧ Fld Z h o "com/example/shardwright/shardwright/recommend/SitesToTry" "count" "I" (.int cnt) ∧ IArr Z h a1 nn tk ∧ (∃ U, IArr Z h a2 nn U) ∧ o ≠ a1 ∧ o ≠ a2 ∧ a1 ≠ a2
def takeC (tk : Int32 → Int32) (col cnt s : Int32) : Int32 := if tk s = col then cnt else cnt + 1
def eqF (a b : Int32) : Int32 := if a = b then 1 else 0
theorem own_upd (tk : Int32 → Int32) (s v i : Int32) : (upd tk s v i = v) ↔ (i = s ∨ tk i = v) := by
  by_cases h : i = s
  · simp [upd, h]
  · simp [upd, h]
theorem own_same (tk : Int32 → Int32) (s v : Int32) (h : tk s = v) (j : Int32) : upd tk s v j = tk j := by
  by_cases q : j = s
  · subst q; simp [upd, h]
  · simp [upd, q]
theorem own_z : (0 : Int32).toInt = 0 := by decide
theorem own_o : (1 : Int32).toInt = 1 := by decide
theorem own_cap (n : Int32) (h0 : ¬ n < 0) (h : n.toInt ≤ 4) : n.toNatClampNeg ≤ 4 := by
  have := nat_of h0
  omega
theorem own_n (a : Int32) : 1 ≤ ((a &&& (3 : Int32)) + (1 : Int32)).toInt ∧ ((a &&& (3 : Int32)) + (1 : Int32)).toInt ≤ 4 := by
  have e := c_mask a 3 2 (by decide) (by decide)
  have g := rng32 a
  have e4 : ((2 ^ 2 : Nat) : Int) = 4 := by decide
  rw [e4] at e
  have a1 := c_iadd (a &&& 3) 1
  rw [own_o] at a1
  have r := rng32 ((a &&& (3 : Int32)) + (1 : Int32))
  omega
theorem own_nz (n : Int32) (h : 1 ≤ n.toInt ∧ n.toInt ≤ 4) : n ≠ 0 := by
  intro q; rw [q, own_z] at h; omega
theorem own_rem (x n : Int32) (h : 1 ≤ n.toInt ∧ n.toInt ≤ 4) (hx : 0 ≤ x.toInt) : ¬ (x % n) < 0 ∧ (x % n) < n := by
  have m := (c_iremV x n).1 hx (by omega)
  rw [Int32.lt_iff_toInt_lt, Int32.lt_iff_toInt_lt, own_z]
  omega
theorem own_sh (r : Int32) : 0 ≤ ((r.toUInt32 >>> ((3 : Int32) &&& 31).toUInt32).toInt32).toInt := by
  have e := c_iushr r 3 3 (by decide) (by decide)
  rw [e]; omega
theorem own_mk (x : Int32) : 0 ≤ (x &&& (2147483647 : Int32)).toInt := by
  have e := c_mask x 2147483647 31 (by decide) (by decide)
  rw [e]; omega
theorem own_c1 (tk : Int32 → Int32) (col s : Int32) (h : ¬ tk s = col) : takeC tk col 0 s = (1 : Int32) := by rw [takeC, if_neg h]; decide
theorem own_ck (tk : Int32 → Int32) (col cnt s d : Int32) (P : Prop) [Decidable P] (h : tk s = col ↔ P) (hd : d = if P then cnt else cnt + (1 : Int32)) : takeC tk col cnt s = d := by
  rw [hd]
  by_cases q : P
  · rw [takeC, if_pos (h.mpr q), if_pos q]
  · rw [takeC, if_neg (fun z => q (h.mp z)), if_neg q]
theorem own_cn (tk : Int32 → Int32) (n s : Int32) (h : ¬ tk s = 1) : True := trivial
theorem own_lt (x y : Int32) : (¬ x < 0) → 0 ≤ x.toInt := by intro h; rw [Int32.lt_iff_toInt_lt, own_z] at h; omega
theorem own_ne (x y : Int32) (h : ¬ x = y) : x.toInt ≠ y.toInt := fun q => h (Int32.toInt_inj.mp q)
theorem own_w : ((1 : Int32) + (1 : Int32)).toInt = 2 := by decide
theorem own_h : ((1 : Int32) + (1 : Int32) + (1 : Int32)).toInt = 3 := by decide
theorem own_bd (d n : Int32) (h0 : 0 ≤ d.toInt) (h : d.toInt < n.toInt) : ¬ d < 0 ∧ d < n := by
  rw [Int32.lt_iff_toInt_lt, Int32.lt_iff_toInt_lt, own_z]; omega
def Rg (n s : Int32) : Prop := ¬ s < 0 ∧ s < n
theorem Rg.i {n s : Int32} (h : Rg n s) : 0 ≤ s.toInt ∧ s.toInt < n.toInt := by
  obtain ⟨h0, h1⟩ := h
  rw [Int32.lt_iff_toInt_lt, own_z] at h0
  rw [Int32.lt_iff_toInt_lt] at h1
  omega
theorem own_b2 (n s1 s2 : Int32) (r1 : Rg n s1) (r2 : Rg n s2) (h : ¬ s2 = s1) : ¬ (1 : Int32) < 0 ∧ (1 : Int32) < n := by
  have := r1.i; have := r2.i; have := own_ne _ _ h
  exact own_bd _ _ (by rw [own_o]; omega) (by rw [own_o]; omega)
theorem own_b3 (n s1 s2 s3 d2 : Int32) (r1 : Rg n s1) (r2 : Rg n s2) (r3 : Rg n s3) (e2 : d2 = if s2 = s1 then (1 : Int32) else (1 : Int32) + (1 : Int32)) (h : ¬ (s3 = s1 ∨ s3 = s2)) : ¬ d2 < 0 ∧ d2 < n := by
  have i1 := r1.i; have i2 := r2.i; have i3 := r3.i
  have h1 := own_ne _ _ (fun q => h (Or.inl q)); have h2 := own_ne _ _ (fun q => h (Or.inr q))
  by_cases q : s2 = s1
  · rw [if_pos q] at e2; subst e2
    exact own_bd _ _ (by rw [own_o]; omega) (by rw [own_o]; omega)
  · rw [if_neg q] at e2; subst e2
    have h3 := own_ne _ _ q
    exact own_bd _ _ (by rw [own_w]; omega) (by rw [own_w]; omega)
theorem own_b4 (n s1 s2 s3 s4 d2 d3 : Int32) (r1 : Rg n s1) (r2 : Rg n s2) (r3 : Rg n s3) (r4 : Rg n s4) (e2 : d2 = if s2 = s1 then (1 : Int32) else (1 : Int32) + (1 : Int32)) (e3 : d3 = if (s3 = s1 ∨ s3 = s2) then d2 else d2 + (1 : Int32)) (h : ¬ (s4 = s1 ∨ s4 = s2 ∨ s4 = s3)) : ¬ d3 < 0 ∧ d3 < n := by
  have i1 := r1.i; have i2 := r2.i; have i3 := r3.i; have i4 := r4.i
  have h1 := own_ne _ _ (fun q => h (Or.inl q)); have h2 := own_ne _ _ (fun q => h (Or.inr (Or.inl q))); have h3 := own_ne _ _ (fun q => h (Or.inr (Or.inr q)))
  by_cases q : s2 = s1
  · rw [if_pos q] at e2; subst e2
    by_cases u : s3 = s1 ∨ s3 = s2
    · rw [if_pos u] at e3; subst e3
      exact own_bd _ _ (by rw [own_o]; omega) (by rw [own_o]; omega)
    · rw [if_neg u] at e3; subst e3
      have h4 := own_ne _ _ (fun q => u (Or.inl q))
      exact own_bd _ _ (by rw [own_w]; omega) (by rw [own_w]; omega)
  · rw [if_neg q] at e2; subst e2
    have h5 := own_ne _ _ q
    by_cases u : s3 = s1 ∨ s3 = s2
    · rw [if_pos u] at e3; subst e3
      exact own_bd _ _ (by rw [own_w]; omega) (by rw [own_w]; omega)
    · rw [if_neg u] at e3; subst e3
      have h4 := own_ne _ _ (fun q => u (Or.inl q)); have h6 := own_ne _ _ (fun q => u (Or.inr q))
      exact own_bd _ _ (by rw [own_h]; omega) (by rw [own_h]; omega)
def Free (tk : Int32 → Int32) (col n : Int32) : Prop := ∀ i, Rg n i → ¬ tk i = col
theorem own_m1 {tk : Int32 → Int32} {col n s1 i : Int32} (F : Free tk col n) (r : Rg n i) : upd tk s1 col i = col ↔ i = s1 := by
  rw [own_upd]; exact ⟨fun q => q.elim id (fun z => absurd z (F i r)), Or.inl⟩
theorem own_m2 {tk : Int32 → Int32} {col n s1 s2 i : Int32} (F : Free tk col n) (r : Rg n i) : upd (upd tk s1 col) s2 col i = col ↔ (i = s1 ∨ i = s2) := by
  rw [own_upd, own_m1 F r]; exact Or.comm
theorem own_m3 {tk : Int32 → Int32} {col n s1 s2 s3 i : Int32} (F : Free tk col n) (r : Rg n i) : upd (upd (upd tk s1 col) s2 col) s3 col i = col ↔ (i = s1 ∨ i = s2 ∨ i = s3) := by
  rw [own_upd, own_m2 F r]
  constructor
  · rintro (q | q | q)
    · exact Or.inr (Or.inr q)
    · exact Or.inl q
    · exact Or.inr (Or.inl q)
  · rintro (q | q | q)
    · exact Or.inr (Or.inl q)
    · exact Or.inr (Or.inr q)
    · exact Or.inl q
theorem own_m4 {tk : Int32 → Int32} {col n s1 s2 s3 s4 i : Int32} (F : Free tk col n) (r : Rg n i) : upd (upd (upd (upd tk s1 col) s2 col) s3 col) s4 col i = col ↔ (i = s1 ∨ i = s2 ∨ i = s3 ∨ i = s4) := by
  rw [own_upd, own_m3 F r]
  constructor
  · rintro (q | q | q | q)
    · exact Or.inr (Or.inr (Or.inr q))
    · exact Or.inl q
    · exact Or.inr (Or.inl q)
    · exact Or.inr (Or.inr (Or.inl q))
  · rintro (q | q | q | q)
    · exact Or.inr (Or.inl q)
    · exact Or.inr (Or.inr (Or.inl q))
    · exact Or.inr (Or.inr (Or.inr q))
    · exact Or.inl q
theorem own_free1 (n : Int32) : Free (fun _ => 0) ((0 : Int32) + (1 : Int32)) n := fun i _ q => absurd (show (0 : Int32) = (0 : Int32) + (1 : Int32) from q) (by decide)
theorem own_free2 (n s0 : Int32) : Free (upd (fun _ => 0) s0 ((0 : Int32) + (1 : Int32))) (((0 : Int32) + (1 : Int32)) + (1 : Int32)) n := fun i _ q => by
  by_cases h : i = s0
  · rw [upd, if_pos h] at q; exact absurd q (by decide)
  · rw [upd, if_neg h] at q; exact absurd q (by decide)
theorem own_pre (n : Int32) (h : 1 ≤ n.toInt) : takeC (fun _ => 0) ((0 : Int32) + (1 : Int32)) 0 n = (1 : Int32) := by rw [takeC, if_neg (by decide)]; decide
theorem ef_1 (m : MethodId) (x0 : Addr) (x1 : Int32) : entryFrame m #[(.ref x0), (.int x1)] 2 = mkF m 0 #[.val (.ref x0), .val (.int x1)] [] := by first | (simp [entryFrame, mkF, argsToLocals, Value.category]; done) | rfl
def Q1 (Z : State) (p0 : Addr) (p1 : Int32) (h0 : Heap) (n0 : Nat) (v : Option Value) (h : Heap) (L : List Loc) : Prop := v = none ∧ Fr n0 L ∧ ∃ a1 a2 : Addr, n0 ≤ a1 ∧ n0 ≤ a2 ∧ Site Z h p0 a1 a2 p1 0 0 (fun _ => 0)
theorem d1_0 : decode prog_47_method_1_code 0 = .ok (.aload_n 0, 1) := by decide +kernel
theorem d1_1 : decode prog_47_method_1_code 1 = .ok (.invokespecial 1, 3) := by decide +kernel
theorem d1_4 : decode prog_47_method_1_code 4 = .ok (.aload_n 0, 1) := by decide +kernel
theorem d1_5 : decode prog_47_method_1_code 5 = .ok (.iload_n 1, 1) := by decide +kernel
theorem d1_6 : decode prog_47_method_1_code 6 = .ok (.putfield 7, 3) := by decide +kernel
theorem d1_9 : decode prog_47_method_1_code 9 = .ok (.aload_n 0, 1) := by decide +kernel
theorem d1_10 : decode prog_47_method_1_code 10 = .ok (.iload_n 1, 1) := by decide +kernel
theorem d1_11 : decode prog_47_method_1_code 11 = .ok (.newarray .int, 2) := by decide +kernel
theorem d1_13 : decode prog_47_method_1_code 13 = .ok (.putfield 13, 3) := by decide +kernel
theorem d1_16 : decode prog_47_method_1_code 16 = .ok (.aload_n 0, 1) := by decide +kernel
theorem d1_17 : decode prog_47_method_1_code 17 = .ok (.iload_n 1, 1) := by decide +kernel
theorem d1_18 : decode prog_47_method_1_code 18 = .ok (.newarray .int, 2) := by decide +kernel
theorem d1_20 : decode prog_47_method_1_code 20 = .ok (.putfield 17, 3) := by decide +kernel
theorem d1_23 : decode prog_47_method_1_code 23 = .ok (.return_, 1) := by decide +kernel
theorem pn_1 : plainName "com/example/shardwright/shardwright/recommend/SitesToTry" = true := by first | (simp [plainName, overriddenIn]; done) | decide +kernel
set_option maxRecDepth 65536 in
set_option maxHeartbeats 40000000 in
theorem rm1 (l : Launch) (Z : State) (a0 : Array Value) (hw : ∀ d ∈ tables_1, d.before a0 Z = true) (ws : List Jvm.Cond) (p0 : Addr) (p1 : Int32) (h0 : Heap) (n0 : Nat) (Z0 : n0 ≤ h0.size) (F_siteCount : Fld Z h0 p0 "com/example/shardwright/shardwright/recommend/SitesToTry" "siteCount" "I" (.int (0 : Int32))) (F_takenIn : Fld Z h0 p0 "com/example/shardwright/shardwright/recommend/SitesToTry" "takenIn" "[I" .null) (F_taken : Fld Z h0 p0 "com/example/shardwright/shardwright/recommend/SitesToTry" "taken" "[I" .null) (F_collection : Fld Z h0 p0 "com/example/shardwright/shardwright/recommend/SitesToTry" "collection" "I" (.int (0 : Int32))) (F_count : Fld Z h0 p0 "com/example/shardwright/shardwright/recommend/SitesToTry" "count" "I" (.int (0 : Int32))) (E7 : Exa Z h0 p0 "com/example/shardwright/shardwright/recommend/SitesToTry") (g9 : n0 ≤ p0) (hn0 : ¬ p1 < 0) (hn4 : p1.toInt ≤ 4) :
    MetFree l (⟨"com/example/shardwright/shardwright/recommend/SitesToTry", "<init>", "(I)V"⟩ : MethodName) (head1 (Jvm.Cond.code (⟨"com/example/shardwright/shardwright/recommend/SitesToTry", "<init>", "(I)V"⟩ : MethodName) prog_47_method_1_code 2 none :: ws) ({ frames := 1, cells := 2, slots := 8, locals := 12 } : Room)) (fun a U => a = #[(.ref p0), (.int p1)] ∧ Z.Warmed39 U.vm ∧ U.heap = h0) (fun _ _ _ _ _ => True) (fun _ U o U' => ∃ v L, o = .returned v ∧ Q1 Z p0 p1 h0 n0 v U'.heap L ∧ FrameEnd U o U' L ({ frames := 1, cells := 2, slots := 8, locals := 12 } : Room).cells ({ frames := 1, cells := 2, slots := 8, locals := 12 } : Room).slots) := by
  refine MetFree.of_bodySF (plainFor_of_name pn_1) hisR ?_
  intro p e s m args below meth c s₁ Bd hml0 hP hK
  obtain ⟨rfl, hZ, hh⟩ := hP
  have hx := Bd.exec
  have hby := Bd.bytes
  have hml : c.maxLocals = 2 := hml0
  have hown : s.vm.findClass "com/example/shardwright/shardwright/recommend/SitesToTry" = some m.cls := findClass_of_methodNamed Bd.named
  have hnm := (name_of_methodNamed Bd.named Bd.method).1
  have X0 : Stand p l e ({ frames := 1, cells := 2, slots := 8, locals := 12 } : Room) s m #[(.ref p0), (.int p1)] below meth c s₁ [] 0 0 := Stand.of_body Bd
  have e0 : s₁.heap = h0 := by rw [← hh, Bd.state]; rfl
  have N0 := Fr.nil n0
  refine Goes.start (Q := (fun o U' => ∃ v L, o = .returned v ∧ Q1 Z p0 p1 h0 n0 v U'.heap L ∧ FrameEnd s o U' L ({ frames := 1, cells := 2, slots := 8, locals := 12 } : Room).cells ({ frames := 1, cells := 2, slots := 8, locals := 12 } : Room).slots)) (A := s₁.setTop (mkF m 0 #[.val (.ref p0), .val (.int p1)] [])) (fun t k => castTop (ef_1 m p0 p1) k) ?_
  refine Goes.step (A := s₁.setTop (mkF m 1 #[.val (.ref p0), .val (.int p1)] [(.ref p0)])) (fun t kt => ?_) ?_
  · refine XS.aloadN X0.here hx rfl (hb hby d1_0) rfl rfl ?_
    exact kt
  obtain ⟨T1, X1, e1, st1⟩ := initO X0 hx hZ hown (hw _ (List.mem_of_getElem? (i := 7) rfl)) (hw _ (List.mem_of_getElem? (i := 8) rfl)) (hw _ (List.mem_of_getElem? (i := 9) rfl)) e0 (g := (mkF m 1 #[.val (.ref p0), .val (.int p1)] [(.ref p0)])) rfl (by rw [hml]; rfl) rfl (hb hby d1_1) (by decide) (W := 0) (by show 2 * 0 + _ ≤ _; exact Nat.le_of_eq rfl) (by decide)
  refine Goes.step (A := T1.setTop (mkF m 4 #[.val (.ref p0), .val (.int p1)] [])) (fun t kt => st1 _ kt) ?_
  refine Goes.step (A := T1.setTop (mkF m 6 #[.val (.ref p0), .val (.int p1)] [(.int p1), (.ref p0)])) (fun t kt => ?_) ?_
  · refine XS.aloadN X1.here hx rfl (hb hby d1_4) rfl rfl ?_
    show Steps p.tables e below (T1.setTop (mkF m 5 #[.val (.ref p0), .val (.int p1)] [(.ref p0)])) _
    refine XS.iloadN X1.here hx rfl (hb hby d1_5) rfl ?_
    exact kt
  obtain ⟨T2, h2, X2, e2, W2, st2⟩ := putF X1 hx hZ hown (host := "") (Or.inl (hw _ (List.mem_of_getElem? (i := 10) rfl))) Via.refl e1 F_siteCount E7 (Or.inr ⟨(hw _ (List.mem_of_getElem? (i := 11) rfl)), rfl, hnm⟩) (hw _ (List.mem_of_getElem? (i := 2) rfl)) (ty := .int) (by decide) rfl rfl (g := (mkF m 6 #[.val (.ref p0), .val (.int p1)] [(.int p1), (.ref p0)])) rfl rfl (hb hby d1_6)
  have N2 := Fr.snoc X2 N0 g9
  have E2_p0 := E7.wr W2
  have F2_p0_siteCount : Fld Z h2 p0 "com/example/shardwright/shardwright/recommend/SitesToTry" "siteCount" "I" (.int p1) := F_siteCount.same W2
  have F2_p0_takenIn := F_takenIn.other W2 (Or.inr (slot_ne (Or.inr (hw _ (List.mem_of_getElem? (i := 14) rfl))) (Or.inr (hw _ (List.mem_of_getElem? (i := 11) rfl))) (by decide) (t := (.array .int)) (t' := .int) (by decide) (by decide)))
  have F2_p0_taken := F_taken.other W2 (Or.inr (slot_ne (Or.inr (hw _ (List.mem_of_getElem? (i := 16) rfl))) (Or.inr (hw _ (List.mem_of_getElem? (i := 11) rfl))) (by decide) (t := (.array .int)) (t' := .int) (by decide) (by decide)))
  have F2_p0_collection := F_collection.other W2 (Or.inr (slot_ne (Or.inl (hw _ (List.mem_of_getElem? (i := 23) rfl))) (Or.inr (hw _ (List.mem_of_getElem? (i := 11) rfl))) (by decide) (t := .int) (t' := .int) (by decide) (by decide)))
  have F2_p0_count := F_count.other W2 (Or.inr (slot_ne (Or.inl (hw _ (List.mem_of_getElem? (i := 26) rfl))) (Or.inr (hw _ (List.mem_of_getElem? (i := 11) rfl))) (by decide) (t := .int) (t' := .int) (by decide) (by decide)))
  have Z2 : n0 ≤ h2.size := Nat.le_trans Z0 (Keep.of_wr W2).1
  refine Goes.step (A := T2.setTop (mkF m 9 #[.val (.ref p0), .val (.int p1)] [])) (fun t kt => st2 _ kt) ?_
  refine Goes.step (A := T2.setTop (mkF m 11 #[.val (.ref p0), .val (.int p1)] [(.int p1), (.ref p0)])) (fun t kt => ?_) ?_
  · refine XS.aloadN X2.here hx rfl (hb hby d1_9) rfl rfl ?_
    show Steps p.tables e below (T2.setTop (mkF m 10 #[.val (.ref p0), .val (.int p1)] [(.ref p0)])) _
    refine XS.iloadN X2.here hx rfl (hb hby d1_10) rfl ?_
    exact kt
  obtain ⟨T3, h3, k3, X3, e3, E3, A3, st3⟩ := newP X2 hx hZ (hw _ (List.mem_of_getElem? (i := 12) rfl)) e2 (g := (mkF m 11 #[.val (.ref p0), .val (.int p1)] [(.int p1), (.ref p0)])) rfl (hb hby d1_11) rfl hn0 (cap := 4) (own_cap _ hn0 hn4) (by decide) (by decide) (by decide)
  obtain ⟨b3, g3⟩ : ∃ z, z = h2.size := ⟨_, rfl⟩
  rw [← g3] at A3 st3
  have gb_b3 : n0 ≤ b3 := Nat.le_trans Z2 (Nat.le_of_eq g3.symm)
  have E3_p0 := E2_p0.ext E3
  have F3_p0_siteCount := F2_p0_siteCount.ext E3
  have F3_p0_takenIn := F2_p0_takenIn.ext E3
  have F3_p0_taken := F2_p0_taken.ext E3
  have F3_p0_collection := F2_p0_collection.ext E3
  have F3_p0_count := F2_p0_count.ext E3
  have Z3 : n0 ≤ h3.size := Nat.le_trans Z2 E3.1
  have ne3_p0 : p0 ≠ b3 := Nat.ne_of_lt (Nat.lt_of_lt_of_le E2_p0.lt (Nat.le_of_eq g3.symm))
  have V3_b3 := Arv.new A3 hn0
  have V3_i := IArr.fresh A3 hn0
  refine Goes.step (A := T3.setTop (mkF m 13 #[.val (.ref p0), .val (.int p1)] [(.ref b3), (.ref p0)])) (fun t kt => st3 _ kt) ?_
  obtain ⟨T4, h4, X4, e4, W4, st4⟩ := putF X3 hx hZ hown (host := "") (Or.inl (hw _ (List.mem_of_getElem? (i := 13) rfl))) Via.refl e3 F3_p0_takenIn E3_p0 (Or.inr ⟨(hw _ (List.mem_of_getElem? (i := 14) rfl)), rfl, hnm⟩) (hw _ (List.mem_of_getElem? (i := 2) rfl)) (ty := (.array .int)) (by decide) rfl rfl (g := (mkF m 13 #[.val (.ref p0), .val (.int p1)] [(.ref b3), (.ref p0)])) rfl rfl (hb hby d1_13)
  have N4 := Fr.snoc X4 N2 g9
  have E4_p0 := E3_p0.wr W4
  have F4_p0_siteCount := F3_p0_siteCount.other W4 (Or.inr (slot_ne (Or.inr (hw _ (List.mem_of_getElem? (i := 11) rfl))) (Or.inr (hw _ (List.mem_of_getElem? (i := 14) rfl))) (by decide) (t := .int) (t' := (.array .int)) (by decide) (by decide)))
  have F4_p0_takenIn : Fld Z h4 p0 "com/example/shardwright/shardwright/recommend/SitesToTry" "takenIn" "[I" (.ref b3) := F3_p0_takenIn.same W4
  have F4_p0_taken := F3_p0_taken.other W4 (Or.inr (slot_ne (Or.inr (hw _ (List.mem_of_getElem? (i := 16) rfl))) (Or.inr (hw _ (List.mem_of_getElem? (i := 14) rfl))) (by decide) (t := (.array .int)) (t' := (.array .int)) (by decide) (by decide)))
  have F4_p0_collection := F3_p0_collection.other W4 (Or.inr (slot_ne (Or.inl (hw _ (List.mem_of_getElem? (i := 23) rfl))) (Or.inr (hw _ (List.mem_of_getElem? (i := 14) rfl))) (by decide) (t := .int) (t' := (.array .int)) (by decide) (by decide)))
  have F4_p0_count := F3_p0_count.other W4 (Or.inr (slot_ne (Or.inl (hw _ (List.mem_of_getElem? (i := 26) rfl))) (Or.inr (hw _ (List.mem_of_getElem? (i := 14) rfl))) (by decide) (t := .int) (t' := (.array .int)) (by decide) (by decide)))
  have V4_b3 := V3_i.other W4 ne3_p0.symm
  have Z4 : n0 ≤ h4.size := Nat.le_trans Z3 (Keep.of_wr W4).1
  refine Goes.step (A := T4.setTop (mkF m 16 #[.val (.ref p0), .val (.int p1)] [])) (fun t kt => st4 _ kt) ?_
  refine Goes.step (A := T4.setTop (mkF m 18 #[.val (.ref p0), .val (.int p1)] [(.int p1), (.ref p0)])) (fun t kt => ?_) ?_
  · refine XS.aloadN X4.here hx rfl (hb hby d1_16) rfl rfl ?_
    show Steps p.tables e below (T4.setTop (mkF m 17 #[.val (.ref p0), .val (.int p1)] [(.ref p0)])) _
    refine XS.iloadN X4.here hx rfl (hb hby d1_17) rfl ?_
    exact kt
  obtain ⟨T5, h5, k5, X5, e5, E5, A5, st5⟩ := newP X4 hx hZ (hw _ (List.mem_of_getElem? (i := 12) rfl)) e4 (g := (mkF m 18 #[.val (.ref p0), .val (.int p1)] [(.int p1), (.ref p0)])) rfl (hb hby d1_18) rfl hn0 (cap := 4) (own_cap _ hn0 hn4) (by decide) (by decide) (by decide)
  obtain ⟨b5, g5⟩ : ∃ z, z = h4.size := ⟨_, rfl⟩
  rw [← g5] at A5 st5
  have gb_b5 : n0 ≤ b5 := Nat.le_trans Z4 (Nat.le_of_eq g5.symm)
  have E5_p0 := E4_p0.ext E5
  have F5_p0_siteCount := F4_p0_siteCount.ext E5
  have F5_p0_takenIn := F4_p0_takenIn.ext E5
  have F5_p0_taken := F4_p0_taken.ext E5
  have F5_p0_collection := F4_p0_collection.ext E5
  have F5_p0_count := F4_p0_count.ext E5
  have V5_b3 := V4_b3.ext E5
  have Z5 : n0 ≤ h5.size := Nat.le_trans Z4 E5.1
  have ne5_p0 : p0 ≠ b5 := Nat.ne_of_lt (Nat.lt_of_lt_of_le E4_p0.lt (Nat.le_of_eq g5.symm))
  have ne5_b3 : b3 ≠ b5 := Nat.ne_of_lt (Nat.lt_of_lt_of_le V4_b3.lt (Nat.le_of_eq g5.symm))
  have V5_b5 := Arv.new A5 hn0
  have V5_i := IArr.fresh A5 hn0
  refine Goes.step (A := T5.setTop (mkF m 20 #[.val (.ref p0), .val (.int p1)] [(.ref b5), (.ref p0)])) (fun t kt => st5 _ kt) ?_
  obtain ⟨T6, h6, X6, e6, W6, st6⟩ := putF X5 hx hZ hown (host := "") (Or.inl (hw _ (List.mem_of_getElem? (i := 15) rfl))) Via.refl e5 F5_p0_taken E5_p0 (Or.inr ⟨(hw _ (List.mem_of_getElem? (i := 16) rfl)), rfl, hnm⟩) (hw _ (List.mem_of_getElem? (i := 2) rfl)) (ty := (.array .int)) (by decide) rfl rfl (g := (mkF m 20 #[.val (.ref p0), .val (.int p1)] [(.ref b5), (.ref p0)])) rfl rfl (hb hby d1_20)
  have N6 := Fr.snoc X6 N4 g9
  have E6_p0 := E5_p0.wr W6
  have F6_p0_siteCount := F5_p0_siteCount.other W6 (Or.inr (slot_ne (Or.inr (hw _ (List.mem_of_getElem? (i := 11) rfl))) (Or.inr (hw _ (List.mem_of_getElem? (i := 16) rfl))) (by decide) (t := .int) (t' := (.array .int)) (by decide) (by decide)))
  have F6_p0_takenIn := F5_p0_takenIn.other W6 (Or.inr (slot_ne (Or.inr (hw _ (List.mem_of_getElem? (i := 14) rfl))) (Or.inr (hw _ (List.mem_of_getElem? (i := 16) rfl))) (by decide) (t := (.array .int)) (t' := (.array .int)) (by decide) (by decide)))
  have F6_p0_taken : Fld Z h6 p0 "com/example/shardwright/shardwright/recommend/SitesToTry" "taken" "[I" (.ref b5) := F5_p0_taken.same W6
  have F6_p0_collection := F5_p0_collection.other W6 (Or.inr (slot_ne (Or.inl (hw _ (List.mem_of_getElem? (i := 23) rfl))) (Or.inr (hw _ (List.mem_of_getElem? (i := 16) rfl))) (by decide) (t := .int) (t' := (.array .int)) (by decide) (by decide)))
  have F6_p0_count := F5_p0_count.other W6 (Or.inr (slot_ne (Or.inl (hw _ (List.mem_of_getElem? (i := 26) rfl))) (Or.inr (hw _ (List.mem_of_getElem? (i := 16) rfl))) (by decide) (t := .int) (t' := (.array .int)) (by decide) (by decide)))
  have V6_b3 := V5_b3.other W6 ne3_p0.symm
  have V6_b5 := V5_i.other W6 ne5_p0.symm
  have Z6 : n0 ≤ h6.size := Nat.le_trans Z5 (Keep.of_wr W6).1
  refine Goes.step (A := T6.setTop (mkF m 23 #[.val (.ref p0), .val (.int p1)] [])) (fun t kt => st6 _ kt) ?_
  obtain ⟨fs, hr, hrun, hended, hW, hsame⟩ := X6.leave (v := none) (fun _ => rfl)
  refine Goes.done ?_ hrun hended ⟨_, _, rfl, ?_, ⟨_, rfl⟩, hW, hsame.mono (by decide) (by decide)⟩
  · exact X6.returnOut hx Bd.returns (hb hby d1_23) hr
  · show Q1 Z p0 p1 h0 n0 _ T6.heap _
    rw [e6]
    exact ⟨rfl, N6, b3, b5, gb_b3, gb_b5, E6_p0, F6_p0_siteCount, F6_p0_takenIn, F6_p0_taken, F6_p0_collection, F6_p0_count, V6_b3, ⟨_, V6_b5⟩, ne3_p0, ne5_p0, ne5_b3⟩
theorem ef_3 (m : MethodId) (x0 : Addr) : entryFrame m #[(.ref x0)] 1 = mkF m 0 #[.val (.ref x0)] [] := by first | (simp [entryFrame, mkF, argsToLocals, Value.category]; done) | rfl
def Q3 (Z : State) (p0 : Addr) (a1 : Addr) (a2 : Addr) (nn : Int32) (col : Int32) (cnt : Int32) (tk : Int32 → Int32) (h0 : Heap) (n0 : Nat) (v : Option Value) (h : Heap) (L : List Loc) : Prop := v = none ∧ Fr n0 L ∧ Site Z h p0 a1 a2 nn (col + (1 : Int32)) (0 : Int32) tk
theorem d3_0 : decode prog_47_method_2_code 0 = .ok (.aload_n 0, 1) := by decide +kernel
theorem d3_1 : decode prog_47_method_2_code 1 = .ok (.getfield 20, 3) := by decide +kernel
theorem d3_4 : decode prog_47_method_2_code 4 = .ok (.ldc 25, 2) := by decide +kernel
theorem d3_6 : decode prog_47_method_2_code 6 = .ok (.if_icmp .ne 16, 3) := by decide +kernel
theorem d3_22 : decode prog_47_method_2_code 22 = .ok (.aload_n 0, 1) := by decide +kernel
theorem d3_23 : decode prog_47_method_2_code 23 = .ok (.dup, 1) := by decide +kernel
theorem d3_24 : decode prog_47_method_2_code 24 = .ok (.getfield 20, 3) := by decide +kernel
theorem d3_27 : decode prog_47_method_2_code 27 = .ok (.iconst 1, 1) := by decide +kernel
theorem d3_28 : decode prog_47_method_2_code 28 = .ok (.iadd, 1) := by decide +kernel
theorem d3_29 : decode prog_47_method_2_code 29 = .ok (.putfield 20, 3) := by decide +kernel
theorem d3_32 : decode prog_47_method_2_code 32 = .ok (.aload_n 0, 1) := by decide +kernel
theorem d3_33 : decode prog_47_method_2_code 33 = .ok (.iconst 0, 1) := by decide +kernel
theorem d3_34 : decode prog_47_method_2_code 34 = .ok (.putfield 32, 3) := by decide +kernel
theorem d3_37 : decode prog_47_method_2_code 37 = .ok (.return_, 1) := by decide +kernel
theorem pn_3 : plainName "com/example/shardwright/shardwright/recommend/SitesToTry" = true := by first | (simp [plainName, overriddenIn]; done) | decide +kernel
set_option maxRecDepth 65536 in
set_option maxHeartbeats 40000000 in
theorem rm3 (l : Launch) (Z : State) (a0 : Array Value) (hw : ∀ d ∈ tables_1, d.before a0 Z = true) (ws : List Jvm.Cond) (p0 : Addr) (a1 : Addr) (a2 : Addr) (nn : Int32) (col : Int32) (cnt : Int32) (tk : Int32 → Int32) (h0 : Heap) (n0 : Nat) (Z0 : n0 ≤ h0.size) (St : Site Z h0 p0 a1 a2 nn col cnt tk) (g9 : n0 ≤ p0) (g1 : n0 ≤ a1) (g2 : n0 ≤ a2) (hcol : ¬ col = (2147483647 : Int32)) :
    MetFree l (⟨"com/example/shardwright/shardwright/recommend/SitesToTry", "clear", "()V"⟩ : MethodName) (head1 (Jvm.Cond.code (⟨"com/example/shardwright/shardwright/recommend/SitesToTry", "clear", "()V"⟩ : MethodName) prog_47_method_2_code 1 none :: ws) ({ frames := 0, cells := 0, slots := 0, locals := 0 } : Room)) (fun a U => a = #[(.ref p0)] ∧ Z.Warmed39 U.vm ∧ U.heap = h0) (fun _ _ _ _ _ => True) (fun _ U o U' => ∃ v L, o = .returned v ∧ Q3 Z p0 a1 a2 nn col cnt tk h0 n0 v U'.heap L ∧ FrameEnd U o U' L ({ frames := 0, cells := 0, slots := 0, locals := 0 } : Room).cells ({ frames := 0, cells := 0, slots := 0, locals := 0 } : Room).slots) := by
  refine MetFree.of_bodySF (plainFor_of_name pn_3) hisR ?_
  intro p e s m args below meth c s₁ Bd hml0 hP hK
  obtain ⟨rfl, hZ, hh⟩ := hP
  have hx := Bd.exec
  have hby := Bd.bytes
  have hml : c.maxLocals = 1 := hml0
  have hown : s.vm.findClass "com/example/shardwright/shardwright/recommend/SitesToTry" = some m.cls := findClass_of_methodNamed Bd.named
  have hnm := (name_of_methodNamed Bd.named Bd.method).1
  have X0 : Stand p l e ({ frames := 0, cells := 0, slots := 0, locals := 0 } : Room) s m #[(.ref p0)] below meth c s₁ [] 0 0 := Stand.of_body Bd
  have e0 : s₁.heap = h0 := by rw [← hh, Bd.state]; rfl
  have N0 := Fr.nil n0
  refine Goes.start (Q := (fun o U' => ∃ v L, o = .returned v ∧ Q3 Z p0 a1 a2 nn col cnt tk h0 n0 v U'.heap L ∧ FrameEnd s o U' L ({ frames := 0, cells := 0, slots := 0, locals := 0 } : Room).cells ({ frames := 0, cells := 0, slots := 0, locals := 0 } : Room).slots)) (A := s₁.setTop (mkF m 0 #[.val (.ref p0)] [])) (fun t k => castTop (ef_3 m p0) k) ?_
  obtain ⟨E7, F_siteCount, F_takenIn, F_taken, F_collection, F_count, V1, ⟨U2, V2⟩, ne1, ne2, ne3⟩ := St
  refine Goes.step (A := s₁.setTop (mkF m 1 #[.val (.ref p0)] [(.ref p0)])) (fun t kt => ?_) ?_
  · refine XS.aloadN X0.here hx rfl (hb hby d3_0) rfl rfl ?_
    exact kt
  obtain ⟨T1, X1, e1, st1⟩ := getF X0 hx hZ hown (host := "") (Or.inl (hw _ (List.mem_of_getElem? (i := 22) rfl))) Via.refl e0 F_collection (g := (mkF m 1 #[.val (.ref p0)] [(.ref p0)])) rfl rfl (hb hby d3_1)
  refine Goes.step (A := T1.setTop (mkF m 4 #[.val (.ref p0)] [(.int col)])) (fun t kt => st1 _ kt) ?_
  refine Goes.step (A := T1.setTop (mkF m 6 #[.val (.ref p0)] [(.int (2147483647 : Int32)), (.int col)])) (fun t kt => ?_) ?_
  · refine X1.ldcInt hx hown (mvT hZ (hw _ (List.mem_of_getElem? (i := 24) rfl))) (g := (mkF m 4 #[.val (.ref p0)] [(.int col)])) rfl (hb hby d3_4) _ ?_
    exact kt
  refine Goes.step (A := T1.setTop (mkF m 22 #[.val (.ref p0)] [])) (fun t kt => XS.icmpYes X1.here hx rfl (pc0 := 6) (pc' := 22) rfl (hb hby d3_6) rfl (feq (hcol : ¬ (col = (2147483647 : Int32)))).2 (by decide) (by decide) kt) ?_
  refine Goes.step (A := T1.setTop (mkF m 24 #[.val (.ref p0)] [(.ref p0), (.ref p0)])) (fun t kt => ?_) ?_
  · refine XS.aloadN X1.here hx rfl (hb hby d3_22) rfl rfl ?_
    show Steps p.tables e below (T1.setTop (mkF m 23 #[.val (.ref p0)] [(.ref p0)])) _
    refine XS.dup X1.here hx rfl (hb hby d3_23) rfl rfl ?_
    exact kt
  obtain ⟨T2, X2, e2, st2⟩ := getF X1 hx hZ hown (host := "") (Or.inl (hw _ (List.mem_of_getElem? (i := 22) rfl))) Via.refl e1 F_collection (g := (mkF m 24 #[.val (.ref p0)] [(.ref p0), (.ref p0)])) rfl rfl (hb hby d3_24)
  refine Goes.step (A := T2.setTop (mkF m 27 #[.val (.ref p0)] [(.int col), (.ref p0)])) (fun t kt => st2 _ kt) ?_
  refine Goes.step (A := T2.setTop (mkF m 29 #[.val (.ref p0)] [(.int (col + (1 : Int32))), (.ref p0)])) (fun t kt => ?_) ?_
  · refine XS.iconst X2.here hx rfl (hb hby d3_27) ?_
    show Steps p.tables e below (T2.setTop (mkF m 28 #[.val (.ref p0)] [(.int (1 : Int32)), (.int col), (.ref p0)])) _
    refine XS.iadd X2.here hx rfl (hb hby d3_28) rfl ?_
    exact kt
  obtain ⟨T3, h3, X3, e3, W3, st3⟩ := putF X2 hx hZ hown (host := "") (Or.inl (hw _ (List.mem_of_getElem? (i := 22) rfl))) Via.refl e2 F_collection E7 (Or.inl (hw _ (List.mem_of_getElem? (i := 23) rfl))) (hw _ (List.mem_of_getElem? (i := 2) rfl)) (ty := .int) (by decide) rfl rfl (g := (mkF m 29 #[.val (.ref p0)] [(.int (col + (1 : Int32))), (.ref p0)])) rfl rfl (hb hby d3_29)
  have N3 := Fr.snoc X3 N0 g9
  have E3_p0 := E7.wr W3
  have V3_a1 := V1.other W3 ne1.symm
  have V3_a2 := V2.other W3 ne2.symm
  have F3_p0_siteCount := F_siteCount.other W3 (Or.inr (slot_ne (Or.inr (hw _ (List.mem_of_getElem? (i := 11) rfl))) (Or.inl (hw _ (List.mem_of_getElem? (i := 23) rfl))) (by decide) (t := .int) (t' := .int) (by decide) (by decide)))
  have F3_p0_takenIn := F_takenIn.other W3 (Or.inr (slot_ne (Or.inr (hw _ (List.mem_of_getElem? (i := 14) rfl))) (Or.inl (hw _ (List.mem_of_getElem? (i := 23) rfl))) (by decide) (t := (.array .int)) (t' := .int) (by decide) (by decide)))
  have F3_p0_taken := F_taken.other W3 (Or.inr (slot_ne (Or.inr (hw _ (List.mem_of_getElem? (i := 16) rfl))) (Or.inl (hw _ (List.mem_of_getElem? (i := 23) rfl))) (by decide) (t := (.array .int)) (t' := .int) (by decide) (by decide)))
  have F3_p0_collection : Fld Z h3 p0 "com/example/shardwright/shardwright/recommend/SitesToTry" "collection" "I" (.int (col + (1 : Int32))) := F_collection.same W3
  have F3_p0_count := F_count.other W3 (Or.inr (slot_ne (Or.inl (hw _ (List.mem_of_getElem? (i := 26) rfl))) (Or.inl (hw _ (List.mem_of_getElem? (i := 23) rfl))) (by decide) (t := .int) (t' := .int) (by decide) (by decide)))
  have Z3 : n0 ≤ h3.size := Nat.le_trans Z0 (Keep.of_wr W3).1
  refine Goes.step (A := T3.setTop (mkF m 32 #[.val (.ref p0)] [])) (fun t kt => st3 _ kt) ?_
  refine Goes.step (A := T3.setTop (mkF m 34 #[.val (.ref p0)] [(.int (0 : Int32)), (.ref p0)])) (fun t kt => ?_) ?_
  · refine XS.aloadN X3.here hx rfl (hb hby d3_32) rfl rfl ?_
    show Steps p.tables e below (T3.setTop (mkF m 33 #[.val (.ref p0)] [(.ref p0)])) _
    refine XS.iconst X3.here hx rfl (hb hby d3_33) ?_
    exact kt
  obtain ⟨T4, h4, X4, e4, W4, st4⟩ := putF X3 hx hZ hown (host := "") (Or.inl (hw _ (List.mem_of_getElem? (i := 25) rfl))) Via.refl e3 F3_p0_count E3_p0 (Or.inl (hw _ (List.mem_of_getElem? (i := 26) rfl))) (hw _ (List.mem_of_getElem? (i := 2) rfl)) (ty := .int) (by decide) rfl rfl (g := (mkF m 34 #[.val (.ref p0)] [(.int (0 : Int32)), (.ref p0)])) rfl rfl (hb hby d3_34)
  have N4 := Fr.snoc X4 N3 g9
  have E4_p0 := E3_p0.wr W4
  have V4_a1 := V3_a1.other W4 ne1.symm
  have V4_a2 := V3_a2.other W4 ne2.symm
  have F4_p0_siteCount := F3_p0_siteCount.other W4 (Or.inr (slot_ne (Or.inr (hw _ (List.mem_of_getElem? (i := 11) rfl))) (Or.inl (hw _ (List.mem_of_getElem? (i := 26) rfl))) (by decide) (t := .int) (t' := .int) (by decide) (by decide)))
  have F4_p0_takenIn := F3_p0_takenIn.other W4 (Or.inr (slot_ne (Or.inr (hw _ (List.mem_of_getElem? (i := 14) rfl))) (Or.inl (hw _ (List.mem_of_getElem? (i := 26) rfl))) (by decide) (t := (.array .int)) (t' := .int) (by decide) (by decide)))
  have F4_p0_taken := F3_p0_taken.other W4 (Or.inr (slot_ne (Or.inr (hw _ (List.mem_of_getElem? (i := 16) rfl))) (Or.inl (hw _ (List.mem_of_getElem? (i := 26) rfl))) (by decide) (t := (.array .int)) (t' := .int) (by decide) (by decide)))
  have F4_p0_collection := F3_p0_collection.other W4 (Or.inr (slot_ne (Or.inl (hw _ (List.mem_of_getElem? (i := 23) rfl))) (Or.inl (hw _ (List.mem_of_getElem? (i := 26) rfl))) (by decide) (t := .int) (t' := .int) (by decide) (by decide)))
  have F4_p0_count : Fld Z h4 p0 "com/example/shardwright/shardwright/recommend/SitesToTry" "count" "I" (.int (0 : Int32)) := F3_p0_count.same W4
  have Z4 : n0 ≤ h4.size := Nat.le_trans Z3 (Keep.of_wr W4).1
  refine Goes.step (A := T4.setTop (mkF m 37 #[.val (.ref p0)] [])) (fun t kt => st4 _ kt) ?_
  obtain ⟨fs, hr, hrun, hended, hW, hsame⟩ := X4.leave (v := none) (fun _ => rfl)
  refine Goes.done ?_ hrun hended ⟨_, _, rfl, ?_, ⟨_, rfl⟩, hW, hsame.mono (by decide) (by decide)⟩
  · exact X4.returnOut hx Bd.returns (hb hby d3_37) hr
  · show Q3 Z p0 a1 a2 nn col cnt tk h0 n0 _ T4.heap _
    rw [e4]
    exact ⟨rfl, N4, ⟨E4_p0, F4_p0_siteCount, F4_p0_takenIn, F4_p0_taken, F4_p0_collection, F4_p0_count, V4_a1, ⟨_, V4_a2⟩, ne1, ne2, ne3⟩⟩
theorem ef_4 (m : MethodId) (x0 : Addr) (x1 : Int32) : entryFrame m #[(.ref x0), (.int x1)] 2 = mkF m 0 #[.val (.ref x0), .val (.int x1)] [] := by first | (simp [entryFrame, mkF, argsToLocals, Value.category]; done) | rfl
def Q4 (Z : State) (p0 : Addr) (p1 : Int32) (a1 : Addr) (a2 : Addr) (nn : Int32) (col : Int32) (cnt : Int32) (tk : Int32 → Int32) (h0 : Heap) (n0 : Nat) (v : Option Value) (h : Heap) (L : List Loc) : Prop := v = some (.int (eqF (takeC tk col cnt p1) nn)) ∧ Fr n0 L ∧ Site Z h p0 a1 a2 nn col (takeC tk col cnt p1) (upd tk p1 col)
theorem d4_0 : decode prog_47_method_4_code 0 = .ok (.aload_n 0, 1) := by decide +kernel
theorem d4_1 : decode prog_47_method_4_code 1 = .ok (.getfield 13, 3) := by decide +kernel
theorem d4_4 : decode prog_47_method_4_code 4 = .ok (.iload_n 1, 1) := by decide +kernel
theorem d4_5 : decode prog_47_method_4_code 5 = .ok (.iaload, 1) := by decide +kernel
theorem d4_6 : decode prog_47_method_4_code 6 = .ok (.aload_n 0, 1) := by decide +kernel
theorem d4_7 : decode prog_47_method_4_code 7 = .ok (.getfield 20, 3) := by decide +kernel
theorem d4_10 : decode prog_47_method_4_code 10 = .ok (.if_icmp .eq 30, 3) := by decide +kernel
theorem d4_13 : decode prog_47_method_4_code 13 = .ok (.aload_n 0, 1) := by decide +kernel
theorem d4_14 : decode prog_47_method_4_code 14 = .ok (.getfield 13, 3) := by decide +kernel
theorem d4_17 : decode prog_47_method_4_code 17 = .ok (.iload_n 1, 1) := by decide +kernel
theorem d4_18 : decode prog_47_method_4_code 18 = .ok (.aload_n 0, 1) := by decide +kernel
theorem d4_19 : decode prog_47_method_4_code 19 = .ok (.getfield 20, 3) := by decide +kernel
theorem d4_22 : decode prog_47_method_4_code 22 = .ok (.iastore, 1) := by decide +kernel
theorem d4_23 : decode prog_47_method_4_code 23 = .ok (.aload_n 0, 1) := by decide +kernel
theorem d4_24 : decode prog_47_method_4_code 24 = .ok (.getfield 17, 3) := by decide +kernel
theorem d4_27 : decode prog_47_method_4_code 27 = .ok (.aload_n 0, 1) := by decide +kernel
theorem d4_28 : decode prog_47_method_4_code 28 = .ok (.dup, 1) := by decide +kernel
theorem d4_29 : decode prog_47_method_4_code 29 = .ok (.getfield 32, 3) := by decide +kernel
theorem d4_32 : decode prog_47_method_4_code 32 = .ok (.dup_x1, 1) := by decide +kernel
theorem d4_33 : decode prog_47_method_4_code 33 = .ok (.iconst 1, 1) := by decide +kernel
theorem d4_34 : decode prog_47_method_4_code 34 = .ok (.iadd, 1) := by decide +kernel
theorem d4_35 : decode prog_47_method_4_code 35 = .ok (.putfield 32, 3) := by decide +kernel
theorem d4_38 : decode prog_47_method_4_code 38 = .ok (.iload_n 1, 1) := by decide +kernel
theorem d4_39 : decode prog_47_method_4_code 39 = .ok (.iastore, 1) := by decide +kernel
theorem d4_40 : decode prog_47_method_4_code 40 = .ok (.aload_n 0, 1) := by decide +kernel
theorem d4_41 : decode prog_47_method_4_code 41 = .ok (.getfield 32, 3) := by decide +kernel
theorem d4_44 : decode prog_47_method_4_code 44 = .ok (.aload_n 0, 1) := by decide +kernel
theorem d4_45 : decode prog_47_method_4_code 45 = .ok (.getfield 7, 3) := by decide +kernel
theorem d4_48 : decode prog_47_method_4_code 48 = .ok (.if_icmp .ne 7, 3) := by decide +kernel
theorem d4_51 : decode prog_47_method_4_code 51 = .ok (.iconst 1, 1) := by decide +kernel
theorem d4_52 : decode prog_47_method_4_code 52 = .ok (.goto 4, 3) := by decide +kernel
theorem d4_55 : decode prog_47_method_4_code 55 = .ok (.iconst 0, 1) := by decide +kernel
theorem d4_56 : decode prog_47_method_4_code 56 = .ok (.ireturn, 1) := by decide +kernel
theorem pn_4 : plainName "com/example/shardwright/shardwright/recommend/SitesToTry" = true := by first | (simp [plainName, overriddenIn]; done) | decide +kernel
set_option maxRecDepth 65536 in
set_option maxHeartbeats 40000000 in
theorem rm4 (l : Launch) (Z : State) (a0 : Array Value) (hw : ∀ d ∈ tables_1, d.before a0 Z = true) (ws : List Jvm.Cond) (p0 : Addr) (p1 : Int32) (a1 : Addr) (a2 : Addr) (nn : Int32) (col : Int32) (cnt : Int32) (tk : Int32 → Int32) (h0 : Heap) (n0 : Nat) (Z0 : n0 ≤ h0.size) (St : Site Z h0 p0 a1 a2 nn col cnt tk) (g9 : n0 ≤ p0) (g1 : n0 ≤ a1) (g2 : n0 ≤ a2) (hs : Rg nn p1) (hc : ¬ (tk p1) = col → ¬ cnt < 0 ∧ cnt < nn) :
    MetFree l (⟨"com/example/shardwright/shardwright/recommend/SitesToTry", "take", "(I)Z"⟩ : MethodName) (head1 (Jvm.Cond.code (⟨"com/example/shardwright/shardwright/recommend/SitesToTry", "take", "(I)Z"⟩ : MethodName) prog_47_method_4_code 2 (some .boolean) :: ws) ({ frames := 0, cells := 0, slots := 0, locals := 0 } : Room)) (fun a U => a = #[(.ref p0), (.int p1)] ∧ Z.Warmed39 U.vm ∧ U.heap = h0) (fun _ _ _ _ _ => True) (fun _ U o U' => ∃ v L, o = .returned v ∧ Q4 Z p0 p1 a1 a2 nn col cnt tk h0 n0 v U'.heap L ∧ FrameEnd U o U' L ({ frames := 0, cells := 0, slots := 0, locals := 0 } : Room).cells ({ frames := 0, cells := 0, slots := 0, locals := 0 } : Room).slots) := by
  refine MetFree.of_bodySF (plainFor_of_name pn_4) hisR ?_
  intro p e s m args below meth c s₁ Bd hml0 hP hK
  obtain ⟨rfl, hZ, hh⟩ := hP
  have hx := Bd.exec
  have hby := Bd.bytes
  have hml : c.maxLocals = 2 := hml0
  have hown : s.vm.findClass "com/example/shardwright/shardwright/recommend/SitesToTry" = some m.cls := findClass_of_methodNamed Bd.named
  have hnm := (name_of_methodNamed Bd.named Bd.method).1
  have X0 : Stand p l e ({ frames := 0, cells := 0, slots := 0, locals := 0 } : Room) s m #[(.ref p0), (.int p1)] below meth c s₁ [] 0 0 := Stand.of_body Bd
  have e0 : s₁.heap = h0 := by rw [← hh, Bd.state]; rfl
  have N0 := Fr.nil n0
  refine Goes.start (Q := (fun o U' => ∃ v L, o = .returned v ∧ Q4 Z p0 p1 a1 a2 nn col cnt tk h0 n0 v U'.heap L ∧ FrameEnd s o U' L ({ frames := 0, cells := 0, slots := 0, locals := 0 } : Room).cells ({ frames := 0, cells := 0, slots := 0, locals := 0 } : Room).slots)) (A := s₁.setTop (mkF m 0 #[.val (.ref p0), .val (.int p1)] [])) (fun t k => castTop (ef_4 m p0 p1) k) ?_
  obtain ⟨E7, F_siteCount, F_takenIn, F_taken, F_collection, F_count, V1, ⟨U2, V2⟩, ne1, ne2, ne3⟩ := St
  refine Goes.step (A := s₁.setTop (mkF m 1 #[.val (.ref p0), .val (.int p1)] [(.ref p0)])) (fun t kt => ?_) ?_
  · refine XS.aloadN X0.here hx rfl (hb hby d4_0) rfl rfl ?_
    exact kt
  obtain ⟨T1, X1, e1, st1⟩ := getF X0 hx hZ hown (host := "") (Or.inl (hw _ (List.mem_of_getElem? (i := 13) rfl))) Via.refl e0 F_takenIn (g := (mkF m 1 #[.val (.ref p0), .val (.int p1)] [(.ref p0)])) rfl rfl (hb hby d4_1)
  refine Goes.step (A := T1.setTop (mkF m 4 #[.val (.ref p0), .val (.int p1)] [(.ref a1)])) (fun t kt => st1 _ kt) ?_
  refine Goes.step (A := T1.setTop (mkF m 5 #[.val (.ref p0), .val (.int p1)] [(.int p1), (.ref a1)])) (fun t kt => ?_) ?_
  · refine XS.iloadN X1.here hx rfl (hb hby d4_4) rfl ?_
    exact kt
  obtain ⟨cl2, Ar2, Sz2, Nn2, Hh2⟩ := id V1
  refine Goes.step (A := T1.setTop (mkF m 7 #[.val (.ref p0), .val (.int p1)] [(.ref p0), (.int (tk p1))])) (fun t kt => ?_) ?_
  · refine X1.iaload hx (j := p1) (v := (.int (tk p1))) (by rw [e1]; exact Ar2.1) (State.isArrayOf_alike hZ.alike Ar2.2.1) Ar2.2.2 (inb_of Sz2 hs) (Hh2 _ hs.1 hs.2) (g := (mkF m 5 #[.val (.ref p0), .val (.int p1)] [(.int p1), (.ref a1)])) rfl rfl (hb hby d4_5) _ ?_
    show Steps p.tables e below (T1.setTop (mkF m 6 #[.val (.ref p0), .val (.int p1)] [(.int (tk p1))])) _
    refine XS.aloadN X1.here hx rfl (hb hby d4_6) rfl rfl ?_
    exact kt
  obtain ⟨T3, X3, e3, st3⟩ := getF X1 hx hZ hown (host := "") (Or.inl (hw _ (List.mem_of_getElem? (i := 22) rfl))) Via.refl e1 F_collection (g := (mkF m 7 #[.val (.ref p0), .val (.int p1)] [(.ref p0), (.int (tk p1))])) rfl rfl (hb hby d4_7)
  refine Goes.step (A := T3.setTop (mkF m 10 #[.val (.ref p0), .val (.int p1)] [(.int col), (.int (tk p1))])) (fun t kt => st3 _ kt) ?_
  by_cases hc10_1 : (tk p1) = col
  · refine Goes.step (A := T3.setTop (mkF m 40 #[.val (.ref p0), .val (.int p1)] [])) (fun t kt => XS.icmpYes X3.here hx rfl (pc0 := 10) (pc' := 40) rfl (hb hby d4_10) rfl (teq hc10_1).1 (by decide) (by decide) kt) ?_
    refine Goes.step (A := T3.setTop (mkF m 41 #[.val (.ref p0), .val (.int p1)] [(.ref p0)])) (fun t kt => ?_) ?_
    · refine XS.aloadN X3.here hx rfl (hb hby d4_40) rfl rfl ?_
      exact kt
    obtain ⟨T4, X4, e4, st4⟩ := getF X3 hx hZ hown (host := "") (Or.inl (hw _ (List.mem_of_getElem? (i := 25) rfl))) Via.refl e3 F_count (g := (mkF m 41 #[.val (.ref p0), .val (.int p1)] [(.ref p0)])) rfl rfl (hb hby d4_41)
    refine Goes.step (A := T4.setTop (mkF m 44 #[.val (.ref p0), .val (.int p1)] [(.int cnt)])) (fun t kt => st4 _ kt) ?_
    refine Goes.step (A := T4.setTop (mkF m 45 #[.val (.ref p0), .val (.int p1)] [(.ref p0), (.int cnt)])) (fun t kt => ?_) ?_
    · refine XS.aloadN X4.here hx rfl (hb hby d4_44) rfl rfl ?_
      exact kt
    obtain ⟨T5, X5, e5, st5⟩ := getF X4 hx hZ hown (host := "") (Or.inl (hw _ (List.mem_of_getElem? (i := 10) rfl))) Via.refl e4 F_siteCount (g := (mkF m 45 #[.val (.ref p0), .val (.int p1)] [(.ref p0), (.int cnt)])) rfl rfl (hb hby d4_45)
    refine Goes.step (A := T5.setTop (mkF m 48 #[.val (.ref p0), .val (.int p1)] [(.int nn), (.int cnt)])) (fun t kt => st5 _ kt) ?_
    by_cases hc48_2 : cnt = nn
    · refine Goes.step (A := T5.setTop (mkF m 51 #[.val (.ref p0), .val (.int p1)] [])) (fun t kt => XS.icmpNo X5.here hx rfl (hb hby d4_48) rfl (teq hc48_2).2 kt) ?_
      refine Goes.step (A := T5.setTop (mkF m 56 #[.val (.ref p0), .val (.int p1)] [(.int (1 : Int32))])) (fun t kt => ?_) ?_
      · refine XS.iconst X5.here hx rfl (hb hby d4_51) ?_
        show Steps p.tables e below (T5.setTop (mkF m 52 #[.val (.ref p0), .val (.int p1)] [(.int (1 : Int32))])) _
        refine XS.goto X5.here hx rfl (pc0 := 52) (pc' := 56) rfl (hb hby d4_52) (by decide) (by decide) ?_
        exact kt
      obtain ⟨fs, hr, hrun, hended, hW, hsame⟩ := X5.leave (v := some (.int (1 : Int32))) (fun h => by rw [Bd.returns] at h; cases h)
      refine Goes.done ?_ hrun hended ⟨_, _, rfl, ?_, ⟨_, rfl⟩, hW, hsame.mono (by decide) (by decide)⟩
      · exact retN X5 hx (t := .boolean) Bd.returns (by simp) (hb hby d4_56) hr
      · show Q4 Z p0 p1 a1 a2 nn col cnt tk h0 n0 _ T5.heap _
        rw [e5]
        have tc : takeC tk col cnt p1 = cnt := (if_pos hc10_1)
        unfold Q4
        rw [tc]
        exact ⟨congrArg some (congrArg Value.int (by simp [eqF, hc48_2])), N0, ⟨E7, F_siteCount, F_takenIn, F_taken, F_collection, F_count, (V1.congr (own_same tk p1 col hc10_1)), ⟨_, V2⟩, ne1, ne2, ne3⟩⟩
    · refine Goes.step (A := T5.setTop (mkF m 55 #[.val (.ref p0), .val (.int p1)] [])) (fun t kt => XS.icmpYes X5.here hx rfl (pc0 := 48) (pc' := 55) rfl (hb hby d4_48) rfl (feq hc48_2).2 (by decide) (by decide) kt) ?_
      refine Goes.step (A := T5.setTop (mkF m 56 #[.val (.ref p0), .val (.int p1)] [(.int (0 : Int32))])) (fun t kt => ?_) ?_
      · refine XS.iconst X5.here hx rfl (hb hby d4_55) ?_
        exact kt
      obtain ⟨fs, hr, hrun, hended, hW, hsame⟩ := X5.leave (v := some (.int (0 : Int32))) (fun h => by rw [Bd.returns] at h; cases h)
      refine Goes.done ?_ hrun hended ⟨_, _, rfl, ?_, ⟨_, rfl⟩, hW, hsame.mono (by decide) (by decide)⟩
      · exact retN X5 hx (t := .boolean) Bd.returns (by simp) (hb hby d4_56) hr
      · show Q4 Z p0 p1 a1 a2 nn col cnt tk h0 n0 _ T5.heap _
        rw [e5]
        have tc : takeC tk col cnt p1 = cnt := (if_pos hc10_1)
        unfold Q4
        rw [tc]
        exact ⟨congrArg some (congrArg Value.int (by simp [eqF, hc48_2])), N0, ⟨E7, F_siteCount, F_takenIn, F_taken, F_collection, F_count, (V1.congr (own_same tk p1 col hc10_1)), ⟨_, V2⟩, ne1, ne2, ne3⟩⟩
  · refine Goes.step (A := T3.setTop (mkF m 13 #[.val (.ref p0), .val (.int p1)] [])) (fun t kt => XS.icmpNo X3.here hx rfl (hb hby d4_10) rfl (feq hc10_1).1 kt) ?_
    refine Goes.step (A := T3.setTop (mkF m 14 #[.val (.ref p0), .val (.int p1)] [(.ref p0)])) (fun t kt => ?_) ?_
    · refine XS.aloadN X3.here hx rfl (hb hby d4_13) rfl rfl ?_
      exact kt
    obtain ⟨T6, X6, e6, st6⟩ := getF X3 hx hZ hown (host := "") (Or.inl (hw _ (List.mem_of_getElem? (i := 13) rfl))) Via.refl e3 F_takenIn (g := (mkF m 14 #[.val (.ref p0), .val (.int p1)] [(.ref p0)])) rfl rfl (hb hby d4_14)
    refine Goes.step (A := T6.setTop (mkF m 17 #[.val (.ref p0), .val (.int p1)] [(.ref a1)])) (fun t kt => st6 _ kt) ?_
    refine Goes.step (A := T6.setTop (mkF m 19 #[.val (.ref p0), .val (.int p1)] [(.ref p0), (.int p1), (.ref a1)])) (fun t kt => ?_) ?_
    · refine XS.iloadN X6.here hx rfl (hb hby d4_17) rfl ?_
      show Steps p.tables e below (T6.setTop (mkF m 18 #[.val (.ref p0), .val (.int p1)] [(.int p1), (.ref a1)])) _
      refine XS.aloadN X6.here hx rfl (hb hby d4_18) rfl rfl ?_
      exact kt
    obtain ⟨T7, X7, e7, st7⟩ := getF X6 hx hZ hown (host := "") (Or.inl (hw _ (List.mem_of_getElem? (i := 22) rfl))) Via.refl e6 F_collection (g := (mkF m 19 #[.val (.ref p0), .val (.int p1)] [(.ref p0), (.int p1), (.ref a1)])) rfl rfl (hb hby d4_19)
    refine Goes.step (A := T7.setTop (mkF m 22 #[.val (.ref p0), .val (.int p1)] [(.int col), (.int p1), (.ref a1)])) (fun t kt => st7 _ kt) ?_
    obtain ⟨cl8, Ar8, Sz8, Nn8, Hh8⟩ := id V1
    obtain ⟨T8, h8, X8, e8, W8, st8⟩ := stI X7 hx hZ e7 Ar8 (j := p1) (inb_of Sz8 hs) (g := (mkF m 22 #[.val (.ref p0), .val (.int p1)] [(.int col), (.int p1), (.ref a1)])) rfl rfl (hb hby d4_22)
    have N8 := Fr.snoc X8 N0 g1
    have E8_p0 := E7.wr W8
    have V8_a1 := IArr.set V1 hs.1 hs.2 W8
    have V8_a2 := V2.other W8 ne3.symm
    have F8_p0_siteCount := F_siteCount.other W8 (Or.inl ne1)
    have F8_p0_takenIn := F_takenIn.other W8 (Or.inl ne1)
    have F8_p0_taken := F_taken.other W8 (Or.inl ne1)
    have F8_p0_collection := F_collection.other W8 (Or.inl ne1)
    have F8_p0_count := F_count.other W8 (Or.inl ne1)
    have Z8 : n0 ≤ h8.size := Nat.le_trans Z0 (Keep.of_wr W8).1
    refine Goes.step (A := T8.setTop (mkF m 23 #[.val (.ref p0), .val (.int p1)] [])) (fun t kt => st8 _ kt) ?_
    refine Goes.step (A := T8.setTop (mkF m 24 #[.val (.ref p0), .val (.int p1)] [(.ref p0)])) (fun t kt => ?_) ?_
    · refine XS.aloadN X8.here hx rfl (hb hby d4_23) rfl rfl ?_
      exact kt
    obtain ⟨T9, X9, e9, st9⟩ := getF X8 hx hZ hown (host := "") (Or.inl (hw _ (List.mem_of_getElem? (i := 15) rfl))) Via.refl e8 F8_p0_taken (g := (mkF m 24 #[.val (.ref p0), .val (.int p1)] [(.ref p0)])) rfl rfl (hb hby d4_24)
    refine Goes.step (A := T9.setTop (mkF m 27 #[.val (.ref p0), .val (.int p1)] [(.ref a2)])) (fun t kt => st9 _ kt) ?_
    refine Goes.step (A := T9.setTop (mkF m 29 #[.val (.ref p0), .val (.int p1)] [(.ref p0), (.ref p0), (.ref a2)])) (fun t kt => ?_) ?_
    · refine XS.aloadN X9.here hx rfl (hb hby d4_27) rfl rfl ?_
      show Steps p.tables e below (T9.setTop (mkF m 28 #[.val (.ref p0), .val (.int p1)] [(.ref p0), (.ref a2)])) _
      refine XS.dup X9.here hx rfl (hb hby d4_28) rfl rfl ?_
      exact kt
    obtain ⟨T10, X10, e10, st10⟩ := getF X9 hx hZ hown (host := "") (Or.inl (hw _ (List.mem_of_getElem? (i := 25) rfl))) Via.refl e9 F8_p0_count (g := (mkF m 29 #[.val (.ref p0), .val (.int p1)] [(.ref p0), (.ref p0), (.ref a2)])) rfl rfl (hb hby d4_29)
    refine Goes.step (A := T10.setTop (mkF m 32 #[.val (.ref p0), .val (.int p1)] [(.int cnt), (.ref p0), (.ref a2)])) (fun t kt => st10 _ kt) ?_
    refine Goes.step (A := T10.setTop (mkF m 35 #[.val (.ref p0), .val (.int p1)] [(.int (cnt + (1 : Int32))), (.ref p0), (.int cnt), (.ref a2)])) (fun t kt => ?_) ?_
    · refine XS.dupX1 X10.here hx rfl (hb hby d4_32) rfl rfl rfl ?_
      show Steps p.tables e below (T10.setTop (mkF m 33 #[.val (.ref p0), .val (.int p1)] [(.int cnt), (.ref p0), (.int cnt), (.ref a2)])) _
      refine XS.iconst X10.here hx rfl (hb hby d4_33) ?_
      show Steps p.tables e below (T10.setTop (mkF m 34 #[.val (.ref p0), .val (.int p1)] [(.int (1 : Int32)), (.int cnt), (.ref p0), (.int cnt), (.ref a2)])) _
      refine XS.iadd X10.here hx rfl (hb hby d4_34) rfl ?_
      exact kt
    obtain ⟨T11, h11, X11, e11, W11, st11⟩ := putF X10 hx hZ hown (host := "") (Or.inl (hw _ (List.mem_of_getElem? (i := 25) rfl))) Via.refl e10 F8_p0_count E8_p0 (Or.inl (hw _ (List.mem_of_getElem? (i := 26) rfl))) (hw _ (List.mem_of_getElem? (i := 2) rfl)) (ty := .int) (by decide) rfl rfl (g := (mkF m 35 #[.val (.ref p0), .val (.int p1)] [(.int (cnt + (1 : Int32))), (.ref p0), (.int cnt), (.ref a2)])) rfl rfl (hb hby d4_35)
    have N11 := Fr.snoc X11 N8 g9
    have E11_p0 := E8_p0.wr W11
    have V11_a1 := V8_a1.other W11 ne1.symm
    have V11_a2 := V8_a2.other W11 ne2.symm
    have F11_p0_siteCount := F8_p0_siteCount.other W11 (Or.inr (slot_ne (Or.inr (hw _ (List.mem_of_getElem? (i := 11) rfl))) (Or.inl (hw _ (List.mem_of_getElem? (i := 26) rfl))) (by decide) (t := .int) (t' := .int) (by decide) (by decide)))
    have F11_p0_takenIn := F8_p0_takenIn.other W11 (Or.inr (slot_ne (Or.inr (hw _ (List.mem_of_getElem? (i := 14) rfl))) (Or.inl (hw _ (List.mem_of_getElem? (i := 26) rfl))) (by decide) (t := (.array .int)) (t' := .int) (by decide) (by decide)))
    have F11_p0_taken := F8_p0_taken.other W11 (Or.inr (slot_ne (Or.inr (hw _ (List.mem_of_getElem? (i := 16) rfl))) (Or.inl (hw _ (List.mem_of_getElem? (i := 26) rfl))) (by decide) (t := (.array .int)) (t' := .int) (by decide) (by decide)))
    have F11_p0_collection := F8_p0_collection.other W11 (Or.inr (slot_ne (Or.inl (hw _ (List.mem_of_getElem? (i := 23) rfl))) (Or.inl (hw _ (List.mem_of_getElem? (i := 26) rfl))) (by decide) (t := .int) (t' := .int) (by decide) (by decide)))
    have F11_p0_count : Fld Z h11 p0 "com/example/shardwright/shardwright/recommend/SitesToTry" "count" "I" (.int (cnt + (1 : Int32))) := F8_p0_count.same W11
    have Z11 : n0 ≤ h11.size := Nat.le_trans Z8 (Keep.of_wr W11).1
    refine Goes.step (A := T11.setTop (mkF m 38 #[.val (.ref p0), .val (.int p1)] [(.int cnt), (.ref a2)])) (fun t kt => st11 _ kt) ?_
    refine Goes.step (A := T11.setTop (mkF m 39 #[.val (.ref p0), .val (.int p1)] [(.int p1), (.int cnt), (.ref a2)])) (fun t kt => ?_) ?_
    · refine XS.iloadN X11.here hx rfl (hb hby d4_38) rfl ?_
      exact kt
    obtain ⟨cl12, Ar12, Sz12, Nn12, Hh12⟩ := id V11_a2
    obtain ⟨T12, h12, X12, e12, W12, st12⟩ := stI X11 hx hZ e11 Ar12 (j := cnt) (inb_of Sz12 (hc hc10_1)) (g := (mkF m 39 #[.val (.ref p0), .val (.int p1)] [(.int p1), (.int cnt), (.ref a2)])) rfl rfl (hb hby d4_39)
    have N12 := Fr.snoc X12 N11 g2
    have E12_p0 := E11_p0.wr W12
    have V12_a1 := V11_a1.other W12 ne3
    have V12_a2 := IArr.set V11_a2 (hc hc10_1).1 (hc hc10_1).2 W12
    have F12_p0_siteCount := F11_p0_siteCount.other W12 (Or.inl ne2)
    have F12_p0_takenIn := F11_p0_takenIn.other W12 (Or.inl ne2)
    have F12_p0_taken := F11_p0_taken.other W12 (Or.inl ne2)
    have F12_p0_collection := F11_p0_collection.other W12 (Or.inl ne2)
    have F12_p0_count := F11_p0_count.other W12 (Or.inl ne2)
    have Z12 : n0 ≤ h12.size := Nat.le_trans Z11 (Keep.of_wr W12).1
    refine Goes.step (A := T12.setTop (mkF m 40 #[.val (.ref p0), .val (.int p1)] [])) (fun t kt => st12 _ kt) ?_
    refine Goes.step (A := T12.setTop (mkF m 41 #[.val (.ref p0), .val (.int p1)] [(.ref p0)])) (fun t kt => ?_) ?_
    · refine XS.aloadN X12.here hx rfl (hb hby d4_40) rfl rfl ?_
      exact kt
    obtain ⟨T13, X13, e13, st13⟩ := getF X12 hx hZ hown (host := "") (Or.inl (hw _ (List.mem_of_getElem? (i := 25) rfl))) Via.refl e12 F12_p0_count (g := (mkF m 41 #[.val (.ref p0), .val (.int p1)] [(.ref p0)])) rfl rfl (hb hby d4_41)
    refine Goes.step (A := T13.setTop (mkF m 44 #[.val (.ref p0), .val (.int p1)] [(.int (cnt + (1 : Int32)))])) (fun t kt => st13 _ kt) ?_
    refine Goes.step (A := T13.setTop (mkF m 45 #[.val (.ref p0), .val (.int p1)] [(.ref p0), (.int (cnt + (1 : Int32)))])) (fun t kt => ?_) ?_
    · refine XS.aloadN X13.here hx rfl (hb hby d4_44) rfl rfl ?_
      exact kt
    obtain ⟨T14, X14, e14, st14⟩ := getF X13 hx hZ hown (host := "") (Or.inl (hw _ (List.mem_of_getElem? (i := 10) rfl))) Via.refl e13 F12_p0_siteCount (g := (mkF m 45 #[.val (.ref p0), .val (.int p1)] [(.ref p0), (.int (cnt + (1 : Int32)))])) rfl rfl (hb hby d4_45)
    refine Goes.step (A := T14.setTop (mkF m 48 #[.val (.ref p0), .val (.int p1)] [(.int nn), (.int (cnt + (1 : Int32)))])) (fun t kt => st14 _ kt) ?_
    by_cases hc48_3 : (cnt + (1 : Int32)) = nn
    · refine Goes.step (A := T14.setTop (mkF m 51 #[.val (.ref p0), .val (.int p1)] [])) (fun t kt => XS.icmpNo X14.here hx rfl (hb hby d4_48) rfl (teq hc48_3).2 kt) ?_
      refine Goes.step (A := T14.setTop (mkF m 56 #[.val (.ref p0), .val (.int p1)] [(.int (1 : Int32))])) (fun t kt => ?_) ?_
      · refine XS.iconst X14.here hx rfl (hb hby d4_51) ?_
        show Steps p.tables e below (T14.setTop (mkF m 52 #[.val (.ref p0), .val (.int p1)] [(.int (1 : Int32))])) _
        refine XS.goto X14.here hx rfl (pc0 := 52) (pc' := 56) rfl (hb hby d4_52) (by decide) (by decide) ?_
        exact kt
      obtain ⟨fs, hr, hrun, hended, hW, hsame⟩ := X14.leave (v := some (.int (1 : Int32))) (fun h => by rw [Bd.returns] at h; cases h)
      refine Goes.done ?_ hrun hended ⟨_, _, rfl, ?_, ⟨_, rfl⟩, hW, hsame.mono (by decide) (by decide)⟩
      · exact retN X14 hx (t := .boolean) Bd.returns (by simp) (hb hby d4_56) hr
      · show Q4 Z p0 p1 a1 a2 nn col cnt tk h0 n0 _ T14.heap _
        rw [e14]
        have tc : takeC tk col cnt p1 = (cnt + (1 : Int32)) := (if_neg hc10_1)
        unfold Q4
        rw [tc]
        exact ⟨congrArg some (congrArg Value.int (by simp [eqF, hc48_3])), N12, ⟨E12_p0, F12_p0_siteCount, F12_p0_takenIn, F12_p0_taken, F12_p0_collection, F12_p0_count, V12_a1, ⟨_, V12_a2⟩, ne1, ne2, ne3⟩⟩
    · refine Goes.step (A := T14.setTop (mkF m 55 #[.val (.ref p0), .val (.int p1)] [])) (fun t kt => XS.icmpYes X14.here hx rfl (pc0 := 48) (pc' := 55) rfl (hb hby d4_48) rfl (feq hc48_3).2 (by decide) (by decide) kt) ?_
      refine Goes.step (A := T14.setTop (mkF m 56 #[.val (.ref p0), .val (.int p1)] [(.int (0 : Int32))])) (fun t kt => ?_) ?_
      · refine XS.iconst X14.here hx rfl (hb hby d4_55) ?_
        exact kt
      obtain ⟨fs, hr, hrun, hended, hW, hsame⟩ := X14.leave (v := some (.int (0 : Int32))) (fun h => by rw [Bd.returns] at h; cases h)
      refine Goes.done ?_ hrun hended ⟨_, _, rfl, ?_, ⟨_, rfl⟩, hW, hsame.mono (by decide) (by decide)⟩
      · exact retN X14 hx (t := .boolean) Bd.returns (by simp) (hb hby d4_56) hr
      · show Q4 Z p0 p1 a1 a2 nn col cnt tk h0 n0 _ T14.heap _
        rw [e14]
        have tc : takeC tk col cnt p1 = (cnt + (1 : Int32)) := (if_neg hc10_1)
        unfold Q4
        rw [tc]
        exact ⟨congrArg some (congrArg Value.int (by simp [eqF, hc48_3])), N12, ⟨E12_p0, F12_p0_siteCount, F12_p0_takenIn, F12_p0_taken, F12_p0_collection, F12_p0_count, V12_a1, ⟨_, V12_a2⟩, ne1, ne2, ne3⟩⟩
theorem ef_6 (m : MethodId) (x0 : Addr) (x1 : Int32) : entryFrame m #[(.ref x0), (.int x1)] 2 = mkF m 0 #[.val (.ref x0), .val (.int x1)] [] := by first | (simp [entryFrame, mkF, argsToLocals, Value.category]; done) | rfl
def Q6 (Z : State) (p0 : Addr) (p1 : Int32) (a1 : Addr) (a2 : Addr) (nn : Int32) (col : Int32) (cnt : Int32) (tk : Int32 → Int32) (h0 : Heap) (n0 : Nat) (v : Option Value) (h : Heap) (L : List Loc) : Prop := v = some (.int (eqF (tk p1) col)) ∧ Fr n0 L ∧ h = h0
theorem d6_0 : decode prog_47_method_3_code 0 = .ok (.aload_n 0, 1) := by decide +kernel
theorem d6_1 : decode prog_47_method_3_code 1 = .ok (.getfield 13, 3) := by decide +kernel
theorem d6_4 : decode prog_47_method_3_code 4 = .ok (.iload_n 1, 1) := by decide +kernel
theorem d6_5 : decode prog_47_method_3_code 5 = .ok (.iaload, 1) := by decide +kernel
theorem d6_6 : decode prog_47_method_3_code 6 = .ok (.aload_n 0, 1) := by decide +kernel
theorem d6_7 : decode prog_47_method_3_code 7 = .ok (.getfield 20, 3) := by decide +kernel
theorem d6_10 : decode prog_47_method_3_code 10 = .ok (.if_icmp .ne 7, 3) := by decide +kernel
theorem d6_13 : decode prog_47_method_3_code 13 = .ok (.iconst 1, 1) := by decide +kernel
theorem d6_14 : decode prog_47_method_3_code 14 = .ok (.goto 4, 3) := by decide +kernel
theorem d6_17 : decode prog_47_method_3_code 17 = .ok (.iconst 0, 1) := by decide +kernel
theorem d6_18 : decode prog_47_method_3_code 18 = .ok (.ireturn, 1) := by decide +kernel
theorem pn_6 : plainName "com/example/shardwright/shardwright/recommend/SitesToTry" = true := by first | (simp [plainName, overriddenIn]; done) | decide +kernel
set_option maxRecDepth 65536 in
set_option maxHeartbeats 40000000 in
theorem rm6 (l : Launch) (Z : State) (a0 : Array Value) (hw : ∀ d ∈ tables_1, d.before a0 Z = true) (ws : List Jvm.Cond) (p0 : Addr) (p1 : Int32) (a1 : Addr) (a2 : Addr) (nn : Int32) (col : Int32) (cnt : Int32) (tk : Int32 → Int32) (h0 : Heap) (n0 : Nat) (Z0 : n0 ≤ h0.size) (St : Site Z h0 p0 a1 a2 nn col cnt tk) (hs : Rg nn p1) :
    MetFree l (⟨"com/example/shardwright/shardwright/recommend/SitesToTry", "isTaken", "(I)Z"⟩ : MethodName) (head1 (Jvm.Cond.code (⟨"com/example/shardwright/shardwright/recommend/SitesToTry", "isTaken", "(I)Z"⟩ : MethodName) prog_47_method_3_code 2 (some .boolean) :: ws) ({ frames := 0, cells := 0, slots := 0, locals := 0 } : Room)) (fun a U => a = #[(.ref p0), (.int p1)] ∧ Z.Warmed39 U.vm ∧ U.heap = h0) (fun _ _ _ _ _ => True) (fun _ U o U' => ∃ v L, o = .returned v ∧ Q6 Z p0 p1 a1 a2 nn col cnt tk h0 n0 v U'.heap L ∧ FrameEnd U o U' L ({ frames := 0, cells := 0, slots := 0, locals := 0 } : Room).cells ({ frames := 0, cells := 0, slots := 0, locals := 0 } : Room).slots) := by
  refine MetFree.of_bodySF (plainFor_of_name pn_6) hisR ?_
  intro p e s m args below meth c s₁ Bd hml0 hP hK
  obtain ⟨rfl, hZ, hh⟩ := hP
  have hx := Bd.exec
  have hby := Bd.bytes
  have hml : c.maxLocals = 2 := hml0
  have hown : s.vm.findClass "com/example/shardwright/shardwright/recommend/SitesToTry" = some m.cls := findClass_of_methodNamed Bd.named
  have hnm := (name_of_methodNamed Bd.named Bd.method).1
  have X0 : Stand p l e ({ frames := 0, cells := 0, slots := 0, locals := 0 } : Room) s m #[(.ref p0), (.int p1)] below meth c s₁ [] 0 0 := Stand.of_body Bd
  have e0 : s₁.heap = h0 := by rw [← hh, Bd.state]; rfl
  have N0 := Fr.nil n0
  refine Goes.start (Q := (fun o U' => ∃ v L, o = .returned v ∧ Q6 Z p0 p1 a1 a2 nn col cnt tk h0 n0 v U'.heap L ∧ FrameEnd s o U' L ({ frames := 0, cells := 0, slots := 0, locals := 0 } : Room).cells ({ frames := 0, cells := 0, slots := 0, locals := 0 } : Room).slots)) (A := s₁.setTop (mkF m 0 #[.val (.ref p0), .val (.int p1)] [])) (fun t k => castTop (ef_6 m p0 p1) k) ?_
  obtain ⟨E7, F_siteCount, F_takenIn, F_taken, F_collection, F_count, V1, ⟨U2, V2⟩, ne1, ne2, ne3⟩ := St
  refine Goes.step (A := s₁.setTop (mkF m 1 #[.val (.ref p0), .val (.int p1)] [(.ref p0)])) (fun t kt => ?_) ?_
  · refine XS.aloadN X0.here hx rfl (hb hby d6_0) rfl rfl ?_
    exact kt
  obtain ⟨T1, X1, e1, st1⟩ := getF X0 hx hZ hown (host := "") (Or.inl (hw _ (List.mem_of_getElem? (i := 13) rfl))) Via.refl e0 F_takenIn (g := (mkF m 1 #[.val (.ref p0), .val (.int p1)] [(.ref p0)])) rfl rfl (hb hby d6_1)
  refine Goes.step (A := T1.setTop (mkF m 4 #[.val (.ref p0), .val (.int p1)] [(.ref a1)])) (fun t kt => st1 _ kt) ?_
  refine Goes.step (A := T1.setTop (mkF m 5 #[.val (.ref p0), .val (.int p1)] [(.int p1), (.ref a1)])) (fun t kt => ?_) ?_
  · refine XS.iloadN X1.here hx rfl (hb hby d6_4) rfl ?_
    exact kt
  obtain ⟨cl2, Ar2, Sz2, Nn2, Hh2⟩ := id V1
  refine Goes.step (A := T1.setTop (mkF m 7 #[.val (.ref p0), .val (.int p1)] [(.ref p0), (.int (tk p1))])) (fun t kt => ?_) ?_
  · refine X1.iaload hx (j := p1) (v := (.int (tk p1))) (by rw [e1]; exact Ar2.1) (State.isArrayOf_alike hZ.alike Ar2.2.1) Ar2.2.2 (inb_of Sz2 hs) (Hh2 _ hs.1 hs.2) (g := (mkF m 5 #[.val (.ref p0), .val (.int p1)] [(.int p1), (.ref a1)])) rfl rfl (hb hby d6_5) _ ?_
    show Steps p.tables e below (T1.setTop (mkF m 6 #[.val (.ref p0), .val (.int p1)] [(.int (tk p1))])) _
    refine XS.aloadN X1.here hx rfl (hb hby d6_6) rfl rfl ?_
    exact kt
  obtain ⟨T3, X3, e3, st3⟩ := getF X1 hx hZ hown (host := "") (Or.inl (hw _ (List.mem_of_getElem? (i := 22) rfl))) Via.refl e1 F_collection (g := (mkF m 7 #[.val (.ref p0), .val (.int p1)] [(.ref p0), (.int (tk p1))])) rfl rfl (hb hby d6_7)
  refine Goes.step (A := T3.setTop (mkF m 10 #[.val (.ref p0), .val (.int p1)] [(.int col), (.int (tk p1))])) (fun t kt => st3 _ kt) ?_
  by_cases hc10_4 : (tk p1) = col
  · refine Goes.step (A := T3.setTop (mkF m 13 #[.val (.ref p0), .val (.int p1)] [])) (fun t kt => XS.icmpNo X3.here hx rfl (hb hby d6_10) rfl (teq hc10_4).2 kt) ?_
    refine Goes.step (A := T3.setTop (mkF m 18 #[.val (.ref p0), .val (.int p1)] [(.int (1 : Int32))])) (fun t kt => ?_) ?_
    · refine XS.iconst X3.here hx rfl (hb hby d6_13) ?_
      show Steps p.tables e below (T3.setTop (mkF m 14 #[.val (.ref p0), .val (.int p1)] [(.int (1 : Int32))])) _
      refine XS.goto X3.here hx rfl (pc0 := 14) (pc' := 18) rfl (hb hby d6_14) (by decide) (by decide) ?_
      exact kt
    obtain ⟨fs, hr, hrun, hended, hW, hsame⟩ := X3.leave (v := some (.int (1 : Int32))) (fun h => by rw [Bd.returns] at h; cases h)
    refine Goes.done ?_ hrun hended ⟨_, _, rfl, ?_, ⟨_, rfl⟩, hW, hsame.mono (by decide) (by decide)⟩
    · exact retN X3 hx (t := .boolean) Bd.returns (by simp) (hb hby d6_18) hr
    · show Q6 Z p0 p1 a1 a2 nn col cnt tk h0 n0 _ T3.heap _
      rw [e3]
      exact ⟨congrArg some (congrArg Value.int (by simp [eqF, hc10_4])), N0, rfl⟩
  · refine Goes.step (A := T3.setTop (mkF m 17 #[.val (.ref p0), .val (.int p1)] [])) (fun t kt => XS.icmpYes X3.here hx rfl (pc0 := 10) (pc' := 17) rfl (hb hby d6_10) rfl (feq hc10_4).2 (by decide) (by decide) kt) ?_
    refine Goes.step (A := T3.setTop (mkF m 18 #[.val (.ref p0), .val (.int p1)] [(.int (0 : Int32))])) (fun t kt => ?_) ?_
    · refine XS.iconst X3.here hx rfl (hb hby d6_17) ?_
      exact kt
    obtain ⟨fs, hr, hrun, hended, hW, hsame⟩ := X3.leave (v := some (.int (0 : Int32))) (fun h => by rw [Bd.returns] at h; cases h)
    refine Goes.done ?_ hrun hended ⟨_, _, rfl, ?_, ⟨_, rfl⟩, hW, hsame.mono (by decide) (by decide)⟩
    · exact retN X3 hx (t := .boolean) Bd.returns (by simp) (hb hby d6_18) hr
    · show Q6 Z p0 p1 a1 a2 nn col cnt tk h0 n0 _ T3.heap _
      rw [e3]
      exact ⟨congrArg some (congrArg Value.int (by simp [eqF, hc10_4])), N0, rfl⟩
theorem ef_5 (m : MethodId) (x0 : Addr) (x1 : Int32) (x2 : Int32) (x3 : Int32) (x4 : Int32) (x5 : Int32) (x6 : Int32) : entryFrame m #[(.ref x0), (.int x1), (.int x2), (.int x3), (.int x4), (.int x5), (.int x6)] 8 = mkF m 0 #[.val (.ref x0), .val (.int x1), .val (.int x2), .val (.int x3), .val (.int x4), .val (.int x5), .val (.int x6), .unset] [] := by first | (simp [entryFrame, mkF, argsToLocals, Value.category]; done) | rfl
def Q5 (Z : State) (p0 : Addr) (p1 : Int32) (p2 : Int32) (p3 : Int32) (p4 : Int32) (p5 : Int32) (p6 : Int32) (a1 : Addr) (a2 : Addr) (nn : Int32) (col : Int32) (cnt : Int32) (tk : Int32 → Int32) (h0 : Heap) (n0 : Nat) (v : Option Value) (h : Heap) (L : List Loc) : Prop := v = some (.int 1) ∧ Fr n0 L ∧ h = h0
theorem d5_0 : decode method_3_code 0 = .ok (.iload_n 1, 1) := by decide +kernel
theorem d5_1 : decode method_3_code 1 = .ok (.iload_n 2, 1) := by decide +kernel
theorem d5_2 : decode method_3_code 2 = .ok (.if_icmp .lt 5, 3) := by decide +kernel
theorem d5_5 : decode method_3_code 5 = .ok (.iconst 1, 1) := by decide +kernel
theorem d5_6 : decode method_3_code 6 = .ok (.ireturn, 1) := by decide +kernel
theorem d5_7 : decode method_3_code 7 = .ok (.iload_n 1, 1) := by decide +kernel
theorem d5_8 : decode method_3_code 8 = .ok (.iload_n 3, 1) := by decide +kernel
theorem d5_9 : decode method_3_code 9 = .ok (.if_icmp .eq 21, 3) := by decide +kernel
theorem d5_12 : decode method_3_code 12 = .ok (.iload_n 1, 1) := by decide +kernel
theorem d5_13 : decode method_3_code 13 = .ok (.iload 4, 2) := by decide +kernel
theorem d5_15 : decode method_3_code 15 = .ok (.if_icmp .eq 15, 3) := by decide +kernel
theorem d5_18 : decode method_3_code 18 = .ok (.iload_n 1, 1) := by decide +kernel
theorem d5_19 : decode method_3_code 19 = .ok (.iload 5, 2) := by decide +kernel
theorem d5_21 : decode method_3_code 21 = .ok (.if_icmp .eq 9, 3) := by decide +kernel
theorem d5_24 : decode method_3_code 24 = .ok (.iload_n 1, 1) := by decide +kernel
theorem d5_25 : decode method_3_code 25 = .ok (.iload 6, 2) := by decide +kernel
theorem d5_27 : decode method_3_code 27 = .ok (.if_icmp .ne 7, 3) := by decide +kernel
theorem d5_30 : decode method_3_code 30 = .ok (.iconst 1, 1) := by decide +kernel
theorem d5_31 : decode method_3_code 31 = .ok (.goto 4, 3) := by decide +kernel
theorem d5_34 : decode method_3_code 34 = .ok (.iconst 0, 1) := by decide +kernel
theorem d5_35 : decode method_3_code 35 = .ok (.istore 7, 2) := by decide +kernel
theorem d5_37 : decode method_3_code 37 = .ok (.aload_n 0, 1) := by decide +kernel
theorem d5_38 : decode method_3_code 38 = .ok (.iload_n 1, 1) := by decide +kernel
theorem d5_39 : decode method_3_code 39 = .ok (.invokevirtual 26, 3) := by decide +kernel
theorem d5_42 : decode method_3_code 42 = .ok (.iload 7, 2) := by decide +kernel
theorem d5_44 : decode method_3_code 44 = .ok (.if_icmp .ne 7, 3) := by decide +kernel
theorem d5_47 : decode method_3_code 47 = .ok (.iconst 1, 1) := by decide +kernel
theorem d5_48 : decode method_3_code 48 = .ok (.goto 4, 3) := by decide +kernel
theorem d5_52 : decode method_3_code 52 = .ok (.ireturn, 1) := by decide +kernel
theorem pn_5 : plainName "com/example/shardwright/shardwright/recommend/SitesToTryTakePinLaw" = true := by first | (simp [plainName, overriddenIn]; done) | decide +kernel
theorem pd_0 : parseMethodDescriptor "(I)Z" = some ⟨[.int], some .boolean⟩ := by decide +kernel
set_option maxRecDepth 65536 in
set_option maxHeartbeats 40000000 in
theorem rm5 (l : Launch) (Z : State) (a0 : Array Value) (hw : ∀ d ∈ tables_1, d.before a0 Z = true) (ws : List Jvm.Cond) (p0 : Addr) (p1 : Int32) (p2 : Int32) (p3 : Int32) (p4 : Int32) (p5 : Int32) (p6 : Int32) (a1 : Addr) (a2 : Addr) (nn : Int32) (col : Int32) (cnt : Int32) (tk : Int32 → Int32) (h0 : Heap) (n0 : Nat) (Z0 : n0 ≤ h0.size) (St : Site Z h0 p0 a1 a2 nn col cnt tk) (hi0 : ¬ p1 < 0) (hpn : nn = p2) (hiff : Rg nn p1 → (tk p1 = col ↔ (p1 = p3 ∨ p1 = p4 ∨ p1 = p5 ∨ p1 = p6))) :
    MetFree l (⟨"com/example/shardwright/shardwright/recommend/SitesToTryTakePinLaw", "seen", "(Lcom/example/shardwright/shardwright/recommend/SitesToTry;IIIIII)Z"⟩ : MethodName) (head1 (Jvm.Cond.code (⟨"com/example/shardwright/shardwright/recommend/SitesToTryTakePinLaw", "seen", "(Lcom/example/shardwright/shardwright/recommend/SitesToTry;IIIIII)Z"⟩ : MethodName) method_3_code 8 (some .boolean) :: ws) ({ frames := 1, cells := 0, slots := 0, locals := 13 } : Room)) (fun a U => a = #[(.ref p0), (.int p1), (.int p2), (.int p3), (.int p4), (.int p5), (.int p6)] ∧ Z.Warmed39 U.vm ∧ U.heap = h0) (fun _ _ _ _ _ => True) (fun _ U o U' => ∃ v L, o = .returned v ∧ Q5 Z p0 p1 p2 p3 p4 p5 p6 a1 a2 nn col cnt tk h0 n0 v U'.heap L ∧ FrameEnd U o U' L ({ frames := 1, cells := 0, slots := 0, locals := 13 } : Room).cells ({ frames := 1, cells := 0, slots := 0, locals := 13 } : Room).slots) := by
  refine MetFree.of_bodySF (plainFor_of_name pn_5) hisR ?_
  intro p e s m args below meth c s₁ Bd hml0 hP hK
  obtain ⟨rfl, hZ, hh⟩ := hP
  have hx := Bd.exec
  have hby := Bd.bytes
  have hml : c.maxLocals = 8 := hml0
  have hown : s.vm.findClass "com/example/shardwright/shardwright/recommend/SitesToTryTakePinLaw" = some m.cls := findClass_of_methodNamed Bd.named
  have hnm := (name_of_methodNamed Bd.named Bd.method).1
  have X0 : Stand p l e ({ frames := 1, cells := 0, slots := 0, locals := 13 } : Room) s m #[(.ref p0), (.int p1), (.int p2), (.int p3), (.int p4), (.int p5), (.int p6)] below meth c s₁ [] 0 0 := Stand.of_body Bd
  have e0 : s₁.heap = h0 := by rw [← hh, Bd.state]; rfl
  have N0 := Fr.nil n0
  refine Goes.start (Q := (fun o U' => ∃ v L, o = .returned v ∧ Q5 Z p0 p1 p2 p3 p4 p5 p6 a1 a2 nn col cnt tk h0 n0 v U'.heap L ∧ FrameEnd s o U' L ({ frames := 1, cells := 0, slots := 0, locals := 13 } : Room).cells ({ frames := 1, cells := 0, slots := 0, locals := 13 } : Room).slots)) (A := s₁.setTop (mkF m 0 #[.val (.ref p0), .val (.int p1), .val (.int p2), .val (.int p3), .val (.int p4), .val (.int p5), .val (.int p6), .unset] [])) (fun t k => castTop (ef_5 m p0 p1 p2 p3 p4 p5 p6) k) ?_
  by_cases hlt : p1 < nn
  · have hlt' : p1 < p2 := hpn ▸ hlt
    have hq := hiff ⟨hi0, hlt⟩
    have cv : ∀ (ev : Int32) (he : eqF (tk p1) col = ev), Goes p.tables e below (fun o U' => ∃ v L, o = .returned v ∧ Q5 Z p0 p1 p2 p3 p4 p5 p6 a1 a2 nn col cnt tk h0 n0 v U'.heap L ∧ FrameEnd s o U' L ({ frames := 1, cells := 0, slots := 0, locals := 13 } : Room).cells ({ frames := 1, cells := 0, slots := 0, locals := 13 } : Room).slots) (s₁.setTop (mkF m 37 #[.val (.ref p0), .val (.int p1), .val (.int p2), .val (.int p3), .val (.int p4), .val (.int p5), .val (.int p6), .val (.int ev)] [])) := by
      intro ev he
      refine Goes.step (A := s₁.setTop (mkF m 39 #[.val (.ref p0), .val (.int p1), .val (.int p2), .val (.int p3), .val (.int p4), .val (.int p5), .val (.int p6), .val (.int ev)] [(.int p1), (.ref p0)])) (fun t kt => ?_) ?_
      · refine XS.aloadN X0.here hx rfl (hb hby d5_37) rfl rfl ?_
        show Steps p.tables e below (s₁.setTop (mkF m 38 #[.val (.ref p0), .val (.int p1), .val (.int p2), .val (.int p3), .val (.int p4), .val (.int p5), .val (.int p6), .val (.int ev)] [(.ref p0)])) _
        refine XS.iloadN X0.here hx rfl (hb hby d5_38) rfl ?_
        exact kt
      obtain ⟨cq1, kq1, q1a, q1b, q1c⟩ := isOf hZ e0 St.1
      obtain ⟨_, _, ⟨T1, L1, k1, n1⟩, -, X1, ⟨Lc1, hQ1, l1, y1, z1⟩, st1⟩ := X0.virtualBack hx (y := (⟨"com/example/shardwright/shardwright/recommend/SitesToTry", "isTaken", "(I)Z"⟩ : MethodName)) (z := (⟨"com/example/shardwright/shardwright/recommend/SitesToTry", "isTaken", "(I)Z"⟩ : MethodName)) hown (mvT hZ (hw _ (List.mem_of_getElem? (i := 36) rfl))) (mvT hZ (hw _ (List.mem_of_getElem? (i := 37) rfl))) (notFace_of_selects (args := #[]) (mvT hZ (hw _ (List.mem_of_getElem? (i := 39) rfl)))) (mvT hZ (hw _ (List.mem_of_getElem? (i := 39) rfl))) (mvT hZ (hw _ (List.mem_of_getElem? (i := 38) rfl))) (by decide) (backOf (W := 0) (rm6 l Z a0 hw [] p0 p1 a1 a2 nn col cnt tk h0 n0 Z0 St ⟨hi0, hlt⟩) hZ (hw _ (List.mem_of_getElem? (i := 40) rfl)) (hw _ (List.mem_of_getElem? (i := 3) rfl)) (by decide) (by decide)) q1a q1c (g := (mkF m 39 #[.val (.ref p0), .val (.int p1), .val (.int p2), .val (.int p3), .val (.int p4), .val (.int p5), .val (.int p6), .val (.int ev)] [(.int p1), (.ref p0)])) rfl (by rw [hml]; rfl) (Steps.refl _) (argsL := [(.int p1)]) (rest := []) (lenOf pd_0 rfl) rfl (by show 2 * 0 + _ ≤ _; exact Nat.le_of_eq rfl) (hb hby d5_39) (fun _ _ => ⟨rfl, e0, (by decide : 0 + 0 ≤ _), (by decide : 0 + 0 ≤ _)⟩)
      dsimp only [Pt.U, Pt.locs, Pt.cells, Pt.slots] at X1 l1 y1 z1 st1 hQ1
      subst l1 y1 z1
      obtain ⟨rfl, N1q, e1⟩ := hQ1
      have N1 := Fr.app N0 N1q
      refine Goes.step (A := T1.setTop (mkF m 42 #[.val (.ref p0), .val (.int p1), .val (.int p2), .val (.int p3), .val (.int p4), .val (.int p5), .val (.int p6), .val (.int ev)] [(.int (eqF (tk p1) col))])) (fun t kt => st1.trans kt) ?_
      refine Goes.step (A := T1.setTop (mkF m 44 #[.val (.ref p0), .val (.int p1), .val (.int p2), .val (.int p3), .val (.int p4), .val (.int p5), .val (.int p6), .val (.int ev)] [(.int ev), (.int (eqF (tk p1) col))])) (fun t kt => ?_) ?_
      · refine XS.iload X1.here hx rfl (hb hby d5_42) rfl ?_
        exact kt
      refine Goes.step (A := T1.setTop (mkF m 47 #[.val (.ref p0), .val (.int p1), .val (.int p2), .val (.int p3), .val (.int p4), .val (.int p5), .val (.int p6), .val (.int ev)] [])) (fun t kt => XS.icmpNo X1.here hx rfl (hb hby d5_44) rfl (teq (he : (eqF (tk p1) col) = ev)).2 kt) ?_
      refine Goes.step (A := T1.setTop (mkF m 52 #[.val (.ref p0), .val (.int p1), .val (.int p2), .val (.int p3), .val (.int p4), .val (.int p5), .val (.int p6), .val (.int ev)] [(.int (1 : Int32))])) (fun t kt => ?_) ?_
      · refine XS.iconst X1.here hx rfl (hb hby d5_47) ?_
        show Steps p.tables e below (T1.setTop (mkF m 48 #[.val (.ref p0), .val (.int p1), .val (.int p2), .val (.int p3), .val (.int p4), .val (.int p5), .val (.int p6), .val (.int ev)] [(.int (1 : Int32))])) _
        refine XS.goto X1.here hx rfl (pc0 := 48) (pc' := 52) rfl (hb hby d5_48) (by decide) (by decide) ?_
        exact kt
      obtain ⟨fs, hr, hrun, hended, hW, hsame⟩ := X1.leave (v := some (.int (1 : Int32))) (fun h => by rw [Bd.returns] at h; cases h)
      refine Goes.done ?_ hrun hended ⟨_, _, rfl, ?_, ⟨_, rfl⟩, hW, hsame.mono (by decide) (by decide)⟩
      · exact retN X1 hx (t := .boolean) Bd.returns (by simp) (hb hby d5_52) hr
      · show Q5 Z p0 p1 p2 p3 p4 p5 p6 a1 a2 nn col cnt tk h0 n0 _ T1.heap _
        rw [e1]
        exact ⟨rfl, N1, rfl⟩
    refine Goes.step (A := s₁.setTop (mkF m 2 #[.val (.ref p0), .val (.int p1), .val (.int p2), .val (.int p3), .val (.int p4), .val (.int p5), .val (.int p6), .unset] [(.int p2), (.int p1)])) (fun t kt => ?_) ?_
    · refine XS.iloadN X0.here hx rfl (hb hby d5_0) rfl ?_
      show Steps p.tables e below (s₁.setTop (mkF m 1 #[.val (.ref p0), .val (.int p1), .val (.int p2), .val (.int p3), .val (.int p4), .val (.int p5), .val (.int p6), .unset] [(.int p1)])) _
      refine XS.iloadN X0.here hx rfl (hb hby d5_1) rfl ?_
      exact kt
    refine Goes.step (A := s₁.setTop (mkF m 7 #[.val (.ref p0), .val (.int p1), .val (.int p2), .val (.int p3), .val (.int p4), .val (.int p5), .val (.int p6), .unset] [])) (fun t kt => XS.icmpYes X0.here hx rfl (pc0 := 2) (pc' := 7) rfl (hb hby d5_2) rfl (tlt (hlt' : p1 < p2)).1 (by decide) (by decide) kt) ?_
    refine Goes.step (A := s₁.setTop (mkF m 9 #[.val (.ref p0), .val (.int p1), .val (.int p2), .val (.int p3), .val (.int p4), .val (.int p5), .val (.int p6), .unset] [(.int p3), (.int p1)])) (fun t kt => ?_) ?_
    · refine XS.iloadN X0.here hx rfl (hb hby d5_7) rfl ?_
      show Steps p.tables e below (s₁.setTop (mkF m 8 #[.val (.ref p0), .val (.int p1), .val (.int p2), .val (.int p3), .val (.int p4), .val (.int p5), .val (.int p6), .unset] [(.int p1)])) _
      refine XS.iloadN X0.here hx rfl (hb hby d5_8) rfl ?_
      exact kt
    by_cases hc9_5 : p1 = p3
    · refine Goes.step (A := s₁.setTop (mkF m 30 #[.val (.ref p0), .val (.int p1), .val (.int p2), .val (.int p3), .val (.int p4), .val (.int p5), .val (.int p6), .unset] [])) (fun t kt => XS.icmpYes X0.here hx rfl (pc0 := 9) (pc' := 30) rfl (hb hby d5_9) rfl (teq hc9_5).1 (by decide) (by decide) kt) ?_
      refine Goes.step (A := s₁.setTop (mkF m 37 #[.val (.ref p0), .val (.int p1), .val (.int p2), .val (.int p3), .val (.int p4), .val (.int p5), .val (.int p6), .val (.int (1 : Int32))] [])) (fun t kt => ?_) ?_
      · refine XS.iconst X0.here hx rfl (hb hby d5_30) ?_
        show Steps p.tables e below (s₁.setTop (mkF m 31 #[.val (.ref p0), .val (.int p1), .val (.int p2), .val (.int p3), .val (.int p4), .val (.int p5), .val (.int p6), .unset] [(.int (1 : Int32))])) _
        refine XS.goto X0.here hx rfl (pc0 := 31) (pc' := 35) rfl (hb hby d5_31) (by decide) (by decide) ?_
        show Steps p.tables e below (s₁.setTop (mkF m 35 #[.val (.ref p0), .val (.int p1), .val (.int p2), .val (.int p3), .val (.int p4), .val (.int p5), .val (.int p6), .unset] [(.int (1 : Int32))])) _
        refine XS.istore X0.here hx rfl (hb hby d5_35) rfl (l' := #[.val (.ref p0), .val (.int p1), .val (.int p2), .val (.int p3), .val (.int p4), .val (.int p5), .val (.int p6), .val (.int (1 : Int32))]) rfl ?_
        exact kt
      exact cv _ (if_pos (hq.mpr (Or.inl hc9_5)))
    · refine Goes.step (A := s₁.setTop (mkF m 12 #[.val (.ref p0), .val (.int p1), .val (.int p2), .val (.int p3), .val (.int p4), .val (.int p5), .val (.int p6), .unset] [])) (fun t kt => XS.icmpNo X0.here hx rfl (hb hby d5_9) rfl (feq hc9_5).1 kt) ?_
      refine Goes.step (A := s₁.setTop (mkF m 15 #[.val (.ref p0), .val (.int p1), .val (.int p2), .val (.int p3), .val (.int p4), .val (.int p5), .val (.int p6), .unset] [(.int p4), (.int p1)])) (fun t kt => ?_) ?_
      · refine XS.iloadN X0.here hx rfl (hb hby d5_12) rfl ?_
        show Steps p.tables e below (s₁.setTop (mkF m 13 #[.val (.ref p0), .val (.int p1), .val (.int p2), .val (.int p3), .val (.int p4), .val (.int p5), .val (.int p6), .unset] [(.int p1)])) _
        refine XS.iload X0.here hx rfl (hb hby d5_13) rfl ?_
        exact kt
      by_cases hc15_6 : p1 = p4
      · refine Goes.step (A := s₁.setTop (mkF m 30 #[.val (.ref p0), .val (.int p1), .val (.int p2), .val (.int p3), .val (.int p4), .val (.int p5), .val (.int p6), .unset] [])) (fun t kt => XS.icmpYes X0.here hx rfl (pc0 := 15) (pc' := 30) rfl (hb hby d5_15) rfl (teq hc15_6).1 (by decide) (by decide) kt) ?_
        refine Goes.step (A := s₁.setTop (mkF m 37 #[.val (.ref p0), .val (.int p1), .val (.int p2), .val (.int p3), .val (.int p4), .val (.int p5), .val (.int p6), .val (.int (1 : Int32))] [])) (fun t kt => ?_) ?_
        · refine XS.iconst X0.here hx rfl (hb hby d5_30) ?_
          show Steps p.tables e below (s₁.setTop (mkF m 31 #[.val (.ref p0), .val (.int p1), .val (.int p2), .val (.int p3), .val (.int p4), .val (.int p5), .val (.int p6), .unset] [(.int (1 : Int32))])) _
          refine XS.goto X0.here hx rfl (pc0 := 31) (pc' := 35) rfl (hb hby d5_31) (by decide) (by decide) ?_
          show Steps p.tables e below (s₁.setTop (mkF m 35 #[.val (.ref p0), .val (.int p1), .val (.int p2), .val (.int p3), .val (.int p4), .val (.int p5), .val (.int p6), .unset] [(.int (1 : Int32))])) _
          refine XS.istore X0.here hx rfl (hb hby d5_35) rfl (l' := #[.val (.ref p0), .val (.int p1), .val (.int p2), .val (.int p3), .val (.int p4), .val (.int p5), .val (.int p6), .val (.int (1 : Int32))]) rfl ?_
          exact kt
        exact cv _ (if_pos (hq.mpr (Or.inr (Or.inl hc15_6))))
      · refine Goes.step (A := s₁.setTop (mkF m 18 #[.val (.ref p0), .val (.int p1), .val (.int p2), .val (.int p3), .val (.int p4), .val (.int p5), .val (.int p6), .unset] [])) (fun t kt => XS.icmpNo X0.here hx rfl (hb hby d5_15) rfl (feq hc15_6).1 kt) ?_
        refine Goes.step (A := s₁.setTop (mkF m 21 #[.val (.ref p0), .val (.int p1), .val (.int p2), .val (.int p3), .val (.int p4), .val (.int p5), .val (.int p6), .unset] [(.int p5), (.int p1)])) (fun t kt => ?_) ?_
        · refine XS.iloadN X0.here hx rfl (hb hby d5_18) rfl ?_
          show Steps p.tables e below (s₁.setTop (mkF m 19 #[.val (.ref p0), .val (.int p1), .val (.int p2), .val (.int p3), .val (.int p4), .val (.int p5), .val (.int p6), .unset] [(.int p1)])) _
          refine XS.iload X0.here hx rfl (hb hby d5_19) rfl ?_
          exact kt
        by_cases hc21_7 : p1 = p5
        · refine Goes.step (A := s₁.setTop (mkF m 30 #[.val (.ref p0), .val (.int p1), .val (.int p2), .val (.int p3), .val (.int p4), .val (.int p5), .val (.int p6), .unset] [])) (fun t kt => XS.icmpYes X0.here hx rfl (pc0 := 21) (pc' := 30) rfl (hb hby d5_21) rfl (teq hc21_7).1 (by decide) (by decide) kt) ?_
          refine Goes.step (A := s₁.setTop (mkF m 37 #[.val (.ref p0), .val (.int p1), .val (.int p2), .val (.int p3), .val (.int p4), .val (.int p5), .val (.int p6), .val (.int (1 : Int32))] [])) (fun t kt => ?_) ?_
          · refine XS.iconst X0.here hx rfl (hb hby d5_30) ?_
            show Steps p.tables e below (s₁.setTop (mkF m 31 #[.val (.ref p0), .val (.int p1), .val (.int p2), .val (.int p3), .val (.int p4), .val (.int p5), .val (.int p6), .unset] [(.int (1 : Int32))])) _
            refine XS.goto X0.here hx rfl (pc0 := 31) (pc' := 35) rfl (hb hby d5_31) (by decide) (by decide) ?_
            show Steps p.tables e below (s₁.setTop (mkF m 35 #[.val (.ref p0), .val (.int p1), .val (.int p2), .val (.int p3), .val (.int p4), .val (.int p5), .val (.int p6), .unset] [(.int (1 : Int32))])) _
            refine XS.istore X0.here hx rfl (hb hby d5_35) rfl (l' := #[.val (.ref p0), .val (.int p1), .val (.int p2), .val (.int p3), .val (.int p4), .val (.int p5), .val (.int p6), .val (.int (1 : Int32))]) rfl ?_
            exact kt
          exact cv _ (if_pos (hq.mpr (Or.inr (Or.inr (Or.inl hc21_7)))))
        · refine Goes.step (A := s₁.setTop (mkF m 24 #[.val (.ref p0), .val (.int p1), .val (.int p2), .val (.int p3), .val (.int p4), .val (.int p5), .val (.int p6), .unset] [])) (fun t kt => XS.icmpNo X0.here hx rfl (hb hby d5_21) rfl (feq hc21_7).1 kt) ?_
          refine Goes.step (A := s₁.setTop (mkF m 27 #[.val (.ref p0), .val (.int p1), .val (.int p2), .val (.int p3), .val (.int p4), .val (.int p5), .val (.int p6), .unset] [(.int p6), (.int p1)])) (fun t kt => ?_) ?_
          · refine XS.iloadN X0.here hx rfl (hb hby d5_24) rfl ?_
            show Steps p.tables e below (s₁.setTop (mkF m 25 #[.val (.ref p0), .val (.int p1), .val (.int p2), .val (.int p3), .val (.int p4), .val (.int p5), .val (.int p6), .unset] [(.int p1)])) _
            refine XS.iload X0.here hx rfl (hb hby d5_25) rfl ?_
            exact kt
          by_cases hc27_8 : p1 = p6
          · refine Goes.step (A := s₁.setTop (mkF m 30 #[.val (.ref p0), .val (.int p1), .val (.int p2), .val (.int p3), .val (.int p4), .val (.int p5), .val (.int p6), .unset] [])) (fun t kt => XS.icmpNo X0.here hx rfl (hb hby d5_27) rfl (teq hc27_8).2 kt) ?_
            refine Goes.step (A := s₁.setTop (mkF m 37 #[.val (.ref p0), .val (.int p1), .val (.int p2), .val (.int p3), .val (.int p4), .val (.int p5), .val (.int p6), .val (.int (1 : Int32))] [])) (fun t kt => ?_) ?_
            · refine XS.iconst X0.here hx rfl (hb hby d5_30) ?_
              show Steps p.tables e below (s₁.setTop (mkF m 31 #[.val (.ref p0), .val (.int p1), .val (.int p2), .val (.int p3), .val (.int p4), .val (.int p5), .val (.int p6), .unset] [(.int (1 : Int32))])) _
              refine XS.goto X0.here hx rfl (pc0 := 31) (pc' := 35) rfl (hb hby d5_31) (by decide) (by decide) ?_
              show Steps p.tables e below (s₁.setTop (mkF m 35 #[.val (.ref p0), .val (.int p1), .val (.int p2), .val (.int p3), .val (.int p4), .val (.int p5), .val (.int p6), .unset] [(.int (1 : Int32))])) _
              refine XS.istore X0.here hx rfl (hb hby d5_35) rfl (l' := #[.val (.ref p0), .val (.int p1), .val (.int p2), .val (.int p3), .val (.int p4), .val (.int p5), .val (.int p6), .val (.int (1 : Int32))]) rfl ?_
              exact kt
            exact cv _ (if_pos (hq.mpr (Or.inr (Or.inr (Or.inr hc27_8)))))
          · refine Goes.step (A := s₁.setTop (mkF m 34 #[.val (.ref p0), .val (.int p1), .val (.int p2), .val (.int p3), .val (.int p4), .val (.int p5), .val (.int p6), .unset] [])) (fun t kt => XS.icmpYes X0.here hx rfl (pc0 := 27) (pc' := 34) rfl (hb hby d5_27) rfl (feq hc27_8).2 (by decide) (by decide) kt) ?_
            refine Goes.step (A := s₁.setTop (mkF m 37 #[.val (.ref p0), .val (.int p1), .val (.int p2), .val (.int p3), .val (.int p4), .val (.int p5), .val (.int p6), .val (.int (0 : Int32))] [])) (fun t kt => ?_) ?_
            · refine XS.iconst X0.here hx rfl (hb hby d5_34) ?_
              show Steps p.tables e below (s₁.setTop (mkF m 35 #[.val (.ref p0), .val (.int p1), .val (.int p2), .val (.int p3), .val (.int p4), .val (.int p5), .val (.int p6), .unset] [(.int (0 : Int32))])) _
              refine XS.istore X0.here hx rfl (hb hby d5_35) rfl (l' := #[.val (.ref p0), .val (.int p1), .val (.int p2), .val (.int p3), .val (.int p4), .val (.int p5), .val (.int p6), .val (.int (0 : Int32))]) rfl ?_
              exact kt
            exact cv _ (if_neg (fun q => (hq.mp q).elim hc9_5 (fun q => q.elim hc15_6 (fun q => q.elim hc21_7 hc27_8))))
  · refine Goes.step (A := s₁.setTop (mkF m 2 #[.val (.ref p0), .val (.int p1), .val (.int p2), .val (.int p3), .val (.int p4), .val (.int p5), .val (.int p6), .unset] [(.int p2), (.int p1)])) (fun t kt => ?_) ?_
    · refine XS.iloadN X0.here hx rfl (hb hby d5_0) rfl ?_
      show Steps p.tables e below (s₁.setTop (mkF m 1 #[.val (.ref p0), .val (.int p1), .val (.int p2), .val (.int p3), .val (.int p4), .val (.int p5), .val (.int p6), .unset] [(.int p1)])) _
      refine XS.iloadN X0.here hx rfl (hb hby d5_1) rfl ?_
      exact kt
    refine Goes.step (A := s₁.setTop (mkF m 5 #[.val (.ref p0), .val (.int p1), .val (.int p2), .val (.int p3), .val (.int p4), .val (.int p5), .val (.int p6), .unset] [])) (fun t kt => XS.icmpNo X0.here hx rfl (hb hby d5_2) rfl (flt (fun q => hlt (hpn ▸ q) : ¬ p1 < p2)).1 kt) ?_
    refine Goes.step (A := s₁.setTop (mkF m 6 #[.val (.ref p0), .val (.int p1), .val (.int p2), .val (.int p3), .val (.int p4), .val (.int p5), .val (.int p6), .unset] [(.int (1 : Int32))])) (fun t kt => ?_) ?_
    · refine XS.iconst X0.here hx rfl (hb hby d5_5) ?_
      exact kt
    obtain ⟨fs, hr, hrun, hended, hW, hsame⟩ := X0.leave (v := some (.int (1 : Int32))) (fun h => by rw [Bd.returns] at h; cases h)
    refine Goes.done ?_ hrun hended ⟨_, _, rfl, ?_, ⟨_, rfl⟩, hW, hsame.mono (by decide) (by decide)⟩
    · exact retN X0 hx (t := .boolean) Bd.returns (by simp) (hb hby d5_6) hr
    · show Q5 Z p0 p1 p2 p3 p4 p5 p6 a1 a2 nn col cnt tk h0 n0 _ s₁.heap _
      rw [e0]
      exact ⟨rfl, N0, rfl⟩
theorem own_pre1 (s : Int32) : takeC (fun _ => 0) ((0 : Int32) + (1 : Int32)) 0 s = (1 : Int32) := by rw [takeC, if_neg (by decide)]; decide
theorem ef_0 (m : MethodId) (x0 : Int32) (x1 : Int32) (x2 : Int32) (x3 : Int32) (x4 : Int32) : entryFrame m #[(.int x0), (.int x1), (.int x2), (.int x3), (.int x4)] maxLocals = mkF m 0 #[.val (.int x0), .val (.int x1), .val (.int x2), .val (.int x3), .val (.int x4), .unset, .unset, .unset, .unset, .unset, .unset, .unset, .unset, .unset, .unset, .unset, .unset, .unset, .unset, .unset, .unset, .unset] [] := by first | (simp [entryFrame, mkF, argsToLocals, Value.category, maxLocals]; done) | rfl
def Q0 (Z : State) (p0 : Int32) (p1 : Int32) (p2 : Int32) (p3 : Int32) (p4 : Int32) (h0 : Heap) (n0 : Nat) (v : Option Value) (h : Heap) (L : List Loc) : Prop := v = some (.int 1) ∧ Fr n0 L
theorem pn_0 : plainName "com/example/shardwright/shardwright/recommend/SitesToTryTakePinLaw" = true := by first | (simp [plainName, overriddenIn]; done) | decide +kernel
theorem pd_1 : parseMethodDescriptor "(I)V" = some ⟨[.int], none⟩ := by decide +kernel
theorem pd_2 : parseMethodDescriptor "()V" = some ⟨[], none⟩ := by decide +kernel
theorem pd_3 : parseMethodDescriptor "(Lcom/example/shardwright/shardwright/recommend/SitesToTry;IIIIII)Z" = some ⟨[(.object "com/example/shardwright/shardwright/recommend/SitesToTry"), .int, .int, .int, .int, .int, .int], some .boolean⟩ := by decide +kernel
set_option maxRecDepth 65536 in
set_option maxHeartbeats 40000000 in
theorem rm0 (l : Launch) (Z : State) (a0 : Array Value) (hw : ∀ d ∈ tables_1, d.before a0 Z = true) (ws : List Jvm.Cond) (p0 : Int32) (p1 : Int32) (p2 : Int32) (p3 : Int32) (p4 : Int32) (h0 : Heap) (n0 : Nat) (Z0 : n0 ≤ h0.size) :
    MetFree l x (head1 (Jvm.Cond.code x code maxLocals ret :: ws) room_1) (fun a U => a = #[(.int p0), (.int p1), (.int p2), (.int p3), (.int p4)] ∧ Z.Warmed39 U.vm ∧ U.heap = h0) (fun _ _ _ _ _ => True) (fun _ U o U' => ∃ v L, o = .returned v ∧ Q0 Z p0 p1 p2 p3 p4 h0 n0 v U'.heap L ∧ FrameEnd U o U' L room_1.cells room_1.slots) := by
  refine MetFree.of_bodySF (plainFor_of_name pn_0) hisR ?_
  intro p e s m args below meth c s₁ Bd hml0 hP hK
  obtain ⟨rfl, hZ, hh⟩ := hP
  have hx := Bd.exec
  have hby := Bd.bytes
  have hml : c.maxLocals = 22 := hml0
  have hown : s.vm.findClass "com/example/shardwright/shardwright/recommend/SitesToTryTakePinLaw" = some m.cls := findClass_of_methodNamed Bd.named
  have hnm := (name_of_methodNamed Bd.named Bd.method).1
  have X0 : Stand p l e room_1 s m #[(.int p0), (.int p1), (.int p2), (.int p3), (.int p4)] below meth c s₁ [] 0 0 := Stand.of_body Bd
  have e0 : s₁.heap = h0 := by rw [← hh, Bd.state]; rfl
  have N0 := Fr.nil n0
  refine Goes.start (Q := (fun o U' => ∃ v L, o = .returned v ∧ Q0 Z p0 p1 p2 p3 p4 h0 n0 v U'.heap L ∧ FrameEnd s o U' L room_1.cells room_1.slots)) (A := s₁.setTop (mkF m 0 #[.val (.int p0), .val (.int p1), .val (.int p2), .val (.int p3), .val (.int p4), .unset, .unset, .unset, .unset, .unset, .unset, .unset, .unset, .unset, .unset, .unset, .unset, .unset, .unset, .unset, .unset, .unset] [])) (fun t k => castTop (ef_0 m p0 p1 p2 p3 p4) k) ?_
  refine Goes.step (A := s₁.setTop (mkF m 10 #[.val (.int p0), .val (.int p1), .val (.int p2), .val (.int p3), .val (.int p4), .val (.int ((p0 &&& (3 : Int32)) + (1 : Int32))), .unset, .unset, .unset, .unset, .unset, .unset, .unset, .unset, .unset, .unset, .unset, .unset, .unset, .unset, .unset, .unset] [(.int (p0 &&& (4 : Int32)))])) (fun t kt => ?_) ?_
  · refine XS.iloadN X0.here hx rfl (hb hby at_0) rfl ?_
    show Steps p.tables e below (s₁.setTop (mkF m 1 #[.val (.int p0), .val (.int p1), .val (.int p2), .val (.int p3), .val (.int p4), .unset, .unset, .unset, .unset, .unset, .unset, .unset, .unset, .unset, .unset, .unset, .unset, .unset, .unset, .unset, .unset, .unset] [(.int p0)])) _
    refine XS.iconst X0.here hx rfl (hb hby at_1) ?_
    show Steps p.tables e below (s₁.setTop (mkF m 2 #[.val (.int p0), .val (.int p1), .val (.int p2), .val (.int p3), .val (.int p4), .unset, .unset, .unset, .unset, .unset, .unset, .unset, .unset, .unset, .unset, .unset, .unset, .unset, .unset, .unset, .unset, .unset] [(.int (3 : Int32)), (.int p0)])) _
    refine XS.iand X0.here hx rfl (hb hby at_2) rfl ?_
    show Steps p.tables e below (s₁.setTop (mkF m 3 #[.val (.int p0), .val (.int p1), .val (.int p2), .val (.int p3), .val (.int p4), .unset, .unset, .unset, .unset, .unset, .unset, .unset, .unset, .unset, .unset, .unset, .unset, .unset, .unset, .unset, .unset, .unset] [(.int (p0 &&& (3 : Int32)))])) _
    refine XS.iconst X0.here hx rfl (hb hby at_3) ?_
    show Steps p.tables e below (s₁.setTop (mkF m 4 #[.val (.int p0), .val (.int p1), .val (.int p2), .val (.int p3), .val (.int p4), .unset, .unset, .unset, .unset, .unset, .unset, .unset, .unset, .unset, .unset, .unset, .unset, .unset, .unset, .unset, .unset, .unset] [(.int (1 : Int32)), (.int (p0 &&& (3 : Int32)))])) _
    refine XS.iadd X0.here hx rfl (hb hby at_4) rfl ?_
    show Steps p.tables e below (s₁.setTop (mkF m 5 #[.val (.int p0), .val (.int p1), .val (.int p2), .val (.int p3), .val (.int p4), .unset, .unset, .unset, .unset, .unset, .unset, .unset, .unset, .unset, .unset, .unset, .unset, .unset, .unset, .unset, .unset, .unset] [(.int ((p0 &&& (3 : Int32)) + (1 : Int32)))])) _
    refine XS.istore X0.here hx rfl (hb hby at_5) rfl (l' := #[.val (.int p0), .val (.int p1), .val (.int p2), .val (.int p3), .val (.int p4), .val (.int ((p0 &&& (3 : Int32)) + (1 : Int32))), .unset, .unset, .unset, .unset, .unset, .unset, .unset, .unset, .unset, .unset, .unset, .unset, .unset, .unset, .unset, .unset]) rfl ?_
    show Steps p.tables e below (s₁.setTop (mkF m 7 #[.val (.int p0), .val (.int p1), .val (.int p2), .val (.int p3), .val (.int p4), .val (.int ((p0 &&& (3 : Int32)) + (1 : Int32))), .unset, .unset, .unset, .unset, .unset, .unset, .unset, .unset, .unset, .unset, .unset, .unset, .unset, .unset, .unset, .unset] [])) _
    refine XS.iloadN X0.here hx rfl (hb hby at_7) rfl ?_
    show Steps p.tables e below (s₁.setTop (mkF m 8 #[.val (.int p0), .val (.int p1), .val (.int p2), .val (.int p3), .val (.int p4), .val (.int ((p0 &&& (3 : Int32)) + (1 : Int32))), .unset, .unset, .unset, .unset, .unset, .unset, .unset, .unset, .unset, .unset, .unset, .unset, .unset, .unset, .unset, .unset] [(.int p0)])) _
    refine XS.iconst X0.here hx rfl (hb hby at_8) ?_
    show Steps p.tables e below (s₁.setTop (mkF m 9 #[.val (.int p0), .val (.int p1), .val (.int p2), .val (.int p3), .val (.int p4), .val (.int ((p0 &&& (3 : Int32)) + (1 : Int32))), .unset, .unset, .unset, .unset, .unset, .unset, .unset, .unset, .unset, .unset, .unset, .unset, .unset, .unset, .unset, .unset] [(.int (4 : Int32)), (.int p0)])) _
    refine XS.iand X0.here hx rfl (hb hby at_9) rfl ?_
    exact kt
  have cP : ∀ (prv : Int32), Goes p.tables e below (fun o U' => ∃ v L, o = .returned v ∧ Q0 Z p0 p1 p2 p3 p4 h0 n0 v U'.heap L ∧ FrameEnd s o U' L room_1.cells room_1.slots) (s₁.setTop (mkF m 20 #[.val (.int p0), .val (.int p1), .val (.int p2), .val (.int p3), .val (.int p4), .val (.int ((p0 &&& (3 : Int32)) + (1 : Int32))), .val (.int prv), .unset, .unset, .unset, .unset, .unset, .unset, .unset, .unset, .unset, .unset, .unset, .unset, .unset, .unset, .unset] [])) := by
    intro prv
    refine Goes.step (A := s₁.setTop (mkF m 65 #[.val (.int p0), .val (.int p1), .val (.int p2), .val (.int p3), .val (.int p4), .val (.int ((p0 &&& (3 : Int32)) + (1 : Int32))), .val (.int prv), .val (.int (((p0.toUInt32 >>> ((3 : Int32) &&& 31).toUInt32).toInt32) % ((p0 &&& (3 : Int32)) + (1 : Int32)))), .val (.int ((p1 &&& (2147483647 : Int32)) % ((p0 &&& (3 : Int32)) + (1 : Int32)))), .val (.int ((p2 &&& (2147483647 : Int32)) % ((p0 &&& (3 : Int32)) + (1 : Int32)))), .val (.int ((p3 &&& (2147483647 : Int32)) % ((p0 &&& (3 : Int32)) + (1 : Int32)))), .val (.int ((p4 &&& (2147483647 : Int32)) % ((p0 &&& (3 : Int32)) + (1 : Int32)))), .unset, .unset, .unset, .unset, .unset, .unset, .unset, .unset, .unset, .unset] [])) (fun t kt => ?_) ?_
    · refine XS.iloadN X0.here hx rfl (hb hby at_20) rfl ?_
      show Steps p.tables e below (s₁.setTop (mkF m 21 #[.val (.int p0), .val (.int p1), .val (.int p2), .val (.int p3), .val (.int p4), .val (.int ((p0 &&& (3 : Int32)) + (1 : Int32))), .val (.int prv), .unset, .unset, .unset, .unset, .unset, .unset, .unset, .unset, .unset, .unset, .unset, .unset, .unset, .unset, .unset] [(.int p0)])) _
      refine XS.iconst X0.here hx rfl (hb hby at_21) ?_
      show Steps p.tables e below (s₁.setTop (mkF m 22 #[.val (.int p0), .val (.int p1), .val (.int p2), .val (.int p3), .val (.int p4), .val (.int ((p0 &&& (3 : Int32)) + (1 : Int32))), .val (.int prv), .unset, .unset, .unset, .unset, .unset, .unset, .unset, .unset, .unset, .unset, .unset, .unset, .unset, .unset, .unset] [(.int (3 : Int32)), (.int p0)])) _
      refine XS.iushr X0.here hx rfl (hb hby at_22) rfl ?_
      show Steps p.tables e below (s₁.setTop (mkF m 23 #[.val (.int p0), .val (.int p1), .val (.int p2), .val (.int p3), .val (.int p4), .val (.int ((p0 &&& (3 : Int32)) + (1 : Int32))), .val (.int prv), .unset, .unset, .unset, .unset, .unset, .unset, .unset, .unset, .unset, .unset, .unset, .unset, .unset, .unset, .unset] [(.int ((p0.toUInt32 >>> ((3 : Int32) &&& 31).toUInt32).toInt32))])) _
      refine XS.iload X0.here hx rfl (hb hby at_23) rfl ?_
      show Steps p.tables e below (s₁.setTop (mkF m 25 #[.val (.int p0), .val (.int p1), .val (.int p2), .val (.int p3), .val (.int p4), .val (.int ((p0 &&& (3 : Int32)) + (1 : Int32))), .val (.int prv), .unset, .unset, .unset, .unset, .unset, .unset, .unset, .unset, .unset, .unset, .unset, .unset, .unset, .unset, .unset] [(.int ((p0 &&& (3 : Int32)) + (1 : Int32))), (.int ((p0.toUInt32 >>> ((3 : Int32) &&& 31).toUInt32).toInt32))])) _
      refine Jvm.RoadKit.iremM X0 hx rfl (hb hby at_25) rfl (own_nz _ (own_n p0)) ?_
      show Steps p.tables e below (s₁.setTop (mkF m 26 #[.val (.int p0), .val (.int p1), .val (.int p2), .val (.int p3), .val (.int p4), .val (.int ((p0 &&& (3 : Int32)) + (1 : Int32))), .val (.int prv), .unset, .unset, .unset, .unset, .unset, .unset, .unset, .unset, .unset, .unset, .unset, .unset, .unset, .unset, .unset] [(.int (((p0.toUInt32 >>> ((3 : Int32) &&& 31).toUInt32).toInt32) % ((p0 &&& (3 : Int32)) + (1 : Int32))))])) _
      refine XS.istore X0.here hx rfl (hb hby at_26) rfl (l' := #[.val (.int p0), .val (.int p1), .val (.int p2), .val (.int p3), .val (.int p4), .val (.int ((p0 &&& (3 : Int32)) + (1 : Int32))), .val (.int prv), .val (.int (((p0.toUInt32 >>> ((3 : Int32) &&& 31).toUInt32).toInt32) % ((p0 &&& (3 : Int32)) + (1 : Int32)))), .unset, .unset, .unset, .unset, .unset, .unset, .unset, .unset, .unset, .unset, .unset, .unset, .unset, .unset]) rfl ?_
      show Steps p.tables e below (s₁.setTop (mkF m 28 #[.val (.int p0), .val (.int p1), .val (.int p2), .val (.int p3), .val (.int p4), .val (.int ((p0 &&& (3 : Int32)) + (1 : Int32))), .val (.int prv), .val (.int (((p0.toUInt32 >>> ((3 : Int32) &&& 31).toUInt32).toInt32) % ((p0 &&& (3 : Int32)) + (1 : Int32)))), .unset, .unset, .unset, .unset, .unset, .unset, .unset, .unset, .unset, .unset, .unset, .unset, .unset, .unset] [])) _
      refine XS.iloadN X0.here hx rfl (hb hby at_28) rfl ?_
      show Steps p.tables e below (s₁.setTop (mkF m 29 #[.val (.int p0), .val (.int p1), .val (.int p2), .val (.int p3), .val (.int p4), .val (.int ((p0 &&& (3 : Int32)) + (1 : Int32))), .val (.int prv), .val (.int (((p0.toUInt32 >>> ((3 : Int32) &&& 31).toUInt32).toInt32) % ((p0 &&& (3 : Int32)) + (1 : Int32)))), .unset, .unset, .unset, .unset, .unset, .unset, .unset, .unset, .unset, .unset, .unset, .unset, .unset, .unset] [(.int p1)])) _
      refine X0.ldcInt hx hown (mvT hZ (hw _ (List.mem_of_getElem? (i := 0) rfl))) (g := (mkF m 29 #[.val (.int p0), .val (.int p1), .val (.int p2), .val (.int p3), .val (.int p4), .val (.int ((p0 &&& (3 : Int32)) + (1 : Int32))), .val (.int prv), .val (.int (((p0.toUInt32 >>> ((3 : Int32) &&& 31).toUInt32).toInt32) % ((p0 &&& (3 : Int32)) + (1 : Int32)))), .unset, .unset, .unset, .unset, .unset, .unset, .unset, .unset, .unset, .unset, .unset, .unset, .unset, .unset] [(.int p1)])) rfl (hb hby at_29) _ ?_
      show Steps p.tables e below (s₁.setTop (mkF m 31 #[.val (.int p0), .val (.int p1), .val (.int p2), .val (.int p3), .val (.int p4), .val (.int ((p0 &&& (3 : Int32)) + (1 : Int32))), .val (.int prv), .val (.int (((p0.toUInt32 >>> ((3 : Int32) &&& 31).toUInt32).toInt32) % ((p0 &&& (3 : Int32)) + (1 : Int32)))), .unset, .unset, .unset, .unset, .unset, .unset, .unset, .unset, .unset, .unset, .unset, .unset, .unset, .unset] [(.int (2147483647 : Int32)), (.int p1)])) _
      refine XS.iand X0.here hx rfl (hb hby at_31) rfl ?_
      show Steps p.tables e below (s₁.setTop (mkF m 32 #[.val (.int p0), .val (.int p1), .val (.int p2), .val (.int p3), .val (.int p4), .val (.int ((p0 &&& (3 : Int32)) + (1 : Int32))), .val (.int prv), .val (.int (((p0.toUInt32 >>> ((3 : Int32) &&& 31).toUInt32).toInt32) % ((p0 &&& (3 : Int32)) + (1 : Int32)))), .unset, .unset, .unset, .unset, .unset, .unset, .unset, .unset, .unset, .unset, .unset, .unset, .unset, .unset] [(.int (p1 &&& (2147483647 : Int32)))])) _
      refine XS.iload X0.here hx rfl (hb hby at_32) rfl ?_
      show Steps p.tables e below (s₁.setTop (mkF m 34 #[.val (.int p0), .val (.int p1), .val (.int p2), .val (.int p3), .val (.int p4), .val (.int ((p0 &&& (3 : Int32)) + (1 : Int32))), .val (.int prv), .val (.int (((p0.toUInt32 >>> ((3 : Int32) &&& 31).toUInt32).toInt32) % ((p0 &&& (3 : Int32)) + (1 : Int32)))), .unset, .unset, .unset, .unset, .unset, .unset, .unset, .unset, .unset, .unset, .unset, .unset, .unset, .unset] [(.int ((p0 &&& (3 : Int32)) + (1 : Int32))), (.int (p1 &&& (2147483647 : Int32)))])) _
      refine Jvm.RoadKit.iremM X0 hx rfl (hb hby at_34) rfl (own_nz _ (own_n p0)) ?_
      show Steps p.tables e below (s₁.setTop (mkF m 35 #[.val (.int p0), .val (.int p1), .val (.int p2), .val (.int p3), .val (.int p4), .val (.int ((p0 &&& (3 : Int32)) + (1 : Int32))), .val (.int prv), .val (.int (((p0.toUInt32 >>> ((3 : Int32) &&& 31).toUInt32).toInt32) % ((p0 &&& (3 : Int32)) + (1 : Int32)))), .unset, .unset, .unset, .unset, .unset, .unset, .unset, .unset, .unset, .unset, .unset, .unset, .unset, .unset] [(.int ((p1 &&& (2147483647 : Int32)) % ((p0 &&& (3 : Int32)) + (1 : Int32))))])) _
      refine XS.istore X0.here hx rfl (hb hby at_35) rfl (l' := #[.val (.int p0), .val (.int p1), .val (.int p2), .val (.int p3), .val (.int p4), .val (.int ((p0 &&& (3 : Int32)) + (1 : Int32))), .val (.int prv), .val (.int (((p0.toUInt32 >>> ((3 : Int32) &&& 31).toUInt32).toInt32) % ((p0 &&& (3 : Int32)) + (1 : Int32)))), .val (.int ((p1 &&& (2147483647 : Int32)) % ((p0 &&& (3 : Int32)) + (1 : Int32)))), .unset, .unset, .unset, .unset, .unset, .unset, .unset, .unset, .unset, .unset, .unset, .unset, .unset]) rfl ?_
      show Steps p.tables e below (s₁.setTop (mkF m 37 #[.val (.int p0), .val (.int p1), .val (.int p2), .val (.int p3), .val (.int p4), .val (.int ((p0 &&& (3 : Int32)) + (1 : Int32))), .val (.int prv), .val (.int (((p0.toUInt32 >>> ((3 : Int32) &&& 31).toUInt32).toInt32) % ((p0 &&& (3 : Int32)) + (1 : Int32)))), .val (.int ((p1 &&& (2147483647 : Int32)) % ((p0 &&& (3 : Int32)) + (1 : Int32)))), .unset, .unset, .unset, .unset, .unset, .unset, .unset, .unset, .unset, .unset, .unset, .unset, .unset] [])) _
      refine XS.iloadN X0.here hx rfl (hb hby at_37) rfl ?_
      show Steps p.tables e below (s₁.setTop (mkF m 38 #[.val (.int p0), .val (.int p1), .val (.int p2), .val (.int p3), .val (.int p4), .val (.int ((p0 &&& (3 : Int32)) + (1 : Int32))), .val (.int prv), .val (.int (((p0.toUInt32 >>> ((3 : Int32) &&& 31).toUInt32).toInt32) % ((p0 &&& (3 : Int32)) + (1 : Int32)))), .val (.int ((p1 &&& (2147483647 : Int32)) % ((p0 &&& (3 : Int32)) + (1 : Int32)))), .unset, .unset, .unset, .unset, .unset, .unset, .unset, .unset, .unset, .unset, .unset, .unset, .unset] [(.int p2)])) _
      refine X0.ldcInt hx hown (mvT hZ (hw _ (List.mem_of_getElem? (i := 0) rfl))) (g := (mkF m 38 #[.val (.int p0), .val (.int p1), .val (.int p2), .val (.int p3), .val (.int p4), .val (.int ((p0 &&& (3 : Int32)) + (1 : Int32))), .val (.int prv), .val (.int (((p0.toUInt32 >>> ((3 : Int32) &&& 31).toUInt32).toInt32) % ((p0 &&& (3 : Int32)) + (1 : Int32)))), .val (.int ((p1 &&& (2147483647 : Int32)) % ((p0 &&& (3 : Int32)) + (1 : Int32)))), .unset, .unset, .unset, .unset, .unset, .unset, .unset, .unset, .unset, .unset, .unset, .unset, .unset] [(.int p2)])) rfl (hb hby at_38) _ ?_
      show Steps p.tables e below (s₁.setTop (mkF m 40 #[.val (.int p0), .val (.int p1), .val (.int p2), .val (.int p3), .val (.int p4), .val (.int ((p0 &&& (3 : Int32)) + (1 : Int32))), .val (.int prv), .val (.int (((p0.toUInt32 >>> ((3 : Int32) &&& 31).toUInt32).toInt32) % ((p0 &&& (3 : Int32)) + (1 : Int32)))), .val (.int ((p1 &&& (2147483647 : Int32)) % ((p0 &&& (3 : Int32)) + (1 : Int32)))), .unset, .unset, .unset, .unset, .unset, .unset, .unset, .unset, .unset, .unset, .unset, .unset, .unset] [(.int (2147483647 : Int32)), (.int p2)])) _
      refine XS.iand X0.here hx rfl (hb hby at_40) rfl ?_
      show Steps p.tables e below (s₁.setTop (mkF m 41 #[.val (.int p0), .val (.int p1), .val (.int p2), .val (.int p3), .val (.int p4), .val (.int ((p0 &&& (3 : Int32)) + (1 : Int32))), .val (.int prv), .val (.int (((p0.toUInt32 >>> ((3 : Int32) &&& 31).toUInt32).toInt32) % ((p0 &&& (3 : Int32)) + (1 : Int32)))), .val (.int ((p1 &&& (2147483647 : Int32)) % ((p0 &&& (3 : Int32)) + (1 : Int32)))), .unset, .unset, .unset, .unset, .unset, .unset, .unset, .unset, .unset, .unset, .unset, .unset, .unset] [(.int (p2 &&& (2147483647 : Int32)))])) _
      refine XS.iload X0.here hx rfl (hb hby at_41) rfl ?_
      show Steps p.tables e below (s₁.setTop (mkF m 43 #[.val (.int p0), .val (.int p1), .val (.int p2), .val (.int p3), .val (.int p4), .val (.int ((p0 &&& (3 : Int32)) + (1 : Int32))), .val (.int prv), .val (.int (((p0.toUInt32 >>> ((3 : Int32) &&& 31).toUInt32).toInt32) % ((p0 &&& (3 : Int32)) + (1 : Int32)))), .val (.int ((p1 &&& (2147483647 : Int32)) % ((p0 &&& (3 : Int32)) + (1 : Int32)))), .unset, .unset, .unset, .unset, .unset, .unset, .unset, .unset, .unset, .unset, .unset, .unset, .unset] [(.int ((p0 &&& (3 : Int32)) + (1 : Int32))), (.int (p2 &&& (2147483647 : Int32)))])) _
      refine Jvm.RoadKit.iremM X0 hx rfl (hb hby at_43) rfl (own_nz _ (own_n p0)) ?_
      show Steps p.tables e below (s₁.setTop (mkF m 44 #[.val (.int p0), .val (.int p1), .val (.int p2), .val (.int p3), .val (.int p4), .val (.int ((p0 &&& (3 : Int32)) + (1 : Int32))), .val (.int prv), .val (.int (((p0.toUInt32 >>> ((3 : Int32) &&& 31).toUInt32).toInt32) % ((p0 &&& (3 : Int32)) + (1 : Int32)))), .val (.int ((p1 &&& (2147483647 : Int32)) % ((p0 &&& (3 : Int32)) + (1 : Int32)))), .unset, .unset, .unset, .unset, .unset, .unset, .unset, .unset, .unset, .unset, .unset, .unset, .unset] [(.int ((p2 &&& (2147483647 : Int32)) % ((p0 &&& (3 : Int32)) + (1 : Int32))))])) _
      refine XS.istore X0.here hx rfl (hb hby at_44) rfl (l' := #[.val (.int p0), .val (.int p1), .val (.int p2), .val (.int p3), .val (.int p4), .val (.int ((p0 &&& (3 : Int32)) + (1 : Int32))), .val (.int prv), .val (.int (((p0.toUInt32 >>> ((3 : Int32) &&& 31).toUInt32).toInt32) % ((p0 &&& (3 : Int32)) + (1 : Int32)))), .val (.int ((p1 &&& (2147483647 : Int32)) % ((p0 &&& (3 : Int32)) + (1 : Int32)))), .val (.int ((p2 &&& (2147483647 : Int32)) % ((p0 &&& (3 : Int32)) + (1 : Int32)))), .unset, .unset, .unset, .unset, .unset, .unset, .unset, .unset, .unset, .unset, .unset, .unset]) rfl ?_
      show Steps p.tables e below (s₁.setTop (mkF m 46 #[.val (.int p0), .val (.int p1), .val (.int p2), .val (.int p3), .val (.int p4), .val (.int ((p0 &&& (3 : Int32)) + (1 : Int32))), .val (.int prv), .val (.int (((p0.toUInt32 >>> ((3 : Int32) &&& 31).toUInt32).toInt32) % ((p0 &&& (3 : Int32)) + (1 : Int32)))), .val (.int ((p1 &&& (2147483647 : Int32)) % ((p0 &&& (3 : Int32)) + (1 : Int32)))), .val (.int ((p2 &&& (2147483647 : Int32)) % ((p0 &&& (3 : Int32)) + (1 : Int32)))), .unset, .unset, .unset, .unset, .unset, .unset, .unset, .unset, .unset, .unset, .unset, .unset] [])) _
      refine XS.iloadN X0.here hx rfl (hb hby at_46) rfl ?_
      show Steps p.tables e below (s₁.setTop (mkF m 47 #[.val (.int p0), .val (.int p1), .val (.int p2), .val (.int p3), .val (.int p4), .val (.int ((p0 &&& (3 : Int32)) + (1 : Int32))), .val (.int prv), .val (.int (((p0.toUInt32 >>> ((3 : Int32) &&& 31).toUInt32).toInt32) % ((p0 &&& (3 : Int32)) + (1 : Int32)))), .val (.int ((p1 &&& (2147483647 : Int32)) % ((p0 &&& (3 : Int32)) + (1 : Int32)))), .val (.int ((p2 &&& (2147483647 : Int32)) % ((p0 &&& (3 : Int32)) + (1 : Int32)))), .unset, .unset, .unset, .unset, .unset, .unset, .unset, .unset, .unset, .unset, .unset, .unset] [(.int p3)])) _
      refine X0.ldcInt hx hown (mvT hZ (hw _ (List.mem_of_getElem? (i := 0) rfl))) (g := (mkF m 47 #[.val (.int p0), .val (.int p1), .val (.int p2), .val (.int p3), .val (.int p4), .val (.int ((p0 &&& (3 : Int32)) + (1 : Int32))), .val (.int prv), .val (.int (((p0.toUInt32 >>> ((3 : Int32) &&& 31).toUInt32).toInt32) % ((p0 &&& (3 : Int32)) + (1 : Int32)))), .val (.int ((p1 &&& (2147483647 : Int32)) % ((p0 &&& (3 : Int32)) + (1 : Int32)))), .val (.int ((p2 &&& (2147483647 : Int32)) % ((p0 &&& (3 : Int32)) + (1 : Int32)))), .unset, .unset, .unset, .unset, .unset, .unset, .unset, .unset, .unset, .unset, .unset, .unset] [(.int p3)])) rfl (hb hby at_47) _ ?_
      show Steps p.tables e below (s₁.setTop (mkF m 49 #[.val (.int p0), .val (.int p1), .val (.int p2), .val (.int p3), .val (.int p4), .val (.int ((p0 &&& (3 : Int32)) + (1 : Int32))), .val (.int prv), .val (.int (((p0.toUInt32 >>> ((3 : Int32) &&& 31).toUInt32).toInt32) % ((p0 &&& (3 : Int32)) + (1 : Int32)))), .val (.int ((p1 &&& (2147483647 : Int32)) % ((p0 &&& (3 : Int32)) + (1 : Int32)))), .val (.int ((p2 &&& (2147483647 : Int32)) % ((p0 &&& (3 : Int32)) + (1 : Int32)))), .unset, .unset, .unset, .unset, .unset, .unset, .unset, .unset, .unset, .unset, .unset, .unset] [(.int (2147483647 : Int32)), (.int p3)])) _
      refine XS.iand X0.here hx rfl (hb hby at_49) rfl ?_
      show Steps p.tables e below (s₁.setTop (mkF m 50 #[.val (.int p0), .val (.int p1), .val (.int p2), .val (.int p3), .val (.int p4), .val (.int ((p0 &&& (3 : Int32)) + (1 : Int32))), .val (.int prv), .val (.int (((p0.toUInt32 >>> ((3 : Int32) &&& 31).toUInt32).toInt32) % ((p0 &&& (3 : Int32)) + (1 : Int32)))), .val (.int ((p1 &&& (2147483647 : Int32)) % ((p0 &&& (3 : Int32)) + (1 : Int32)))), .val (.int ((p2 &&& (2147483647 : Int32)) % ((p0 &&& (3 : Int32)) + (1 : Int32)))), .unset, .unset, .unset, .unset, .unset, .unset, .unset, .unset, .unset, .unset, .unset, .unset] [(.int (p3 &&& (2147483647 : Int32)))])) _
      refine XS.iload X0.here hx rfl (hb hby at_50) rfl ?_
      show Steps p.tables e below (s₁.setTop (mkF m 52 #[.val (.int p0), .val (.int p1), .val (.int p2), .val (.int p3), .val (.int p4), .val (.int ((p0 &&& (3 : Int32)) + (1 : Int32))), .val (.int prv), .val (.int (((p0.toUInt32 >>> ((3 : Int32) &&& 31).toUInt32).toInt32) % ((p0 &&& (3 : Int32)) + (1 : Int32)))), .val (.int ((p1 &&& (2147483647 : Int32)) % ((p0 &&& (3 : Int32)) + (1 : Int32)))), .val (.int ((p2 &&& (2147483647 : Int32)) % ((p0 &&& (3 : Int32)) + (1 : Int32)))), .unset, .unset, .unset, .unset, .unset, .unset, .unset, .unset, .unset, .unset, .unset, .unset] [(.int ((p0 &&& (3 : Int32)) + (1 : Int32))), (.int (p3 &&& (2147483647 : Int32)))])) _
      refine Jvm.RoadKit.iremM X0 hx rfl (hb hby at_52) rfl (own_nz _ (own_n p0)) ?_
      show Steps p.tables e below (s₁.setTop (mkF m 53 #[.val (.int p0), .val (.int p1), .val (.int p2), .val (.int p3), .val (.int p4), .val (.int ((p0 &&& (3 : Int32)) + (1 : Int32))), .val (.int prv), .val (.int (((p0.toUInt32 >>> ((3 : Int32) &&& 31).toUInt32).toInt32) % ((p0 &&& (3 : Int32)) + (1 : Int32)))), .val (.int ((p1 &&& (2147483647 : Int32)) % ((p0 &&& (3 : Int32)) + (1 : Int32)))), .val (.int ((p2 &&& (2147483647 : Int32)) % ((p0 &&& (3 : Int32)) + (1 : Int32)))), .unset, .unset, .unset, .unset, .unset, .unset, .unset, .unset, .unset, .unset, .unset, .unset] [(.int ((p3 &&& (2147483647 : Int32)) % ((p0 &&& (3 : Int32)) + (1 : Int32))))])) _
      refine XS.istore X0.here hx rfl (hb hby at_53) rfl (l' := #[.val (.int p0), .val (.int p1), .val (.int p2), .val (.int p3), .val (.int p4), .val (.int ((p0 &&& (3 : Int32)) + (1 : Int32))), .val (.int prv), .val (.int (((p0.toUInt32 >>> ((3 : Int32) &&& 31).toUInt32).toInt32) % ((p0 &&& (3 : Int32)) + (1 : Int32)))), .val (.int ((p1 &&& (2147483647 : Int32)) % ((p0 &&& (3 : Int32)) + (1 : Int32)))), .val (.int ((p2 &&& (2147483647 : Int32)) % ((p0 &&& (3 : Int32)) + (1 : Int32)))), .val (.int ((p3 &&& (2147483647 : Int32)) % ((p0 &&& (3 : Int32)) + (1 : Int32)))), .unset, .unset, .unset, .unset, .unset, .unset, .unset, .unset, .unset, .unset, .unset]) rfl ?_
      show Steps p.tables e below (s₁.setTop (mkF m 55 #[.val (.int p0), .val (.int p1), .val (.int p2), .val (.int p3), .val (.int p4), .val (.int ((p0 &&& (3 : Int32)) + (1 : Int32))), .val (.int prv), .val (.int (((p0.toUInt32 >>> ((3 : Int32) &&& 31).toUInt32).toInt32) % ((p0 &&& (3 : Int32)) + (1 : Int32)))), .val (.int ((p1 &&& (2147483647 : Int32)) % ((p0 &&& (3 : Int32)) + (1 : Int32)))), .val (.int ((p2 &&& (2147483647 : Int32)) % ((p0 &&& (3 : Int32)) + (1 : Int32)))), .val (.int ((p3 &&& (2147483647 : Int32)) % ((p0 &&& (3 : Int32)) + (1 : Int32)))), .unset, .unset, .unset, .unset, .unset, .unset, .unset, .unset, .unset, .unset, .unset] [])) _
      refine XS.iload X0.here hx rfl (hb hby at_55) rfl ?_
      show Steps p.tables e below (s₁.setTop (mkF m 57 #[.val (.int p0), .val (.int p1), .val (.int p2), .val (.int p3), .val (.int p4), .val (.int ((p0 &&& (3 : Int32)) + (1 : Int32))), .val (.int prv), .val (.int (((p0.toUInt32 >>> ((3 : Int32) &&& 31).toUInt32).toInt32) % ((p0 &&& (3 : Int32)) + (1 : Int32)))), .val (.int ((p1 &&& (2147483647 : Int32)) % ((p0 &&& (3 : Int32)) + (1 : Int32)))), .val (.int ((p2 &&& (2147483647 : Int32)) % ((p0 &&& (3 : Int32)) + (1 : Int32)))), .val (.int ((p3 &&& (2147483647 : Int32)) % ((p0 &&& (3 : Int32)) + (1 : Int32)))), .unset, .unset, .unset, .unset, .unset, .unset, .unset, .unset, .unset, .unset, .unset] [(.int p4)])) _
      refine X0.ldcInt hx hown (mvT hZ (hw _ (List.mem_of_getElem? (i := 0) rfl))) (g := (mkF m 57 #[.val (.int p0), .val (.int p1), .val (.int p2), .val (.int p3), .val (.int p4), .val (.int ((p0 &&& (3 : Int32)) + (1 : Int32))), .val (.int prv), .val (.int (((p0.toUInt32 >>> ((3 : Int32) &&& 31).toUInt32).toInt32) % ((p0 &&& (3 : Int32)) + (1 : Int32)))), .val (.int ((p1 &&& (2147483647 : Int32)) % ((p0 &&& (3 : Int32)) + (1 : Int32)))), .val (.int ((p2 &&& (2147483647 : Int32)) % ((p0 &&& (3 : Int32)) + (1 : Int32)))), .val (.int ((p3 &&& (2147483647 : Int32)) % ((p0 &&& (3 : Int32)) + (1 : Int32)))), .unset, .unset, .unset, .unset, .unset, .unset, .unset, .unset, .unset, .unset, .unset] [(.int p4)])) rfl (hb hby at_57) _ ?_
      show Steps p.tables e below (s₁.setTop (mkF m 59 #[.val (.int p0), .val (.int p1), .val (.int p2), .val (.int p3), .val (.int p4), .val (.int ((p0 &&& (3 : Int32)) + (1 : Int32))), .val (.int prv), .val (.int (((p0.toUInt32 >>> ((3 : Int32) &&& 31).toUInt32).toInt32) % ((p0 &&& (3 : Int32)) + (1 : Int32)))), .val (.int ((p1 &&& (2147483647 : Int32)) % ((p0 &&& (3 : Int32)) + (1 : Int32)))), .val (.int ((p2 &&& (2147483647 : Int32)) % ((p0 &&& (3 : Int32)) + (1 : Int32)))), .val (.int ((p3 &&& (2147483647 : Int32)) % ((p0 &&& (3 : Int32)) + (1 : Int32)))), .unset, .unset, .unset, .unset, .unset, .unset, .unset, .unset, .unset, .unset, .unset] [(.int (2147483647 : Int32)), (.int p4)])) _
      refine XS.iand X0.here hx rfl (hb hby at_59) rfl ?_
      show Steps p.tables e below (s₁.setTop (mkF m 60 #[.val (.int p0), .val (.int p1), .val (.int p2), .val (.int p3), .val (.int p4), .val (.int ((p0 &&& (3 : Int32)) + (1 : Int32))), .val (.int prv), .val (.int (((p0.toUInt32 >>> ((3 : Int32) &&& 31).toUInt32).toInt32) % ((p0 &&& (3 : Int32)) + (1 : Int32)))), .val (.int ((p1 &&& (2147483647 : Int32)) % ((p0 &&& (3 : Int32)) + (1 : Int32)))), .val (.int ((p2 &&& (2147483647 : Int32)) % ((p0 &&& (3 : Int32)) + (1 : Int32)))), .val (.int ((p3 &&& (2147483647 : Int32)) % ((p0 &&& (3 : Int32)) + (1 : Int32)))), .unset, .unset, .unset, .unset, .unset, .unset, .unset, .unset, .unset, .unset, .unset] [(.int (p4 &&& (2147483647 : Int32)))])) _
      refine XS.iload X0.here hx rfl (hb hby at_60) rfl ?_
      show Steps p.tables e below (s₁.setTop (mkF m 62 #[.val (.int p0), .val (.int p1), .val (.int p2), .val (.int p3), .val (.int p4), .val (.int ((p0 &&& (3 : Int32)) + (1 : Int32))), .val (.int prv), .val (.int (((p0.toUInt32 >>> ((3 : Int32) &&& 31).toUInt32).toInt32) % ((p0 &&& (3 : Int32)) + (1 : Int32)))), .val (.int ((p1 &&& (2147483647 : Int32)) % ((p0 &&& (3 : Int32)) + (1 : Int32)))), .val (.int ((p2 &&& (2147483647 : Int32)) % ((p0 &&& (3 : Int32)) + (1 : Int32)))), .val (.int ((p3 &&& (2147483647 : Int32)) % ((p0 &&& (3 : Int32)) + (1 : Int32)))), .unset, .unset, .unset, .unset, .unset, .unset, .unset, .unset, .unset, .unset, .unset] [(.int ((p0 &&& (3 : Int32)) + (1 : Int32))), (.int (p4 &&& (2147483647 : Int32)))])) _
      refine Jvm.RoadKit.iremM X0 hx rfl (hb hby at_62) rfl (own_nz _ (own_n p0)) ?_
      show Steps p.tables e below (s₁.setTop (mkF m 63 #[.val (.int p0), .val (.int p1), .val (.int p2), .val (.int p3), .val (.int p4), .val (.int ((p0 &&& (3 : Int32)) + (1 : Int32))), .val (.int prv), .val (.int (((p0.toUInt32 >>> ((3 : Int32) &&& 31).toUInt32).toInt32) % ((p0 &&& (3 : Int32)) + (1 : Int32)))), .val (.int ((p1 &&& (2147483647 : Int32)) % ((p0 &&& (3 : Int32)) + (1 : Int32)))), .val (.int ((p2 &&& (2147483647 : Int32)) % ((p0 &&& (3 : Int32)) + (1 : Int32)))), .val (.int ((p3 &&& (2147483647 : Int32)) % ((p0 &&& (3 : Int32)) + (1 : Int32)))), .unset, .unset, .unset, .unset, .unset, .unset, .unset, .unset, .unset, .unset, .unset] [(.int ((p4 &&& (2147483647 : Int32)) % ((p0 &&& (3 : Int32)) + (1 : Int32))))])) _
      refine XS.istore X0.here hx rfl (hb hby at_63) rfl (l' := #[.val (.int p0), .val (.int p1), .val (.int p2), .val (.int p3), .val (.int p4), .val (.int ((p0 &&& (3 : Int32)) + (1 : Int32))), .val (.int prv), .val (.int (((p0.toUInt32 >>> ((3 : Int32) &&& 31).toUInt32).toInt32) % ((p0 &&& (3 : Int32)) + (1 : Int32)))), .val (.int ((p1 &&& (2147483647 : Int32)) % ((p0 &&& (3 : Int32)) + (1 : Int32)))), .val (.int ((p2 &&& (2147483647 : Int32)) % ((p0 &&& (3 : Int32)) + (1 : Int32)))), .val (.int ((p3 &&& (2147483647 : Int32)) % ((p0 &&& (3 : Int32)) + (1 : Int32)))), .val (.int ((p4 &&& (2147483647 : Int32)) % ((p0 &&& (3 : Int32)) + (1 : Int32)))), .unset, .unset, .unset, .unset, .unset, .unset, .unset, .unset, .unset, .unset]) rfl ?_
      exact kt
    have cM : ∀ (nv s0 s1 s2 s3 s4 : Int32) (hn : 1 ≤ nv.toInt ∧ nv.toInt ≤ 4) (r0 : Rg nv s0) (r1 : Rg nv s1) (r2 : Rg nv s2) (r3 : Rg nv s3) (r4 : Rg nv s4), Goes p.tables e below (fun o U' => ∃ v L, o = .returned v ∧ Q0 Z p0 p1 p2 p3 p4 h0 n0 v U'.heap L ∧ FrameEnd s o U' L room_1.cells room_1.slots) (s₁.setTop (mkF m 65 #[.val (.int p0), .val (.int p1), .val (.int p2), .val (.int p3), .val (.int p4), .val (.int nv), .val (.int prv), .val (.int s0), .val (.int s1), .val (.int s2), .val (.int s3), .val (.int s4), .unset, .unset, .unset, .unset, .unset, .unset, .unset, .unset, .unset, .unset] [])) := by
      intro nv s0 s1 s2 s3 s4 hn r0 r1 r2 r3 r4
      have hn0 : ¬ nv < 0 := by rw [Int32.lt_iff_toInt_lt, own_z]; omega
      have hpos : ¬ (0 : Int32) < 0 ∧ (0 : Int32) < nv := own_bd _ _ (by decide) (by rw [own_z]; omega)
      obtain ⟨T1, h1, X1, e1, E1, A1, D1, -, st1⟩ := newO X0 hx hZ hown (hw _ (List.mem_of_getElem? (i := 1) rfl)) (hw _ (List.mem_of_getElem? (i := 2) rfl)) (hw _ (List.mem_of_getElem? (i := 3) rfl)) e0 (g := (mkF m 65 #[.val (.int p0), .val (.int p1), .val (.int p2), .val (.int p3), .val (.int p4), .val (.int nv), .val (.int prv), .val (.int s0), .val (.int s1), .val (.int s2), .val (.int s3), .val (.int s4), .unset, .unset, .unset, .unset, .unset, .unset, .unset, .unset, .unset, .unset] [])) rfl (hb hby at_65) (by decide) (by decide)
      obtain ⟨b1, g1⟩ : ∃ z, z = h0.size := ⟨_, rfl⟩
      rw [← g1] at A1 D1 st1
      have gb_b1 : n0 ≤ b1 := Nat.le_trans Z0 (Nat.le_of_eq g1.symm)
      have Z1 : n0 ≤ h1.size := Nat.le_trans Z0 E1.1
      have F1_siteCount : Fld Z h1 b1 "com/example/shardwright/shardwright/recommend/SitesToTry" "siteCount" "I" (.int (0 : Int32)) := D1 (Or.inr (hw _ (List.mem_of_getElem? (i := 11) rfl))) (ty := .int) (by decide)
      have F1_takenIn : Fld Z h1 b1 "com/example/shardwright/shardwright/recommend/SitesToTry" "takenIn" "[I" .null := D1 (Or.inr (hw _ (List.mem_of_getElem? (i := 14) rfl))) (ty := (.array .int)) (by decide)
      have F1_taken : Fld Z h1 b1 "com/example/shardwright/shardwright/recommend/SitesToTry" "taken" "[I" .null := D1 (Or.inr (hw _ (List.mem_of_getElem? (i := 16) rfl))) (ty := (.array .int)) (by decide)
      have F1_collection : Fld Z h1 b1 "com/example/shardwright/shardwright/recommend/SitesToTry" "collection" "I" (.int (0 : Int32)) := D1 (Or.inl (hw _ (List.mem_of_getElem? (i := 23) rfl))) (ty := .int) (by decide)
      have F1_count : Fld Z h1 b1 "com/example/shardwright/shardwright/recommend/SitesToTry" "count" "I" (.int (0 : Int32)) := D1 (Or.inl (hw _ (List.mem_of_getElem? (i := 26) rfl))) (ty := .int) (by decide)
      refine Goes.step (A := T1.setTop (mkF m 68 #[.val (.int p0), .val (.int p1), .val (.int p2), .val (.int p3), .val (.int p4), .val (.int nv), .val (.int prv), .val (.int s0), .val (.int s1), .val (.int s2), .val (.int s3), .val (.int s4), .unset, .unset, .unset, .unset, .unset, .unset, .unset, .unset, .unset, .unset] [(.ref b1)])) (fun t kt => st1 _ kt) ?_
      refine Goes.step (A := T1.setTop (mkF m 71 #[.val (.int p0), .val (.int p1), .val (.int p2), .val (.int p3), .val (.int p4), .val (.int nv), .val (.int prv), .val (.int s0), .val (.int s1), .val (.int s2), .val (.int s3), .val (.int s4), .unset, .unset, .unset, .unset, .unset, .unset, .unset, .unset, .unset, .unset] [(.int nv), (.ref b1), (.ref b1)])) (fun t kt => ?_) ?_
      · refine XS.dup X1.here hx rfl (hb hby at_68) rfl rfl ?_
        show Steps p.tables e below (T1.setTop (mkF m 69 #[.val (.int p0), .val (.int p1), .val (.int p2), .val (.int p3), .val (.int p4), .val (.int nv), .val (.int prv), .val (.int s0), .val (.int s1), .val (.int s2), .val (.int s3), .val (.int s4), .unset, .unset, .unset, .unset, .unset, .unset, .unset, .unset, .unset, .unset] [(.ref b1), (.ref b1)])) _
        refine XS.iload X1.here hx rfl (hb hby at_69) rfl ?_
        exact kt
      obtain ⟨_, _, ⟨T2, L2, k2, n2⟩, -, X2, ⟨Lc2, hQ2, l2, y2, z2⟩, st2⟩ := X1.specialBack hx (y := (⟨"com/example/shardwright/shardwright/recommend/SitesToTry", "<init>", "(I)V"⟩ : MethodName)) rfl hown (mvT hZ (hw _ (List.mem_of_getElem? (i := 4) rfl))) (mvT hZ (hw _ (List.mem_of_getElem? (i := 5) rfl))) (mvT hZ (hw _ (List.mem_of_getElem? (i := 6) rfl))) (by decide) (backOf (W := 1) (rm1 l Z a0 hw [] b1 nv h1 n0 Z1 F1_siteCount F1_takenIn F1_taken F1_collection F1_count A1 gb_b1 hn0 hn.2) hZ (hw _ (List.mem_of_getElem? (i := 6) rfl)) (hw _ (List.mem_of_getElem? (i := 3) rfl)) (by decide) (by decide)) (g := (mkF m 71 #[.val (.int p0), .val (.int p1), .val (.int p2), .val (.int p3), .val (.int p4), .val (.int nv), .val (.int prv), .val (.int s0), .val (.int s1), .val (.int s2), .val (.int s3), .val (.int s4), .unset, .unset, .unset, .unset, .unset, .unset, .unset, .unset, .unset, .unset] [(.int nv), (.ref b1), (.ref b1)])) rfl (by rw [hml]; rfl) (Steps.refl _) (a := b1) (argsL := [(.int nv)]) (rest := [(.ref b1)]) (lenOf pd_1 rfl) rfl (by show 2 * 0 + _ ≤ _; exact Nat.le_of_eq rfl) (hb hby at_71) (fun _ _ => ⟨rfl, e1, (by decide : 1 + 2 ≤ _), (by decide : 5 + 8 ≤ _)⟩)
      dsimp only [Pt.U, Pt.locs, Pt.cells, Pt.slots] at X2 l2 y2 z2 st2 hQ2
      subst l2 y2 z2
      obtain ⟨rfl, N2q, a1_2, a2_2, ga1_2, ga2_2, S2⟩ := hQ2
      have N2 := Fr.app N0 N2q
      refine Goes.step (A := T2.setTop (mkF m 74 #[.val (.int p0), .val (.int p1), .val (.int p2), .val (.int p3), .val (.int p4), .val (.int nv), .val (.int prv), .val (.int s0), .val (.int s1), .val (.int s2), .val (.int s3), .val (.int s4), .unset, .unset, .unset, .unset, .unset, .unset, .unset, .unset, .unset, .unset] [(.ref b1)])) (fun t kt => st2.trans kt) ?_
      have Z2 : n0 ≤ T2.heap.size := Nat.le_trans gb_b1 (Nat.le_of_lt S2.1.lt)
      refine Goes.step (A := T2.setTop (mkF m 81 #[.val (.int p0), .val (.int p1), .val (.int p2), .val (.int p3), .val (.int p4), .val (.int nv), .val (.int prv), .val (.int s0), .val (.int s1), .val (.int s2), .val (.int s3), .val (.int s4), .val (.ref b1), .val (.int (1 : Int32)), .unset, .unset, .unset, .unset, .unset, .unset, .unset, .unset] [(.ref b1)])) (fun t kt => ?_) ?_
      · refine XS.astore X2.here hx rfl (hb hby at_74) rfl rfl (l' := #[.val (.int p0), .val (.int p1), .val (.int p2), .val (.int p3), .val (.int p4), .val (.int nv), .val (.int prv), .val (.int s0), .val (.int s1), .val (.int s2), .val (.int s3), .val (.int s4), .val (.ref b1), .unset, .unset, .unset, .unset, .unset, .unset, .unset, .unset, .unset]) rfl ?_
        show Steps p.tables e below (T2.setTop (mkF m 76 #[.val (.int p0), .val (.int p1), .val (.int p2), .val (.int p3), .val (.int p4), .val (.int nv), .val (.int prv), .val (.int s0), .val (.int s1), .val (.int s2), .val (.int s3), .val (.int s4), .val (.ref b1), .unset, .unset, .unset, .unset, .unset, .unset, .unset, .unset, .unset] [])) _
        refine XS.iconst X2.here hx rfl (hb hby at_76) ?_
        show Steps p.tables e below (T2.setTop (mkF m 77 #[.val (.int p0), .val (.int p1), .val (.int p2), .val (.int p3), .val (.int p4), .val (.int nv), .val (.int prv), .val (.int s0), .val (.int s1), .val (.int s2), .val (.int s3), .val (.int s4), .val (.ref b1), .unset, .unset, .unset, .unset, .unset, .unset, .unset, .unset, .unset] [(.int (1 : Int32))])) _
        refine XS.istore X2.here hx rfl (hb hby at_77) rfl (l' := #[.val (.int p0), .val (.int p1), .val (.int p2), .val (.int p3), .val (.int p4), .val (.int nv), .val (.int prv), .val (.int s0), .val (.int s1), .val (.int s2), .val (.int s3), .val (.int s4), .val (.ref b1), .val (.int (1 : Int32)), .unset, .unset, .unset, .unset, .unset, .unset, .unset, .unset]) rfl ?_
        show Steps p.tables e below (T2.setTop (mkF m 79 #[.val (.int p0), .val (.int p1), .val (.int p2), .val (.int p3), .val (.int p4), .val (.int nv), .val (.int prv), .val (.int s0), .val (.int s1), .val (.int s2), .val (.int s3), .val (.int s4), .val (.ref b1), .val (.int (1 : Int32)), .unset, .unset, .unset, .unset, .unset, .unset, .unset, .unset] [])) _
        refine XS.aload X2.here hx rfl (hb hby at_79) rfl rfl ?_
        exact kt
      obtain ⟨cq3, kq3, q3a, q3b, q3c⟩ := isOf hZ rfl S2.1
      obtain ⟨_, _, ⟨T3, L3, k3, n3⟩, -, X3, ⟨Lc3, hQ3, l3, y3, z3⟩, st3⟩ := X2.virtualBack hx (y := (⟨"com/example/shardwright/shardwright/recommend/SitesToTry", "clear", "()V"⟩ : MethodName)) (z := (⟨"com/example/shardwright/shardwright/recommend/SitesToTry", "clear", "()V"⟩ : MethodName)) hown (mvT hZ (hw _ (List.mem_of_getElem? (i := 17) rfl))) (mvT hZ (hw _ (List.mem_of_getElem? (i := 18) rfl))) (notFace_of_selects (args := #[]) (mvT hZ (hw _ (List.mem_of_getElem? (i := 20) rfl)))) (mvT hZ (hw _ (List.mem_of_getElem? (i := 20) rfl))) (mvT hZ (hw _ (List.mem_of_getElem? (i := 19) rfl))) (by decide) (backOf (W := 0) (rm3 l Z a0 hw [] b1 a1_2 a2_2 nv (0 : Int32) (0 : Int32) (fun _ => 0) T2.heap n0 Z2 S2 gb_b1 ga1_2 ga2_2 (by decide)) hZ (hw _ (List.mem_of_getElem? (i := 21) rfl)) (hw _ (List.mem_of_getElem? (i := 3) rfl)) (by decide) (by decide)) q3a q3c (g := (mkF m 81 #[.val (.int p0), .val (.int p1), .val (.int p2), .val (.int p3), .val (.int p4), .val (.int nv), .val (.int prv), .val (.int s0), .val (.int s1), .val (.int s2), .val (.int s3), .val (.int s4), .val (.ref b1), .val (.int (1 : Int32)), .unset, .unset, .unset, .unset, .unset, .unset, .unset, .unset] [(.ref b1)])) rfl (by rw [hml]; rfl) (Steps.refl _) (argsL := []) (rest := []) (lenOf pd_2 rfl) rfl (by show 2 * 0 + _ ≤ _; exact Nat.le_of_eq rfl) (hb hby at_81) (fun _ _ => ⟨rfl, rfl, (by decide : 3 + 0 ≤ _), (by decide : 13 + 0 ≤ _)⟩)
      dsimp only [Pt.U, Pt.locs, Pt.cells, Pt.slots] at X3 l3 y3 z3 st3 hQ3
      subst l3 y3 z3
      obtain ⟨rfl, N3q, S3⟩ := hQ3
      have N3 := Fr.app N2 N3q
      refine Goes.step (A := T3.setTop (mkF m 84 #[.val (.int p0), .val (.int p1), .val (.int p2), .val (.int p3), .val (.int p4), .val (.int nv), .val (.int prv), .val (.int s0), .val (.int s1), .val (.int s2), .val (.int s3), .val (.int s4), .val (.ref b1), .val (.int (1 : Int32)), .unset, .unset, .unset, .unset, .unset, .unset, .unset, .unset] [])) (fun t kt => st3.trans kt) ?_
      have Z3 : n0 ≤ T3.heap.size := Nat.le_trans gb_b1 (Nat.le_of_lt S3.1.lt)
      refine Goes.step (A := T3.setTop (mkF m 86 #[.val (.int p0), .val (.int p1), .val (.int p2), .val (.int p3), .val (.int p4), .val (.int nv), .val (.int prv), .val (.int s0), .val (.int s1), .val (.int s2), .val (.int s3), .val (.int s4), .val (.ref b1), .val (.int (1 : Int32)), .unset, .unset, .unset, .unset, .unset, .unset, .unset, .unset] [(.int prv)])) (fun t kt => ?_) ?_
      · refine XS.iload X3.here hx rfl (hb hby at_84) rfl ?_
        exact kt
      have cA : ∀ (T9 : State) (L9 : List Loc) (X9 : Stand p l e room_1 s m #[(.int p0), (.int p1), (.int p2), (.int p3), (.int p4)] below meth c T9 L9 3 13) (N9 : Fr n0 L9) (col : Int32) (tk : Int32 → Int32) (S9 : Site Z T9.heap b1 a1_2 a2_2 nv col (0 : Int32) tk) (hfr : Free tk col nv), Goes p.tables e below (fun o U' => ∃ v L, o = .returned v ∧ Q0 Z p0 p1 p2 p3 p4 h0 n0 v U'.heap L ∧ FrameEnd s o U' L room_1.cells room_1.slots) (T9.setTop (mkF m 127 #[.val (.int p0), .val (.int p1), .val (.int p2), .val (.int p3), .val (.int p4), .val (.int nv), .val (.int prv), .val (.int s0), .val (.int s1), .val (.int s2), .val (.int s3), .val (.int s4), .val (.ref b1), .val (.int (1 : Int32)), .unset, .unset, .unset, .unset, .unset, .unset, .unset, .unset] [])) := by
        intro T9 L9 X9 N9 col tk S9 hfr
        have Z9 : n0 ≤ T9.heap.size := Nat.le_trans gb_b1 (Nat.le_of_lt S9.1.lt)
        refine Goes.step (A := T9.setTop (mkF m 134 #[.val (.int p0), .val (.int p1), .val (.int p2), .val (.int p3), .val (.int p4), .val (.int nv), .val (.int prv), .val (.int s0), .val (.int s1), .val (.int s2), .val (.int s3), .val (.int s4), .val (.ref b1), .val (.int (1 : Int32)), .val (.int (1 : Int32)), .unset, .unset, .unset, .unset, .unset, .unset, .unset] [(.int s1), (.int s2)])) (fun t kt => ?_) ?_
        · refine XS.iconst X9.here hx rfl (hb hby at_127) ?_
          show Steps p.tables e below (T9.setTop (mkF m 128 #[.val (.int p0), .val (.int p1), .val (.int p2), .val (.int p3), .val (.int p4), .val (.int nv), .val (.int prv), .val (.int s0), .val (.int s1), .val (.int s2), .val (.int s3), .val (.int s4), .val (.ref b1), .val (.int (1 : Int32)), .unset, .unset, .unset, .unset, .unset, .unset, .unset, .unset] [(.int (1 : Int32))])) _
          refine XS.istore X9.here hx rfl (hb hby at_128) rfl (l' := #[.val (.int p0), .val (.int p1), .val (.int p2), .val (.int p3), .val (.int p4), .val (.int nv), .val (.int prv), .val (.int s0), .val (.int s1), .val (.int s2), .val (.int s3), .val (.int s4), .val (.ref b1), .val (.int (1 : Int32)), .val (.int (1 : Int32)), .unset, .unset, .unset, .unset, .unset, .unset, .unset]) rfl ?_
          show Steps p.tables e below (T9.setTop (mkF m 130 #[.val (.int p0), .val (.int p1), .val (.int p2), .val (.int p3), .val (.int p4), .val (.int nv), .val (.int prv), .val (.int s0), .val (.int s1), .val (.int s2), .val (.int s3), .val (.int s4), .val (.ref b1), .val (.int (1 : Int32)), .val (.int (1 : Int32)), .unset, .unset, .unset, .unset, .unset, .unset, .unset] [])) _
          refine XS.iload X9.here hx rfl (hb hby at_130) rfl ?_
          show Steps p.tables e below (T9.setTop (mkF m 132 #[.val (.int p0), .val (.int p1), .val (.int p2), .val (.int p3), .val (.int p4), .val (.int nv), .val (.int prv), .val (.int s0), .val (.int s1), .val (.int s2), .val (.int s3), .val (.int s4), .val (.ref b1), .val (.int (1 : Int32)), .val (.int (1 : Int32)), .unset, .unset, .unset, .unset, .unset, .unset, .unset] [(.int s2)])) _
          refine XS.iload X9.here hx rfl (hb hby at_132) rfl ?_
          exact kt
        have cB : ∀ (d2 : Int32) (e2 : d2 = if s2 = s1 then (1 : Int32) else (1 : Int32) + (1 : Int32)), Goes p.tables e below (fun o U' => ∃ v L, o = .returned v ∧ Q0 Z p0 p1 p2 p3 p4 h0 n0 v U'.heap L ∧ FrameEnd s o U' L room_1.cells room_1.slots) (T9.setTop (mkF m 148 #[.val (.int p0), .val (.int p1), .val (.int p2), .val (.int p3), .val (.int p4), .val (.int nv), .val (.int prv), .val (.int s0), .val (.int s1), .val (.int s2), .val (.int s3), .val (.int s4), .val (.ref b1), .val (.int (1 : Int32)), .val (.int (1 : Int32)), .val (.int d2), .unset, .unset, .unset, .unset, .unset, .unset] [])) := by
          intro d2 e2
          refine Goes.step (A := T9.setTop (mkF m 152 #[.val (.int p0), .val (.int p1), .val (.int p2), .val (.int p3), .val (.int p4), .val (.int nv), .val (.int prv), .val (.int s0), .val (.int s1), .val (.int s2), .val (.int s3), .val (.int s4), .val (.ref b1), .val (.int (1 : Int32)), .val (.int (1 : Int32)), .val (.int d2), .unset, .unset, .unset, .unset, .unset, .unset] [(.int s1), (.int s3)])) (fun t kt => ?_) ?_
          · refine XS.iload X9.here hx rfl (hb hby at_148) rfl ?_
            show Steps p.tables e below (T9.setTop (mkF m 150 #[.val (.int p0), .val (.int p1), .val (.int p2), .val (.int p3), .val (.int p4), .val (.int nv), .val (.int prv), .val (.int s0), .val (.int s1), .val (.int s2), .val (.int s3), .val (.int s4), .val (.ref b1), .val (.int (1 : Int32)), .val (.int (1 : Int32)), .val (.int d2), .unset, .unset, .unset, .unset, .unset, .unset] [(.int s3)])) _
            refine XS.iload X9.here hx rfl (hb hby at_150) rfl ?_
            exact kt
          have cC : ∀ (d3 : Int32) (e3 : d3 = if (s3 = s1 ∨ s3 = s2) then d2 else d2 + (1 : Int32)), Goes p.tables e below (fun o U' => ∃ v L, o = .returned v ∧ Q0 Z p0 p1 p2 p3 p4 h0 n0 v U'.heap L ∧ FrameEnd s o U' L room_1.cells room_1.slots) (T9.setTop (mkF m 173 #[.val (.int p0), .val (.int p1), .val (.int p2), .val (.int p3), .val (.int p4), .val (.int nv), .val (.int prv), .val (.int s0), .val (.int s1), .val (.int s2), .val (.int s3), .val (.int s4), .val (.ref b1), .val (.int (1 : Int32)), .val (.int (1 : Int32)), .val (.int d2), .val (.int d3), .unset, .unset, .unset, .unset, .unset] [])) := by
            intro d3 e3
            refine Goes.step (A := T9.setTop (mkF m 177 #[.val (.int p0), .val (.int p1), .val (.int p2), .val (.int p3), .val (.int p4), .val (.int nv), .val (.int prv), .val (.int s0), .val (.int s1), .val (.int s2), .val (.int s3), .val (.int s4), .val (.ref b1), .val (.int (1 : Int32)), .val (.int (1 : Int32)), .val (.int d2), .val (.int d3), .unset, .unset, .unset, .unset, .unset] [(.int s1), (.int s4)])) (fun t kt => ?_) ?_
            · refine XS.iload X9.here hx rfl (hb hby at_173) rfl ?_
              show Steps p.tables e below (T9.setTop (mkF m 175 #[.val (.int p0), .val (.int p1), .val (.int p2), .val (.int p3), .val (.int p4), .val (.int nv), .val (.int prv), .val (.int s0), .val (.int s1), .val (.int s2), .val (.int s3), .val (.int s4), .val (.ref b1), .val (.int (1 : Int32)), .val (.int (1 : Int32)), .val (.int d2), .val (.int d3), .unset, .unset, .unset, .unset, .unset] [(.int s4)])) _
              refine XS.iload X9.here hx rfl (hb hby at_175) rfl ?_
              exact kt
            have cD : ∀ (d4 : Int32) (e4 : d4 = if (s4 = s1 ∨ s4 = s2 ∨ s4 = s3) then d3 else d3 + (1 : Int32)), Goes p.tables e below (fun o U' => ∃ v L, o = .returned v ∧ Q0 Z p0 p1 p2 p3 p4 h0 n0 v U'.heap L ∧ FrameEnd s o U' L room_1.cells room_1.slots) (T9.setTop (mkF m 205 #[.val (.int p0), .val (.int p1), .val (.int p2), .val (.int p3), .val (.int p4), .val (.int nv), .val (.int prv), .val (.int s0), .val (.int s1), .val (.int s2), .val (.int s3), .val (.int s4), .val (.ref b1), .val (.int (1 : Int32)), .val (.int (1 : Int32)), .val (.int d2), .val (.int d3), .val (.int d4), .unset, .unset, .unset, .unset] [])) := by
              intro d4 e4
              have k1 := own_c1 tk col s1 (hfr s1 r1)
              have k2 := own_ck (upd tk s1 col) col (1 : Int32) s2 d2 _ (own_m1 hfr r2) e2
              have k3 := own_ck (upd (upd tk s1 col) s2 col) col d2 s3 d3 _ (own_m2 hfr r3) e3
              have k4 := own_ck (upd (upd (upd tk s1 col) s2 col) s3 col) col d3 s4 d4 _ (own_m3 hfr r4) e4
              refine Goes.step (A := T9.setTop (mkF m 209 #[.val (.int p0), .val (.int p1), .val (.int p2), .val (.int p3), .val (.int p4), .val (.int nv), .val (.int prv), .val (.int s0), .val (.int s1), .val (.int s2), .val (.int s3), .val (.int s4), .val (.ref b1), .val (.int (1 : Int32)), .val (.int (1 : Int32)), .val (.int d2), .val (.int d3), .val (.int d4), .unset, .unset, .unset, .unset] [(.int s1), (.ref b1)])) (fun t kt => ?_) ?_
              · refine XS.aload X9.here hx rfl (hb hby at_205) rfl rfl ?_
                show Steps p.tables e below (T9.setTop (mkF m 207 #[.val (.int p0), .val (.int p1), .val (.int p2), .val (.int p3), .val (.int p4), .val (.int nv), .val (.int prv), .val (.int s0), .val (.int s1), .val (.int s2), .val (.int s3), .val (.int s4), .val (.ref b1), .val (.int (1 : Int32)), .val (.int (1 : Int32)), .val (.int d2), .val (.int d3), .val (.int d4), .unset, .unset, .unset, .unset] [(.ref b1)])) _
                refine XS.iload X9.here hx rfl (hb hby at_207) rfl ?_
                exact kt
              obtain ⟨cq4, kq4, q4a, q4b, q4c⟩ := isOf hZ rfl S9.1
              obtain ⟨_, _, ⟨T4, L4, k4, n4⟩, -, X4, ⟨Lc4, hQ4, l4, y4, z4⟩, st4⟩ := X9.virtualBack hx (y := (⟨"com/example/shardwright/shardwright/recommend/SitesToTry", "take", "(I)Z"⟩ : MethodName)) (z := (⟨"com/example/shardwright/shardwright/recommend/SitesToTry", "take", "(I)Z"⟩ : MethodName)) hown (mvT hZ (hw _ (List.mem_of_getElem? (i := 27) rfl))) (mvT hZ (hw _ (List.mem_of_getElem? (i := 28) rfl))) (notFace_of_selects (args := #[]) (mvT hZ (hw _ (List.mem_of_getElem? (i := 30) rfl)))) (mvT hZ (hw _ (List.mem_of_getElem? (i := 30) rfl))) (mvT hZ (hw _ (List.mem_of_getElem? (i := 29) rfl))) (by decide) (backOf (W := 0) (rm4 l Z a0 hw [] b1 s1 a1_2 a2_2 nv col (0 : Int32) tk T9.heap n0 Z9 S9 gb_b1 ga1_2 ga2_2 r1 (fun _ => hpos)) hZ (hw _ (List.mem_of_getElem? (i := 31) rfl)) (hw _ (List.mem_of_getElem? (i := 3) rfl)) (by decide) (by decide)) q4a q4c (g := (mkF m 209 #[.val (.int p0), .val (.int p1), .val (.int p2), .val (.int p3), .val (.int p4), .val (.int nv), .val (.int prv), .val (.int s0), .val (.int s1), .val (.int s2), .val (.int s3), .val (.int s4), .val (.ref b1), .val (.int (1 : Int32)), .val (.int (1 : Int32)), .val (.int d2), .val (.int d3), .val (.int d4), .unset, .unset, .unset, .unset] [(.int s1), (.ref b1)])) rfl (by rw [hml]; rfl) (Steps.refl _) (argsL := [(.int s1)]) (rest := []) (lenOf pd_0 rfl) rfl (by show 2 * 0 + _ ≤ _; exact Nat.le_of_eq rfl) (hb hby at_209) (fun _ _ => ⟨rfl, rfl, (by decide : 3 + 0 ≤ _), (by decide : 13 + 0 ≤ _)⟩)
              dsimp only [Pt.U, Pt.locs, Pt.cells, Pt.slots] at X4 l4 y4 z4 st4 hQ4
              subst l4 y4 z4
              have hQ4' := hQ4
              unfold Q4 at hQ4'
              rw [k1] at hQ4'
              clear hQ4
              have hQ4 := hQ4'
              clear hQ4'
              obtain ⟨rfl, N4q, S4⟩ := hQ4
              have N4 := Fr.app N9 N4q
              refine Goes.step (A := T4.setTop (mkF m 212 #[.val (.int p0), .val (.int p1), .val (.int p2), .val (.int p3), .val (.int p4), .val (.int nv), .val (.int prv), .val (.int s0), .val (.int s1), .val (.int s2), .val (.int s3), .val (.int s4), .val (.ref b1), .val (.int (1 : Int32)), .val (.int (1 : Int32)), .val (.int d2), .val (.int d3), .val (.int d4), .unset, .unset, .unset, .unset] [(.int (eqF (1 : Int32) nv))])) (fun t kt => st4.trans kt) ?_
              have Z4 : n0 ≤ T4.heap.size := Nat.le_trans gb_b1 (Nat.le_of_lt S4.1.lt)
              refine Goes.step (A := T4.setTop (mkF m 218 #[.val (.int p0), .val (.int p1), .val (.int p2), .val (.int p3), .val (.int p4), .val (.int nv), .val (.int prv), .val (.int s0), .val (.int s1), .val (.int s2), .val (.int s3), .val (.int s4), .val (.ref b1), .val (.int (1 : Int32)), .val (.int (1 : Int32)), .val (.int d2), .val (.int d3), .val (.int d4), .val (.int (eqF (1 : Int32) nv)), .unset, .unset, .unset] [(.int s2), (.ref b1)])) (fun t kt => ?_) ?_
              · refine XS.istore X4.here hx rfl (hb hby at_212) rfl (l' := #[.val (.int p0), .val (.int p1), .val (.int p2), .val (.int p3), .val (.int p4), .val (.int nv), .val (.int prv), .val (.int s0), .val (.int s1), .val (.int s2), .val (.int s3), .val (.int s4), .val (.ref b1), .val (.int (1 : Int32)), .val (.int (1 : Int32)), .val (.int d2), .val (.int d3), .val (.int d4), .val (.int (eqF (1 : Int32) nv)), .unset, .unset, .unset]) rfl ?_
                show Steps p.tables e below (T4.setTop (mkF m 214 #[.val (.int p0), .val (.int p1), .val (.int p2), .val (.int p3), .val (.int p4), .val (.int nv), .val (.int prv), .val (.int s0), .val (.int s1), .val (.int s2), .val (.int s3), .val (.int s4), .val (.ref b1), .val (.int (1 : Int32)), .val (.int (1 : Int32)), .val (.int d2), .val (.int d3), .val (.int d4), .val (.int (eqF (1 : Int32) nv)), .unset, .unset, .unset] [])) _
                refine XS.aload X4.here hx rfl (hb hby at_214) rfl rfl ?_
                show Steps p.tables e below (T4.setTop (mkF m 216 #[.val (.int p0), .val (.int p1), .val (.int p2), .val (.int p3), .val (.int p4), .val (.int nv), .val (.int prv), .val (.int s0), .val (.int s1), .val (.int s2), .val (.int s3), .val (.int s4), .val (.ref b1), .val (.int (1 : Int32)), .val (.int (1 : Int32)), .val (.int d2), .val (.int d3), .val (.int d4), .val (.int (eqF (1 : Int32) nv)), .unset, .unset, .unset] [(.ref b1)])) _
                refine XS.iload X4.here hx rfl (hb hby at_216) rfl ?_
                exact kt
              obtain ⟨cq5, kq5, q5a, q5b, q5c⟩ := isOf hZ rfl S4.1
              obtain ⟨_, _, ⟨T5, L5, k5, n5⟩, -, X5, ⟨Lc5, hQ5, l5, y5, z5⟩, st5⟩ := X4.virtualBack hx (y := (⟨"com/example/shardwright/shardwright/recommend/SitesToTry", "take", "(I)Z"⟩ : MethodName)) (z := (⟨"com/example/shardwright/shardwright/recommend/SitesToTry", "take", "(I)Z"⟩ : MethodName)) hown (mvT hZ (hw _ (List.mem_of_getElem? (i := 27) rfl))) (mvT hZ (hw _ (List.mem_of_getElem? (i := 28) rfl))) (notFace_of_selects (args := #[]) (mvT hZ (hw _ (List.mem_of_getElem? (i := 30) rfl)))) (mvT hZ (hw _ (List.mem_of_getElem? (i := 30) rfl))) (mvT hZ (hw _ (List.mem_of_getElem? (i := 29) rfl))) (by decide) (backOf (W := 0) (rm4 l Z a0 hw [] b1 s2 a1_2 a2_2 nv col (1 : Int32) (upd tk s1 col) T4.heap n0 Z4 S4 gb_b1 ga1_2 ga2_2 r2 (fun q => own_b2 nv s1 s2 r1 r2 (fun z => q ((own_m1 hfr r2).mpr z)))) hZ (hw _ (List.mem_of_getElem? (i := 31) rfl)) (hw _ (List.mem_of_getElem? (i := 3) rfl)) (by decide) (by decide)) q5a q5c (g := (mkF m 218 #[.val (.int p0), .val (.int p1), .val (.int p2), .val (.int p3), .val (.int p4), .val (.int nv), .val (.int prv), .val (.int s0), .val (.int s1), .val (.int s2), .val (.int s3), .val (.int s4), .val (.ref b1), .val (.int (1 : Int32)), .val (.int (1 : Int32)), .val (.int d2), .val (.int d3), .val (.int d4), .val (.int (eqF (1 : Int32) nv)), .unset, .unset, .unset] [(.int s2), (.ref b1)])) rfl (by rw [hml]; rfl) (Steps.refl _) (argsL := [(.int s2)]) (rest := []) (lenOf pd_0 rfl) rfl (by show 2 * 0 + _ ≤ _; exact Nat.le_of_eq rfl) (hb hby at_218) (fun _ _ => ⟨rfl, rfl, (by decide : 3 + 0 ≤ _), (by decide : 13 + 0 ≤ _)⟩)
              dsimp only [Pt.U, Pt.locs, Pt.cells, Pt.slots] at X5 l5 y5 z5 st5 hQ5
              subst l5 y5 z5
              have hQ5' := hQ5
              unfold Q4 at hQ5'
              rw [k2] at hQ5'
              clear hQ5
              have hQ5 := hQ5'
              clear hQ5'
              obtain ⟨rfl, N5q, S5⟩ := hQ5
              have N5 := Fr.app N4 N5q
              refine Goes.step (A := T5.setTop (mkF m 221 #[.val (.int p0), .val (.int p1), .val (.int p2), .val (.int p3), .val (.int p4), .val (.int nv), .val (.int prv), .val (.int s0), .val (.int s1), .val (.int s2), .val (.int s3), .val (.int s4), .val (.ref b1), .val (.int (1 : Int32)), .val (.int (1 : Int32)), .val (.int d2), .val (.int d3), .val (.int d4), .val (.int (eqF (1 : Int32) nv)), .unset, .unset, .unset] [(.int (eqF d2 nv))])) (fun t kt => st5.trans kt) ?_
              have Z5 : n0 ≤ T5.heap.size := Nat.le_trans gb_b1 (Nat.le_of_lt S5.1.lt)
              refine Goes.step (A := T5.setTop (mkF m 227 #[.val (.int p0), .val (.int p1), .val (.int p2), .val (.int p3), .val (.int p4), .val (.int nv), .val (.int prv), .val (.int s0), .val (.int s1), .val (.int s2), .val (.int s3), .val (.int s4), .val (.ref b1), .val (.int (1 : Int32)), .val (.int (1 : Int32)), .val (.int d2), .val (.int d3), .val (.int d4), .val (.int (eqF (1 : Int32) nv)), .val (.int (eqF d2 nv)), .unset, .unset] [(.int s3), (.ref b1)])) (fun t kt => ?_) ?_
              · refine XS.istore X5.here hx rfl (hb hby at_221) rfl (l' := #[.val (.int p0), .val (.int p1), .val (.int p2), .val (.int p3), .val (.int p4), .val (.int nv), .val (.int prv), .val (.int s0), .val (.int s1), .val (.int s2), .val (.int s3), .val (.int s4), .val (.ref b1), .val (.int (1 : Int32)), .val (.int (1 : Int32)), .val (.int d2), .val (.int d3), .val (.int d4), .val (.int (eqF (1 : Int32) nv)), .val (.int (eqF d2 nv)), .unset, .unset]) rfl ?_
                show Steps p.tables e below (T5.setTop (mkF m 223 #[.val (.int p0), .val (.int p1), .val (.int p2), .val (.int p3), .val (.int p4), .val (.int nv), .val (.int prv), .val (.int s0), .val (.int s1), .val (.int s2), .val (.int s3), .val (.int s4), .val (.ref b1), .val (.int (1 : Int32)), .val (.int (1 : Int32)), .val (.int d2), .val (.int d3), .val (.int d4), .val (.int (eqF (1 : Int32) nv)), .val (.int (eqF d2 nv)), .unset, .unset] [])) _
                refine XS.aload X5.here hx rfl (hb hby at_223) rfl rfl ?_
                show Steps p.tables e below (T5.setTop (mkF m 225 #[.val (.int p0), .val (.int p1), .val (.int p2), .val (.int p3), .val (.int p4), .val (.int nv), .val (.int prv), .val (.int s0), .val (.int s1), .val (.int s2), .val (.int s3), .val (.int s4), .val (.ref b1), .val (.int (1 : Int32)), .val (.int (1 : Int32)), .val (.int d2), .val (.int d3), .val (.int d4), .val (.int (eqF (1 : Int32) nv)), .val (.int (eqF d2 nv)), .unset, .unset] [(.ref b1)])) _
                refine XS.iload X5.here hx rfl (hb hby at_225) rfl ?_
                exact kt
              obtain ⟨cq6, kq6, q6a, q6b, q6c⟩ := isOf hZ rfl S5.1
              obtain ⟨_, _, ⟨T6, L6, k6, n6⟩, -, X6, ⟨Lc6, hQ6, l6, y6, z6⟩, st6⟩ := X5.virtualBack hx (y := (⟨"com/example/shardwright/shardwright/recommend/SitesToTry", "take", "(I)Z"⟩ : MethodName)) (z := (⟨"com/example/shardwright/shardwright/recommend/SitesToTry", "take", "(I)Z"⟩ : MethodName)) hown (mvT hZ (hw _ (List.mem_of_getElem? (i := 27) rfl))) (mvT hZ (hw _ (List.mem_of_getElem? (i := 28) rfl))) (notFace_of_selects (args := #[]) (mvT hZ (hw _ (List.mem_of_getElem? (i := 30) rfl)))) (mvT hZ (hw _ (List.mem_of_getElem? (i := 30) rfl))) (mvT hZ (hw _ (List.mem_of_getElem? (i := 29) rfl))) (by decide) (backOf (W := 0) (rm4 l Z a0 hw [] b1 s3 a1_2 a2_2 nv col d2 (upd (upd tk s1 col) s2 col) T5.heap n0 Z5 S5 gb_b1 ga1_2 ga2_2 r3 (fun q => own_b3 nv s1 s2 s3 d2 r1 r2 r3 e2 (fun z => q ((own_m2 hfr r3).mpr z)))) hZ (hw _ (List.mem_of_getElem? (i := 31) rfl)) (hw _ (List.mem_of_getElem? (i := 3) rfl)) (by decide) (by decide)) q6a q6c (g := (mkF m 227 #[.val (.int p0), .val (.int p1), .val (.int p2), .val (.int p3), .val (.int p4), .val (.int nv), .val (.int prv), .val (.int s0), .val (.int s1), .val (.int s2), .val (.int s3), .val (.int s4), .val (.ref b1), .val (.int (1 : Int32)), .val (.int (1 : Int32)), .val (.int d2), .val (.int d3), .val (.int d4), .val (.int (eqF (1 : Int32) nv)), .val (.int (eqF d2 nv)), .unset, .unset] [(.int s3), (.ref b1)])) rfl (by rw [hml]; rfl) (Steps.refl _) (argsL := [(.int s3)]) (rest := []) (lenOf pd_0 rfl) rfl (by show 2 * 0 + _ ≤ _; exact Nat.le_of_eq rfl) (hb hby at_227) (fun _ _ => ⟨rfl, rfl, (by decide : 3 + 0 ≤ _), (by decide : 13 + 0 ≤ _)⟩)
              dsimp only [Pt.U, Pt.locs, Pt.cells, Pt.slots] at X6 l6 y6 z6 st6 hQ6
              subst l6 y6 z6
              have hQ6' := hQ6
              unfold Q4 at hQ6'
              rw [k3] at hQ6'
              clear hQ6
              have hQ6 := hQ6'
              clear hQ6'
              obtain ⟨rfl, N6q, S6⟩ := hQ6
              have N6 := Fr.app N5 N6q
              refine Goes.step (A := T6.setTop (mkF m 230 #[.val (.int p0), .val (.int p1), .val (.int p2), .val (.int p3), .val (.int p4), .val (.int nv), .val (.int prv), .val (.int s0), .val (.int s1), .val (.int s2), .val (.int s3), .val (.int s4), .val (.ref b1), .val (.int (1 : Int32)), .val (.int (1 : Int32)), .val (.int d2), .val (.int d3), .val (.int d4), .val (.int (eqF (1 : Int32) nv)), .val (.int (eqF d2 nv)), .unset, .unset] [(.int (eqF d3 nv))])) (fun t kt => st6.trans kt) ?_
              have Z6 : n0 ≤ T6.heap.size := Nat.le_trans gb_b1 (Nat.le_of_lt S6.1.lt)
              refine Goes.step (A := T6.setTop (mkF m 236 #[.val (.int p0), .val (.int p1), .val (.int p2), .val (.int p3), .val (.int p4), .val (.int nv), .val (.int prv), .val (.int s0), .val (.int s1), .val (.int s2), .val (.int s3), .val (.int s4), .val (.ref b1), .val (.int (1 : Int32)), .val (.int (1 : Int32)), .val (.int d2), .val (.int d3), .val (.int d4), .val (.int (eqF (1 : Int32) nv)), .val (.int (eqF d2 nv)), .val (.int (eqF d3 nv)), .unset] [(.int s4), (.ref b1)])) (fun t kt => ?_) ?_
              · refine XS.istore X6.here hx rfl (hb hby at_230) rfl (l' := #[.val (.int p0), .val (.int p1), .val (.int p2), .val (.int p3), .val (.int p4), .val (.int nv), .val (.int prv), .val (.int s0), .val (.int s1), .val (.int s2), .val (.int s3), .val (.int s4), .val (.ref b1), .val (.int (1 : Int32)), .val (.int (1 : Int32)), .val (.int d2), .val (.int d3), .val (.int d4), .val (.int (eqF (1 : Int32) nv)), .val (.int (eqF d2 nv)), .val (.int (eqF d3 nv)), .unset]) rfl ?_
                show Steps p.tables e below (T6.setTop (mkF m 232 #[.val (.int p0), .val (.int p1), .val (.int p2), .val (.int p3), .val (.int p4), .val (.int nv), .val (.int prv), .val (.int s0), .val (.int s1), .val (.int s2), .val (.int s3), .val (.int s4), .val (.ref b1), .val (.int (1 : Int32)), .val (.int (1 : Int32)), .val (.int d2), .val (.int d3), .val (.int d4), .val (.int (eqF (1 : Int32) nv)), .val (.int (eqF d2 nv)), .val (.int (eqF d3 nv)), .unset] [])) _
                refine XS.aload X6.here hx rfl (hb hby at_232) rfl rfl ?_
                show Steps p.tables e below (T6.setTop (mkF m 234 #[.val (.int p0), .val (.int p1), .val (.int p2), .val (.int p3), .val (.int p4), .val (.int nv), .val (.int prv), .val (.int s0), .val (.int s1), .val (.int s2), .val (.int s3), .val (.int s4), .val (.ref b1), .val (.int (1 : Int32)), .val (.int (1 : Int32)), .val (.int d2), .val (.int d3), .val (.int d4), .val (.int (eqF (1 : Int32) nv)), .val (.int (eqF d2 nv)), .val (.int (eqF d3 nv)), .unset] [(.ref b1)])) _
                refine XS.iload X6.here hx rfl (hb hby at_234) rfl ?_
                exact kt
              obtain ⟨cq7, kq7, q7a, q7b, q7c⟩ := isOf hZ rfl S6.1
              obtain ⟨_, _, ⟨T7, L7, k7, n7⟩, -, X7, ⟨Lc7, hQ7, l7, y7, z7⟩, st7⟩ := X6.virtualBack hx (y := (⟨"com/example/shardwright/shardwright/recommend/SitesToTry", "take", "(I)Z"⟩ : MethodName)) (z := (⟨"com/example/shardwright/shardwright/recommend/SitesToTry", "take", "(I)Z"⟩ : MethodName)) hown (mvT hZ (hw _ (List.mem_of_getElem? (i := 27) rfl))) (mvT hZ (hw _ (List.mem_of_getElem? (i := 28) rfl))) (notFace_of_selects (args := #[]) (mvT hZ (hw _ (List.mem_of_getElem? (i := 30) rfl)))) (mvT hZ (hw _ (List.mem_of_getElem? (i := 30) rfl))) (mvT hZ (hw _ (List.mem_of_getElem? (i := 29) rfl))) (by decide) (backOf (W := 0) (rm4 l Z a0 hw [] b1 s4 a1_2 a2_2 nv col d3 (upd (upd (upd tk s1 col) s2 col) s3 col) T6.heap n0 Z6 S6 gb_b1 ga1_2 ga2_2 r4 (fun q => own_b4 nv s1 s2 s3 s4 d2 d3 r1 r2 r3 r4 e2 e3 (fun z => q ((own_m3 hfr r4).mpr z)))) hZ (hw _ (List.mem_of_getElem? (i := 31) rfl)) (hw _ (List.mem_of_getElem? (i := 3) rfl)) (by decide) (by decide)) q7a q7c (g := (mkF m 236 #[.val (.int p0), .val (.int p1), .val (.int p2), .val (.int p3), .val (.int p4), .val (.int nv), .val (.int prv), .val (.int s0), .val (.int s1), .val (.int s2), .val (.int s3), .val (.int s4), .val (.ref b1), .val (.int (1 : Int32)), .val (.int (1 : Int32)), .val (.int d2), .val (.int d3), .val (.int d4), .val (.int (eqF (1 : Int32) nv)), .val (.int (eqF d2 nv)), .val (.int (eqF d3 nv)), .unset] [(.int s4), (.ref b1)])) rfl (by rw [hml]; rfl) (Steps.refl _) (argsL := [(.int s4)]) (rest := []) (lenOf pd_0 rfl) rfl (by show 2 * 0 + _ ≤ _; exact Nat.le_of_eq rfl) (hb hby at_236) (fun _ _ => ⟨rfl, rfl, (by decide : 3 + 0 ≤ _), (by decide : 13 + 0 ≤ _)⟩)
              dsimp only [Pt.U, Pt.locs, Pt.cells, Pt.slots] at X7 l7 y7 z7 st7 hQ7
              subst l7 y7 z7
              have hQ7' := hQ7
              unfold Q4 at hQ7'
              rw [k4] at hQ7'
              clear hQ7
              have hQ7 := hQ7'
              clear hQ7'
              obtain ⟨rfl, N7q, S7⟩ := hQ7
              have N7 := Fr.app N6 N7q
              refine Goes.step (A := T7.setTop (mkF m 239 #[.val (.int p0), .val (.int p1), .val (.int p2), .val (.int p3), .val (.int p4), .val (.int nv), .val (.int prv), .val (.int s0), .val (.int s1), .val (.int s2), .val (.int s3), .val (.int s4), .val (.ref b1), .val (.int (1 : Int32)), .val (.int (1 : Int32)), .val (.int d2), .val (.int d3), .val (.int d4), .val (.int (eqF (1 : Int32) nv)), .val (.int (eqF d2 nv)), .val (.int (eqF d3 nv)), .unset] [(.int (eqF d4 nv))])) (fun t kt => st7.trans kt) ?_
              have Z7 : n0 ≤ T7.heap.size := Nat.le_trans gb_b1 (Nat.le_of_lt S7.1.lt)
              refine Goes.step (A := T7.setTop (mkF m 241 #[.val (.int p0), .val (.int p1), .val (.int p2), .val (.int p3), .val (.int p4), .val (.int nv), .val (.int prv), .val (.int s0), .val (.int s1), .val (.int s2), .val (.int s3), .val (.int s4), .val (.ref b1), .val (.int (1 : Int32)), .val (.int (1 : Int32)), .val (.int d2), .val (.int d3), .val (.int d4), .val (.int (eqF (1 : Int32) nv)), .val (.int (eqF d2 nv)), .val (.int (eqF d3 nv)), .val (.int (eqF d4 nv))] [])) (fun t kt => ?_) ?_
              · refine XS.istore X7.here hx rfl (hb hby at_239) rfl (l' := #[.val (.int p0), .val (.int p1), .val (.int p2), .val (.int p3), .val (.int p4), .val (.int nv), .val (.int prv), .val (.int s0), .val (.int s1), .val (.int s2), .val (.int s3), .val (.int s4), .val (.ref b1), .val (.int (1 : Int32)), .val (.int (1 : Int32)), .val (.int d2), .val (.int d3), .val (.int d4), .val (.int (eqF (1 : Int32) nv)), .val (.int (eqF d2 nv)), .val (.int (eqF d3 nv)), .val (.int (eqF d4 nv))]) rfl ?_
                exact kt
              refine Goes.step (A := T7.setTop (mkF m 243 #[.val (.int p0), .val (.int p1), .val (.int p2), .val (.int p3), .val (.int p4), .val (.int nv), .val (.int prv), .val (.int s0), .val (.int s1), .val (.int s2), .val (.int s3), .val (.int s4), .val (.ref b1), .val (.int (1 : Int32)), .val (.int (1 : Int32)), .val (.int d2), .val (.int d3), .val (.int d4), .val (.int (eqF (1 : Int32) nv)), .val (.int (eqF d2 nv)), .val (.int (eqF d3 nv)), .val (.int (eqF d4 nv))] [(.int (1 : Int32))])) (fun t kt => ?_) ?_
              · refine XS.iload X7.here hx rfl (hb hby at_241) rfl ?_
                exact kt
              refine Goes.step (A := T7.setTop (mkF m 246 #[.val (.int p0), .val (.int p1), .val (.int p2), .val (.int p3), .val (.int p4), .val (.int nv), .val (.int prv), .val (.int s0), .val (.int s1), .val (.int s2), .val (.int s3), .val (.int s4), .val (.ref b1), .val (.int (1 : Int32)), .val (.int (1 : Int32)), .val (.int d2), .val (.int d3), .val (.int d4), .val (.int (eqF (1 : Int32) nv)), .val (.int (eqF d2 nv)), .val (.int (eqF d3 nv)), .val (.int (eqF d4 nv))] [])) (fun t kt => XS.ifNo X7.here hx rfl (hb hby at_243) rfl ((if0 _ _).trans (feq ((by decide) : ¬ ((1 : Int32) = (0 : Int32)))).1) kt) ?_
              refine Goes.step (A := T7.setTop (mkF m 252 #[.val (.int p0), .val (.int p1), .val (.int p2), .val (.int p3), .val (.int p4), .val (.int nv), .val (.int prv), .val (.int s0), .val (.int s1), .val (.int s2), .val (.int s3), .val (.int s4), .val (.ref b1), .val (.int (1 : Int32)), .val (.int (1 : Int32)), .val (.int d2), .val (.int d3), .val (.int d4), .val (.int (eqF (1 : Int32) nv)), .val (.int (eqF d2 nv)), .val (.int (eqF d3 nv)), .val (.int (eqF d4 nv))] [(.int nv), (.int (1 : Int32)), (.int (eqF (1 : Int32) nv))])) (fun t kt => ?_) ?_
              · refine XS.iload X7.here hx rfl (hb hby at_246) rfl ?_
                show Steps p.tables e below (T7.setTop (mkF m 248 #[.val (.int p0), .val (.int p1), .val (.int p2), .val (.int p3), .val (.int p4), .val (.int nv), .val (.int prv), .val (.int s0), .val (.int s1), .val (.int s2), .val (.int s3), .val (.int s4), .val (.ref b1), .val (.int (1 : Int32)), .val (.int (1 : Int32)), .val (.int d2), .val (.int d3), .val (.int d4), .val (.int (eqF (1 : Int32) nv)), .val (.int (eqF d2 nv)), .val (.int (eqF d3 nv)), .val (.int (eqF d4 nv))] [(.int (eqF (1 : Int32) nv))])) _
                refine XS.iload X7.here hx rfl (hb hby at_248) rfl ?_
                show Steps p.tables e below (T7.setTop (mkF m 250 #[.val (.int p0), .val (.int p1), .val (.int p2), .val (.int p3), .val (.int p4), .val (.int nv), .val (.int prv), .val (.int s0), .val (.int s1), .val (.int s2), .val (.int s3), .val (.int s4), .val (.ref b1), .val (.int (1 : Int32)), .val (.int (1 : Int32)), .val (.int d2), .val (.int d3), .val (.int d4), .val (.int (eqF (1 : Int32) nv)), .val (.int (eqF d2 nv)), .val (.int (eqF d3 nv)), .val (.int (eqF d4 nv))] [(.int (1 : Int32)), (.int (eqF (1 : Int32) nv))])) _
                refine XS.iload X7.here hx rfl (hb hby at_250) rfl ?_
                exact kt
              have cx0 : ∀ (_u : True), Goes p.tables e below (fun o U' => ∃ v L, o = .returned v ∧ Q0 Z p0 p1 p2 p3 p4 h0 n0 v U'.heap L ∧ FrameEnd s o U' L room_1.cells room_1.slots) (T7.setTop (mkF m 270 #[.val (.int p0), .val (.int p1), .val (.int p2), .val (.int p3), .val (.int p4), .val (.int nv), .val (.int prv), .val (.int s0), .val (.int s1), .val (.int s2), .val (.int s3), .val (.int s4), .val (.ref b1), .val (.int (1 : Int32)), .val (.int (1 : Int32)), .val (.int d2), .val (.int d3), .val (.int d4), .val (.int (eqF (1 : Int32) nv)), .val (.int (eqF d2 nv)), .val (.int (eqF d3 nv)), .val (.int (eqF d4 nv))] [])) := by
                intro _u
                refine Goes.step (A := T7.setTop (mkF m 272 #[.val (.int p0), .val (.int p1), .val (.int p2), .val (.int p3), .val (.int p4), .val (.int nv), .val (.int prv), .val (.int s0), .val (.int s1), .val (.int s2), .val (.int s3), .val (.int s4), .val (.ref b1), .val (.int (1 : Int32)), .val (.int (1 : Int32)), .val (.int d2), .val (.int d3), .val (.int d4), .val (.int (eqF (1 : Int32) nv)), .val (.int (eqF d2 nv)), .val (.int (eqF d3 nv)), .val (.int (eqF d4 nv))] [(.int (1 : Int32))])) (fun t kt => ?_) ?_
                · refine XS.iload X7.here hx rfl (hb hby at_270) rfl ?_
                  exact kt
                refine Goes.step (A := T7.setTop (mkF m 275 #[.val (.int p0), .val (.int p1), .val (.int p2), .val (.int p3), .val (.int p4), .val (.int nv), .val (.int prv), .val (.int s0), .val (.int s1), .val (.int s2), .val (.int s3), .val (.int s4), .val (.ref b1), .val (.int (1 : Int32)), .val (.int (1 : Int32)), .val (.int d2), .val (.int d3), .val (.int d4), .val (.int (eqF (1 : Int32) nv)), .val (.int (eqF d2 nv)), .val (.int (eqF d3 nv)), .val (.int (eqF d4 nv))] [])) (fun t kt => XS.ifNo X7.here hx rfl (hb hby at_272) rfl ((if0 _ _).trans (feq ((by decide) : ¬ ((1 : Int32) = (0 : Int32)))).1) kt) ?_
                refine Goes.step (A := T7.setTop (mkF m 281 #[.val (.int p0), .val (.int p1), .val (.int p2), .val (.int p3), .val (.int p4), .val (.int nv), .val (.int prv), .val (.int s0), .val (.int s1), .val (.int s2), .val (.int s3), .val (.int s4), .val (.ref b1), .val (.int (1 : Int32)), .val (.int (1 : Int32)), .val (.int d2), .val (.int d3), .val (.int d4), .val (.int (eqF (1 : Int32) nv)), .val (.int (eqF d2 nv)), .val (.int (eqF d3 nv)), .val (.int (eqF d4 nv))] [(.int nv), (.int d2), (.int (eqF d2 nv))])) (fun t kt => ?_) ?_
                · refine XS.iload X7.here hx rfl (hb hby at_275) rfl ?_
                  show Steps p.tables e below (T7.setTop (mkF m 277 #[.val (.int p0), .val (.int p1), .val (.int p2), .val (.int p3), .val (.int p4), .val (.int nv), .val (.int prv), .val (.int s0), .val (.int s1), .val (.int s2), .val (.int s3), .val (.int s4), .val (.ref b1), .val (.int (1 : Int32)), .val (.int (1 : Int32)), .val (.int d2), .val (.int d3), .val (.int d4), .val (.int (eqF (1 : Int32) nv)), .val (.int (eqF d2 nv)), .val (.int (eqF d3 nv)), .val (.int (eqF d4 nv))] [(.int (eqF d2 nv))])) _
                  refine XS.iload X7.here hx rfl (hb hby at_277) rfl ?_
                  show Steps p.tables e below (T7.setTop (mkF m 279 #[.val (.int p0), .val (.int p1), .val (.int p2), .val (.int p3), .val (.int p4), .val (.int nv), .val (.int prv), .val (.int s0), .val (.int s1), .val (.int s2), .val (.int s3), .val (.int s4), .val (.ref b1), .val (.int (1 : Int32)), .val (.int (1 : Int32)), .val (.int d2), .val (.int d3), .val (.int d4), .val (.int (eqF (1 : Int32) nv)), .val (.int (eqF d2 nv)), .val (.int (eqF d3 nv)), .val (.int (eqF d4 nv))] [(.int d2), (.int (eqF d2 nv))])) _
                  refine XS.iload X7.here hx rfl (hb hby at_279) rfl ?_
                  exact kt
                have cx1 : ∀ (_u : True), Goes p.tables e below (fun o U' => ∃ v L, o = .returned v ∧ Q0 Z p0 p1 p2 p3 p4 h0 n0 v U'.heap L ∧ FrameEnd s o U' L room_1.cells room_1.slots) (T7.setTop (mkF m 299 #[.val (.int p0), .val (.int p1), .val (.int p2), .val (.int p3), .val (.int p4), .val (.int nv), .val (.int prv), .val (.int s0), .val (.int s1), .val (.int s2), .val (.int s3), .val (.int s4), .val (.ref b1), .val (.int (1 : Int32)), .val (.int (1 : Int32)), .val (.int d2), .val (.int d3), .val (.int d4), .val (.int (eqF (1 : Int32) nv)), .val (.int (eqF d2 nv)), .val (.int (eqF d3 nv)), .val (.int (eqF d4 nv))] [])) := by
                  intro _u
                  refine Goes.step (A := T7.setTop (mkF m 301 #[.val (.int p0), .val (.int p1), .val (.int p2), .val (.int p3), .val (.int p4), .val (.int nv), .val (.int prv), .val (.int s0), .val (.int s1), .val (.int s2), .val (.int s3), .val (.int s4), .val (.ref b1), .val (.int (1 : Int32)), .val (.int (1 : Int32)), .val (.int d2), .val (.int d3), .val (.int d4), .val (.int (eqF (1 : Int32) nv)), .val (.int (eqF d2 nv)), .val (.int (eqF d3 nv)), .val (.int (eqF d4 nv))] [(.int (1 : Int32))])) (fun t kt => ?_) ?_
                  · refine XS.iload X7.here hx rfl (hb hby at_299) rfl ?_
                    exact kt
                  refine Goes.step (A := T7.setTop (mkF m 304 #[.val (.int p0), .val (.int p1), .val (.int p2), .val (.int p3), .val (.int p4), .val (.int nv), .val (.int prv), .val (.int s0), .val (.int s1), .val (.int s2), .val (.int s3), .val (.int s4), .val (.ref b1), .val (.int (1 : Int32)), .val (.int (1 : Int32)), .val (.int d2), .val (.int d3), .val (.int d4), .val (.int (eqF (1 : Int32) nv)), .val (.int (eqF d2 nv)), .val (.int (eqF d3 nv)), .val (.int (eqF d4 nv))] [])) (fun t kt => XS.ifNo X7.here hx rfl (hb hby at_301) rfl ((if0 _ _).trans (feq ((by decide) : ¬ ((1 : Int32) = (0 : Int32)))).1) kt) ?_
                  refine Goes.step (A := T7.setTop (mkF m 310 #[.val (.int p0), .val (.int p1), .val (.int p2), .val (.int p3), .val (.int p4), .val (.int nv), .val (.int prv), .val (.int s0), .val (.int s1), .val (.int s2), .val (.int s3), .val (.int s4), .val (.ref b1), .val (.int (1 : Int32)), .val (.int (1 : Int32)), .val (.int d2), .val (.int d3), .val (.int d4), .val (.int (eqF (1 : Int32) nv)), .val (.int (eqF d2 nv)), .val (.int (eqF d3 nv)), .val (.int (eqF d4 nv))] [(.int nv), (.int d3), (.int (eqF d3 nv))])) (fun t kt => ?_) ?_
                  · refine XS.iload X7.here hx rfl (hb hby at_304) rfl ?_
                    show Steps p.tables e below (T7.setTop (mkF m 306 #[.val (.int p0), .val (.int p1), .val (.int p2), .val (.int p3), .val (.int p4), .val (.int nv), .val (.int prv), .val (.int s0), .val (.int s1), .val (.int s2), .val (.int s3), .val (.int s4), .val (.ref b1), .val (.int (1 : Int32)), .val (.int (1 : Int32)), .val (.int d2), .val (.int d3), .val (.int d4), .val (.int (eqF (1 : Int32) nv)), .val (.int (eqF d2 nv)), .val (.int (eqF d3 nv)), .val (.int (eqF d4 nv))] [(.int (eqF d3 nv))])) _
                    refine XS.iload X7.here hx rfl (hb hby at_306) rfl ?_
                    show Steps p.tables e below (T7.setTop (mkF m 308 #[.val (.int p0), .val (.int p1), .val (.int p2), .val (.int p3), .val (.int p4), .val (.int nv), .val (.int prv), .val (.int s0), .val (.int s1), .val (.int s2), .val (.int s3), .val (.int s4), .val (.ref b1), .val (.int (1 : Int32)), .val (.int (1 : Int32)), .val (.int d2), .val (.int d3), .val (.int d4), .val (.int (eqF (1 : Int32) nv)), .val (.int (eqF d2 nv)), .val (.int (eqF d3 nv)), .val (.int (eqF d4 nv))] [(.int d3), (.int (eqF d3 nv))])) _
                    refine XS.iload X7.here hx rfl (hb hby at_308) rfl ?_
                    exact kt
                  have cx2 : ∀ (_u : True), Goes p.tables e below (fun o U' => ∃ v L, o = .returned v ∧ Q0 Z p0 p1 p2 p3 p4 h0 n0 v U'.heap L ∧ FrameEnd s o U' L room_1.cells room_1.slots) (T7.setTop (mkF m 328 #[.val (.int p0), .val (.int p1), .val (.int p2), .val (.int p3), .val (.int p4), .val (.int nv), .val (.int prv), .val (.int s0), .val (.int s1), .val (.int s2), .val (.int s3), .val (.int s4), .val (.ref b1), .val (.int (1 : Int32)), .val (.int (1 : Int32)), .val (.int d2), .val (.int d3), .val (.int d4), .val (.int (eqF (1 : Int32) nv)), .val (.int (eqF d2 nv)), .val (.int (eqF d3 nv)), .val (.int (eqF d4 nv))] [])) := by
                    intro _u
                    refine Goes.step (A := T7.setTop (mkF m 330 #[.val (.int p0), .val (.int p1), .val (.int p2), .val (.int p3), .val (.int p4), .val (.int nv), .val (.int prv), .val (.int s0), .val (.int s1), .val (.int s2), .val (.int s3), .val (.int s4), .val (.ref b1), .val (.int (1 : Int32)), .val (.int (1 : Int32)), .val (.int d2), .val (.int d3), .val (.int d4), .val (.int (eqF (1 : Int32) nv)), .val (.int (eqF d2 nv)), .val (.int (eqF d3 nv)), .val (.int (eqF d4 nv))] [(.int (1 : Int32))])) (fun t kt => ?_) ?_
                    · refine XS.iload X7.here hx rfl (hb hby at_328) rfl ?_
                      exact kt
                    refine Goes.step (A := T7.setTop (mkF m 333 #[.val (.int p0), .val (.int p1), .val (.int p2), .val (.int p3), .val (.int p4), .val (.int nv), .val (.int prv), .val (.int s0), .val (.int s1), .val (.int s2), .val (.int s3), .val (.int s4), .val (.ref b1), .val (.int (1 : Int32)), .val (.int (1 : Int32)), .val (.int d2), .val (.int d3), .val (.int d4), .val (.int (eqF (1 : Int32) nv)), .val (.int (eqF d2 nv)), .val (.int (eqF d3 nv)), .val (.int (eqF d4 nv))] [])) (fun t kt => XS.ifNo X7.here hx rfl (hb hby at_330) rfl ((if0 _ _).trans (feq ((by decide) : ¬ ((1 : Int32) = (0 : Int32)))).1) kt) ?_
                    refine Goes.step (A := T7.setTop (mkF m 339 #[.val (.int p0), .val (.int p1), .val (.int p2), .val (.int p3), .val (.int p4), .val (.int nv), .val (.int prv), .val (.int s0), .val (.int s1), .val (.int s2), .val (.int s3), .val (.int s4), .val (.ref b1), .val (.int (1 : Int32)), .val (.int (1 : Int32)), .val (.int d2), .val (.int d3), .val (.int d4), .val (.int (eqF (1 : Int32) nv)), .val (.int (eqF d2 nv)), .val (.int (eqF d3 nv)), .val (.int (eqF d4 nv))] [(.int nv), (.int d4), (.int (eqF d4 nv))])) (fun t kt => ?_) ?_
                    · refine XS.iload X7.here hx rfl (hb hby at_333) rfl ?_
                      show Steps p.tables e below (T7.setTop (mkF m 335 #[.val (.int p0), .val (.int p1), .val (.int p2), .val (.int p3), .val (.int p4), .val (.int nv), .val (.int prv), .val (.int s0), .val (.int s1), .val (.int s2), .val (.int s3), .val (.int s4), .val (.ref b1), .val (.int (1 : Int32)), .val (.int (1 : Int32)), .val (.int d2), .val (.int d3), .val (.int d4), .val (.int (eqF (1 : Int32) nv)), .val (.int (eqF d2 nv)), .val (.int (eqF d3 nv)), .val (.int (eqF d4 nv))] [(.int (eqF d4 nv))])) _
                      refine XS.iload X7.here hx rfl (hb hby at_335) rfl ?_
                      show Steps p.tables e below (T7.setTop (mkF m 337 #[.val (.int p0), .val (.int p1), .val (.int p2), .val (.int p3), .val (.int p4), .val (.int nv), .val (.int prv), .val (.int s0), .val (.int s1), .val (.int s2), .val (.int s3), .val (.int s4), .val (.ref b1), .val (.int (1 : Int32)), .val (.int (1 : Int32)), .val (.int d2), .val (.int d3), .val (.int d4), .val (.int (eqF (1 : Int32) nv)), .val (.int (eqF d2 nv)), .val (.int (eqF d3 nv)), .val (.int (eqF d4 nv))] [(.int d4), (.int (eqF d4 nv))])) _
                      refine XS.iload X7.here hx rfl (hb hby at_337) rfl ?_
                      exact kt
                    have cx3 : ∀ (_u : True), Goes p.tables e below (fun o U' => ∃ v L, o = .returned v ∧ Q0 Z p0 p1 p2 p3 p4 h0 n0 v U'.heap L ∧ FrameEnd s o U' L room_1.cells room_1.slots) (T7.setTop (mkF m 357 #[.val (.int p0), .val (.int p1), .val (.int p2), .val (.int p3), .val (.int p4), .val (.int nv), .val (.int prv), .val (.int s0), .val (.int s1), .val (.int s2), .val (.int s3), .val (.int s4), .val (.ref b1), .val (.int (1 : Int32)), .val (.int (1 : Int32)), .val (.int d2), .val (.int d3), .val (.int d4), .val (.int (eqF (1 : Int32) nv)), .val (.int (eqF d2 nv)), .val (.int (eqF d3 nv)), .val (.int (eqF d4 nv))] [])) := by
                      intro _u
                      refine Goes.step (A := T7.setTop (mkF m 359 #[.val (.int p0), .val (.int p1), .val (.int p2), .val (.int p3), .val (.int p4), .val (.int nv), .val (.int prv), .val (.int s0), .val (.int s1), .val (.int s2), .val (.int s3), .val (.int s4), .val (.ref b1), .val (.int (1 : Int32)), .val (.int (1 : Int32)), .val (.int d2), .val (.int d3), .val (.int d4), .val (.int (eqF (1 : Int32) nv)), .val (.int (eqF d2 nv)), .val (.int (eqF d3 nv)), .val (.int (eqF d4 nv))] [(.int (1 : Int32))])) (fun t kt => ?_) ?_
                      · refine XS.iload X7.here hx rfl (hb hby at_357) rfl ?_
                        exact kt
                      refine Goes.step (A := T7.setTop (mkF m 362 #[.val (.int p0), .val (.int p1), .val (.int p2), .val (.int p3), .val (.int p4), .val (.int nv), .val (.int prv), .val (.int s0), .val (.int s1), .val (.int s2), .val (.int s3), .val (.int s4), .val (.ref b1), .val (.int (1 : Int32)), .val (.int (1 : Int32)), .val (.int d2), .val (.int d3), .val (.int d4), .val (.int (eqF (1 : Int32) nv)), .val (.int (eqF d2 nv)), .val (.int (eqF d3 nv)), .val (.int (eqF d4 nv))] [])) (fun t kt => XS.ifNo X7.here hx rfl (hb hby at_359) rfl ((if0 _ _).trans (feq ((by decide) : ¬ ((1 : Int32) = (0 : Int32)))).1) kt) ?_
                      refine Goes.step (A := T7.setTop (mkF m 375 #[.val (.int p0), .val (.int p1), .val (.int p2), .val (.int p3), .val (.int p4), .val (.int nv), .val (.int prv), .val (.int s0), .val (.int s1), .val (.int s2), .val (.int s3), .val (.int s4), .val (.ref b1), .val (.int (1 : Int32)), .val (.int (1 : Int32)), .val (.int d2), .val (.int d3), .val (.int d4), .val (.int (eqF (1 : Int32) nv)), .val (.int (eqF d2 nv)), .val (.int (eqF d3 nv)), .val (.int (eqF d4 nv))] [(.int s4), (.int s3), (.int s2), (.int s1), (.int nv), (.int (0 : Int32)), (.ref b1)])) (fun t kt => ?_) ?_
                      · refine XS.aload X7.here hx rfl (hb hby at_362) rfl rfl ?_
                        show Steps p.tables e below (T7.setTop (mkF m 364 #[.val (.int p0), .val (.int p1), .val (.int p2), .val (.int p3), .val (.int p4), .val (.int nv), .val (.int prv), .val (.int s0), .val (.int s1), .val (.int s2), .val (.int s3), .val (.int s4), .val (.ref b1), .val (.int (1 : Int32)), .val (.int (1 : Int32)), .val (.int d2), .val (.int d3), .val (.int d4), .val (.int (eqF (1 : Int32) nv)), .val (.int (eqF d2 nv)), .val (.int (eqF d3 nv)), .val (.int (eqF d4 nv))] [(.ref b1)])) _
                        refine XS.iconst X7.here hx rfl (hb hby at_364) ?_
                        show Steps p.tables e below (T7.setTop (mkF m 365 #[.val (.int p0), .val (.int p1), .val (.int p2), .val (.int p3), .val (.int p4), .val (.int nv), .val (.int prv), .val (.int s0), .val (.int s1), .val (.int s2), .val (.int s3), .val (.int s4), .val (.ref b1), .val (.int (1 : Int32)), .val (.int (1 : Int32)), .val (.int d2), .val (.int d3), .val (.int d4), .val (.int (eqF (1 : Int32) nv)), .val (.int (eqF d2 nv)), .val (.int (eqF d3 nv)), .val (.int (eqF d4 nv))] [(.int (0 : Int32)), (.ref b1)])) _
                        refine XS.iload X7.here hx rfl (hb hby at_365) rfl ?_
                        show Steps p.tables e below (T7.setTop (mkF m 367 #[.val (.int p0), .val (.int p1), .val (.int p2), .val (.int p3), .val (.int p4), .val (.int nv), .val (.int prv), .val (.int s0), .val (.int s1), .val (.int s2), .val (.int s3), .val (.int s4), .val (.ref b1), .val (.int (1 : Int32)), .val (.int (1 : Int32)), .val (.int d2), .val (.int d3), .val (.int d4), .val (.int (eqF (1 : Int32) nv)), .val (.int (eqF d2 nv)), .val (.int (eqF d3 nv)), .val (.int (eqF d4 nv))] [(.int nv), (.int (0 : Int32)), (.ref b1)])) _
                        refine XS.iload X7.here hx rfl (hb hby at_367) rfl ?_
                        show Steps p.tables e below (T7.setTop (mkF m 369 #[.val (.int p0), .val (.int p1), .val (.int p2), .val (.int p3), .val (.int p4), .val (.int nv), .val (.int prv), .val (.int s0), .val (.int s1), .val (.int s2), .val (.int s3), .val (.int s4), .val (.ref b1), .val (.int (1 : Int32)), .val (.int (1 : Int32)), .val (.int d2), .val (.int d3), .val (.int d4), .val (.int (eqF (1 : Int32) nv)), .val (.int (eqF d2 nv)), .val (.int (eqF d3 nv)), .val (.int (eqF d4 nv))] [(.int s1), (.int nv), (.int (0 : Int32)), (.ref b1)])) _
                        refine XS.iload X7.here hx rfl (hb hby at_369) rfl ?_
                        show Steps p.tables e below (T7.setTop (mkF m 371 #[.val (.int p0), .val (.int p1), .val (.int p2), .val (.int p3), .val (.int p4), .val (.int nv), .val (.int prv), .val (.int s0), .val (.int s1), .val (.int s2), .val (.int s3), .val (.int s4), .val (.ref b1), .val (.int (1 : Int32)), .val (.int (1 : Int32)), .val (.int d2), .val (.int d3), .val (.int d4), .val (.int (eqF (1 : Int32) nv)), .val (.int (eqF d2 nv)), .val (.int (eqF d3 nv)), .val (.int (eqF d4 nv))] [(.int s2), (.int s1), (.int nv), (.int (0 : Int32)), (.ref b1)])) _
                        refine XS.iload X7.here hx rfl (hb hby at_371) rfl ?_
                        show Steps p.tables e below (T7.setTop (mkF m 373 #[.val (.int p0), .val (.int p1), .val (.int p2), .val (.int p3), .val (.int p4), .val (.int nv), .val (.int prv), .val (.int s0), .val (.int s1), .val (.int s2), .val (.int s3), .val (.int s4), .val (.ref b1), .val (.int (1 : Int32)), .val (.int (1 : Int32)), .val (.int d2), .val (.int d3), .val (.int d4), .val (.int (eqF (1 : Int32) nv)), .val (.int (eqF d2 nv)), .val (.int (eqF d3 nv)), .val (.int (eqF d4 nv))] [(.int s3), (.int s2), (.int s1), (.int nv), (.int (0 : Int32)), (.ref b1)])) _
                        refine XS.iload X7.here hx rfl (hb hby at_373) rfl ?_
                        exact kt
                      obtain ⟨_, _, ⟨T8, L8, k8, n8⟩, -, X8, ⟨Lc8, hQ8, l8, y8, z8⟩, st8⟩ := Jvm.LawKit.callS X7 hx (y := (⟨"com/example/shardwright/shardwright/recommend/SitesToTryTakePinLaw", "seen", "(Lcom/example/shardwright/shardwright/recommend/SitesToTry;IIIIII)Z"⟩ : MethodName)) hown (mvT hZ (hw _ (List.mem_of_getElem? (i := 32) rfl))) (mvT hZ (hw _ (List.mem_of_getElem? (i := 33) rfl))) (mvT hZ (hw _ (List.mem_of_getElem? (i := 34) rfl))) (mvT hZ (hw _ (List.mem_of_getElem? (i := 35) rfl))) (by decide) (backOf (W := 0) (rm5 l Z a0 hw [] b1 (0 : Int32) nv s1 s2 s3 s4 a1_2 a2_2 nv col d4 (upd (upd (upd (upd tk s1 col) s2 col) s3 col) s4 col) T7.heap n0 Z7 S7 (by decide) rfl (fun r => own_m4 hfr r)) hZ (hw _ (List.mem_of_getElem? (i := 35) rfl)) (hw _ (List.mem_of_getElem? (i := 34) rfl)) (by decide) (by decide)) (g := (mkF m 375 #[.val (.int p0), .val (.int p1), .val (.int p2), .val (.int p3), .val (.int p4), .val (.int nv), .val (.int prv), .val (.int s0), .val (.int s1), .val (.int s2), .val (.int s3), .val (.int s4), .val (.ref b1), .val (.int (1 : Int32)), .val (.int (1 : Int32)), .val (.int d2), .val (.int d3), .val (.int d4), .val (.int (eqF (1 : Int32) nv)), .val (.int (eqF d2 nv)), .val (.int (eqF d3 nv)), .val (.int (eqF d4 nv))] [(.int s4), (.int s3), (.int s2), (.int s1), (.int nv), (.int (0 : Int32)), (.ref b1)])) rfl (by rw [hml]; rfl) (argsL := [(.ref b1), (.int (0 : Int32)), (.int nv), (.int s1), (.int s2), (.int s3), (.int s4)]) (rest := []) (lenOf pd_3 rfl) rfl (by show 2 * 0 + _ ≤ _; exact Nat.le_of_eq rfl) (hb hby at_375) (fun _ _ => ⟨rfl, rfl, (by decide : 3 + 0 ≤ _), (by decide : 13 + 0 ≤ _)⟩)
                      dsimp only [Pt.U, Pt.locs, Pt.cells, Pt.slots] at X8 l8 y8 z8 st8 hQ8
                      subst l8 y8 z8
                      obtain ⟨rfl, N8q, e8⟩ := hQ8
                      have N8 := Fr.app N7 N8q
                      refine Goes.step (A := T8.setTop (mkF m 378 #[.val (.int p0), .val (.int p1), .val (.int p2), .val (.int p3), .val (.int p4), .val (.int nv), .val (.int prv), .val (.int s0), .val (.int s1), .val (.int s2), .val (.int s3), .val (.int s4), .val (.ref b1), .val (.int (1 : Int32)), .val (.int (1 : Int32)), .val (.int d2), .val (.int d3), .val (.int d4), .val (.int (eqF (1 : Int32) nv)), .val (.int (eqF d2 nv)), .val (.int (eqF d3 nv)), .val (.int (eqF d4 nv))] [(.int (1 : Int32))])) (fun t kt => st8 _ kt) ?_
                      refine Goes.step (A := T8.setTop (mkF m 381 #[.val (.int p0), .val (.int p1), .val (.int p2), .val (.int p3), .val (.int p4), .val (.int nv), .val (.int prv), .val (.int s0), .val (.int s1), .val (.int s2), .val (.int s3), .val (.int s4), .val (.ref b1), .val (.int (1 : Int32)), .val (.int (1 : Int32)), .val (.int d2), .val (.int d3), .val (.int d4), .val (.int (eqF (1 : Int32) nv)), .val (.int (eqF d2 nv)), .val (.int (eqF d3 nv)), .val (.int (eqF d4 nv))] [])) (fun t kt => XS.ifNo X8.here hx rfl (hb hby at_378) rfl ((if0 _ _).trans (feq ((by decide) : ¬ ((1 : Int32) = (0 : Int32)))).1) kt) ?_
                      refine Goes.step (A := T8.setTop (mkF m 390 #[.val (.int p0), .val (.int p1), .val (.int p2), .val (.int p3), .val (.int p4), .val (.int nv), .val (.int prv), .val (.int s0), .val (.int s1), .val (.int s2), .val (.int s3), .val (.int s4), .val (.ref b1), .val (.int (1 : Int32)), .val (.int (1 : Int32)), .val (.int d2), .val (.int d3), .val (.int d4), .val (.int (eqF (1 : Int32) nv)), .val (.int (eqF d2 nv)), .val (.int (eqF d3 nv)), .val (.int (eqF d4 nv))] [(.int (1 : Int32))])) (fun t kt => ?_) ?_
                      · refine XS.iconst X8.here hx rfl (hb hby at_381) ?_
                        show Steps p.tables e below (T8.setTop (mkF m 382 #[.val (.int p0), .val (.int p1), .val (.int p2), .val (.int p3), .val (.int p4), .val (.int nv), .val (.int prv), .val (.int s0), .val (.int s1), .val (.int s2), .val (.int s3), .val (.int s4), .val (.ref b1), .val (.int (1 : Int32)), .val (.int (1 : Int32)), .val (.int d2), .val (.int d3), .val (.int d4), .val (.int (eqF (1 : Int32) nv)), .val (.int (eqF d2 nv)), .val (.int (eqF d3 nv)), .val (.int (eqF d4 nv))] [(.int (1 : Int32))])) _
                        refine XS.goto X8.here hx rfl (pc0 := 382) (pc' := 386) rfl (hb hby at_382) (by decide) (by decide) ?_
                        show Steps p.tables e below (T8.setTop (mkF m 386 #[.val (.int p0), .val (.int p1), .val (.int p2), .val (.int p3), .val (.int p4), .val (.int nv), .val (.int prv), .val (.int s0), .val (.int s1), .val (.int s2), .val (.int s3), .val (.int s4), .val (.ref b1), .val (.int (1 : Int32)), .val (.int (1 : Int32)), .val (.int d2), .val (.int d3), .val (.int d4), .val (.int (eqF (1 : Int32) nv)), .val (.int (eqF d2 nv)), .val (.int (eqF d3 nv)), .val (.int (eqF d4 nv))] [(.int (1 : Int32))])) _
                        refine XS.istore X8.here hx rfl (hb hby at_386) rfl (l' := #[.val (.int p0), .val (.int p1), .val (.int p2), .val (.int p3), .val (.int p4), .val (.int nv), .val (.int prv), .val (.int s0), .val (.int s1), .val (.int s2), .val (.int s3), .val (.int s4), .val (.ref b1), .val (.int (1 : Int32)), .val (.int (1 : Int32)), .val (.int d2), .val (.int d3), .val (.int d4), .val (.int (eqF (1 : Int32) nv)), .val (.int (eqF d2 nv)), .val (.int (eqF d3 nv)), .val (.int (eqF d4 nv))]) rfl ?_
                        show Steps p.tables e below (T8.setTop (mkF m 388 #[.val (.int p0), .val (.int p1), .val (.int p2), .val (.int p3), .val (.int p4), .val (.int nv), .val (.int prv), .val (.int s0), .val (.int s1), .val (.int s2), .val (.int s3), .val (.int s4), .val (.ref b1), .val (.int (1 : Int32)), .val (.int (1 : Int32)), .val (.int d2), .val (.int d3), .val (.int d4), .val (.int (eqF (1 : Int32) nv)), .val (.int (eqF d2 nv)), .val (.int (eqF d3 nv)), .val (.int (eqF d4 nv))] [])) _
                        refine XS.iload X8.here hx rfl (hb hby at_388) rfl ?_
                        exact kt
                      refine Goes.step (A := T8.setTop (mkF m 393 #[.val (.int p0), .val (.int p1), .val (.int p2), .val (.int p3), .val (.int p4), .val (.int nv), .val (.int prv), .val (.int s0), .val (.int s1), .val (.int s2), .val (.int s3), .val (.int s4), .val (.ref b1), .val (.int (1 : Int32)), .val (.int (1 : Int32)), .val (.int d2), .val (.int d3), .val (.int d4), .val (.int (eqF (1 : Int32) nv)), .val (.int (eqF d2 nv)), .val (.int (eqF d3 nv)), .val (.int (eqF d4 nv))] [])) (fun t kt => XS.ifNo X8.here hx rfl (hb hby at_390) rfl ((if0 _ _).trans (feq ((by decide) : ¬ ((1 : Int32) = (0 : Int32)))).1) kt) ?_
                      refine Goes.step (A := T8.setTop (mkF m 406 #[.val (.int p0), .val (.int p1), .val (.int p2), .val (.int p3), .val (.int p4), .val (.int nv), .val (.int prv), .val (.int s0), .val (.int s1), .val (.int s2), .val (.int s3), .val (.int s4), .val (.ref b1), .val (.int (1 : Int32)), .val (.int (1 : Int32)), .val (.int d2), .val (.int d3), .val (.int d4), .val (.int (eqF (1 : Int32) nv)), .val (.int (eqF d2 nv)), .val (.int (eqF d3 nv)), .val (.int (eqF d4 nv))] [(.int s4), (.int s3), (.int s2), (.int s1), (.int nv), (.int (1 : Int32)), (.ref b1)])) (fun t kt => ?_) ?_
                      · refine XS.aload X8.here hx rfl (hb hby at_393) rfl rfl ?_
                        show Steps p.tables e below (T8.setTop (mkF m 395 #[.val (.int p0), .val (.int p1), .val (.int p2), .val (.int p3), .val (.int p4), .val (.int nv), .val (.int prv), .val (.int s0), .val (.int s1), .val (.int s2), .val (.int s3), .val (.int s4), .val (.ref b1), .val (.int (1 : Int32)), .val (.int (1 : Int32)), .val (.int d2), .val (.int d3), .val (.int d4), .val (.int (eqF (1 : Int32) nv)), .val (.int (eqF d2 nv)), .val (.int (eqF d3 nv)), .val (.int (eqF d4 nv))] [(.ref b1)])) _
                        refine XS.iconst X8.here hx rfl (hb hby at_395) ?_
                        show Steps p.tables e below (T8.setTop (mkF m 396 #[.val (.int p0), .val (.int p1), .val (.int p2), .val (.int p3), .val (.int p4), .val (.int nv), .val (.int prv), .val (.int s0), .val (.int s1), .val (.int s2), .val (.int s3), .val (.int s4), .val (.ref b1), .val (.int (1 : Int32)), .val (.int (1 : Int32)), .val (.int d2), .val (.int d3), .val (.int d4), .val (.int (eqF (1 : Int32) nv)), .val (.int (eqF d2 nv)), .val (.int (eqF d3 nv)), .val (.int (eqF d4 nv))] [(.int (1 : Int32)), (.ref b1)])) _
                        refine XS.iload X8.here hx rfl (hb hby at_396) rfl ?_
                        show Steps p.tables e below (T8.setTop (mkF m 398 #[.val (.int p0), .val (.int p1), .val (.int p2), .val (.int p3), .val (.int p4), .val (.int nv), .val (.int prv), .val (.int s0), .val (.int s1), .val (.int s2), .val (.int s3), .val (.int s4), .val (.ref b1), .val (.int (1 : Int32)), .val (.int (1 : Int32)), .val (.int d2), .val (.int d3), .val (.int d4), .val (.int (eqF (1 : Int32) nv)), .val (.int (eqF d2 nv)), .val (.int (eqF d3 nv)), .val (.int (eqF d4 nv))] [(.int nv), (.int (1 : Int32)), (.ref b1)])) _
                        refine XS.iload X8.here hx rfl (hb hby at_398) rfl ?_
                        show Steps p.tables e below (T8.setTop (mkF m 400 #[.val (.int p0), .val (.int p1), .val (.int p2), .val (.int p3), .val (.int p4), .val (.int nv), .val (.int prv), .val (.int s0), .val (.int s1), .val (.int s2), .val (.int s3), .val (.int s4), .val (.ref b1), .val (.int (1 : Int32)), .val (.int (1 : Int32)), .val (.int d2), .val (.int d3), .val (.int d4), .val (.int (eqF (1 : Int32) nv)), .val (.int (eqF d2 nv)), .val (.int (eqF d3 nv)), .val (.int (eqF d4 nv))] [(.int s1), (.int nv), (.int (1 : Int32)), (.ref b1)])) _
                        refine XS.iload X8.here hx rfl (hb hby at_400) rfl ?_
                        show Steps p.tables e below (T8.setTop (mkF m 402 #[.val (.int p0), .val (.int p1), .val (.int p2), .val (.int p3), .val (.int p4), .val (.int nv), .val (.int prv), .val (.int s0), .val (.int s1), .val (.int s2), .val (.int s3), .val (.int s4), .val (.ref b1), .val (.int (1 : Int32)), .val (.int (1 : Int32)), .val (.int d2), .val (.int d3), .val (.int d4), .val (.int (eqF (1 : Int32) nv)), .val (.int (eqF d2 nv)), .val (.int (eqF d3 nv)), .val (.int (eqF d4 nv))] [(.int s2), (.int s1), (.int nv), (.int (1 : Int32)), (.ref b1)])) _
                        refine XS.iload X8.here hx rfl (hb hby at_402) rfl ?_
                        show Steps p.tables e below (T8.setTop (mkF m 404 #[.val (.int p0), .val (.int p1), .val (.int p2), .val (.int p3), .val (.int p4), .val (.int nv), .val (.int prv), .val (.int s0), .val (.int s1), .val (.int s2), .val (.int s3), .val (.int s4), .val (.ref b1), .val (.int (1 : Int32)), .val (.int (1 : Int32)), .val (.int d2), .val (.int d3), .val (.int d4), .val (.int (eqF (1 : Int32) nv)), .val (.int (eqF d2 nv)), .val (.int (eqF d3 nv)), .val (.int (eqF d4 nv))] [(.int s3), (.int s2), (.int s1), (.int nv), (.int (1 : Int32)), (.ref b1)])) _
                        refine XS.iload X8.here hx rfl (hb hby at_404) rfl ?_
                        exact kt
                      obtain ⟨_, _, ⟨T9, L9, k9, n9⟩, -, X9, ⟨Lc9, hQ9, l9, y9, z9⟩, st9⟩ := Jvm.LawKit.callS X8 hx (y := (⟨"com/example/shardwright/shardwright/recommend/SitesToTryTakePinLaw", "seen", "(Lcom/example/shardwright/shardwright/recommend/SitesToTry;IIIIII)Z"⟩ : MethodName)) hown (mvT hZ (hw _ (List.mem_of_getElem? (i := 32) rfl))) (mvT hZ (hw _ (List.mem_of_getElem? (i := 33) rfl))) (mvT hZ (hw _ (List.mem_of_getElem? (i := 34) rfl))) (mvT hZ (hw _ (List.mem_of_getElem? (i := 35) rfl))) (by decide) (backOf (W := 0) (rm5 l Z a0 hw [] b1 (1 : Int32) nv s1 s2 s3 s4 a1_2 a2_2 nv col d4 (upd (upd (upd (upd tk s1 col) s2 col) s3 col) s4 col) T7.heap n0 Z7 S7 (by decide) rfl (fun r => own_m4 hfr r)) hZ (hw _ (List.mem_of_getElem? (i := 35) rfl)) (hw _ (List.mem_of_getElem? (i := 34) rfl)) (by decide) (by decide)) (g := (mkF m 406 #[.val (.int p0), .val (.int p1), .val (.int p2), .val (.int p3), .val (.int p4), .val (.int nv), .val (.int prv), .val (.int s0), .val (.int s1), .val (.int s2), .val (.int s3), .val (.int s4), .val (.ref b1), .val (.int (1 : Int32)), .val (.int (1 : Int32)), .val (.int d2), .val (.int d3), .val (.int d4), .val (.int (eqF (1 : Int32) nv)), .val (.int (eqF d2 nv)), .val (.int (eqF d3 nv)), .val (.int (eqF d4 nv))] [(.int s4), (.int s3), (.int s2), (.int s1), (.int nv), (.int (1 : Int32)), (.ref b1)])) rfl (by rw [hml]; rfl) (argsL := [(.ref b1), (.int (1 : Int32)), (.int nv), (.int s1), (.int s2), (.int s3), (.int s4)]) (rest := []) (lenOf pd_3 rfl) rfl (by show 2 * 0 + _ ≤ _; exact Nat.le_of_eq rfl) (hb hby at_406) (fun _ _ => ⟨rfl, e8, (by decide : 3 + 0 ≤ _), (by decide : 13 + 0 ≤ _)⟩)
                      dsimp only [Pt.U, Pt.locs, Pt.cells, Pt.slots] at X9 l9 y9 z9 st9 hQ9
                      subst l9 y9 z9
                      obtain ⟨rfl, N9q, e9⟩ := hQ9
                      have N9 := Fr.app N8 N9q
                      refine Goes.step (A := T9.setTop (mkF m 409 #[.val (.int p0), .val (.int p1), .val (.int p2), .val (.int p3), .val (.int p4), .val (.int nv), .val (.int prv), .val (.int s0), .val (.int s1), .val (.int s2), .val (.int s3), .val (.int s4), .val (.ref b1), .val (.int (1 : Int32)), .val (.int (1 : Int32)), .val (.int d2), .val (.int d3), .val (.int d4), .val (.int (eqF (1 : Int32) nv)), .val (.int (eqF d2 nv)), .val (.int (eqF d3 nv)), .val (.int (eqF d4 nv))] [(.int (1 : Int32))])) (fun t kt => st9 _ kt) ?_
                      refine Goes.step (A := T9.setTop (mkF m 412 #[.val (.int p0), .val (.int p1), .val (.int p2), .val (.int p3), .val (.int p4), .val (.int nv), .val (.int prv), .val (.int s0), .val (.int s1), .val (.int s2), .val (.int s3), .val (.int s4), .val (.ref b1), .val (.int (1 : Int32)), .val (.int (1 : Int32)), .val (.int d2), .val (.int d3), .val (.int d4), .val (.int (eqF (1 : Int32) nv)), .val (.int (eqF d2 nv)), .val (.int (eqF d3 nv)), .val (.int (eqF d4 nv))] [])) (fun t kt => XS.ifNo X9.here hx rfl (hb hby at_409) rfl ((if0 _ _).trans (feq ((by decide) : ¬ ((1 : Int32) = (0 : Int32)))).1) kt) ?_
                      refine Goes.step (A := T9.setTop (mkF m 421 #[.val (.int p0), .val (.int p1), .val (.int p2), .val (.int p3), .val (.int p4), .val (.int nv), .val (.int prv), .val (.int s0), .val (.int s1), .val (.int s2), .val (.int s3), .val (.int s4), .val (.ref b1), .val (.int (1 : Int32)), .val (.int (1 : Int32)), .val (.int d2), .val (.int d3), .val (.int d4), .val (.int (eqF (1 : Int32) nv)), .val (.int (eqF d2 nv)), .val (.int (eqF d3 nv)), .val (.int (eqF d4 nv))] [(.int (1 : Int32))])) (fun t kt => ?_) ?_
                      · refine XS.iconst X9.here hx rfl (hb hby at_412) ?_
                        show Steps p.tables e below (T9.setTop (mkF m 413 #[.val (.int p0), .val (.int p1), .val (.int p2), .val (.int p3), .val (.int p4), .val (.int nv), .val (.int prv), .val (.int s0), .val (.int s1), .val (.int s2), .val (.int s3), .val (.int s4), .val (.ref b1), .val (.int (1 : Int32)), .val (.int (1 : Int32)), .val (.int d2), .val (.int d3), .val (.int d4), .val (.int (eqF (1 : Int32) nv)), .val (.int (eqF d2 nv)), .val (.int (eqF d3 nv)), .val (.int (eqF d4 nv))] [(.int (1 : Int32))])) _
                        refine XS.goto X9.here hx rfl (pc0 := 413) (pc' := 417) rfl (hb hby at_413) (by decide) (by decide) ?_
                        show Steps p.tables e below (T9.setTop (mkF m 417 #[.val (.int p0), .val (.int p1), .val (.int p2), .val (.int p3), .val (.int p4), .val (.int nv), .val (.int prv), .val (.int s0), .val (.int s1), .val (.int s2), .val (.int s3), .val (.int s4), .val (.ref b1), .val (.int (1 : Int32)), .val (.int (1 : Int32)), .val (.int d2), .val (.int d3), .val (.int d4), .val (.int (eqF (1 : Int32) nv)), .val (.int (eqF d2 nv)), .val (.int (eqF d3 nv)), .val (.int (eqF d4 nv))] [(.int (1 : Int32))])) _
                        refine XS.istore X9.here hx rfl (hb hby at_417) rfl (l' := #[.val (.int p0), .val (.int p1), .val (.int p2), .val (.int p3), .val (.int p4), .val (.int nv), .val (.int prv), .val (.int s0), .val (.int s1), .val (.int s2), .val (.int s3), .val (.int s4), .val (.ref b1), .val (.int (1 : Int32)), .val (.int (1 : Int32)), .val (.int d2), .val (.int d3), .val (.int d4), .val (.int (eqF (1 : Int32) nv)), .val (.int (eqF d2 nv)), .val (.int (eqF d3 nv)), .val (.int (eqF d4 nv))]) rfl ?_
                        show Steps p.tables e below (T9.setTop (mkF m 419 #[.val (.int p0), .val (.int p1), .val (.int p2), .val (.int p3), .val (.int p4), .val (.int nv), .val (.int prv), .val (.int s0), .val (.int s1), .val (.int s2), .val (.int s3), .val (.int s4), .val (.ref b1), .val (.int (1 : Int32)), .val (.int (1 : Int32)), .val (.int d2), .val (.int d3), .val (.int d4), .val (.int (eqF (1 : Int32) nv)), .val (.int (eqF d2 nv)), .val (.int (eqF d3 nv)), .val (.int (eqF d4 nv))] [])) _
                        refine XS.iload X9.here hx rfl (hb hby at_419) rfl ?_
                        exact kt
                      refine Goes.step (A := T9.setTop (mkF m 424 #[.val (.int p0), .val (.int p1), .val (.int p2), .val (.int p3), .val (.int p4), .val (.int nv), .val (.int prv), .val (.int s0), .val (.int s1), .val (.int s2), .val (.int s3), .val (.int s4), .val (.ref b1), .val (.int (1 : Int32)), .val (.int (1 : Int32)), .val (.int d2), .val (.int d3), .val (.int d4), .val (.int (eqF (1 : Int32) nv)), .val (.int (eqF d2 nv)), .val (.int (eqF d3 nv)), .val (.int (eqF d4 nv))] [])) (fun t kt => XS.ifNo X9.here hx rfl (hb hby at_421) rfl ((if0 _ _).trans (feq ((by decide) : ¬ ((1 : Int32) = (0 : Int32)))).1) kt) ?_
                      refine Goes.step (A := T9.setTop (mkF m 437 #[.val (.int p0), .val (.int p1), .val (.int p2), .val (.int p3), .val (.int p4), .val (.int nv), .val (.int prv), .val (.int s0), .val (.int s1), .val (.int s2), .val (.int s3), .val (.int s4), .val (.ref b1), .val (.int (1 : Int32)), .val (.int (1 : Int32)), .val (.int d2), .val (.int d3), .val (.int d4), .val (.int (eqF (1 : Int32) nv)), .val (.int (eqF d2 nv)), .val (.int (eqF d3 nv)), .val (.int (eqF d4 nv))] [(.int s4), (.int s3), (.int s2), (.int s1), (.int nv), (.int (2 : Int32)), (.ref b1)])) (fun t kt => ?_) ?_
                      · refine XS.aload X9.here hx rfl (hb hby at_424) rfl rfl ?_
                        show Steps p.tables e below (T9.setTop (mkF m 426 #[.val (.int p0), .val (.int p1), .val (.int p2), .val (.int p3), .val (.int p4), .val (.int nv), .val (.int prv), .val (.int s0), .val (.int s1), .val (.int s2), .val (.int s3), .val (.int s4), .val (.ref b1), .val (.int (1 : Int32)), .val (.int (1 : Int32)), .val (.int d2), .val (.int d3), .val (.int d4), .val (.int (eqF (1 : Int32) nv)), .val (.int (eqF d2 nv)), .val (.int (eqF d3 nv)), .val (.int (eqF d4 nv))] [(.ref b1)])) _
                        refine XS.iconst X9.here hx rfl (hb hby at_426) ?_
                        show Steps p.tables e below (T9.setTop (mkF m 427 #[.val (.int p0), .val (.int p1), .val (.int p2), .val (.int p3), .val (.int p4), .val (.int nv), .val (.int prv), .val (.int s0), .val (.int s1), .val (.int s2), .val (.int s3), .val (.int s4), .val (.ref b1), .val (.int (1 : Int32)), .val (.int (1 : Int32)), .val (.int d2), .val (.int d3), .val (.int d4), .val (.int (eqF (1 : Int32) nv)), .val (.int (eqF d2 nv)), .val (.int (eqF d3 nv)), .val (.int (eqF d4 nv))] [(.int (2 : Int32)), (.ref b1)])) _
                        refine XS.iload X9.here hx rfl (hb hby at_427) rfl ?_
                        show Steps p.tables e below (T9.setTop (mkF m 429 #[.val (.int p0), .val (.int p1), .val (.int p2), .val (.int p3), .val (.int p4), .val (.int nv), .val (.int prv), .val (.int s0), .val (.int s1), .val (.int s2), .val (.int s3), .val (.int s4), .val (.ref b1), .val (.int (1 : Int32)), .val (.int (1 : Int32)), .val (.int d2), .val (.int d3), .val (.int d4), .val (.int (eqF (1 : Int32) nv)), .val (.int (eqF d2 nv)), .val (.int (eqF d3 nv)), .val (.int (eqF d4 nv))] [(.int nv), (.int (2 : Int32)), (.ref b1)])) _
                        refine XS.iload X9.here hx rfl (hb hby at_429) rfl ?_
                        show Steps p.tables e below (T9.setTop (mkF m 431 #[.val (.int p0), .val (.int p1), .val (.int p2), .val (.int p3), .val (.int p4), .val (.int nv), .val (.int prv), .val (.int s0), .val (.int s1), .val (.int s2), .val (.int s3), .val (.int s4), .val (.ref b1), .val (.int (1 : Int32)), .val (.int (1 : Int32)), .val (.int d2), .val (.int d3), .val (.int d4), .val (.int (eqF (1 : Int32) nv)), .val (.int (eqF d2 nv)), .val (.int (eqF d3 nv)), .val (.int (eqF d4 nv))] [(.int s1), (.int nv), (.int (2 : Int32)), (.ref b1)])) _
                        refine XS.iload X9.here hx rfl (hb hby at_431) rfl ?_
                        show Steps p.tables e below (T9.setTop (mkF m 433 #[.val (.int p0), .val (.int p1), .val (.int p2), .val (.int p3), .val (.int p4), .val (.int nv), .val (.int prv), .val (.int s0), .val (.int s1), .val (.int s2), .val (.int s3), .val (.int s4), .val (.ref b1), .val (.int (1 : Int32)), .val (.int (1 : Int32)), .val (.int d2), .val (.int d3), .val (.int d4), .val (.int (eqF (1 : Int32) nv)), .val (.int (eqF d2 nv)), .val (.int (eqF d3 nv)), .val (.int (eqF d4 nv))] [(.int s2), (.int s1), (.int nv), (.int (2 : Int32)), (.ref b1)])) _
                        refine XS.iload X9.here hx rfl (hb hby at_433) rfl ?_
                        show Steps p.tables e below (T9.setTop (mkF m 435 #[.val (.int p0), .val (.int p1), .val (.int p2), .val (.int p3), .val (.int p4), .val (.int nv), .val (.int prv), .val (.int s0), .val (.int s1), .val (.int s2), .val (.int s3), .val (.int s4), .val (.ref b1), .val (.int (1 : Int32)), .val (.int (1 : Int32)), .val (.int d2), .val (.int d3), .val (.int d4), .val (.int (eqF (1 : Int32) nv)), .val (.int (eqF d2 nv)), .val (.int (eqF d3 nv)), .val (.int (eqF d4 nv))] [(.int s3), (.int s2), (.int s1), (.int nv), (.int (2 : Int32)), (.ref b1)])) _
                        refine XS.iload X9.here hx rfl (hb hby at_435) rfl ?_
                        exact kt
                      obtain ⟨_, _, ⟨T10, L10, k10, n10⟩, -, X10, ⟨Lc10, hQ10, l10, y10, z10⟩, st10⟩ := Jvm.LawKit.callS X9 hx (y := (⟨"com/example/shardwright/shardwright/recommend/SitesToTryTakePinLaw", "seen", "(Lcom/example/shardwright/shardwright/recommend/SitesToTry;IIIIII)Z"⟩ : MethodName)) hown (mvT hZ (hw _ (List.mem_of_getElem? (i := 32) rfl))) (mvT hZ (hw _ (List.mem_of_getElem? (i := 33) rfl))) (mvT hZ (hw _ (List.mem_of_getElem? (i := 34) rfl))) (mvT hZ (hw _ (List.mem_of_getElem? (i := 35) rfl))) (by decide) (backOf (W := 0) (rm5 l Z a0 hw [] b1 (2 : Int32) nv s1 s2 s3 s4 a1_2 a2_2 nv col d4 (upd (upd (upd (upd tk s1 col) s2 col) s3 col) s4 col) T7.heap n0 Z7 S7 (by decide) rfl (fun r => own_m4 hfr r)) hZ (hw _ (List.mem_of_getElem? (i := 35) rfl)) (hw _ (List.mem_of_getElem? (i := 34) rfl)) (by decide) (by decide)) (g := (mkF m 437 #[.val (.int p0), .val (.int p1), .val (.int p2), .val (.int p3), .val (.int p4), .val (.int nv), .val (.int prv), .val (.int s0), .val (.int s1), .val (.int s2), .val (.int s3), .val (.int s4), .val (.ref b1), .val (.int (1 : Int32)), .val (.int (1 : Int32)), .val (.int d2), .val (.int d3), .val (.int d4), .val (.int (eqF (1 : Int32) nv)), .val (.int (eqF d2 nv)), .val (.int (eqF d3 nv)), .val (.int (eqF d4 nv))] [(.int s4), (.int s3), (.int s2), (.int s1), (.int nv), (.int (2 : Int32)), (.ref b1)])) rfl (by rw [hml]; rfl) (argsL := [(.ref b1), (.int (2 : Int32)), (.int nv), (.int s1), (.int s2), (.int s3), (.int s4)]) (rest := []) (lenOf pd_3 rfl) rfl (by show 2 * 0 + _ ≤ _; exact Nat.le_of_eq rfl) (hb hby at_437) (fun _ _ => ⟨rfl, e9, (by decide : 3 + 0 ≤ _), (by decide : 13 + 0 ≤ _)⟩)
                      dsimp only [Pt.U, Pt.locs, Pt.cells, Pt.slots] at X10 l10 y10 z10 st10 hQ10
                      subst l10 y10 z10
                      obtain ⟨rfl, N10q, e10⟩ := hQ10
                      have N10 := Fr.app N9 N10q
                      refine Goes.step (A := T10.setTop (mkF m 440 #[.val (.int p0), .val (.int p1), .val (.int p2), .val (.int p3), .val (.int p4), .val (.int nv), .val (.int prv), .val (.int s0), .val (.int s1), .val (.int s2), .val (.int s3), .val (.int s4), .val (.ref b1), .val (.int (1 : Int32)), .val (.int (1 : Int32)), .val (.int d2), .val (.int d3), .val (.int d4), .val (.int (eqF (1 : Int32) nv)), .val (.int (eqF d2 nv)), .val (.int (eqF d3 nv)), .val (.int (eqF d4 nv))] [(.int (1 : Int32))])) (fun t kt => st10 _ kt) ?_
                      refine Goes.step (A := T10.setTop (mkF m 443 #[.val (.int p0), .val (.int p1), .val (.int p2), .val (.int p3), .val (.int p4), .val (.int nv), .val (.int prv), .val (.int s0), .val (.int s1), .val (.int s2), .val (.int s3), .val (.int s4), .val (.ref b1), .val (.int (1 : Int32)), .val (.int (1 : Int32)), .val (.int d2), .val (.int d3), .val (.int d4), .val (.int (eqF (1 : Int32) nv)), .val (.int (eqF d2 nv)), .val (.int (eqF d3 nv)), .val (.int (eqF d4 nv))] [])) (fun t kt => XS.ifNo X10.here hx rfl (hb hby at_440) rfl ((if0 _ _).trans (feq ((by decide) : ¬ ((1 : Int32) = (0 : Int32)))).1) kt) ?_
                      refine Goes.step (A := T10.setTop (mkF m 452 #[.val (.int p0), .val (.int p1), .val (.int p2), .val (.int p3), .val (.int p4), .val (.int nv), .val (.int prv), .val (.int s0), .val (.int s1), .val (.int s2), .val (.int s3), .val (.int s4), .val (.ref b1), .val (.int (1 : Int32)), .val (.int (1 : Int32)), .val (.int d2), .val (.int d3), .val (.int d4), .val (.int (eqF (1 : Int32) nv)), .val (.int (eqF d2 nv)), .val (.int (eqF d3 nv)), .val (.int (eqF d4 nv))] [(.int (1 : Int32))])) (fun t kt => ?_) ?_
                      · refine XS.iconst X10.here hx rfl (hb hby at_443) ?_
                        show Steps p.tables e below (T10.setTop (mkF m 444 #[.val (.int p0), .val (.int p1), .val (.int p2), .val (.int p3), .val (.int p4), .val (.int nv), .val (.int prv), .val (.int s0), .val (.int s1), .val (.int s2), .val (.int s3), .val (.int s4), .val (.ref b1), .val (.int (1 : Int32)), .val (.int (1 : Int32)), .val (.int d2), .val (.int d3), .val (.int d4), .val (.int (eqF (1 : Int32) nv)), .val (.int (eqF d2 nv)), .val (.int (eqF d3 nv)), .val (.int (eqF d4 nv))] [(.int (1 : Int32))])) _
                        refine XS.goto X10.here hx rfl (pc0 := 444) (pc' := 448) rfl (hb hby at_444) (by decide) (by decide) ?_
                        show Steps p.tables e below (T10.setTop (mkF m 448 #[.val (.int p0), .val (.int p1), .val (.int p2), .val (.int p3), .val (.int p4), .val (.int nv), .val (.int prv), .val (.int s0), .val (.int s1), .val (.int s2), .val (.int s3), .val (.int s4), .val (.ref b1), .val (.int (1 : Int32)), .val (.int (1 : Int32)), .val (.int d2), .val (.int d3), .val (.int d4), .val (.int (eqF (1 : Int32) nv)), .val (.int (eqF d2 nv)), .val (.int (eqF d3 nv)), .val (.int (eqF d4 nv))] [(.int (1 : Int32))])) _
                        refine XS.istore X10.here hx rfl (hb hby at_448) rfl (l' := #[.val (.int p0), .val (.int p1), .val (.int p2), .val (.int p3), .val (.int p4), .val (.int nv), .val (.int prv), .val (.int s0), .val (.int s1), .val (.int s2), .val (.int s3), .val (.int s4), .val (.ref b1), .val (.int (1 : Int32)), .val (.int (1 : Int32)), .val (.int d2), .val (.int d3), .val (.int d4), .val (.int (eqF (1 : Int32) nv)), .val (.int (eqF d2 nv)), .val (.int (eqF d3 nv)), .val (.int (eqF d4 nv))]) rfl ?_
                        show Steps p.tables e below (T10.setTop (mkF m 450 #[.val (.int p0), .val (.int p1), .val (.int p2), .val (.int p3), .val (.int p4), .val (.int nv), .val (.int prv), .val (.int s0), .val (.int s1), .val (.int s2), .val (.int s3), .val (.int s4), .val (.ref b1), .val (.int (1 : Int32)), .val (.int (1 : Int32)), .val (.int d2), .val (.int d3), .val (.int d4), .val (.int (eqF (1 : Int32) nv)), .val (.int (eqF d2 nv)), .val (.int (eqF d3 nv)), .val (.int (eqF d4 nv))] [])) _
                        refine XS.iload X10.here hx rfl (hb hby at_450) rfl ?_
                        exact kt
                      refine Goes.step (A := T10.setTop (mkF m 455 #[.val (.int p0), .val (.int p1), .val (.int p2), .val (.int p3), .val (.int p4), .val (.int nv), .val (.int prv), .val (.int s0), .val (.int s1), .val (.int s2), .val (.int s3), .val (.int s4), .val (.ref b1), .val (.int (1 : Int32)), .val (.int (1 : Int32)), .val (.int d2), .val (.int d3), .val (.int d4), .val (.int (eqF (1 : Int32) nv)), .val (.int (eqF d2 nv)), .val (.int (eqF d3 nv)), .val (.int (eqF d4 nv))] [])) (fun t kt => XS.ifNo X10.here hx rfl (hb hby at_452) rfl ((if0 _ _).trans (feq ((by decide) : ¬ ((1 : Int32) = (0 : Int32)))).1) kt) ?_
                      refine Goes.step (A := T10.setTop (mkF m 468 #[.val (.int p0), .val (.int p1), .val (.int p2), .val (.int p3), .val (.int p4), .val (.int nv), .val (.int prv), .val (.int s0), .val (.int s1), .val (.int s2), .val (.int s3), .val (.int s4), .val (.ref b1), .val (.int (1 : Int32)), .val (.int (1 : Int32)), .val (.int d2), .val (.int d3), .val (.int d4), .val (.int (eqF (1 : Int32) nv)), .val (.int (eqF d2 nv)), .val (.int (eqF d3 nv)), .val (.int (eqF d4 nv))] [(.int s4), (.int s3), (.int s2), (.int s1), (.int nv), (.int (3 : Int32)), (.ref b1)])) (fun t kt => ?_) ?_
                      · refine XS.aload X10.here hx rfl (hb hby at_455) rfl rfl ?_
                        show Steps p.tables e below (T10.setTop (mkF m 457 #[.val (.int p0), .val (.int p1), .val (.int p2), .val (.int p3), .val (.int p4), .val (.int nv), .val (.int prv), .val (.int s0), .val (.int s1), .val (.int s2), .val (.int s3), .val (.int s4), .val (.ref b1), .val (.int (1 : Int32)), .val (.int (1 : Int32)), .val (.int d2), .val (.int d3), .val (.int d4), .val (.int (eqF (1 : Int32) nv)), .val (.int (eqF d2 nv)), .val (.int (eqF d3 nv)), .val (.int (eqF d4 nv))] [(.ref b1)])) _
                        refine XS.iconst X10.here hx rfl (hb hby at_457) ?_
                        show Steps p.tables e below (T10.setTop (mkF m 458 #[.val (.int p0), .val (.int p1), .val (.int p2), .val (.int p3), .val (.int p4), .val (.int nv), .val (.int prv), .val (.int s0), .val (.int s1), .val (.int s2), .val (.int s3), .val (.int s4), .val (.ref b1), .val (.int (1 : Int32)), .val (.int (1 : Int32)), .val (.int d2), .val (.int d3), .val (.int d4), .val (.int (eqF (1 : Int32) nv)), .val (.int (eqF d2 nv)), .val (.int (eqF d3 nv)), .val (.int (eqF d4 nv))] [(.int (3 : Int32)), (.ref b1)])) _
                        refine XS.iload X10.here hx rfl (hb hby at_458) rfl ?_
                        show Steps p.tables e below (T10.setTop (mkF m 460 #[.val (.int p0), .val (.int p1), .val (.int p2), .val (.int p3), .val (.int p4), .val (.int nv), .val (.int prv), .val (.int s0), .val (.int s1), .val (.int s2), .val (.int s3), .val (.int s4), .val (.ref b1), .val (.int (1 : Int32)), .val (.int (1 : Int32)), .val (.int d2), .val (.int d3), .val (.int d4), .val (.int (eqF (1 : Int32) nv)), .val (.int (eqF d2 nv)), .val (.int (eqF d3 nv)), .val (.int (eqF d4 nv))] [(.int nv), (.int (3 : Int32)), (.ref b1)])) _
                        refine XS.iload X10.here hx rfl (hb hby at_460) rfl ?_
                        show Steps p.tables e below (T10.setTop (mkF m 462 #[.val (.int p0), .val (.int p1), .val (.int p2), .val (.int p3), .val (.int p4), .val (.int nv), .val (.int prv), .val (.int s0), .val (.int s1), .val (.int s2), .val (.int s3), .val (.int s4), .val (.ref b1), .val (.int (1 : Int32)), .val (.int (1 : Int32)), .val (.int d2), .val (.int d3), .val (.int d4), .val (.int (eqF (1 : Int32) nv)), .val (.int (eqF d2 nv)), .val (.int (eqF d3 nv)), .val (.int (eqF d4 nv))] [(.int s1), (.int nv), (.int (3 : Int32)), (.ref b1)])) _
                        refine XS.iload X10.here hx rfl (hb hby at_462) rfl ?_
                        show Steps p.tables e below (T10.setTop (mkF m 464 #[.val (.int p0), .val (.int p1), .val (.int p2), .val (.int p3), .val (.int p4), .val (.int nv), .val (.int prv), .val (.int s0), .val (.int s1), .val (.int s2), .val (.int s3), .val (.int s4), .val (.ref b1), .val (.int (1 : Int32)), .val (.int (1 : Int32)), .val (.int d2), .val (.int d3), .val (.int d4), .val (.int (eqF (1 : Int32) nv)), .val (.int (eqF d2 nv)), .val (.int (eqF d3 nv)), .val (.int (eqF d4 nv))] [(.int s2), (.int s1), (.int nv), (.int (3 : Int32)), (.ref b1)])) _
                        refine XS.iload X10.here hx rfl (hb hby at_464) rfl ?_
                        show Steps p.tables e below (T10.setTop (mkF m 466 #[.val (.int p0), .val (.int p1), .val (.int p2), .val (.int p3), .val (.int p4), .val (.int nv), .val (.int prv), .val (.int s0), .val (.int s1), .val (.int s2), .val (.int s3), .val (.int s4), .val (.ref b1), .val (.int (1 : Int32)), .val (.int (1 : Int32)), .val (.int d2), .val (.int d3), .val (.int d4), .val (.int (eqF (1 : Int32) nv)), .val (.int (eqF d2 nv)), .val (.int (eqF d3 nv)), .val (.int (eqF d4 nv))] [(.int s3), (.int s2), (.int s1), (.int nv), (.int (3 : Int32)), (.ref b1)])) _
                        refine XS.iload X10.here hx rfl (hb hby at_466) rfl ?_
                        exact kt
                      obtain ⟨_, _, ⟨T11, L11, k11, n11⟩, -, X11, ⟨Lc11, hQ11, l11, y11, z11⟩, st11⟩ := Jvm.LawKit.callS X10 hx (y := (⟨"com/example/shardwright/shardwright/recommend/SitesToTryTakePinLaw", "seen", "(Lcom/example/shardwright/shardwright/recommend/SitesToTry;IIIIII)Z"⟩ : MethodName)) hown (mvT hZ (hw _ (List.mem_of_getElem? (i := 32) rfl))) (mvT hZ (hw _ (List.mem_of_getElem? (i := 33) rfl))) (mvT hZ (hw _ (List.mem_of_getElem? (i := 34) rfl))) (mvT hZ (hw _ (List.mem_of_getElem? (i := 35) rfl))) (by decide) (backOf (W := 0) (rm5 l Z a0 hw [] b1 (3 : Int32) nv s1 s2 s3 s4 a1_2 a2_2 nv col d4 (upd (upd (upd (upd tk s1 col) s2 col) s3 col) s4 col) T7.heap n0 Z7 S7 (by decide) rfl (fun r => own_m4 hfr r)) hZ (hw _ (List.mem_of_getElem? (i := 35) rfl)) (hw _ (List.mem_of_getElem? (i := 34) rfl)) (by decide) (by decide)) (g := (mkF m 468 #[.val (.int p0), .val (.int p1), .val (.int p2), .val (.int p3), .val (.int p4), .val (.int nv), .val (.int prv), .val (.int s0), .val (.int s1), .val (.int s2), .val (.int s3), .val (.int s4), .val (.ref b1), .val (.int (1 : Int32)), .val (.int (1 : Int32)), .val (.int d2), .val (.int d3), .val (.int d4), .val (.int (eqF (1 : Int32) nv)), .val (.int (eqF d2 nv)), .val (.int (eqF d3 nv)), .val (.int (eqF d4 nv))] [(.int s4), (.int s3), (.int s2), (.int s1), (.int nv), (.int (3 : Int32)), (.ref b1)])) rfl (by rw [hml]; rfl) (argsL := [(.ref b1), (.int (3 : Int32)), (.int nv), (.int s1), (.int s2), (.int s3), (.int s4)]) (rest := []) (lenOf pd_3 rfl) rfl (by show 2 * 0 + _ ≤ _; exact Nat.le_of_eq rfl) (hb hby at_468) (fun _ _ => ⟨rfl, e10, (by decide : 3 + 0 ≤ _), (by decide : 13 + 0 ≤ _)⟩)
                      dsimp only [Pt.U, Pt.locs, Pt.cells, Pt.slots] at X11 l11 y11 z11 st11 hQ11
                      subst l11 y11 z11
                      obtain ⟨rfl, N11q, e11⟩ := hQ11
                      have N11 := Fr.app N10 N11q
                      refine Goes.step (A := T11.setTop (mkF m 471 #[.val (.int p0), .val (.int p1), .val (.int p2), .val (.int p3), .val (.int p4), .val (.int nv), .val (.int prv), .val (.int s0), .val (.int s1), .val (.int s2), .val (.int s3), .val (.int s4), .val (.ref b1), .val (.int (1 : Int32)), .val (.int (1 : Int32)), .val (.int d2), .val (.int d3), .val (.int d4), .val (.int (eqF (1 : Int32) nv)), .val (.int (eqF d2 nv)), .val (.int (eqF d3 nv)), .val (.int (eqF d4 nv))] [(.int (1 : Int32))])) (fun t kt => st11 _ kt) ?_
                      refine Goes.step (A := T11.setTop (mkF m 474 #[.val (.int p0), .val (.int p1), .val (.int p2), .val (.int p3), .val (.int p4), .val (.int nv), .val (.int prv), .val (.int s0), .val (.int s1), .val (.int s2), .val (.int s3), .val (.int s4), .val (.ref b1), .val (.int (1 : Int32)), .val (.int (1 : Int32)), .val (.int d2), .val (.int d3), .val (.int d4), .val (.int (eqF (1 : Int32) nv)), .val (.int (eqF d2 nv)), .val (.int (eqF d3 nv)), .val (.int (eqF d4 nv))] [])) (fun t kt => XS.ifNo X11.here hx rfl (hb hby at_471) rfl ((if0 _ _).trans (feq ((by decide) : ¬ ((1 : Int32) = (0 : Int32)))).1) kt) ?_
                      refine Goes.step (A := T11.setTop (mkF m 483 #[.val (.int p0), .val (.int p1), .val (.int p2), .val (.int p3), .val (.int p4), .val (.int nv), .val (.int prv), .val (.int s0), .val (.int s1), .val (.int s2), .val (.int s3), .val (.int s4), .val (.ref b1), .val (.int (1 : Int32)), .val (.int (1 : Int32)), .val (.int d2), .val (.int d3), .val (.int d4), .val (.int (eqF (1 : Int32) nv)), .val (.int (eqF d2 nv)), .val (.int (eqF d3 nv)), .val (.int (eqF d4 nv))] [(.int (1 : Int32))])) (fun t kt => ?_) ?_
                      · refine XS.iconst X11.here hx rfl (hb hby at_474) ?_
                        show Steps p.tables e below (T11.setTop (mkF m 475 #[.val (.int p0), .val (.int p1), .val (.int p2), .val (.int p3), .val (.int p4), .val (.int nv), .val (.int prv), .val (.int s0), .val (.int s1), .val (.int s2), .val (.int s3), .val (.int s4), .val (.ref b1), .val (.int (1 : Int32)), .val (.int (1 : Int32)), .val (.int d2), .val (.int d3), .val (.int d4), .val (.int (eqF (1 : Int32) nv)), .val (.int (eqF d2 nv)), .val (.int (eqF d3 nv)), .val (.int (eqF d4 nv))] [(.int (1 : Int32))])) _
                        refine XS.goto X11.here hx rfl (pc0 := 475) (pc' := 479) rfl (hb hby at_475) (by decide) (by decide) ?_
                        show Steps p.tables e below (T11.setTop (mkF m 479 #[.val (.int p0), .val (.int p1), .val (.int p2), .val (.int p3), .val (.int p4), .val (.int nv), .val (.int prv), .val (.int s0), .val (.int s1), .val (.int s2), .val (.int s3), .val (.int s4), .val (.ref b1), .val (.int (1 : Int32)), .val (.int (1 : Int32)), .val (.int d2), .val (.int d3), .val (.int d4), .val (.int (eqF (1 : Int32) nv)), .val (.int (eqF d2 nv)), .val (.int (eqF d3 nv)), .val (.int (eqF d4 nv))] [(.int (1 : Int32))])) _
                        refine XS.istore X11.here hx rfl (hb hby at_479) rfl (l' := #[.val (.int p0), .val (.int p1), .val (.int p2), .val (.int p3), .val (.int p4), .val (.int nv), .val (.int prv), .val (.int s0), .val (.int s1), .val (.int s2), .val (.int s3), .val (.int s4), .val (.ref b1), .val (.int (1 : Int32)), .val (.int (1 : Int32)), .val (.int d2), .val (.int d3), .val (.int d4), .val (.int (eqF (1 : Int32) nv)), .val (.int (eqF d2 nv)), .val (.int (eqF d3 nv)), .val (.int (eqF d4 nv))]) rfl ?_
                        show Steps p.tables e below (T11.setTop (mkF m 481 #[.val (.int p0), .val (.int p1), .val (.int p2), .val (.int p3), .val (.int p4), .val (.int nv), .val (.int prv), .val (.int s0), .val (.int s1), .val (.int s2), .val (.int s3), .val (.int s4), .val (.ref b1), .val (.int (1 : Int32)), .val (.int (1 : Int32)), .val (.int d2), .val (.int d3), .val (.int d4), .val (.int (eqF (1 : Int32) nv)), .val (.int (eqF d2 nv)), .val (.int (eqF d3 nv)), .val (.int (eqF d4 nv))] [])) _
                        refine XS.iload X11.here hx rfl (hb hby at_481) rfl ?_
                        exact kt
                      obtain ⟨fs, hr, hrun, hended, hW, hsame⟩ := X11.leave (v := some (.int (1 : Int32))) (fun h => by rw [Bd.returns] at h; cases h)
                      refine Goes.done ?_ hrun hended ⟨_, _, rfl, ?_, ⟨_, rfl⟩, hW, hsame.mono (by decide) (by decide)⟩
                      · exact retN X11 hx (t := .boolean) Bd.returns (by simp) (hb hby at_483) hr
                      · show Q0 Z p0 p1 p2 p3 p4 h0 n0 _ T11.heap _
                        rw [e11]
                        exact ⟨rfl, N11⟩
                    by_cases hc339_9 : d4 = nv
                    · refine Goes.step (A := T7.setTop (mkF m 342 #[.val (.int p0), .val (.int p1), .val (.int p2), .val (.int p3), .val (.int p4), .val (.int nv), .val (.int prv), .val (.int s0), .val (.int s1), .val (.int s2), .val (.int s3), .val (.int s4), .val (.ref b1), .val (.int (1 : Int32)), .val (.int (1 : Int32)), .val (.int d2), .val (.int d3), .val (.int d4), .val (.int (eqF (1 : Int32) nv)), .val (.int (eqF d2 nv)), .val (.int (eqF d3 nv)), .val (.int (eqF d4 nv))] [(.int (eqF d4 nv))])) (fun t kt => XS.icmpNo X7.here hx rfl (hb hby at_339) rfl (teq hc339_9).2 kt) ?_
                      refine Goes.step (A := T7.setTop (mkF m 347 #[.val (.int p0), .val (.int p1), .val (.int p2), .val (.int p3), .val (.int p4), .val (.int nv), .val (.int prv), .val (.int s0), .val (.int s1), .val (.int s2), .val (.int s3), .val (.int s4), .val (.ref b1), .val (.int (1 : Int32)), .val (.int (1 : Int32)), .val (.int d2), .val (.int d3), .val (.int d4), .val (.int (eqF (1 : Int32) nv)), .val (.int (eqF d2 nv)), .val (.int (eqF d3 nv)), .val (.int (eqF d4 nv))] [(.int (1 : Int32)), (.int (eqF d4 nv))])) (fun t kt => ?_) ?_
                      · refine XS.iconst X7.here hx rfl (hb hby at_342) ?_
                        show Steps p.tables e below (T7.setTop (mkF m 343 #[.val (.int p0), .val (.int p1), .val (.int p2), .val (.int p3), .val (.int p4), .val (.int nv), .val (.int prv), .val (.int s0), .val (.int s1), .val (.int s2), .val (.int s3), .val (.int s4), .val (.ref b1), .val (.int (1 : Int32)), .val (.int (1 : Int32)), .val (.int d2), .val (.int d3), .val (.int d4), .val (.int (eqF (1 : Int32) nv)), .val (.int (eqF d2 nv)), .val (.int (eqF d3 nv)), .val (.int (eqF d4 nv))] [(.int (1 : Int32)), (.int (eqF d4 nv))])) _
                        refine XS.goto X7.here hx rfl (pc0 := 343) (pc' := 347) rfl (hb hby at_343) (by decide) (by decide) ?_
                        exact kt
                      refine Goes.step (A := T7.setTop (mkF m 350 #[.val (.int p0), .val (.int p1), .val (.int p2), .val (.int p3), .val (.int p4), .val (.int nv), .val (.int prv), .val (.int s0), .val (.int s1), .val (.int s2), .val (.int s3), .val (.int s4), .val (.ref b1), .val (.int (1 : Int32)), .val (.int (1 : Int32)), .val (.int d2), .val (.int d3), .val (.int d4), .val (.int (eqF (1 : Int32) nv)), .val (.int (eqF d2 nv)), .val (.int (eqF d3 nv)), .val (.int (eqF d4 nv))] [])) (fun t kt => XS.icmpNo X7.here hx rfl (hb hby at_347) rfl (teq (by rw [eqF, if_pos hc339_9] : (eqF d4 nv) = (1 : Int32))).2 kt) ?_
                      refine Goes.step (A := T7.setTop (mkF m 357 #[.val (.int p0), .val (.int p1), .val (.int p2), .val (.int p3), .val (.int p4), .val (.int nv), .val (.int prv), .val (.int s0), .val (.int s1), .val (.int s2), .val (.int s3), .val (.int s4), .val (.ref b1), .val (.int (1 : Int32)), .val (.int (1 : Int32)), .val (.int d2), .val (.int d3), .val (.int d4), .val (.int (eqF (1 : Int32) nv)), .val (.int (eqF d2 nv)), .val (.int (eqF d3 nv)), .val (.int (eqF d4 nv))] [])) (fun t kt => ?_) ?_
                      · refine XS.iconst X7.here hx rfl (hb hby at_350) ?_
                        show Steps p.tables e below (T7.setTop (mkF m 351 #[.val (.int p0), .val (.int p1), .val (.int p2), .val (.int p3), .val (.int p4), .val (.int nv), .val (.int prv), .val (.int s0), .val (.int s1), .val (.int s2), .val (.int s3), .val (.int s4), .val (.ref b1), .val (.int (1 : Int32)), .val (.int (1 : Int32)), .val (.int d2), .val (.int d3), .val (.int d4), .val (.int (eqF (1 : Int32) nv)), .val (.int (eqF d2 nv)), .val (.int (eqF d3 nv)), .val (.int (eqF d4 nv))] [(.int (1 : Int32))])) _
                        refine XS.goto X7.here hx rfl (pc0 := 351) (pc' := 355) rfl (hb hby at_351) (by decide) (by decide) ?_
                        show Steps p.tables e below (T7.setTop (mkF m 355 #[.val (.int p0), .val (.int p1), .val (.int p2), .val (.int p3), .val (.int p4), .val (.int nv), .val (.int prv), .val (.int s0), .val (.int s1), .val (.int s2), .val (.int s3), .val (.int s4), .val (.ref b1), .val (.int (1 : Int32)), .val (.int (1 : Int32)), .val (.int d2), .val (.int d3), .val (.int d4), .val (.int (eqF (1 : Int32) nv)), .val (.int (eqF d2 nv)), .val (.int (eqF d3 nv)), .val (.int (eqF d4 nv))] [(.int (1 : Int32))])) _
                        refine XS.istore X7.here hx rfl (hb hby at_355) rfl (l' := #[.val (.int p0), .val (.int p1), .val (.int p2), .val (.int p3), .val (.int p4), .val (.int nv), .val (.int prv), .val (.int s0), .val (.int s1), .val (.int s2), .val (.int s3), .val (.int s4), .val (.ref b1), .val (.int (1 : Int32)), .val (.int (1 : Int32)), .val (.int d2), .val (.int d3), .val (.int d4), .val (.int (eqF (1 : Int32) nv)), .val (.int (eqF d2 nv)), .val (.int (eqF d3 nv)), .val (.int (eqF d4 nv))]) rfl ?_
                        exact kt
                      exact cx3 trivial
                    · refine Goes.step (A := T7.setTop (mkF m 346 #[.val (.int p0), .val (.int p1), .val (.int p2), .val (.int p3), .val (.int p4), .val (.int nv), .val (.int prv), .val (.int s0), .val (.int s1), .val (.int s2), .val (.int s3), .val (.int s4), .val (.ref b1), .val (.int (1 : Int32)), .val (.int (1 : Int32)), .val (.int d2), .val (.int d3), .val (.int d4), .val (.int (eqF (1 : Int32) nv)), .val (.int (eqF d2 nv)), .val (.int (eqF d3 nv)), .val (.int (eqF d4 nv))] [(.int (eqF d4 nv))])) (fun t kt => XS.icmpYes X7.here hx rfl (pc0 := 339) (pc' := 346) rfl (hb hby at_339) rfl (feq hc339_9).2 (by decide) (by decide) kt) ?_
                      refine Goes.step (A := T7.setTop (mkF m 347 #[.val (.int p0), .val (.int p1), .val (.int p2), .val (.int p3), .val (.int p4), .val (.int nv), .val (.int prv), .val (.int s0), .val (.int s1), .val (.int s2), .val (.int s3), .val (.int s4), .val (.ref b1), .val (.int (1 : Int32)), .val (.int (1 : Int32)), .val (.int d2), .val (.int d3), .val (.int d4), .val (.int (eqF (1 : Int32) nv)), .val (.int (eqF d2 nv)), .val (.int (eqF d3 nv)), .val (.int (eqF d4 nv))] [(.int (0 : Int32)), (.int (eqF d4 nv))])) (fun t kt => ?_) ?_
                      · refine XS.iconst X7.here hx rfl (hb hby at_346) ?_
                        exact kt
                      refine Goes.step (A := T7.setTop (mkF m 350 #[.val (.int p0), .val (.int p1), .val (.int p2), .val (.int p3), .val (.int p4), .val (.int nv), .val (.int prv), .val (.int s0), .val (.int s1), .val (.int s2), .val (.int s3), .val (.int s4), .val (.ref b1), .val (.int (1 : Int32)), .val (.int (1 : Int32)), .val (.int d2), .val (.int d3), .val (.int d4), .val (.int (eqF (1 : Int32) nv)), .val (.int (eqF d2 nv)), .val (.int (eqF d3 nv)), .val (.int (eqF d4 nv))] [])) (fun t kt => XS.icmpNo X7.here hx rfl (hb hby at_347) rfl (teq (by rw [eqF, if_neg hc339_9] : (eqF d4 nv) = (0 : Int32))).2 kt) ?_
                      refine Goes.step (A := T7.setTop (mkF m 357 #[.val (.int p0), .val (.int p1), .val (.int p2), .val (.int p3), .val (.int p4), .val (.int nv), .val (.int prv), .val (.int s0), .val (.int s1), .val (.int s2), .val (.int s3), .val (.int s4), .val (.ref b1), .val (.int (1 : Int32)), .val (.int (1 : Int32)), .val (.int d2), .val (.int d3), .val (.int d4), .val (.int (eqF (1 : Int32) nv)), .val (.int (eqF d2 nv)), .val (.int (eqF d3 nv)), .val (.int (eqF d4 nv))] [])) (fun t kt => ?_) ?_
                      · refine XS.iconst X7.here hx rfl (hb hby at_350) ?_
                        show Steps p.tables e below (T7.setTop (mkF m 351 #[.val (.int p0), .val (.int p1), .val (.int p2), .val (.int p3), .val (.int p4), .val (.int nv), .val (.int prv), .val (.int s0), .val (.int s1), .val (.int s2), .val (.int s3), .val (.int s4), .val (.ref b1), .val (.int (1 : Int32)), .val (.int (1 : Int32)), .val (.int d2), .val (.int d3), .val (.int d4), .val (.int (eqF (1 : Int32) nv)), .val (.int (eqF d2 nv)), .val (.int (eqF d3 nv)), .val (.int (eqF d4 nv))] [(.int (1 : Int32))])) _
                        refine XS.goto X7.here hx rfl (pc0 := 351) (pc' := 355) rfl (hb hby at_351) (by decide) (by decide) ?_
                        show Steps p.tables e below (T7.setTop (mkF m 355 #[.val (.int p0), .val (.int p1), .val (.int p2), .val (.int p3), .val (.int p4), .val (.int nv), .val (.int prv), .val (.int s0), .val (.int s1), .val (.int s2), .val (.int s3), .val (.int s4), .val (.ref b1), .val (.int (1 : Int32)), .val (.int (1 : Int32)), .val (.int d2), .val (.int d3), .val (.int d4), .val (.int (eqF (1 : Int32) nv)), .val (.int (eqF d2 nv)), .val (.int (eqF d3 nv)), .val (.int (eqF d4 nv))] [(.int (1 : Int32))])) _
                        refine XS.istore X7.here hx rfl (hb hby at_355) rfl (l' := #[.val (.int p0), .val (.int p1), .val (.int p2), .val (.int p3), .val (.int p4), .val (.int nv), .val (.int prv), .val (.int s0), .val (.int s1), .val (.int s2), .val (.int s3), .val (.int s4), .val (.ref b1), .val (.int (1 : Int32)), .val (.int (1 : Int32)), .val (.int d2), .val (.int d3), .val (.int d4), .val (.int (eqF (1 : Int32) nv)), .val (.int (eqF d2 nv)), .val (.int (eqF d3 nv)), .val (.int (eqF d4 nv))]) rfl ?_
                        exact kt
                      exact cx3 trivial
                  by_cases hc310_10 : d3 = nv
                  · refine Goes.step (A := T7.setTop (mkF m 313 #[.val (.int p0), .val (.int p1), .val (.int p2), .val (.int p3), .val (.int p4), .val (.int nv), .val (.int prv), .val (.int s0), .val (.int s1), .val (.int s2), .val (.int s3), .val (.int s4), .val (.ref b1), .val (.int (1 : Int32)), .val (.int (1 : Int32)), .val (.int d2), .val (.int d3), .val (.int d4), .val (.int (eqF (1 : Int32) nv)), .val (.int (eqF d2 nv)), .val (.int (eqF d3 nv)), .val (.int (eqF d4 nv))] [(.int (eqF d3 nv))])) (fun t kt => XS.icmpNo X7.here hx rfl (hb hby at_310) rfl (teq hc310_10).2 kt) ?_
                    refine Goes.step (A := T7.setTop (mkF m 318 #[.val (.int p0), .val (.int p1), .val (.int p2), .val (.int p3), .val (.int p4), .val (.int nv), .val (.int prv), .val (.int s0), .val (.int s1), .val (.int s2), .val (.int s3), .val (.int s4), .val (.ref b1), .val (.int (1 : Int32)), .val (.int (1 : Int32)), .val (.int d2), .val (.int d3), .val (.int d4), .val (.int (eqF (1 : Int32) nv)), .val (.int (eqF d2 nv)), .val (.int (eqF d3 nv)), .val (.int (eqF d4 nv))] [(.int (1 : Int32)), (.int (eqF d3 nv))])) (fun t kt => ?_) ?_
                    · refine XS.iconst X7.here hx rfl (hb hby at_313) ?_
                      show Steps p.tables e below (T7.setTop (mkF m 314 #[.val (.int p0), .val (.int p1), .val (.int p2), .val (.int p3), .val (.int p4), .val (.int nv), .val (.int prv), .val (.int s0), .val (.int s1), .val (.int s2), .val (.int s3), .val (.int s4), .val (.ref b1), .val (.int (1 : Int32)), .val (.int (1 : Int32)), .val (.int d2), .val (.int d3), .val (.int d4), .val (.int (eqF (1 : Int32) nv)), .val (.int (eqF d2 nv)), .val (.int (eqF d3 nv)), .val (.int (eqF d4 nv))] [(.int (1 : Int32)), (.int (eqF d3 nv))])) _
                      refine XS.goto X7.here hx rfl (pc0 := 314) (pc' := 318) rfl (hb hby at_314) (by decide) (by decide) ?_
                      exact kt
                    refine Goes.step (A := T7.setTop (mkF m 321 #[.val (.int p0), .val (.int p1), .val (.int p2), .val (.int p3), .val (.int p4), .val (.int nv), .val (.int prv), .val (.int s0), .val (.int s1), .val (.int s2), .val (.int s3), .val (.int s4), .val (.ref b1), .val (.int (1 : Int32)), .val (.int (1 : Int32)), .val (.int d2), .val (.int d3), .val (.int d4), .val (.int (eqF (1 : Int32) nv)), .val (.int (eqF d2 nv)), .val (.int (eqF d3 nv)), .val (.int (eqF d4 nv))] [])) (fun t kt => XS.icmpNo X7.here hx rfl (hb hby at_318) rfl (teq (by rw [eqF, if_pos hc310_10] : (eqF d3 nv) = (1 : Int32))).2 kt) ?_
                    refine Goes.step (A := T7.setTop (mkF m 328 #[.val (.int p0), .val (.int p1), .val (.int p2), .val (.int p3), .val (.int p4), .val (.int nv), .val (.int prv), .val (.int s0), .val (.int s1), .val (.int s2), .val (.int s3), .val (.int s4), .val (.ref b1), .val (.int (1 : Int32)), .val (.int (1 : Int32)), .val (.int d2), .val (.int d3), .val (.int d4), .val (.int (eqF (1 : Int32) nv)), .val (.int (eqF d2 nv)), .val (.int (eqF d3 nv)), .val (.int (eqF d4 nv))] [])) (fun t kt => ?_) ?_
                    · refine XS.iconst X7.here hx rfl (hb hby at_321) ?_
                      show Steps p.tables e below (T7.setTop (mkF m 322 #[.val (.int p0), .val (.int p1), .val (.int p2), .val (.int p3), .val (.int p4), .val (.int nv), .val (.int prv), .val (.int s0), .val (.int s1), .val (.int s2), .val (.int s3), .val (.int s4), .val (.ref b1), .val (.int (1 : Int32)), .val (.int (1 : Int32)), .val (.int d2), .val (.int d3), .val (.int d4), .val (.int (eqF (1 : Int32) nv)), .val (.int (eqF d2 nv)), .val (.int (eqF d3 nv)), .val (.int (eqF d4 nv))] [(.int (1 : Int32))])) _
                      refine XS.goto X7.here hx rfl (pc0 := 322) (pc' := 326) rfl (hb hby at_322) (by decide) (by decide) ?_
                      show Steps p.tables e below (T7.setTop (mkF m 326 #[.val (.int p0), .val (.int p1), .val (.int p2), .val (.int p3), .val (.int p4), .val (.int nv), .val (.int prv), .val (.int s0), .val (.int s1), .val (.int s2), .val (.int s3), .val (.int s4), .val (.ref b1), .val (.int (1 : Int32)), .val (.int (1 : Int32)), .val (.int d2), .val (.int d3), .val (.int d4), .val (.int (eqF (1 : Int32) nv)), .val (.int (eqF d2 nv)), .val (.int (eqF d3 nv)), .val (.int (eqF d4 nv))] [(.int (1 : Int32))])) _
                      refine XS.istore X7.here hx rfl (hb hby at_326) rfl (l' := #[.val (.int p0), .val (.int p1), .val (.int p2), .val (.int p3), .val (.int p4), .val (.int nv), .val (.int prv), .val (.int s0), .val (.int s1), .val (.int s2), .val (.int s3), .val (.int s4), .val (.ref b1), .val (.int (1 : Int32)), .val (.int (1 : Int32)), .val (.int d2), .val (.int d3), .val (.int d4), .val (.int (eqF (1 : Int32) nv)), .val (.int (eqF d2 nv)), .val (.int (eqF d3 nv)), .val (.int (eqF d4 nv))]) rfl ?_
                      exact kt
                    exact cx2 trivial
                  · refine Goes.step (A := T7.setTop (mkF m 317 #[.val (.int p0), .val (.int p1), .val (.int p2), .val (.int p3), .val (.int p4), .val (.int nv), .val (.int prv), .val (.int s0), .val (.int s1), .val (.int s2), .val (.int s3), .val (.int s4), .val (.ref b1), .val (.int (1 : Int32)), .val (.int (1 : Int32)), .val (.int d2), .val (.int d3), .val (.int d4), .val (.int (eqF (1 : Int32) nv)), .val (.int (eqF d2 nv)), .val (.int (eqF d3 nv)), .val (.int (eqF d4 nv))] [(.int (eqF d3 nv))])) (fun t kt => XS.icmpYes X7.here hx rfl (pc0 := 310) (pc' := 317) rfl (hb hby at_310) rfl (feq hc310_10).2 (by decide) (by decide) kt) ?_
                    refine Goes.step (A := T7.setTop (mkF m 318 #[.val (.int p0), .val (.int p1), .val (.int p2), .val (.int p3), .val (.int p4), .val (.int nv), .val (.int prv), .val (.int s0), .val (.int s1), .val (.int s2), .val (.int s3), .val (.int s4), .val (.ref b1), .val (.int (1 : Int32)), .val (.int (1 : Int32)), .val (.int d2), .val (.int d3), .val (.int d4), .val (.int (eqF (1 : Int32) nv)), .val (.int (eqF d2 nv)), .val (.int (eqF d3 nv)), .val (.int (eqF d4 nv))] [(.int (0 : Int32)), (.int (eqF d3 nv))])) (fun t kt => ?_) ?_
                    · refine XS.iconst X7.here hx rfl (hb hby at_317) ?_
                      exact kt
                    refine Goes.step (A := T7.setTop (mkF m 321 #[.val (.int p0), .val (.int p1), .val (.int p2), .val (.int p3), .val (.int p4), .val (.int nv), .val (.int prv), .val (.int s0), .val (.int s1), .val (.int s2), .val (.int s3), .val (.int s4), .val (.ref b1), .val (.int (1 : Int32)), .val (.int (1 : Int32)), .val (.int d2), .val (.int d3), .val (.int d4), .val (.int (eqF (1 : Int32) nv)), .val (.int (eqF d2 nv)), .val (.int (eqF d3 nv)), .val (.int (eqF d4 nv))] [])) (fun t kt => XS.icmpNo X7.here hx rfl (hb hby at_318) rfl (teq (by rw [eqF, if_neg hc310_10] : (eqF d3 nv) = (0 : Int32))).2 kt) ?_
                    refine Goes.step (A := T7.setTop (mkF m 328 #[.val (.int p0), .val (.int p1), .val (.int p2), .val (.int p3), .val (.int p4), .val (.int nv), .val (.int prv), .val (.int s0), .val (.int s1), .val (.int s2), .val (.int s3), .val (.int s4), .val (.ref b1), .val (.int (1 : Int32)), .val (.int (1 : Int32)), .val (.int d2), .val (.int d3), .val (.int d4), .val (.int (eqF (1 : Int32) nv)), .val (.int (eqF d2 nv)), .val (.int (eqF d3 nv)), .val (.int (eqF d4 nv))] [])) (fun t kt => ?_) ?_
                    · refine XS.iconst X7.here hx rfl (hb hby at_321) ?_
                      show Steps p.tables e below (T7.setTop (mkF m 322 #[.val (.int p0), .val (.int p1), .val (.int p2), .val (.int p3), .val (.int p4), .val (.int nv), .val (.int prv), .val (.int s0), .val (.int s1), .val (.int s2), .val (.int s3), .val (.int s4), .val (.ref b1), .val (.int (1 : Int32)), .val (.int (1 : Int32)), .val (.int d2), .val (.int d3), .val (.int d4), .val (.int (eqF (1 : Int32) nv)), .val (.int (eqF d2 nv)), .val (.int (eqF d3 nv)), .val (.int (eqF d4 nv))] [(.int (1 : Int32))])) _
                      refine XS.goto X7.here hx rfl (pc0 := 322) (pc' := 326) rfl (hb hby at_322) (by decide) (by decide) ?_
                      show Steps p.tables e below (T7.setTop (mkF m 326 #[.val (.int p0), .val (.int p1), .val (.int p2), .val (.int p3), .val (.int p4), .val (.int nv), .val (.int prv), .val (.int s0), .val (.int s1), .val (.int s2), .val (.int s3), .val (.int s4), .val (.ref b1), .val (.int (1 : Int32)), .val (.int (1 : Int32)), .val (.int d2), .val (.int d3), .val (.int d4), .val (.int (eqF (1 : Int32) nv)), .val (.int (eqF d2 nv)), .val (.int (eqF d3 nv)), .val (.int (eqF d4 nv))] [(.int (1 : Int32))])) _
                      refine XS.istore X7.here hx rfl (hb hby at_326) rfl (l' := #[.val (.int p0), .val (.int p1), .val (.int p2), .val (.int p3), .val (.int p4), .val (.int nv), .val (.int prv), .val (.int s0), .val (.int s1), .val (.int s2), .val (.int s3), .val (.int s4), .val (.ref b1), .val (.int (1 : Int32)), .val (.int (1 : Int32)), .val (.int d2), .val (.int d3), .val (.int d4), .val (.int (eqF (1 : Int32) nv)), .val (.int (eqF d2 nv)), .val (.int (eqF d3 nv)), .val (.int (eqF d4 nv))]) rfl ?_
                      exact kt
                    exact cx2 trivial
                by_cases hc281_11 : d2 = nv
                · refine Goes.step (A := T7.setTop (mkF m 284 #[.val (.int p0), .val (.int p1), .val (.int p2), .val (.int p3), .val (.int p4), .val (.int nv), .val (.int prv), .val (.int s0), .val (.int s1), .val (.int s2), .val (.int s3), .val (.int s4), .val (.ref b1), .val (.int (1 : Int32)), .val (.int (1 : Int32)), .val (.int d2), .val (.int d3), .val (.int d4), .val (.int (eqF (1 : Int32) nv)), .val (.int (eqF d2 nv)), .val (.int (eqF d3 nv)), .val (.int (eqF d4 nv))] [(.int (eqF d2 nv))])) (fun t kt => XS.icmpNo X7.here hx rfl (hb hby at_281) rfl (teq hc281_11).2 kt) ?_
                  refine Goes.step (A := T7.setTop (mkF m 289 #[.val (.int p0), .val (.int p1), .val (.int p2), .val (.int p3), .val (.int p4), .val (.int nv), .val (.int prv), .val (.int s0), .val (.int s1), .val (.int s2), .val (.int s3), .val (.int s4), .val (.ref b1), .val (.int (1 : Int32)), .val (.int (1 : Int32)), .val (.int d2), .val (.int d3), .val (.int d4), .val (.int (eqF (1 : Int32) nv)), .val (.int (eqF d2 nv)), .val (.int (eqF d3 nv)), .val (.int (eqF d4 nv))] [(.int (1 : Int32)), (.int (eqF d2 nv))])) (fun t kt => ?_) ?_
                  · refine XS.iconst X7.here hx rfl (hb hby at_284) ?_
                    show Steps p.tables e below (T7.setTop (mkF m 285 #[.val (.int p0), .val (.int p1), .val (.int p2), .val (.int p3), .val (.int p4), .val (.int nv), .val (.int prv), .val (.int s0), .val (.int s1), .val (.int s2), .val (.int s3), .val (.int s4), .val (.ref b1), .val (.int (1 : Int32)), .val (.int (1 : Int32)), .val (.int d2), .val (.int d3), .val (.int d4), .val (.int (eqF (1 : Int32) nv)), .val (.int (eqF d2 nv)), .val (.int (eqF d3 nv)), .val (.int (eqF d4 nv))] [(.int (1 : Int32)), (.int (eqF d2 nv))])) _
                    refine XS.goto X7.here hx rfl (pc0 := 285) (pc' := 289) rfl (hb hby at_285) (by decide) (by decide) ?_
                    exact kt
                  refine Goes.step (A := T7.setTop (mkF m 292 #[.val (.int p0), .val (.int p1), .val (.int p2), .val (.int p3), .val (.int p4), .val (.int nv), .val (.int prv), .val (.int s0), .val (.int s1), .val (.int s2), .val (.int s3), .val (.int s4), .val (.ref b1), .val (.int (1 : Int32)), .val (.int (1 : Int32)), .val (.int d2), .val (.int d3), .val (.int d4), .val (.int (eqF (1 : Int32) nv)), .val (.int (eqF d2 nv)), .val (.int (eqF d3 nv)), .val (.int (eqF d4 nv))] [])) (fun t kt => XS.icmpNo X7.here hx rfl (hb hby at_289) rfl (teq (by rw [eqF, if_pos hc281_11] : (eqF d2 nv) = (1 : Int32))).2 kt) ?_
                  refine Goes.step (A := T7.setTop (mkF m 299 #[.val (.int p0), .val (.int p1), .val (.int p2), .val (.int p3), .val (.int p4), .val (.int nv), .val (.int prv), .val (.int s0), .val (.int s1), .val (.int s2), .val (.int s3), .val (.int s4), .val (.ref b1), .val (.int (1 : Int32)), .val (.int (1 : Int32)), .val (.int d2), .val (.int d3), .val (.int d4), .val (.int (eqF (1 : Int32) nv)), .val (.int (eqF d2 nv)), .val (.int (eqF d3 nv)), .val (.int (eqF d4 nv))] [])) (fun t kt => ?_) ?_
                  · refine XS.iconst X7.here hx rfl (hb hby at_292) ?_
                    show Steps p.tables e below (T7.setTop (mkF m 293 #[.val (.int p0), .val (.int p1), .val (.int p2), .val (.int p3), .val (.int p4), .val (.int nv), .val (.int prv), .val (.int s0), .val (.int s1), .val (.int s2), .val (.int s3), .val (.int s4), .val (.ref b1), .val (.int (1 : Int32)), .val (.int (1 : Int32)), .val (.int d2), .val (.int d3), .val (.int d4), .val (.int (eqF (1 : Int32) nv)), .val (.int (eqF d2 nv)), .val (.int (eqF d3 nv)), .val (.int (eqF d4 nv))] [(.int (1 : Int32))])) _
                    refine XS.goto X7.here hx rfl (pc0 := 293) (pc' := 297) rfl (hb hby at_293) (by decide) (by decide) ?_
                    show Steps p.tables e below (T7.setTop (mkF m 297 #[.val (.int p0), .val (.int p1), .val (.int p2), .val (.int p3), .val (.int p4), .val (.int nv), .val (.int prv), .val (.int s0), .val (.int s1), .val (.int s2), .val (.int s3), .val (.int s4), .val (.ref b1), .val (.int (1 : Int32)), .val (.int (1 : Int32)), .val (.int d2), .val (.int d3), .val (.int d4), .val (.int (eqF (1 : Int32) nv)), .val (.int (eqF d2 nv)), .val (.int (eqF d3 nv)), .val (.int (eqF d4 nv))] [(.int (1 : Int32))])) _
                    refine XS.istore X7.here hx rfl (hb hby at_297) rfl (l' := #[.val (.int p0), .val (.int p1), .val (.int p2), .val (.int p3), .val (.int p4), .val (.int nv), .val (.int prv), .val (.int s0), .val (.int s1), .val (.int s2), .val (.int s3), .val (.int s4), .val (.ref b1), .val (.int (1 : Int32)), .val (.int (1 : Int32)), .val (.int d2), .val (.int d3), .val (.int d4), .val (.int (eqF (1 : Int32) nv)), .val (.int (eqF d2 nv)), .val (.int (eqF d3 nv)), .val (.int (eqF d4 nv))]) rfl ?_
                    exact kt
                  exact cx1 trivial
                · refine Goes.step (A := T7.setTop (mkF m 288 #[.val (.int p0), .val (.int p1), .val (.int p2), .val (.int p3), .val (.int p4), .val (.int nv), .val (.int prv), .val (.int s0), .val (.int s1), .val (.int s2), .val (.int s3), .val (.int s4), .val (.ref b1), .val (.int (1 : Int32)), .val (.int (1 : Int32)), .val (.int d2), .val (.int d3), .val (.int d4), .val (.int (eqF (1 : Int32) nv)), .val (.int (eqF d2 nv)), .val (.int (eqF d3 nv)), .val (.int (eqF d4 nv))] [(.int (eqF d2 nv))])) (fun t kt => XS.icmpYes X7.here hx rfl (pc0 := 281) (pc' := 288) rfl (hb hby at_281) rfl (feq hc281_11).2 (by decide) (by decide) kt) ?_
                  refine Goes.step (A := T7.setTop (mkF m 289 #[.val (.int p0), .val (.int p1), .val (.int p2), .val (.int p3), .val (.int p4), .val (.int nv), .val (.int prv), .val (.int s0), .val (.int s1), .val (.int s2), .val (.int s3), .val (.int s4), .val (.ref b1), .val (.int (1 : Int32)), .val (.int (1 : Int32)), .val (.int d2), .val (.int d3), .val (.int d4), .val (.int (eqF (1 : Int32) nv)), .val (.int (eqF d2 nv)), .val (.int (eqF d3 nv)), .val (.int (eqF d4 nv))] [(.int (0 : Int32)), (.int (eqF d2 nv))])) (fun t kt => ?_) ?_
                  · refine XS.iconst X7.here hx rfl (hb hby at_288) ?_
                    exact kt
                  refine Goes.step (A := T7.setTop (mkF m 292 #[.val (.int p0), .val (.int p1), .val (.int p2), .val (.int p3), .val (.int p4), .val (.int nv), .val (.int prv), .val (.int s0), .val (.int s1), .val (.int s2), .val (.int s3), .val (.int s4), .val (.ref b1), .val (.int (1 : Int32)), .val (.int (1 : Int32)), .val (.int d2), .val (.int d3), .val (.int d4), .val (.int (eqF (1 : Int32) nv)), .val (.int (eqF d2 nv)), .val (.int (eqF d3 nv)), .val (.int (eqF d4 nv))] [])) (fun t kt => XS.icmpNo X7.here hx rfl (hb hby at_289) rfl (teq (by rw [eqF, if_neg hc281_11] : (eqF d2 nv) = (0 : Int32))).2 kt) ?_
                  refine Goes.step (A := T7.setTop (mkF m 299 #[.val (.int p0), .val (.int p1), .val (.int p2), .val (.int p3), .val (.int p4), .val (.int nv), .val (.int prv), .val (.int s0), .val (.int s1), .val (.int s2), .val (.int s3), .val (.int s4), .val (.ref b1), .val (.int (1 : Int32)), .val (.int (1 : Int32)), .val (.int d2), .val (.int d3), .val (.int d4), .val (.int (eqF (1 : Int32) nv)), .val (.int (eqF d2 nv)), .val (.int (eqF d3 nv)), .val (.int (eqF d4 nv))] [])) (fun t kt => ?_) ?_
                  · refine XS.iconst X7.here hx rfl (hb hby at_292) ?_
                    show Steps p.tables e below (T7.setTop (mkF m 293 #[.val (.int p0), .val (.int p1), .val (.int p2), .val (.int p3), .val (.int p4), .val (.int nv), .val (.int prv), .val (.int s0), .val (.int s1), .val (.int s2), .val (.int s3), .val (.int s4), .val (.ref b1), .val (.int (1 : Int32)), .val (.int (1 : Int32)), .val (.int d2), .val (.int d3), .val (.int d4), .val (.int (eqF (1 : Int32) nv)), .val (.int (eqF d2 nv)), .val (.int (eqF d3 nv)), .val (.int (eqF d4 nv))] [(.int (1 : Int32))])) _
                    refine XS.goto X7.here hx rfl (pc0 := 293) (pc' := 297) rfl (hb hby at_293) (by decide) (by decide) ?_
                    show Steps p.tables e below (T7.setTop (mkF m 297 #[.val (.int p0), .val (.int p1), .val (.int p2), .val (.int p3), .val (.int p4), .val (.int nv), .val (.int prv), .val (.int s0), .val (.int s1), .val (.int s2), .val (.int s3), .val (.int s4), .val (.ref b1), .val (.int (1 : Int32)), .val (.int (1 : Int32)), .val (.int d2), .val (.int d3), .val (.int d4), .val (.int (eqF (1 : Int32) nv)), .val (.int (eqF d2 nv)), .val (.int (eqF d3 nv)), .val (.int (eqF d4 nv))] [(.int (1 : Int32))])) _
                    refine XS.istore X7.here hx rfl (hb hby at_297) rfl (l' := #[.val (.int p0), .val (.int p1), .val (.int p2), .val (.int p3), .val (.int p4), .val (.int nv), .val (.int prv), .val (.int s0), .val (.int s1), .val (.int s2), .val (.int s3), .val (.int s4), .val (.ref b1), .val (.int (1 : Int32)), .val (.int (1 : Int32)), .val (.int d2), .val (.int d3), .val (.int d4), .val (.int (eqF (1 : Int32) nv)), .val (.int (eqF d2 nv)), .val (.int (eqF d3 nv)), .val (.int (eqF d4 nv))]) rfl ?_
                    exact kt
                  exact cx1 trivial
              by_cases hc252_12 : (1 : Int32) = nv
              · refine Goes.step (A := T7.setTop (mkF m 255 #[.val (.int p0), .val (.int p1), .val (.int p2), .val (.int p3), .val (.int p4), .val (.int nv), .val (.int prv), .val (.int s0), .val (.int s1), .val (.int s2), .val (.int s3), .val (.int s4), .val (.ref b1), .val (.int (1 : Int32)), .val (.int (1 : Int32)), .val (.int d2), .val (.int d3), .val (.int d4), .val (.int (eqF (1 : Int32) nv)), .val (.int (eqF d2 nv)), .val (.int (eqF d3 nv)), .val (.int (eqF d4 nv))] [(.int (eqF (1 : Int32) nv))])) (fun t kt => XS.icmpNo X7.here hx rfl (hb hby at_252) rfl (teq hc252_12).2 kt) ?_
                refine Goes.step (A := T7.setTop (mkF m 260 #[.val (.int p0), .val (.int p1), .val (.int p2), .val (.int p3), .val (.int p4), .val (.int nv), .val (.int prv), .val (.int s0), .val (.int s1), .val (.int s2), .val (.int s3), .val (.int s4), .val (.ref b1), .val (.int (1 : Int32)), .val (.int (1 : Int32)), .val (.int d2), .val (.int d3), .val (.int d4), .val (.int (eqF (1 : Int32) nv)), .val (.int (eqF d2 nv)), .val (.int (eqF d3 nv)), .val (.int (eqF d4 nv))] [(.int (1 : Int32)), (.int (eqF (1 : Int32) nv))])) (fun t kt => ?_) ?_
                · refine XS.iconst X7.here hx rfl (hb hby at_255) ?_
                  show Steps p.tables e below (T7.setTop (mkF m 256 #[.val (.int p0), .val (.int p1), .val (.int p2), .val (.int p3), .val (.int p4), .val (.int nv), .val (.int prv), .val (.int s0), .val (.int s1), .val (.int s2), .val (.int s3), .val (.int s4), .val (.ref b1), .val (.int (1 : Int32)), .val (.int (1 : Int32)), .val (.int d2), .val (.int d3), .val (.int d4), .val (.int (eqF (1 : Int32) nv)), .val (.int (eqF d2 nv)), .val (.int (eqF d3 nv)), .val (.int (eqF d4 nv))] [(.int (1 : Int32)), (.int (eqF (1 : Int32) nv))])) _
                  refine XS.goto X7.here hx rfl (pc0 := 256) (pc' := 260) rfl (hb hby at_256) (by decide) (by decide) ?_
                  exact kt
                refine Goes.step (A := T7.setTop (mkF m 263 #[.val (.int p0), .val (.int p1), .val (.int p2), .val (.int p3), .val (.int p4), .val (.int nv), .val (.int prv), .val (.int s0), .val (.int s1), .val (.int s2), .val (.int s3), .val (.int s4), .val (.ref b1), .val (.int (1 : Int32)), .val (.int (1 : Int32)), .val (.int d2), .val (.int d3), .val (.int d4), .val (.int (eqF (1 : Int32) nv)), .val (.int (eqF d2 nv)), .val (.int (eqF d3 nv)), .val (.int (eqF d4 nv))] [])) (fun t kt => XS.icmpNo X7.here hx rfl (hb hby at_260) rfl (teq (by rw [eqF, if_pos hc252_12] : (eqF (1 : Int32) nv) = (1 : Int32))).2 kt) ?_
                refine Goes.step (A := T7.setTop (mkF m 270 #[.val (.int p0), .val (.int p1), .val (.int p2), .val (.int p3), .val (.int p4), .val (.int nv), .val (.int prv), .val (.int s0), .val (.int s1), .val (.int s2), .val (.int s3), .val (.int s4), .val (.ref b1), .val (.int (1 : Int32)), .val (.int (1 : Int32)), .val (.int d2), .val (.int d3), .val (.int d4), .val (.int (eqF (1 : Int32) nv)), .val (.int (eqF d2 nv)), .val (.int (eqF d3 nv)), .val (.int (eqF d4 nv))] [])) (fun t kt => ?_) ?_
                · refine XS.iconst X7.here hx rfl (hb hby at_263) ?_
                  show Steps p.tables e below (T7.setTop (mkF m 264 #[.val (.int p0), .val (.int p1), .val (.int p2), .val (.int p3), .val (.int p4), .val (.int nv), .val (.int prv), .val (.int s0), .val (.int s1), .val (.int s2), .val (.int s3), .val (.int s4), .val (.ref b1), .val (.int (1 : Int32)), .val (.int (1 : Int32)), .val (.int d2), .val (.int d3), .val (.int d4), .val (.int (eqF (1 : Int32) nv)), .val (.int (eqF d2 nv)), .val (.int (eqF d3 nv)), .val (.int (eqF d4 nv))] [(.int (1 : Int32))])) _
                  refine XS.goto X7.here hx rfl (pc0 := 264) (pc' := 268) rfl (hb hby at_264) (by decide) (by decide) ?_
                  show Steps p.tables e below (T7.setTop (mkF m 268 #[.val (.int p0), .val (.int p1), .val (.int p2), .val (.int p3), .val (.int p4), .val (.int nv), .val (.int prv), .val (.int s0), .val (.int s1), .val (.int s2), .val (.int s3), .val (.int s4), .val (.ref b1), .val (.int (1 : Int32)), .val (.int (1 : Int32)), .val (.int d2), .val (.int d3), .val (.int d4), .val (.int (eqF (1 : Int32) nv)), .val (.int (eqF d2 nv)), .val (.int (eqF d3 nv)), .val (.int (eqF d4 nv))] [(.int (1 : Int32))])) _
                  refine XS.istore X7.here hx rfl (hb hby at_268) rfl (l' := #[.val (.int p0), .val (.int p1), .val (.int p2), .val (.int p3), .val (.int p4), .val (.int nv), .val (.int prv), .val (.int s0), .val (.int s1), .val (.int s2), .val (.int s3), .val (.int s4), .val (.ref b1), .val (.int (1 : Int32)), .val (.int (1 : Int32)), .val (.int d2), .val (.int d3), .val (.int d4), .val (.int (eqF (1 : Int32) nv)), .val (.int (eqF d2 nv)), .val (.int (eqF d3 nv)), .val (.int (eqF d4 nv))]) rfl ?_
                  exact kt
                exact cx0 trivial
              · refine Goes.step (A := T7.setTop (mkF m 259 #[.val (.int p0), .val (.int p1), .val (.int p2), .val (.int p3), .val (.int p4), .val (.int nv), .val (.int prv), .val (.int s0), .val (.int s1), .val (.int s2), .val (.int s3), .val (.int s4), .val (.ref b1), .val (.int (1 : Int32)), .val (.int (1 : Int32)), .val (.int d2), .val (.int d3), .val (.int d4), .val (.int (eqF (1 : Int32) nv)), .val (.int (eqF d2 nv)), .val (.int (eqF d3 nv)), .val (.int (eqF d4 nv))] [(.int (eqF (1 : Int32) nv))])) (fun t kt => XS.icmpYes X7.here hx rfl (pc0 := 252) (pc' := 259) rfl (hb hby at_252) rfl (feq hc252_12).2 (by decide) (by decide) kt) ?_
                refine Goes.step (A := T7.setTop (mkF m 260 #[.val (.int p0), .val (.int p1), .val (.int p2), .val (.int p3), .val (.int p4), .val (.int nv), .val (.int prv), .val (.int s0), .val (.int s1), .val (.int s2), .val (.int s3), .val (.int s4), .val (.ref b1), .val (.int (1 : Int32)), .val (.int (1 : Int32)), .val (.int d2), .val (.int d3), .val (.int d4), .val (.int (eqF (1 : Int32) nv)), .val (.int (eqF d2 nv)), .val (.int (eqF d3 nv)), .val (.int (eqF d4 nv))] [(.int (0 : Int32)), (.int (eqF (1 : Int32) nv))])) (fun t kt => ?_) ?_
                · refine XS.iconst X7.here hx rfl (hb hby at_259) ?_
                  exact kt
                refine Goes.step (A := T7.setTop (mkF m 263 #[.val (.int p0), .val (.int p1), .val (.int p2), .val (.int p3), .val (.int p4), .val (.int nv), .val (.int prv), .val (.int s0), .val (.int s1), .val (.int s2), .val (.int s3), .val (.int s4), .val (.ref b1), .val (.int (1 : Int32)), .val (.int (1 : Int32)), .val (.int d2), .val (.int d3), .val (.int d4), .val (.int (eqF (1 : Int32) nv)), .val (.int (eqF d2 nv)), .val (.int (eqF d3 nv)), .val (.int (eqF d4 nv))] [])) (fun t kt => XS.icmpNo X7.here hx rfl (hb hby at_260) rfl (teq (by rw [eqF, if_neg hc252_12] : (eqF (1 : Int32) nv) = (0 : Int32))).2 kt) ?_
                refine Goes.step (A := T7.setTop (mkF m 270 #[.val (.int p0), .val (.int p1), .val (.int p2), .val (.int p3), .val (.int p4), .val (.int nv), .val (.int prv), .val (.int s0), .val (.int s1), .val (.int s2), .val (.int s3), .val (.int s4), .val (.ref b1), .val (.int (1 : Int32)), .val (.int (1 : Int32)), .val (.int d2), .val (.int d3), .val (.int d4), .val (.int (eqF (1 : Int32) nv)), .val (.int (eqF d2 nv)), .val (.int (eqF d3 nv)), .val (.int (eqF d4 nv))] [])) (fun t kt => ?_) ?_
                · refine XS.iconst X7.here hx rfl (hb hby at_263) ?_
                  show Steps p.tables e below (T7.setTop (mkF m 264 #[.val (.int p0), .val (.int p1), .val (.int p2), .val (.int p3), .val (.int p4), .val (.int nv), .val (.int prv), .val (.int s0), .val (.int s1), .val (.int s2), .val (.int s3), .val (.int s4), .val (.ref b1), .val (.int (1 : Int32)), .val (.int (1 : Int32)), .val (.int d2), .val (.int d3), .val (.int d4), .val (.int (eqF (1 : Int32) nv)), .val (.int (eqF d2 nv)), .val (.int (eqF d3 nv)), .val (.int (eqF d4 nv))] [(.int (1 : Int32))])) _
                  refine XS.goto X7.here hx rfl (pc0 := 264) (pc' := 268) rfl (hb hby at_264) (by decide) (by decide) ?_
                  show Steps p.tables e below (T7.setTop (mkF m 268 #[.val (.int p0), .val (.int p1), .val (.int p2), .val (.int p3), .val (.int p4), .val (.int nv), .val (.int prv), .val (.int s0), .val (.int s1), .val (.int s2), .val (.int s3), .val (.int s4), .val (.ref b1), .val (.int (1 : Int32)), .val (.int (1 : Int32)), .val (.int d2), .val (.int d3), .val (.int d4), .val (.int (eqF (1 : Int32) nv)), .val (.int (eqF d2 nv)), .val (.int (eqF d3 nv)), .val (.int (eqF d4 nv))] [(.int (1 : Int32))])) _
                  refine XS.istore X7.here hx rfl (hb hby at_268) rfl (l' := #[.val (.int p0), .val (.int p1), .val (.int p2), .val (.int p3), .val (.int p4), .val (.int nv), .val (.int prv), .val (.int s0), .val (.int s1), .val (.int s2), .val (.int s3), .val (.int s4), .val (.ref b1), .val (.int (1 : Int32)), .val (.int (1 : Int32)), .val (.int d2), .val (.int d3), .val (.int d4), .val (.int (eqF (1 : Int32) nv)), .val (.int (eqF d2 nv)), .val (.int (eqF d3 nv)), .val (.int (eqF d4 nv))]) rfl ?_
                  exact kt
                exact cx0 trivial
            by_cases hc177_13 : s4 = s1
            · refine Goes.step (A := T9.setTop (mkF m 194 #[.val (.int p0), .val (.int p1), .val (.int p2), .val (.int p3), .val (.int p4), .val (.int nv), .val (.int prv), .val (.int s0), .val (.int s1), .val (.int s2), .val (.int s3), .val (.int s4), .val (.ref b1), .val (.int (1 : Int32)), .val (.int (1 : Int32)), .val (.int d2), .val (.int d3), .unset, .unset, .unset, .unset, .unset] [])) (fun t kt => XS.icmpYes X9.here hx rfl (pc0 := 177) (pc' := 194) rfl (hb hby at_177) rfl (teq hc177_13).1 (by decide) (by decide) kt) ?_
              refine Goes.step (A := T9.setTop (mkF m 205 #[.val (.int p0), .val (.int p1), .val (.int p2), .val (.int p3), .val (.int p4), .val (.int nv), .val (.int prv), .val (.int s0), .val (.int s1), .val (.int s2), .val (.int s3), .val (.int s4), .val (.ref b1), .val (.int (1 : Int32)), .val (.int (1 : Int32)), .val (.int d2), .val (.int d3), .val (.int d3), .unset, .unset, .unset, .unset] [])) (fun t kt => ?_) ?_
              · refine XS.iload X9.here hx rfl (hb hby at_194) rfl ?_
                show Steps p.tables e below (T9.setTop (mkF m 196 #[.val (.int p0), .val (.int p1), .val (.int p2), .val (.int p3), .val (.int p4), .val (.int nv), .val (.int prv), .val (.int s0), .val (.int s1), .val (.int s2), .val (.int s3), .val (.int s4), .val (.ref b1), .val (.int (1 : Int32)), .val (.int (1 : Int32)), .val (.int d2), .val (.int d3), .unset, .unset, .unset, .unset, .unset] [(.int d3)])) _
                refine XS.goto X9.here hx rfl (pc0 := 196) (pc' := 203) rfl (hb hby at_196) (by decide) (by decide) ?_
                show Steps p.tables e below (T9.setTop (mkF m 203 #[.val (.int p0), .val (.int p1), .val (.int p2), .val (.int p3), .val (.int p4), .val (.int nv), .val (.int prv), .val (.int s0), .val (.int s1), .val (.int s2), .val (.int s3), .val (.int s4), .val (.ref b1), .val (.int (1 : Int32)), .val (.int (1 : Int32)), .val (.int d2), .val (.int d3), .unset, .unset, .unset, .unset, .unset] [(.int d3)])) _
                refine XS.istore X9.here hx rfl (hb hby at_203) rfl (l' := #[.val (.int p0), .val (.int p1), .val (.int p2), .val (.int p3), .val (.int p4), .val (.int nv), .val (.int prv), .val (.int s0), .val (.int s1), .val (.int s2), .val (.int s3), .val (.int s4), .val (.ref b1), .val (.int (1 : Int32)), .val (.int (1 : Int32)), .val (.int d2), .val (.int d3), .val (.int d3), .unset, .unset, .unset, .unset]) rfl ?_
                exact kt
              exact cD _ (by rw [if_pos (Or.inl hc177_13)])
            · refine Goes.step (A := T9.setTop (mkF m 180 #[.val (.int p0), .val (.int p1), .val (.int p2), .val (.int p3), .val (.int p4), .val (.int nv), .val (.int prv), .val (.int s0), .val (.int s1), .val (.int s2), .val (.int s3), .val (.int s4), .val (.ref b1), .val (.int (1 : Int32)), .val (.int (1 : Int32)), .val (.int d2), .val (.int d3), .unset, .unset, .unset, .unset, .unset] [])) (fun t kt => XS.icmpNo X9.here hx rfl (hb hby at_177) rfl (feq hc177_13).1 kt) ?_
              refine Goes.step (A := T9.setTop (mkF m 184 #[.val (.int p0), .val (.int p1), .val (.int p2), .val (.int p3), .val (.int p4), .val (.int nv), .val (.int prv), .val (.int s0), .val (.int s1), .val (.int s2), .val (.int s3), .val (.int s4), .val (.ref b1), .val (.int (1 : Int32)), .val (.int (1 : Int32)), .val (.int d2), .val (.int d3), .unset, .unset, .unset, .unset, .unset] [(.int s2), (.int s4)])) (fun t kt => ?_) ?_
              · refine XS.iload X9.here hx rfl (hb hby at_180) rfl ?_
                show Steps p.tables e below (T9.setTop (mkF m 182 #[.val (.int p0), .val (.int p1), .val (.int p2), .val (.int p3), .val (.int p4), .val (.int nv), .val (.int prv), .val (.int s0), .val (.int s1), .val (.int s2), .val (.int s3), .val (.int s4), .val (.ref b1), .val (.int (1 : Int32)), .val (.int (1 : Int32)), .val (.int d2), .val (.int d3), .unset, .unset, .unset, .unset, .unset] [(.int s4)])) _
                refine XS.iload X9.here hx rfl (hb hby at_182) rfl ?_
                exact kt
              by_cases hc184_14 : s4 = s2
              · refine Goes.step (A := T9.setTop (mkF m 194 #[.val (.int p0), .val (.int p1), .val (.int p2), .val (.int p3), .val (.int p4), .val (.int nv), .val (.int prv), .val (.int s0), .val (.int s1), .val (.int s2), .val (.int s3), .val (.int s4), .val (.ref b1), .val (.int (1 : Int32)), .val (.int (1 : Int32)), .val (.int d2), .val (.int d3), .unset, .unset, .unset, .unset, .unset] [])) (fun t kt => XS.icmpYes X9.here hx rfl (pc0 := 184) (pc' := 194) rfl (hb hby at_184) rfl (teq hc184_14).1 (by decide) (by decide) kt) ?_
                refine Goes.step (A := T9.setTop (mkF m 205 #[.val (.int p0), .val (.int p1), .val (.int p2), .val (.int p3), .val (.int p4), .val (.int nv), .val (.int prv), .val (.int s0), .val (.int s1), .val (.int s2), .val (.int s3), .val (.int s4), .val (.ref b1), .val (.int (1 : Int32)), .val (.int (1 : Int32)), .val (.int d2), .val (.int d3), .val (.int d3), .unset, .unset, .unset, .unset] [])) (fun t kt => ?_) ?_
                · refine XS.iload X9.here hx rfl (hb hby at_194) rfl ?_
                  show Steps p.tables e below (T9.setTop (mkF m 196 #[.val (.int p0), .val (.int p1), .val (.int p2), .val (.int p3), .val (.int p4), .val (.int nv), .val (.int prv), .val (.int s0), .val (.int s1), .val (.int s2), .val (.int s3), .val (.int s4), .val (.ref b1), .val (.int (1 : Int32)), .val (.int (1 : Int32)), .val (.int d2), .val (.int d3), .unset, .unset, .unset, .unset, .unset] [(.int d3)])) _
                  refine XS.goto X9.here hx rfl (pc0 := 196) (pc' := 203) rfl (hb hby at_196) (by decide) (by decide) ?_
                  show Steps p.tables e below (T9.setTop (mkF m 203 #[.val (.int p0), .val (.int p1), .val (.int p2), .val (.int p3), .val (.int p4), .val (.int nv), .val (.int prv), .val (.int s0), .val (.int s1), .val (.int s2), .val (.int s3), .val (.int s4), .val (.ref b1), .val (.int (1 : Int32)), .val (.int (1 : Int32)), .val (.int d2), .val (.int d3), .unset, .unset, .unset, .unset, .unset] [(.int d3)])) _
                  refine XS.istore X9.here hx rfl (hb hby at_203) rfl (l' := #[.val (.int p0), .val (.int p1), .val (.int p2), .val (.int p3), .val (.int p4), .val (.int nv), .val (.int prv), .val (.int s0), .val (.int s1), .val (.int s2), .val (.int s3), .val (.int s4), .val (.ref b1), .val (.int (1 : Int32)), .val (.int (1 : Int32)), .val (.int d2), .val (.int d3), .val (.int d3), .unset, .unset, .unset, .unset]) rfl ?_
                  exact kt
                exact cD _ (by rw [if_pos (Or.inr (Or.inl hc184_14))])
              · refine Goes.step (A := T9.setTop (mkF m 187 #[.val (.int p0), .val (.int p1), .val (.int p2), .val (.int p3), .val (.int p4), .val (.int nv), .val (.int prv), .val (.int s0), .val (.int s1), .val (.int s2), .val (.int s3), .val (.int s4), .val (.ref b1), .val (.int (1 : Int32)), .val (.int (1 : Int32)), .val (.int d2), .val (.int d3), .unset, .unset, .unset, .unset, .unset] [])) (fun t kt => XS.icmpNo X9.here hx rfl (hb hby at_184) rfl (feq hc184_14).1 kt) ?_
                refine Goes.step (A := T9.setTop (mkF m 191 #[.val (.int p0), .val (.int p1), .val (.int p2), .val (.int p3), .val (.int p4), .val (.int nv), .val (.int prv), .val (.int s0), .val (.int s1), .val (.int s2), .val (.int s3), .val (.int s4), .val (.ref b1), .val (.int (1 : Int32)), .val (.int (1 : Int32)), .val (.int d2), .val (.int d3), .unset, .unset, .unset, .unset, .unset] [(.int s3), (.int s4)])) (fun t kt => ?_) ?_
                · refine XS.iload X9.here hx rfl (hb hby at_187) rfl ?_
                  show Steps p.tables e below (T9.setTop (mkF m 189 #[.val (.int p0), .val (.int p1), .val (.int p2), .val (.int p3), .val (.int p4), .val (.int nv), .val (.int prv), .val (.int s0), .val (.int s1), .val (.int s2), .val (.int s3), .val (.int s4), .val (.ref b1), .val (.int (1 : Int32)), .val (.int (1 : Int32)), .val (.int d2), .val (.int d3), .unset, .unset, .unset, .unset, .unset] [(.int s4)])) _
                  refine XS.iload X9.here hx rfl (hb hby at_189) rfl ?_
                  exact kt
                by_cases hc191_15 : s4 = s3
                · refine Goes.step (A := T9.setTop (mkF m 194 #[.val (.int p0), .val (.int p1), .val (.int p2), .val (.int p3), .val (.int p4), .val (.int nv), .val (.int prv), .val (.int s0), .val (.int s1), .val (.int s2), .val (.int s3), .val (.int s4), .val (.ref b1), .val (.int (1 : Int32)), .val (.int (1 : Int32)), .val (.int d2), .val (.int d3), .unset, .unset, .unset, .unset, .unset] [])) (fun t kt => XS.icmpNo X9.here hx rfl (hb hby at_191) rfl (teq hc191_15).2 kt) ?_
                  refine Goes.step (A := T9.setTop (mkF m 205 #[.val (.int p0), .val (.int p1), .val (.int p2), .val (.int p3), .val (.int p4), .val (.int nv), .val (.int prv), .val (.int s0), .val (.int s1), .val (.int s2), .val (.int s3), .val (.int s4), .val (.ref b1), .val (.int (1 : Int32)), .val (.int (1 : Int32)), .val (.int d2), .val (.int d3), .val (.int d3), .unset, .unset, .unset, .unset] [])) (fun t kt => ?_) ?_
                  · refine XS.iload X9.here hx rfl (hb hby at_194) rfl ?_
                    show Steps p.tables e below (T9.setTop (mkF m 196 #[.val (.int p0), .val (.int p1), .val (.int p2), .val (.int p3), .val (.int p4), .val (.int nv), .val (.int prv), .val (.int s0), .val (.int s1), .val (.int s2), .val (.int s3), .val (.int s4), .val (.ref b1), .val (.int (1 : Int32)), .val (.int (1 : Int32)), .val (.int d2), .val (.int d3), .unset, .unset, .unset, .unset, .unset] [(.int d3)])) _
                    refine XS.goto X9.here hx rfl (pc0 := 196) (pc' := 203) rfl (hb hby at_196) (by decide) (by decide) ?_
                    show Steps p.tables e below (T9.setTop (mkF m 203 #[.val (.int p0), .val (.int p1), .val (.int p2), .val (.int p3), .val (.int p4), .val (.int nv), .val (.int prv), .val (.int s0), .val (.int s1), .val (.int s2), .val (.int s3), .val (.int s4), .val (.ref b1), .val (.int (1 : Int32)), .val (.int (1 : Int32)), .val (.int d2), .val (.int d3), .unset, .unset, .unset, .unset, .unset] [(.int d3)])) _
                    refine XS.istore X9.here hx rfl (hb hby at_203) rfl (l' := #[.val (.int p0), .val (.int p1), .val (.int p2), .val (.int p3), .val (.int p4), .val (.int nv), .val (.int prv), .val (.int s0), .val (.int s1), .val (.int s2), .val (.int s3), .val (.int s4), .val (.ref b1), .val (.int (1 : Int32)), .val (.int (1 : Int32)), .val (.int d2), .val (.int d3), .val (.int d3), .unset, .unset, .unset, .unset]) rfl ?_
                    exact kt
                  exact cD _ (by rw [if_pos (Or.inr (Or.inr hc191_15))])
                · refine Goes.step (A := T9.setTop (mkF m 199 #[.val (.int p0), .val (.int p1), .val (.int p2), .val (.int p3), .val (.int p4), .val (.int nv), .val (.int prv), .val (.int s0), .val (.int s1), .val (.int s2), .val (.int s3), .val (.int s4), .val (.ref b1), .val (.int (1 : Int32)), .val (.int (1 : Int32)), .val (.int d2), .val (.int d3), .unset, .unset, .unset, .unset, .unset] [])) (fun t kt => XS.icmpYes X9.here hx rfl (pc0 := 191) (pc' := 199) rfl (hb hby at_191) rfl (feq hc191_15).2 (by decide) (by decide) kt) ?_
                  refine Goes.step (A := T9.setTop (mkF m 205 #[.val (.int p0), .val (.int p1), .val (.int p2), .val (.int p3), .val (.int p4), .val (.int nv), .val (.int prv), .val (.int s0), .val (.int s1), .val (.int s2), .val (.int s3), .val (.int s4), .val (.ref b1), .val (.int (1 : Int32)), .val (.int (1 : Int32)), .val (.int d2), .val (.int d3), .val (.int (d3 + (1 : Int32))), .unset, .unset, .unset, .unset] [])) (fun t kt => ?_) ?_
                  · refine XS.iload X9.here hx rfl (hb hby at_199) rfl ?_
                    show Steps p.tables e below (T9.setTop (mkF m 201 #[.val (.int p0), .val (.int p1), .val (.int p2), .val (.int p3), .val (.int p4), .val (.int nv), .val (.int prv), .val (.int s0), .val (.int s1), .val (.int s2), .val (.int s3), .val (.int s4), .val (.ref b1), .val (.int (1 : Int32)), .val (.int (1 : Int32)), .val (.int d2), .val (.int d3), .unset, .unset, .unset, .unset, .unset] [(.int d3)])) _
                    refine XS.iconst X9.here hx rfl (hb hby at_201) ?_
                    show Steps p.tables e below (T9.setTop (mkF m 202 #[.val (.int p0), .val (.int p1), .val (.int p2), .val (.int p3), .val (.int p4), .val (.int nv), .val (.int prv), .val (.int s0), .val (.int s1), .val (.int s2), .val (.int s3), .val (.int s4), .val (.ref b1), .val (.int (1 : Int32)), .val (.int (1 : Int32)), .val (.int d2), .val (.int d3), .unset, .unset, .unset, .unset, .unset] [(.int (1 : Int32)), (.int d3)])) _
                    refine XS.iadd X9.here hx rfl (hb hby at_202) rfl ?_
                    show Steps p.tables e below (T9.setTop (mkF m 203 #[.val (.int p0), .val (.int p1), .val (.int p2), .val (.int p3), .val (.int p4), .val (.int nv), .val (.int prv), .val (.int s0), .val (.int s1), .val (.int s2), .val (.int s3), .val (.int s4), .val (.ref b1), .val (.int (1 : Int32)), .val (.int (1 : Int32)), .val (.int d2), .val (.int d3), .unset, .unset, .unset, .unset, .unset] [(.int (d3 + (1 : Int32)))])) _
                    refine XS.istore X9.here hx rfl (hb hby at_203) rfl (l' := #[.val (.int p0), .val (.int p1), .val (.int p2), .val (.int p3), .val (.int p4), .val (.int nv), .val (.int prv), .val (.int s0), .val (.int s1), .val (.int s2), .val (.int s3), .val (.int s4), .val (.ref b1), .val (.int (1 : Int32)), .val (.int (1 : Int32)), .val (.int d2), .val (.int d3), .val (.int (d3 + (1 : Int32))), .unset, .unset, .unset, .unset]) rfl ?_
                    exact kt
                  exact cD _ (by rw [if_neg (fun q => q.elim hc177_13 (fun q => q.elim hc184_14 hc191_15))])
          by_cases hc152_16 : s3 = s1
          · refine Goes.step (A := T9.setTop (mkF m 162 #[.val (.int p0), .val (.int p1), .val (.int p2), .val (.int p3), .val (.int p4), .val (.int nv), .val (.int prv), .val (.int s0), .val (.int s1), .val (.int s2), .val (.int s3), .val (.int s4), .val (.ref b1), .val (.int (1 : Int32)), .val (.int (1 : Int32)), .val (.int d2), .unset, .unset, .unset, .unset, .unset, .unset] [])) (fun t kt => XS.icmpYes X9.here hx rfl (pc0 := 152) (pc' := 162) rfl (hb hby at_152) rfl (teq hc152_16).1 (by decide) (by decide) kt) ?_
            refine Goes.step (A := T9.setTop (mkF m 173 #[.val (.int p0), .val (.int p1), .val (.int p2), .val (.int p3), .val (.int p4), .val (.int nv), .val (.int prv), .val (.int s0), .val (.int s1), .val (.int s2), .val (.int s3), .val (.int s4), .val (.ref b1), .val (.int (1 : Int32)), .val (.int (1 : Int32)), .val (.int d2), .val (.int d2), .unset, .unset, .unset, .unset, .unset] [])) (fun t kt => ?_) ?_
            · refine XS.iload X9.here hx rfl (hb hby at_162) rfl ?_
              show Steps p.tables e below (T9.setTop (mkF m 164 #[.val (.int p0), .val (.int p1), .val (.int p2), .val (.int p3), .val (.int p4), .val (.int nv), .val (.int prv), .val (.int s0), .val (.int s1), .val (.int s2), .val (.int s3), .val (.int s4), .val (.ref b1), .val (.int (1 : Int32)), .val (.int (1 : Int32)), .val (.int d2), .unset, .unset, .unset, .unset, .unset, .unset] [(.int d2)])) _
              refine XS.goto X9.here hx rfl (pc0 := 164) (pc' := 171) rfl (hb hby at_164) (by decide) (by decide) ?_
              show Steps p.tables e below (T9.setTop (mkF m 171 #[.val (.int p0), .val (.int p1), .val (.int p2), .val (.int p3), .val (.int p4), .val (.int nv), .val (.int prv), .val (.int s0), .val (.int s1), .val (.int s2), .val (.int s3), .val (.int s4), .val (.ref b1), .val (.int (1 : Int32)), .val (.int (1 : Int32)), .val (.int d2), .unset, .unset, .unset, .unset, .unset, .unset] [(.int d2)])) _
              refine XS.istore X9.here hx rfl (hb hby at_171) rfl (l' := #[.val (.int p0), .val (.int p1), .val (.int p2), .val (.int p3), .val (.int p4), .val (.int nv), .val (.int prv), .val (.int s0), .val (.int s1), .val (.int s2), .val (.int s3), .val (.int s4), .val (.ref b1), .val (.int (1 : Int32)), .val (.int (1 : Int32)), .val (.int d2), .val (.int d2), .unset, .unset, .unset, .unset, .unset]) rfl ?_
              exact kt
            exact cC _ (by rw [if_pos (Or.inl hc152_16)])
          · refine Goes.step (A := T9.setTop (mkF m 155 #[.val (.int p0), .val (.int p1), .val (.int p2), .val (.int p3), .val (.int p4), .val (.int nv), .val (.int prv), .val (.int s0), .val (.int s1), .val (.int s2), .val (.int s3), .val (.int s4), .val (.ref b1), .val (.int (1 : Int32)), .val (.int (1 : Int32)), .val (.int d2), .unset, .unset, .unset, .unset, .unset, .unset] [])) (fun t kt => XS.icmpNo X9.here hx rfl (hb hby at_152) rfl (feq hc152_16).1 kt) ?_
            refine Goes.step (A := T9.setTop (mkF m 159 #[.val (.int p0), .val (.int p1), .val (.int p2), .val (.int p3), .val (.int p4), .val (.int nv), .val (.int prv), .val (.int s0), .val (.int s1), .val (.int s2), .val (.int s3), .val (.int s4), .val (.ref b1), .val (.int (1 : Int32)), .val (.int (1 : Int32)), .val (.int d2), .unset, .unset, .unset, .unset, .unset, .unset] [(.int s2), (.int s3)])) (fun t kt => ?_) ?_
            · refine XS.iload X9.here hx rfl (hb hby at_155) rfl ?_
              show Steps p.tables e below (T9.setTop (mkF m 157 #[.val (.int p0), .val (.int p1), .val (.int p2), .val (.int p3), .val (.int p4), .val (.int nv), .val (.int prv), .val (.int s0), .val (.int s1), .val (.int s2), .val (.int s3), .val (.int s4), .val (.ref b1), .val (.int (1 : Int32)), .val (.int (1 : Int32)), .val (.int d2), .unset, .unset, .unset, .unset, .unset, .unset] [(.int s3)])) _
              refine XS.iload X9.here hx rfl (hb hby at_157) rfl ?_
              exact kt
            by_cases hc159_17 : s3 = s2
            · refine Goes.step (A := T9.setTop (mkF m 162 #[.val (.int p0), .val (.int p1), .val (.int p2), .val (.int p3), .val (.int p4), .val (.int nv), .val (.int prv), .val (.int s0), .val (.int s1), .val (.int s2), .val (.int s3), .val (.int s4), .val (.ref b1), .val (.int (1 : Int32)), .val (.int (1 : Int32)), .val (.int d2), .unset, .unset, .unset, .unset, .unset, .unset] [])) (fun t kt => XS.icmpNo X9.here hx rfl (hb hby at_159) rfl (teq hc159_17).2 kt) ?_
              refine Goes.step (A := T9.setTop (mkF m 173 #[.val (.int p0), .val (.int p1), .val (.int p2), .val (.int p3), .val (.int p4), .val (.int nv), .val (.int prv), .val (.int s0), .val (.int s1), .val (.int s2), .val (.int s3), .val (.int s4), .val (.ref b1), .val (.int (1 : Int32)), .val (.int (1 : Int32)), .val (.int d2), .val (.int d2), .unset, .unset, .unset, .unset, .unset] [])) (fun t kt => ?_) ?_
              · refine XS.iload X9.here hx rfl (hb hby at_162) rfl ?_
                show Steps p.tables e below (T9.setTop (mkF m 164 #[.val (.int p0), .val (.int p1), .val (.int p2), .val (.int p3), .val (.int p4), .val (.int nv), .val (.int prv), .val (.int s0), .val (.int s1), .val (.int s2), .val (.int s3), .val (.int s4), .val (.ref b1), .val (.int (1 : Int32)), .val (.int (1 : Int32)), .val (.int d2), .unset, .unset, .unset, .unset, .unset, .unset] [(.int d2)])) _
                refine XS.goto X9.here hx rfl (pc0 := 164) (pc' := 171) rfl (hb hby at_164) (by decide) (by decide) ?_
                show Steps p.tables e below (T9.setTop (mkF m 171 #[.val (.int p0), .val (.int p1), .val (.int p2), .val (.int p3), .val (.int p4), .val (.int nv), .val (.int prv), .val (.int s0), .val (.int s1), .val (.int s2), .val (.int s3), .val (.int s4), .val (.ref b1), .val (.int (1 : Int32)), .val (.int (1 : Int32)), .val (.int d2), .unset, .unset, .unset, .unset, .unset, .unset] [(.int d2)])) _
                refine XS.istore X9.here hx rfl (hb hby at_171) rfl (l' := #[.val (.int p0), .val (.int p1), .val (.int p2), .val (.int p3), .val (.int p4), .val (.int nv), .val (.int prv), .val (.int s0), .val (.int s1), .val (.int s2), .val (.int s3), .val (.int s4), .val (.ref b1), .val (.int (1 : Int32)), .val (.int (1 : Int32)), .val (.int d2), .val (.int d2), .unset, .unset, .unset, .unset, .unset]) rfl ?_
                exact kt
              exact cC _ (by rw [if_pos (Or.inr hc159_17)])
            · refine Goes.step (A := T9.setTop (mkF m 167 #[.val (.int p0), .val (.int p1), .val (.int p2), .val (.int p3), .val (.int p4), .val (.int nv), .val (.int prv), .val (.int s0), .val (.int s1), .val (.int s2), .val (.int s3), .val (.int s4), .val (.ref b1), .val (.int (1 : Int32)), .val (.int (1 : Int32)), .val (.int d2), .unset, .unset, .unset, .unset, .unset, .unset] [])) (fun t kt => XS.icmpYes X9.here hx rfl (pc0 := 159) (pc' := 167) rfl (hb hby at_159) rfl (feq hc159_17).2 (by decide) (by decide) kt) ?_
              refine Goes.step (A := T9.setTop (mkF m 173 #[.val (.int p0), .val (.int p1), .val (.int p2), .val (.int p3), .val (.int p4), .val (.int nv), .val (.int prv), .val (.int s0), .val (.int s1), .val (.int s2), .val (.int s3), .val (.int s4), .val (.ref b1), .val (.int (1 : Int32)), .val (.int (1 : Int32)), .val (.int d2), .val (.int (d2 + (1 : Int32))), .unset, .unset, .unset, .unset, .unset] [])) (fun t kt => ?_) ?_
              · refine XS.iload X9.here hx rfl (hb hby at_167) rfl ?_
                show Steps p.tables e below (T9.setTop (mkF m 169 #[.val (.int p0), .val (.int p1), .val (.int p2), .val (.int p3), .val (.int p4), .val (.int nv), .val (.int prv), .val (.int s0), .val (.int s1), .val (.int s2), .val (.int s3), .val (.int s4), .val (.ref b1), .val (.int (1 : Int32)), .val (.int (1 : Int32)), .val (.int d2), .unset, .unset, .unset, .unset, .unset, .unset] [(.int d2)])) _
                refine XS.iconst X9.here hx rfl (hb hby at_169) ?_
                show Steps p.tables e below (T9.setTop (mkF m 170 #[.val (.int p0), .val (.int p1), .val (.int p2), .val (.int p3), .val (.int p4), .val (.int nv), .val (.int prv), .val (.int s0), .val (.int s1), .val (.int s2), .val (.int s3), .val (.int s4), .val (.ref b1), .val (.int (1 : Int32)), .val (.int (1 : Int32)), .val (.int d2), .unset, .unset, .unset, .unset, .unset, .unset] [(.int (1 : Int32)), (.int d2)])) _
                refine XS.iadd X9.here hx rfl (hb hby at_170) rfl ?_
                show Steps p.tables e below (T9.setTop (mkF m 171 #[.val (.int p0), .val (.int p1), .val (.int p2), .val (.int p3), .val (.int p4), .val (.int nv), .val (.int prv), .val (.int s0), .val (.int s1), .val (.int s2), .val (.int s3), .val (.int s4), .val (.ref b1), .val (.int (1 : Int32)), .val (.int (1 : Int32)), .val (.int d2), .unset, .unset, .unset, .unset, .unset, .unset] [(.int (d2 + (1 : Int32)))])) _
                refine XS.istore X9.here hx rfl (hb hby at_171) rfl (l' := #[.val (.int p0), .val (.int p1), .val (.int p2), .val (.int p3), .val (.int p4), .val (.int nv), .val (.int prv), .val (.int s0), .val (.int s1), .val (.int s2), .val (.int s3), .val (.int s4), .val (.ref b1), .val (.int (1 : Int32)), .val (.int (1 : Int32)), .val (.int d2), .val (.int (d2 + (1 : Int32))), .unset, .unset, .unset, .unset, .unset]) rfl ?_
                exact kt
              exact cC _ (by rw [if_neg (fun q => q.elim hc152_16 hc159_17)])
        by_cases hc134_18 : s2 = s1
        · refine Goes.step (A := T9.setTop (mkF m 137 #[.val (.int p0), .val (.int p1), .val (.int p2), .val (.int p3), .val (.int p4), .val (.int nv), .val (.int prv), .val (.int s0), .val (.int s1), .val (.int s2), .val (.int s3), .val (.int s4), .val (.ref b1), .val (.int (1 : Int32)), .val (.int (1 : Int32)), .unset, .unset, .unset, .unset, .unset, .unset, .unset] [])) (fun t kt => XS.icmpNo X9.here hx rfl (hb hby at_134) rfl (teq hc134_18).2 kt) ?_
          refine Goes.step (A := T9.setTop (mkF m 148 #[.val (.int p0), .val (.int p1), .val (.int p2), .val (.int p3), .val (.int p4), .val (.int nv), .val (.int prv), .val (.int s0), .val (.int s1), .val (.int s2), .val (.int s3), .val (.int s4), .val (.ref b1), .val (.int (1 : Int32)), .val (.int (1 : Int32)), .val (.int (1 : Int32)), .unset, .unset, .unset, .unset, .unset, .unset] [])) (fun t kt => ?_) ?_
          · refine XS.iload X9.here hx rfl (hb hby at_137) rfl ?_
            show Steps p.tables e below (T9.setTop (mkF m 139 #[.val (.int p0), .val (.int p1), .val (.int p2), .val (.int p3), .val (.int p4), .val (.int nv), .val (.int prv), .val (.int s0), .val (.int s1), .val (.int s2), .val (.int s3), .val (.int s4), .val (.ref b1), .val (.int (1 : Int32)), .val (.int (1 : Int32)), .unset, .unset, .unset, .unset, .unset, .unset, .unset] [(.int (1 : Int32))])) _
            refine XS.goto X9.here hx rfl (pc0 := 139) (pc' := 146) rfl (hb hby at_139) (by decide) (by decide) ?_
            show Steps p.tables e below (T9.setTop (mkF m 146 #[.val (.int p0), .val (.int p1), .val (.int p2), .val (.int p3), .val (.int p4), .val (.int nv), .val (.int prv), .val (.int s0), .val (.int s1), .val (.int s2), .val (.int s3), .val (.int s4), .val (.ref b1), .val (.int (1 : Int32)), .val (.int (1 : Int32)), .unset, .unset, .unset, .unset, .unset, .unset, .unset] [(.int (1 : Int32))])) _
            refine XS.istore X9.here hx rfl (hb hby at_146) rfl (l' := #[.val (.int p0), .val (.int p1), .val (.int p2), .val (.int p3), .val (.int p4), .val (.int nv), .val (.int prv), .val (.int s0), .val (.int s1), .val (.int s2), .val (.int s3), .val (.int s4), .val (.ref b1), .val (.int (1 : Int32)), .val (.int (1 : Int32)), .val (.int (1 : Int32)), .unset, .unset, .unset, .unset, .unset, .unset]) rfl ?_
            exact kt
          exact cB _ (by rw [if_pos hc134_18])
        · refine Goes.step (A := T9.setTop (mkF m 142 #[.val (.int p0), .val (.int p1), .val (.int p2), .val (.int p3), .val (.int p4), .val (.int nv), .val (.int prv), .val (.int s0), .val (.int s1), .val (.int s2), .val (.int s3), .val (.int s4), .val (.ref b1), .val (.int (1 : Int32)), .val (.int (1 : Int32)), .unset, .unset, .unset, .unset, .unset, .unset, .unset] [])) (fun t kt => XS.icmpYes X9.here hx rfl (pc0 := 134) (pc' := 142) rfl (hb hby at_134) rfl (feq hc134_18).2 (by decide) (by decide) kt) ?_
          refine Goes.step (A := T9.setTop (mkF m 148 #[.val (.int p0), .val (.int p1), .val (.int p2), .val (.int p3), .val (.int p4), .val (.int nv), .val (.int prv), .val (.int s0), .val (.int s1), .val (.int s2), .val (.int s3), .val (.int s4), .val (.ref b1), .val (.int (1 : Int32)), .val (.int (1 : Int32)), .val (.int ((1 : Int32) + (1 : Int32))), .unset, .unset, .unset, .unset, .unset, .unset] [])) (fun t kt => ?_) ?_
          · refine XS.iload X9.here hx rfl (hb hby at_142) rfl ?_
            show Steps p.tables e below (T9.setTop (mkF m 144 #[.val (.int p0), .val (.int p1), .val (.int p2), .val (.int p3), .val (.int p4), .val (.int nv), .val (.int prv), .val (.int s0), .val (.int s1), .val (.int s2), .val (.int s3), .val (.int s4), .val (.ref b1), .val (.int (1 : Int32)), .val (.int (1 : Int32)), .unset, .unset, .unset, .unset, .unset, .unset, .unset] [(.int (1 : Int32))])) _
            refine XS.iconst X9.here hx rfl (hb hby at_144) ?_
            show Steps p.tables e below (T9.setTop (mkF m 145 #[.val (.int p0), .val (.int p1), .val (.int p2), .val (.int p3), .val (.int p4), .val (.int nv), .val (.int prv), .val (.int s0), .val (.int s1), .val (.int s2), .val (.int s3), .val (.int s4), .val (.ref b1), .val (.int (1 : Int32)), .val (.int (1 : Int32)), .unset, .unset, .unset, .unset, .unset, .unset, .unset] [(.int (1 : Int32)), (.int (1 : Int32))])) _
            refine XS.iadd X9.here hx rfl (hb hby at_145) rfl ?_
            show Steps p.tables e below (T9.setTop (mkF m 146 #[.val (.int p0), .val (.int p1), .val (.int p2), .val (.int p3), .val (.int p4), .val (.int nv), .val (.int prv), .val (.int s0), .val (.int s1), .val (.int s2), .val (.int s3), .val (.int s4), .val (.ref b1), .val (.int (1 : Int32)), .val (.int (1 : Int32)), .unset, .unset, .unset, .unset, .unset, .unset, .unset] [(.int ((1 : Int32) + (1 : Int32)))])) _
            refine XS.istore X9.here hx rfl (hb hby at_146) rfl (l' := #[.val (.int p0), .val (.int p1), .val (.int p2), .val (.int p3), .val (.int p4), .val (.int nv), .val (.int prv), .val (.int s0), .val (.int s1), .val (.int s2), .val (.int s3), .val (.int s4), .val (.ref b1), .val (.int (1 : Int32)), .val (.int (1 : Int32)), .val (.int ((1 : Int32) + (1 : Int32))), .unset, .unset, .unset, .unset, .unset, .unset]) rfl ?_
            exact kt
          exact cB _ (by rw [if_neg hc134_18])
      by_cases hc86_19 : prv = (0 : Int32)
      · refine Goes.step (A := T3.setTop (mkF m 127 #[.val (.int p0), .val (.int p1), .val (.int p2), .val (.int p3), .val (.int p4), .val (.int nv), .val (.int prv), .val (.int s0), .val (.int s1), .val (.int s2), .val (.int s3), .val (.int s4), .val (.ref b1), .val (.int (1 : Int32)), .unset, .unset, .unset, .unset, .unset, .unset, .unset, .unset] [])) (fun t kt => XS.ifYes X3.here hx rfl (pc0 := 86) (pc' := 127) rfl (hb hby at_86) rfl ((if0 _ _).trans (teq hc86_19).1) (by decide) (by decide) kt) ?_
        exact cA _ _ X3 N3 _ _ S3 (own_free1 _)
      · refine Goes.step (A := T3.setTop (mkF m 89 #[.val (.int p0), .val (.int p1), .val (.int p2), .val (.int p3), .val (.int p4), .val (.int nv), .val (.int prv), .val (.int s0), .val (.int s1), .val (.int s2), .val (.int s3), .val (.int s4), .val (.ref b1), .val (.int (1 : Int32)), .unset, .unset, .unset, .unset, .unset, .unset, .unset, .unset] [])) (fun t kt => XS.ifNo X3.here hx rfl (hb hby at_86) rfl ((if0 _ _).trans (feq hc86_19).1) kt) ?_
        refine Goes.step (A := T3.setTop (mkF m 91 #[.val (.int p0), .val (.int p1), .val (.int p2), .val (.int p3), .val (.int p4), .val (.int nv), .val (.int prv), .val (.int s0), .val (.int s1), .val (.int s2), .val (.int s3), .val (.int s4), .val (.ref b1), .val (.int (1 : Int32)), .unset, .unset, .unset, .unset, .unset, .unset, .unset, .unset] [(.int (1 : Int32))])) (fun t kt => ?_) ?_
        · refine XS.iload X3.here hx rfl (hb hby at_89) rfl ?_
          exact kt
        refine Goes.step (A := T3.setTop (mkF m 94 #[.val (.int p0), .val (.int p1), .val (.int p2), .val (.int p3), .val (.int p4), .val (.int nv), .val (.int prv), .val (.int s0), .val (.int s1), .val (.int s2), .val (.int s3), .val (.int s4), .val (.ref b1), .val (.int (1 : Int32)), .unset, .unset, .unset, .unset, .unset, .unset, .unset, .unset] [])) (fun t kt => XS.ifNo X3.here hx rfl (hb hby at_91) rfl ((if0 _ _).trans (feq ((by decide) : ¬ ((1 : Int32) = (0 : Int32)))).1) kt) ?_
        refine Goes.step (A := T3.setTop (mkF m 98 #[.val (.int p0), .val (.int p1), .val (.int p2), .val (.int p3), .val (.int p4), .val (.int nv), .val (.int prv), .val (.int s0), .val (.int s1), .val (.int s2), .val (.int s3), .val (.int s4), .val (.ref b1), .val (.int (1 : Int32)), .unset, .unset, .unset, .unset, .unset, .unset, .unset, .unset] [(.int s0), (.ref b1)])) (fun t kt => ?_) ?_
        · refine XS.aload X3.here hx rfl (hb hby at_94) rfl rfl ?_
          show Steps p.tables e below (T3.setTop (mkF m 96 #[.val (.int p0), .val (.int p1), .val (.int p2), .val (.int p3), .val (.int p4), .val (.int nv), .val (.int prv), .val (.int s0), .val (.int s1), .val (.int s2), .val (.int s3), .val (.int s4), .val (.ref b1), .val (.int (1 : Int32)), .unset, .unset, .unset, .unset, .unset, .unset, .unset, .unset] [(.ref b1)])) _
          refine XS.iload X3.here hx rfl (hb hby at_96) rfl ?_
          exact kt
        obtain ⟨cq12, kq12, q12a, q12b, q12c⟩ := isOf hZ rfl S3.1
        obtain ⟨_, _, ⟨T12, L12, k12, n12⟩, -, X12, ⟨Lc12, hQ12, l12, y12, z12⟩, st12⟩ := X3.virtualBack hx (y := (⟨"com/example/shardwright/shardwright/recommend/SitesToTry", "take", "(I)Z"⟩ : MethodName)) (z := (⟨"com/example/shardwright/shardwright/recommend/SitesToTry", "take", "(I)Z"⟩ : MethodName)) hown (mvT hZ (hw _ (List.mem_of_getElem? (i := 27) rfl))) (mvT hZ (hw _ (List.mem_of_getElem? (i := 28) rfl))) (notFace_of_selects (args := #[]) (mvT hZ (hw _ (List.mem_of_getElem? (i := 30) rfl)))) (mvT hZ (hw _ (List.mem_of_getElem? (i := 30) rfl))) (mvT hZ (hw _ (List.mem_of_getElem? (i := 29) rfl))) (by decide) (backOf (W := 0) (rm4 l Z a0 hw [] b1 s0 a1_2 a2_2 nv ((0 : Int32) + (1 : Int32)) (0 : Int32) (fun _ => 0) T3.heap n0 Z3 S3 gb_b1 ga1_2 ga2_2 r0 (fun _ => hpos)) hZ (hw _ (List.mem_of_getElem? (i := 31) rfl)) (hw _ (List.mem_of_getElem? (i := 3) rfl)) (by decide) (by decide)) q12a q12c (g := (mkF m 98 #[.val (.int p0), .val (.int p1), .val (.int p2), .val (.int p3), .val (.int p4), .val (.int nv), .val (.int prv), .val (.int s0), .val (.int s1), .val (.int s2), .val (.int s3), .val (.int s4), .val (.ref b1), .val (.int (1 : Int32)), .unset, .unset, .unset, .unset, .unset, .unset, .unset, .unset] [(.int s0), (.ref b1)])) rfl (by rw [hml]; rfl) (Steps.refl _) (argsL := [(.int s0)]) (rest := []) (lenOf pd_0 rfl) rfl (by show 2 * 0 + _ ≤ _; exact Nat.le_of_eq rfl) (hb hby at_98) (fun _ _ => ⟨rfl, rfl, (by decide : 3 + 0 ≤ _), (by decide : 13 + 0 ≤ _)⟩)
        dsimp only [Pt.U, Pt.locs, Pt.cells, Pt.slots] at X12 l12 y12 z12 st12 hQ12
        subst l12 y12 z12
        have hQ12' := hQ12
        unfold Q4 at hQ12'
        rw [own_pre1 s0] at hQ12'
        clear hQ12
        have hQ12 := hQ12'
        clear hQ12'
        obtain ⟨rfl, N12q, S12⟩ := hQ12
        have N12 := Fr.app N3 N12q
        refine Goes.step (A := T12.setTop (mkF m 101 #[.val (.int p0), .val (.int p1), .val (.int p2), .val (.int p3), .val (.int p4), .val (.int nv), .val (.int prv), .val (.int s0), .val (.int s1), .val (.int s2), .val (.int s3), .val (.int s4), .val (.ref b1), .val (.int (1 : Int32)), .unset, .unset, .unset, .unset, .unset, .unset, .unset, .unset] [(.int (eqF (1 : Int32) nv))])) (fun t kt => st12.trans kt) ?_
        have Z12 : n0 ≤ T12.heap.size := Nat.le_trans gb_b1 (Nat.le_of_lt S12.1.lt)
        refine Goes.step (A := T12.setTop (mkF m 104 #[.val (.int p0), .val (.int p1), .val (.int p2), .val (.int p3), .val (.int p4), .val (.int nv), .val (.int prv), .val (.int s0), .val (.int s1), .val (.int s2), .val (.int s3), .val (.int s4), .val (.ref b1), .val (.int (1 : Int32)), .unset, .unset, .unset, .unset, .unset, .unset, .unset, .unset] [(.int (1 : Int32)), (.int nv), (.int (eqF (1 : Int32) nv))])) (fun t kt => ?_) ?_
        · refine XS.iload X12.here hx rfl (hb hby at_101) rfl ?_
          show Steps p.tables e below (T12.setTop (mkF m 103 #[.val (.int p0), .val (.int p1), .val (.int p2), .val (.int p3), .val (.int p4), .val (.int nv), .val (.int prv), .val (.int s0), .val (.int s1), .val (.int s2), .val (.int s3), .val (.int s4), .val (.ref b1), .val (.int (1 : Int32)), .unset, .unset, .unset, .unset, .unset, .unset, .unset, .unset] [(.int nv), (.int (eqF (1 : Int32) nv))])) _
          refine XS.iconst X12.here hx rfl (hb hby at_103) ?_
          exact kt
        by_cases hc104_20 : nv = (1 : Int32)
        · refine Goes.step (A := T12.setTop (mkF m 107 #[.val (.int p0), .val (.int p1), .val (.int p2), .val (.int p3), .val (.int p4), .val (.int nv), .val (.int prv), .val (.int s0), .val (.int s1), .val (.int s2), .val (.int s3), .val (.int s4), .val (.ref b1), .val (.int (1 : Int32)), .unset, .unset, .unset, .unset, .unset, .unset, .unset, .unset] [(.int (eqF (1 : Int32) nv))])) (fun t kt => XS.icmpNo X12.here hx rfl (hb hby at_104) rfl (teq hc104_20).2 kt) ?_
          refine Goes.step (A := T12.setTop (mkF m 112 #[.val (.int p0), .val (.int p1), .val (.int p2), .val (.int p3), .val (.int p4), .val (.int nv), .val (.int prv), .val (.int s0), .val (.int s1), .val (.int s2), .val (.int s3), .val (.int s4), .val (.ref b1), .val (.int (1 : Int32)), .unset, .unset, .unset, .unset, .unset, .unset, .unset, .unset] [(.int (1 : Int32)), (.int (eqF (1 : Int32) nv))])) (fun t kt => ?_) ?_
          · refine XS.iconst X12.here hx rfl (hb hby at_107) ?_
            show Steps p.tables e below (T12.setTop (mkF m 108 #[.val (.int p0), .val (.int p1), .val (.int p2), .val (.int p3), .val (.int p4), .val (.int nv), .val (.int prv), .val (.int s0), .val (.int s1), .val (.int s2), .val (.int s3), .val (.int s4), .val (.ref b1), .val (.int (1 : Int32)), .unset, .unset, .unset, .unset, .unset, .unset, .unset, .unset] [(.int (1 : Int32)), (.int (eqF (1 : Int32) nv))])) _
            refine XS.goto X12.here hx rfl (pc0 := 108) (pc' := 112) rfl (hb hby at_108) (by decide) (by decide) ?_
            exact kt
          refine Goes.step (A := T12.setTop (mkF m 115 #[.val (.int p0), .val (.int p1), .val (.int p2), .val (.int p3), .val (.int p4), .val (.int nv), .val (.int prv), .val (.int s0), .val (.int s1), .val (.int s2), .val (.int s3), .val (.int s4), .val (.ref b1), .val (.int (1 : Int32)), .unset, .unset, .unset, .unset, .unset, .unset, .unset, .unset] [])) (fun t kt => XS.icmpNo X12.here hx rfl (hb hby at_112) rfl (teq (by rw [eqF, if_pos hc104_20.symm] : (eqF (1 : Int32) nv) = (1 : Int32))).2 kt) ?_
          refine Goes.step (A := T12.setTop (mkF m 124 #[.val (.int p0), .val (.int p1), .val (.int p2), .val (.int p3), .val (.int p4), .val (.int nv), .val (.int prv), .val (.int s0), .val (.int s1), .val (.int s2), .val (.int s3), .val (.int s4), .val (.ref b1), .val (.int (1 : Int32)), .unset, .unset, .unset, .unset, .unset, .unset, .unset, .unset] [(.ref b1)])) (fun t kt => ?_) ?_
          · refine XS.iconst X12.here hx rfl (hb hby at_115) ?_
            show Steps p.tables e below (T12.setTop (mkF m 116 #[.val (.int p0), .val (.int p1), .val (.int p2), .val (.int p3), .val (.int p4), .val (.int nv), .val (.int prv), .val (.int s0), .val (.int s1), .val (.int s2), .val (.int s3), .val (.int s4), .val (.ref b1), .val (.int (1 : Int32)), .unset, .unset, .unset, .unset, .unset, .unset, .unset, .unset] [(.int (1 : Int32))])) _
            refine XS.goto X12.here hx rfl (pc0 := 116) (pc' := 120) rfl (hb hby at_116) (by decide) (by decide) ?_
            show Steps p.tables e below (T12.setTop (mkF m 120 #[.val (.int p0), .val (.int p1), .val (.int p2), .val (.int p3), .val (.int p4), .val (.int nv), .val (.int prv), .val (.int s0), .val (.int s1), .val (.int s2), .val (.int s3), .val (.int s4), .val (.ref b1), .val (.int (1 : Int32)), .unset, .unset, .unset, .unset, .unset, .unset, .unset, .unset] [(.int (1 : Int32))])) _
            refine XS.istore X12.here hx rfl (hb hby at_120) rfl (l' := #[.val (.int p0), .val (.int p1), .val (.int p2), .val (.int p3), .val (.int p4), .val (.int nv), .val (.int prv), .val (.int s0), .val (.int s1), .val (.int s2), .val (.int s3), .val (.int s4), .val (.ref b1), .val (.int (1 : Int32)), .unset, .unset, .unset, .unset, .unset, .unset, .unset, .unset]) rfl ?_
            show Steps p.tables e below (T12.setTop (mkF m 122 #[.val (.int p0), .val (.int p1), .val (.int p2), .val (.int p3), .val (.int p4), .val (.int nv), .val (.int prv), .val (.int s0), .val (.int s1), .val (.int s2), .val (.int s3), .val (.int s4), .val (.ref b1), .val (.int (1 : Int32)), .unset, .unset, .unset, .unset, .unset, .unset, .unset, .unset] [])) _
            refine XS.aload X12.here hx rfl (hb hby at_122) rfl rfl ?_
            exact kt
          obtain ⟨cq13, kq13, q13a, q13b, q13c⟩ := isOf hZ rfl S12.1
          obtain ⟨_, _, ⟨T13, L13, k13, n13⟩, -, X13, ⟨Lc13, hQ13, l13, y13, z13⟩, st13⟩ := X12.virtualBack hx (y := (⟨"com/example/shardwright/shardwright/recommend/SitesToTry", "clear", "()V"⟩ : MethodName)) (z := (⟨"com/example/shardwright/shardwright/recommend/SitesToTry", "clear", "()V"⟩ : MethodName)) hown (mvT hZ (hw _ (List.mem_of_getElem? (i := 17) rfl))) (mvT hZ (hw _ (List.mem_of_getElem? (i := 18) rfl))) (notFace_of_selects (args := #[]) (mvT hZ (hw _ (List.mem_of_getElem? (i := 20) rfl)))) (mvT hZ (hw _ (List.mem_of_getElem? (i := 20) rfl))) (mvT hZ (hw _ (List.mem_of_getElem? (i := 19) rfl))) (by decide) (backOf (W := 0) (rm3 l Z a0 hw [] b1 a1_2 a2_2 nv ((0 : Int32) + (1 : Int32)) (1 : Int32) (upd (fun _ => 0) s0 ((0 : Int32) + (1 : Int32))) T12.heap n0 Z12 S12 gb_b1 ga1_2 ga2_2 (by decide)) hZ (hw _ (List.mem_of_getElem? (i := 21) rfl)) (hw _ (List.mem_of_getElem? (i := 3) rfl)) (by decide) (by decide)) q13a q13c (g := (mkF m 124 #[.val (.int p0), .val (.int p1), .val (.int p2), .val (.int p3), .val (.int p4), .val (.int nv), .val (.int prv), .val (.int s0), .val (.int s1), .val (.int s2), .val (.int s3), .val (.int s4), .val (.ref b1), .val (.int (1 : Int32)), .unset, .unset, .unset, .unset, .unset, .unset, .unset, .unset] [(.ref b1)])) rfl (by rw [hml]; rfl) (Steps.refl _) (argsL := []) (rest := []) (lenOf pd_2 rfl) rfl (by show 2 * 0 + _ ≤ _; exact Nat.le_of_eq rfl) (hb hby at_124) (fun _ _ => ⟨rfl, rfl, (by decide : 3 + 0 ≤ _), (by decide : 13 + 0 ≤ _)⟩)
          dsimp only [Pt.U, Pt.locs, Pt.cells, Pt.slots] at X13 l13 y13 z13 st13 hQ13
          subst l13 y13 z13
          obtain ⟨rfl, N13q, S13⟩ := hQ13
          have N13 := Fr.app N12 N13q
          refine Goes.step (A := T13.setTop (mkF m 127 #[.val (.int p0), .val (.int p1), .val (.int p2), .val (.int p3), .val (.int p4), .val (.int nv), .val (.int prv), .val (.int s0), .val (.int s1), .val (.int s2), .val (.int s3), .val (.int s4), .val (.ref b1), .val (.int (1 : Int32)), .unset, .unset, .unset, .unset, .unset, .unset, .unset, .unset] [])) (fun t kt => st13.trans kt) ?_
          have Z13 : n0 ≤ T13.heap.size := Nat.le_trans gb_b1 (Nat.le_of_lt S13.1.lt)
          exact cA _ _ X13 N13 _ _ S13 (own_free2 _ _)
        · refine Goes.step (A := T12.setTop (mkF m 111 #[.val (.int p0), .val (.int p1), .val (.int p2), .val (.int p3), .val (.int p4), .val (.int nv), .val (.int prv), .val (.int s0), .val (.int s1), .val (.int s2), .val (.int s3), .val (.int s4), .val (.ref b1), .val (.int (1 : Int32)), .unset, .unset, .unset, .unset, .unset, .unset, .unset, .unset] [(.int (eqF (1 : Int32) nv))])) (fun t kt => XS.icmpYes X12.here hx rfl (pc0 := 104) (pc' := 111) rfl (hb hby at_104) rfl (feq hc104_20).2 (by decide) (by decide) kt) ?_
          refine Goes.step (A := T12.setTop (mkF m 112 #[.val (.int p0), .val (.int p1), .val (.int p2), .val (.int p3), .val (.int p4), .val (.int nv), .val (.int prv), .val (.int s0), .val (.int s1), .val (.int s2), .val (.int s3), .val (.int s4), .val (.ref b1), .val (.int (1 : Int32)), .unset, .unset, .unset, .unset, .unset, .unset, .unset, .unset] [(.int (0 : Int32)), (.int (eqF (1 : Int32) nv))])) (fun t kt => ?_) ?_
          · refine XS.iconst X12.here hx rfl (hb hby at_111) ?_
            exact kt
          refine Goes.step (A := T12.setTop (mkF m 115 #[.val (.int p0), .val (.int p1), .val (.int p2), .val (.int p3), .val (.int p4), .val (.int nv), .val (.int prv), .val (.int s0), .val (.int s1), .val (.int s2), .val (.int s3), .val (.int s4), .val (.ref b1), .val (.int (1 : Int32)), .unset, .unset, .unset, .unset, .unset, .unset, .unset, .unset] [])) (fun t kt => XS.icmpNo X12.here hx rfl (hb hby at_112) rfl (teq (by rw [eqF, if_neg (fun q => hc104_20 q.symm)] : (eqF (1 : Int32) nv) = (0 : Int32))).2 kt) ?_
          refine Goes.step (A := T12.setTop (mkF m 124 #[.val (.int p0), .val (.int p1), .val (.int p2), .val (.int p3), .val (.int p4), .val (.int nv), .val (.int prv), .val (.int s0), .val (.int s1), .val (.int s2), .val (.int s3), .val (.int s4), .val (.ref b1), .val (.int (1 : Int32)), .unset, .unset, .unset, .unset, .unset, .unset, .unset, .unset] [(.ref b1)])) (fun t kt => ?_) ?_
          · refine XS.iconst X12.here hx rfl (hb hby at_115) ?_
            show Steps p.tables e below (T12.setTop (mkF m 116 #[.val (.int p0), .val (.int p1), .val (.int p2), .val (.int p3), .val (.int p4), .val (.int nv), .val (.int prv), .val (.int s0), .val (.int s1), .val (.int s2), .val (.int s3), .val (.int s4), .val (.ref b1), .val (.int (1 : Int32)), .unset, .unset, .unset, .unset, .unset, .unset, .unset, .unset] [(.int (1 : Int32))])) _
            refine XS.goto X12.here hx rfl (pc0 := 116) (pc' := 120) rfl (hb hby at_116) (by decide) (by decide) ?_
            show Steps p.tables e below (T12.setTop (mkF m 120 #[.val (.int p0), .val (.int p1), .val (.int p2), .val (.int p3), .val (.int p4), .val (.int nv), .val (.int prv), .val (.int s0), .val (.int s1), .val (.int s2), .val (.int s3), .val (.int s4), .val (.ref b1), .val (.int (1 : Int32)), .unset, .unset, .unset, .unset, .unset, .unset, .unset, .unset] [(.int (1 : Int32))])) _
            refine XS.istore X12.here hx rfl (hb hby at_120) rfl (l' := #[.val (.int p0), .val (.int p1), .val (.int p2), .val (.int p3), .val (.int p4), .val (.int nv), .val (.int prv), .val (.int s0), .val (.int s1), .val (.int s2), .val (.int s3), .val (.int s4), .val (.ref b1), .val (.int (1 : Int32)), .unset, .unset, .unset, .unset, .unset, .unset, .unset, .unset]) rfl ?_
            show Steps p.tables e below (T12.setTop (mkF m 122 #[.val (.int p0), .val (.int p1), .val (.int p2), .val (.int p3), .val (.int p4), .val (.int nv), .val (.int prv), .val (.int s0), .val (.int s1), .val (.int s2), .val (.int s3), .val (.int s4), .val (.ref b1), .val (.int (1 : Int32)), .unset, .unset, .unset, .unset, .unset, .unset, .unset, .unset] [])) _
            refine XS.aload X12.here hx rfl (hb hby at_122) rfl rfl ?_
            exact kt
          obtain ⟨cq14, kq14, q14a, q14b, q14c⟩ := isOf hZ rfl S12.1
          obtain ⟨_, _, ⟨T14, L14, k14, n14⟩, -, X14, ⟨Lc14, hQ14, l14, y14, z14⟩, st14⟩ := X12.virtualBack hx (y := (⟨"com/example/shardwright/shardwright/recommend/SitesToTry", "clear", "()V"⟩ : MethodName)) (z := (⟨"com/example/shardwright/shardwright/recommend/SitesToTry", "clear", "()V"⟩ : MethodName)) hown (mvT hZ (hw _ (List.mem_of_getElem? (i := 17) rfl))) (mvT hZ (hw _ (List.mem_of_getElem? (i := 18) rfl))) (notFace_of_selects (args := #[]) (mvT hZ (hw _ (List.mem_of_getElem? (i := 20) rfl)))) (mvT hZ (hw _ (List.mem_of_getElem? (i := 20) rfl))) (mvT hZ (hw _ (List.mem_of_getElem? (i := 19) rfl))) (by decide) (backOf (W := 0) (rm3 l Z a0 hw [] b1 a1_2 a2_2 nv ((0 : Int32) + (1 : Int32)) (1 : Int32) (upd (fun _ => 0) s0 ((0 : Int32) + (1 : Int32))) T12.heap n0 Z12 S12 gb_b1 ga1_2 ga2_2 (by decide)) hZ (hw _ (List.mem_of_getElem? (i := 21) rfl)) (hw _ (List.mem_of_getElem? (i := 3) rfl)) (by decide) (by decide)) q14a q14c (g := (mkF m 124 #[.val (.int p0), .val (.int p1), .val (.int p2), .val (.int p3), .val (.int p4), .val (.int nv), .val (.int prv), .val (.int s0), .val (.int s1), .val (.int s2), .val (.int s3), .val (.int s4), .val (.ref b1), .val (.int (1 : Int32)), .unset, .unset, .unset, .unset, .unset, .unset, .unset, .unset] [(.ref b1)])) rfl (by rw [hml]; rfl) (Steps.refl _) (argsL := []) (rest := []) (lenOf pd_2 rfl) rfl (by show 2 * 0 + _ ≤ _; exact Nat.le_of_eq rfl) (hb hby at_124) (fun _ _ => ⟨rfl, rfl, (by decide : 3 + 0 ≤ _), (by decide : 13 + 0 ≤ _)⟩)
          dsimp only [Pt.U, Pt.locs, Pt.cells, Pt.slots] at X14 l14 y14 z14 st14 hQ14
          subst l14 y14 z14
          obtain ⟨rfl, N14q, S14⟩ := hQ14
          have N14 := Fr.app N12 N14q
          refine Goes.step (A := T14.setTop (mkF m 127 #[.val (.int p0), .val (.int p1), .val (.int p2), .val (.int p3), .val (.int p4), .val (.int nv), .val (.int prv), .val (.int s0), .val (.int s1), .val (.int s2), .val (.int s3), .val (.int s4), .val (.ref b1), .val (.int (1 : Int32)), .unset, .unset, .unset, .unset, .unset, .unset, .unset, .unset] [])) (fun t kt => st14.trans kt) ?_
          have Z14 : n0 ≤ T14.heap.size := Nat.le_trans gb_b1 (Nat.le_of_lt S14.1.lt)
          exact cA _ _ X14 N14 _ _ S14 (own_free2 _ _)
    exact cM _ _ _ _ _ _ (own_n p0) (own_rem _ _ (own_n p0) (own_sh p0)) (own_rem _ _ (own_n p0) (own_mk p1)) (own_rem _ _ (own_n p0) (own_mk p2)) (own_rem _ _ (own_n p0) (own_mk p3)) (own_rem _ _ (own_n p0) (own_mk p4))
  by_cases hc10_21 : (p0 &&& (4 : Int32)) = (0 : Int32)
  · refine Goes.step (A := s₁.setTop (mkF m 17 #[.val (.int p0), .val (.int p1), .val (.int p2), .val (.int p3), .val (.int p4), .val (.int ((p0 &&& (3 : Int32)) + (1 : Int32))), .unset, .unset, .unset, .unset, .unset, .unset, .unset, .unset, .unset, .unset, .unset, .unset, .unset, .unset, .unset, .unset] [])) (fun t kt => XS.ifYes X0.here hx rfl (pc0 := 10) (pc' := 17) rfl (hb hby at_10) rfl ((if0 _ _).trans (teq hc10_21).1) (by decide) (by decide) kt) ?_
    refine Goes.step (A := s₁.setTop (mkF m 20 #[.val (.int p0), .val (.int p1), .val (.int p2), .val (.int p3), .val (.int p4), .val (.int ((p0 &&& (3 : Int32)) + (1 : Int32))), .val (.int (0 : Int32)), .unset, .unset, .unset, .unset, .unset, .unset, .unset, .unset, .unset, .unset, .unset, .unset, .unset, .unset, .unset] [])) (fun t kt => ?_) ?_
    · refine XS.iconst X0.here hx rfl (hb hby at_17) ?_
      show Steps p.tables e below (s₁.setTop (mkF m 18 #[.val (.int p0), .val (.int p1), .val (.int p2), .val (.int p3), .val (.int p4), .val (.int ((p0 &&& (3 : Int32)) + (1 : Int32))), .unset, .unset, .unset, .unset, .unset, .unset, .unset, .unset, .unset, .unset, .unset, .unset, .unset, .unset, .unset, .unset] [(.int (0 : Int32))])) _
      refine XS.istore X0.here hx rfl (hb hby at_18) rfl (l' := #[.val (.int p0), .val (.int p1), .val (.int p2), .val (.int p3), .val (.int p4), .val (.int ((p0 &&& (3 : Int32)) + (1 : Int32))), .val (.int (0 : Int32)), .unset, .unset, .unset, .unset, .unset, .unset, .unset, .unset, .unset, .unset, .unset, .unset, .unset, .unset, .unset]) rfl ?_
      exact kt
    exact cP _
  · refine Goes.step (A := s₁.setTop (mkF m 13 #[.val (.int p0), .val (.int p1), .val (.int p2), .val (.int p3), .val (.int p4), .val (.int ((p0 &&& (3 : Int32)) + (1 : Int32))), .unset, .unset, .unset, .unset, .unset, .unset, .unset, .unset, .unset, .unset, .unset, .unset, .unset, .unset, .unset, .unset] [])) (fun t kt => XS.ifNo X0.here hx rfl (hb hby at_10) rfl ((if0 _ _).trans (feq hc10_21).1) kt) ?_
    refine Goes.step (A := s₁.setTop (mkF m 20 #[.val (.int p0), .val (.int p1), .val (.int p2), .val (.int p3), .val (.int p4), .val (.int ((p0 &&& (3 : Int32)) + (1 : Int32))), .val (.int (1 : Int32)), .unset, .unset, .unset, .unset, .unset, .unset, .unset, .unset, .unset, .unset, .unset, .unset, .unset, .unset, .unset] [])) (fun t kt => ?_) ?_
    · refine XS.iconst X0.here hx rfl (hb hby at_13) ?_
      show Steps p.tables e below (s₁.setTop (mkF m 14 #[.val (.int p0), .val (.int p1), .val (.int p2), .val (.int p3), .val (.int p4), .val (.int ((p0 &&& (3 : Int32)) + (1 : Int32))), .unset, .unset, .unset, .unset, .unset, .unset, .unset, .unset, .unset, .unset, .unset, .unset, .unset, .unset, .unset, .unset] [(.int (1 : Int32))])) _
      refine XS.goto X0.here hx rfl (pc0 := 14) (pc' := 18) rfl (hb hby at_14) (by decide) (by decide) ?_
      show Steps p.tables e below (s₁.setTop (mkF m 18 #[.val (.int p0), .val (.int p1), .val (.int p2), .val (.int p3), .val (.int p4), .val (.int ((p0 &&& (3 : Int32)) + (1 : Int32))), .unset, .unset, .unset, .unset, .unset, .unset, .unset, .unset, .unset, .unset, .unset, .unset, .unset, .unset, .unset, .unset] [(.int (1 : Int32))])) _
      refine XS.istore X0.here hx rfl (hb hby at_18) rfl (l' := #[.val (.int p0), .val (.int p1), .val (.int p2), .val (.int p3), .val (.int p4), .val (.int ((p0 &&& (3 : Int32)) + (1 : Int32))), .val (.int (1 : Int32)), .unset, .unset, .unset, .unset, .unset, .unset, .unset, .unset, .unset, .unset, .unset, .unset, .unset, .unset, .unset]) rfl ?_
      exact kt
    exact cP _
set_option maxRecDepth 65536 in
set_option maxHeartbeats 40000000 in
theorem comes_1 {Post : Tables → Env → Array Value → State → Outcome → State → Prop} (hpost : ∀ tb e args s v u, (limb_1_1.after args s (.returned v) u = true ∧ limb_1_2.after args s (.returned v) u = true ∧ True) → FrameEnd s (.returned v) u (Jvm.fieldLocs frame_1_writes args s ++ Jvm.arrayLocs frame_1_arrays args s ++ Jvm.staticLocs frame_1_statics s) 16 128 → Post tb e args s (.returned v) u) :
    ArmFor flags0 classFile x code maxLocals ret World_1 tables_1 room_1 Calls_1 rest_1 Pre_1 Post := by
  intro l hfl _ _ p e ha hc hk s m args below hf hA hF happ hP
  obtain ⟨hcalls, hrest, hpre⟩ := hP
  obtain ⟨-, -, -, hnamed, -, -, -, hat⟩ := (Spec.applies_iff hf).mp happ
  obtain ⟨hg, hn⟩ := and_e (Cond.before_iff.mp (show (Jvm.Cond.and given_1 narrow_1).before args s = true from hpre))
  obtain ⟨hcnt, hr0⟩ := and_e hg
  obtain ⟨ha0, hr1⟩ := and_e hr0
  obtain ⟨ha1, hr2⟩ := and_e hr1
  obtain ⟨ha2, hr3⟩ := and_e hr2
  obtain ⟨ha3, hr4⟩ := and_e hr3
  obtain ⟨w0, w1, w2, w3, w4, rfl⟩ : ∃ w0 w1 w2 w3 w4 : Value, args = #[w0, w1, w2, w3, w4] := by
    have hs : args.size = 5 := by simpa [Cond.value, given_1] using hcnt
    obtain ⟨L⟩ := args
    match L, hs with
    | [w0, w1, w2, w3, w4], _ => exact ⟨w0, w1, w2, w3, w4, rfl⟩
  have hw := fun d (hd : d ∈ tables_1) => atoms_spec (ws := Jvm.Cond.code x code maxLocals ret :: tables_1) hat d (List.mem_cons_of_mem _ hd)
  obtain ⟨i0, ei0⟩ := is_v ha0
  obtain rfl : w0 = (.int i0) := Option.some.inj ei0
  obtain ⟨i1, ei1⟩ := is_v ha1
  obtain rfl : w1 = (.int i1) := Option.some.inj ei1
  obtain ⟨i2, ei2⟩ := is_v ha2
  obtain rfl : w2 = (.int i2) := Option.some.inj ei2
  obtain ⟨i3, ei3⟩ := is_v ha3
  obtain rfl : w3 = (.int i3) := Option.some.inj ei3
  obtain ⟨i4, ei4⟩ := is_v hr4
  obtain rfl : w4 = (.int i4) := Option.some.inj ei4
  obtain ⟨n, o, h1, h2, h3, _, L, rfl, ⟨rfl, N⟩, hq⟩ := rm0 l s _ hw tables_1 i0 i1 i2 i3 i4 s.heap s.heap.size (Nat.le_refl _) p e ha hc hk s m _ below hf ((Spec.applies_iff_loose hf).mp happ).1 ⟨rfl, State.Warmed39.refl s, rfl⟩ trivial
  refine ⟨n, _, h1, h2, h3, hpost _ _ _ _ _ _ ⟨Cond.after_iff.mpr rfl, Cond.after_iff.mpr (eq_i res_at (Term.int_eval (1)) rfl), trivial⟩ ⟨hq.1, hq.2.1, (hq.2.2.sift fun y hy => Or.inr (N y hy)).mono (by decide) (by decide)⟩⟩
theorem main_1_1 : Claimed_1_1 := comes_1 fun _ _ _ _ _ _ h hF => ⟨h.1, hF⟩
theorem main_1_2 : Claimed_1_2 := comes_1 fun _ _ _ _ _ _ h hF => ⟨h.2.1, hF⟩
end Jvm.Pilot.@@N@@
namespace Jvm.Pilot.@@N@@
open Jvm Jvm.ClassFile Sem Op Lib Jvm.Free Jvm.Stand Jvm.Pilot.@@N@@.Jvm.D
/-! MADE BY PROGRAM (witnessworld.py) out of the Statement's table words and the real class files: 9 classes; the members and pool entries that the words name. The judged class is class 1, her method 1. -/
namespace start1
open Jvm.ClassFile
def u (s : String) : CpInfo := .utf8 (stringToUtf16 s)
/-- a pool by its gaps: so many unusable entries, then the entry; so many at the end -/
def gap : Nat → List CpInfo → List CpInfo
  | 0, r => r
  | n + 1, r => .unusable :: gap n r
def poolList (es : List (Nat × CpInfo)) (last : Nat) : List CpInfo := es.foldr (fun e r => gap e.1 (e.2 :: r)) (gap last [])
def pool (es : List (Nat × CpInfo)) (last : Nat) : Array CpInfo := ⟨poolList es last⟩
def fileOf (pool : Array CpInfo) (this : Nat) (attrs : Array Attribute := #[]) (ms : Array MethodInfo := #[]) (fl : Nat := 33) (sup : Nat := 0) (ifs : Array Nat := #[]) (fds : Array FieldInfo := #[]) : ClassFile where
  minorVersion := 0
  majorVersion := 65
  constantPool := pool
  accessFlags := fl
  thisClass := this
  superClass := sup
  interfaces := ifs
  fields := fds
  methods := ms
  attributes := attrs
def plain (name : String) (sup : Option ClassId) : Class where
  name := name
  kind := .ordinary
  loader := none
  accessFlags := 33
  super := sup
  interfaces := #[]
  cf := none
  fields := #[]
  methods := #[]
  instanceTypes := #[]
  staticTypes := #[]
  resolved := #[]
  callSites := []
  init := .initialized
  statics := none
  mirror := none

def pool0 : Array CpInfo := pool [(5, u "<init>"), (0, u "()V"), (1, .class_ 10), (1, u "java/lang/Object")] 113

def k0c0 : Code := { maxStack := 0, maxLocals := 1, code := object_method_1_code, exceptionTable := #[], attributes := #[] }
def k0m0 : Method := { name := "<init>", desc := "()V", sig := { parameters := [], returnType := none }, accessFlags := 1, code := some k0c0 }
/-- java/lang/Object -/
def k0 : Class := { plain "java/lang/Object" none with
  accessFlags := 33
  interfaces := #[]
  cf := some (fileOf pool0 8 #[] #[{ accessFlags := 1, nameIndex := 5, descriptorIndex := 6, attributes := #[] }] 33 0 #[] #[])
  fields := #[]
  methods := #[k0m0]
  instanceTypes := #[]
  staticTypes := #[]
  resolved := Array.replicate 124 none
  statics := none }

def pool1 : Array CpInfo := pool [(2, .class_ 4), (1, u "java/lang/Object"), (0, u "<init>"), (0, u "()V"), (0, .integer 2147483647), (0, .class_ 9), (0, u "com/example/shardwright/shardwright/recommend/SitesToTry"), (0, .methodref 8 11), (0, .nameAndType 5 12), (0, u "(I)V"), (0, .methodref 8 14), (0, .nameAndType 15 6), (0, u "clear"), (0, .methodref 8 17), (0, .nameAndType 18 19), (0, u "take"), (0, u "(I)Z"), (0, .methodref 21 22), (0, .class_ 23), (0, .nameAndType 24 25), (0, u "com/example/shardwright/shardwright/recommend/SitesToTryTakePinLaw"), (0, u "seen"), (0, u "(Lcom/example/shardwright/shardwright/recommend/SitesToTry;IIIIII)Z"), (0, .methodref 8 27), (0, .nameAndType 28 19), (0, u "isTaken"), (2, u "law"), (0, u "(IIIII)Z")] 3

def k1m0 : Method := { name := "<init>", desc := "()V", sig := { parameters := [], returnType := none }, accessFlags := 1, code := none }
def k1c1 : Code := { maxStack := 7, maxLocals := 22, code := code, exceptionTable := #[], attributes := #[] }
def k1m1 : Method := { name := "law", desc := "(IIIII)Z", sig := { parameters := [.int, .int, .int, .int, .int], returnType := some .boolean }, accessFlags := 9, code := some k1c1 }
def k1c2 : Code := { maxStack := 2, maxLocals := 8, code := method_3_code, exceptionTable := #[], attributes := #[] }
def k1m2 : Method := { name := "seen", desc := "(Lcom/example/shardwright/shardwright/recommend/SitesToTry;IIIIII)Z", sig := { parameters := [(.object "com/example/shardwright/shardwright/recommend/SitesToTry"), .int, .int, .int, .int, .int, .int], returnType := some .boolean }, accessFlags := 10, code := some k1c2 }
/-- com/example/shardwright/shardwright/recommend/SitesToTryTakePinLaw -/
def k1 : Class := { plain "com/example/shardwright/shardwright/recommend/SitesToTryTakePinLaw" (some 0) with
  accessFlags := 49
  interfaces := #[]
  cf := some (fileOf pool1 21 #[] #[{ accessFlags := 1, nameIndex := 5, descriptorIndex := 6, attributes := #[] }, { accessFlags := 9, nameIndex := 31, descriptorIndex := 32, attributes := #[] }, { accessFlags := 10, nameIndex := 24, descriptorIndex := 25, attributes := #[] }] 49 2 #[] #[])
  fields := #[]
  methods := #[k1m0, k1m1, k1m2]
  instanceTypes := #[]
  staticTypes := #[]
  resolved := Array.replicate 36 none
  statics := none }

def pool2 : Array CpInfo := pool [(1, .methodref 2 3), (0, .class_ 4), (0, .nameAndType 5 6), (0, u "java/lang/Object"), (0, u "<init>"), (0, u "()V"), (0, .fieldref 8 9), (0, .class_ 10), (0, .nameAndType 11 12), (0, u "com/example/shardwright/shardwright/recommend/SitesToTry"), (0, u "siteCount"), (0, u "I"), (0, .fieldref 8 14), (0, .nameAndType 15 16), (0, u "takenIn"), (0, u "[I"), (0, .fieldref 8 18), (0, .nameAndType 19 16), (0, u "taken"), (0, .fieldref 8 21), (0, .nameAndType 22 12), (0, u "collection"), (2, .integer 2147483647), (6, .fieldref 8 33), (0, .nameAndType 34 12), (0, u "count"), (10, u "(I)V"), (2, u "clear"), (1, u "isTaken"), (0, u "(I)Z"), (0, u "take")] 5

def k2c0 : Code := { maxStack := 2, maxLocals := 2, code := prog_47_method_1_code, exceptionTable := #[], attributes := #[] }
def k2m0 : Method := { name := "<init>", desc := "(I)V", sig := { parameters := [.int], returnType := none }, accessFlags := 0, code := some k2c0 }
def k2c1 : Code := { maxStack := 3, maxLocals := 1, code := prog_47_method_2_code, exceptionTable := #[], attributes := #[] }
def k2m1 : Method := { name := "clear", desc := "()V", sig := { parameters := [], returnType := none }, accessFlags := 0, code := some k2c1 }
def k2c2 : Code := { maxStack := 2, maxLocals := 2, code := prog_47_method_3_code, exceptionTable := #[], attributes := #[] }
def k2m2 : Method := { name := "isTaken", desc := "(I)Z", sig := { parameters := [.int], returnType := some .boolean }, accessFlags := 0, code := some k2c2 }
def k2c3 : Code := { maxStack := 5, maxLocals := 2, code := prog_47_method_4_code, exceptionTable := #[], attributes := #[] }
def k2m3 : Method := { name := "take", desc := "(I)Z", sig := { parameters := [.int], returnType := some .boolean }, accessFlags := 0, code := some k2c3 }
/-- com/example/shardwright/shardwright/recommend/SitesToTry -/
def k2 : Class := { plain "com/example/shardwright/shardwright/recommend/SitesToTry" (some 0) with
  accessFlags := 48
  interfaces := #[]
  cf := some (fileOf pool2 8 #[] #[{ accessFlags := 0, nameIndex := 5, descriptorIndex := 45, attributes := #[] }, { accessFlags := 0, nameIndex := 48, descriptorIndex := 6, attributes := #[] }, { accessFlags := 0, nameIndex := 50, descriptorIndex := 51, attributes := #[] }, { accessFlags := 0, nameIndex := 52, descriptorIndex := 51, attributes := #[] }] 48 2 #[] #[{ accessFlags := 18, nameIndex := 11, descriptorIndex := 12, attributes := #[] }, { accessFlags := 18, nameIndex := 15, descriptorIndex := 16, attributes := #[] }, { accessFlags := 2, nameIndex := 22, descriptorIndex := 12, attributes := #[] }, { accessFlags := 18, nameIndex := 19, descriptorIndex := 16, attributes := #[] }, { accessFlags := 2, nameIndex := 34, descriptorIndex := 12, attributes := #[] }])
  fields := #[{ name := "siteCount", type := .int, accessFlags := 18, slot := 0, constantValue := 0 }, { name := "takenIn", type := (.array .int), accessFlags := 18, slot := 1, constantValue := 0 }, { name := "collection", type := .int, accessFlags := 2, slot := 2, constantValue := 0 }, { name := "taken", type := (.array .int), accessFlags := 18, slot := 3, constantValue := 0 }, { name := "count", type := .int, accessFlags := 2, slot := 4, constantValue := 0 }]
  methods := #[k2m0, k2m1, k2m2, k2m3]
  instanceTypes := #[.int, (.array .int), .int, (.array .int), .int]
  staticTypes := #[]
  resolved := Array.replicate 58 none
  statics := none }

def pool3 : Array CpInfo := pool [(1, u "java/lang/Cloneable"), (0, .class_ 1), (0, u "java/lang/Object"), (0, .class_ 3)] 3

/-- java/lang/Cloneable -/
def k3 : Class := { plain "java/lang/Cloneable" (some 0) with
  accessFlags := 1537
  interfaces := #[]
  cf := some (fileOf pool3 2 #[] #[] 1537 4 #[] #[])
  fields := #[]
  methods := #[]
  instanceTypes := #[]
  staticTypes := #[]
  resolved := Array.replicate 8 none
  statics := none }

def pool4 : Array CpInfo := pool [(1, u "java/io/Serializable"), (0, .class_ 1), (0, u "java/lang/Object"), (0, .class_ 3)] 3

/-- java/io/Serializable -/
def k4 : Class := { plain "java/io/Serializable" (some 0) with
  accessFlags := 1537
  interfaces := #[]
  cf := some (fileOf pool4 2 #[] #[] 1537 4 #[] #[])
  fields := #[]
  methods := #[]
  instanceTypes := #[]
  staticTypes := #[]
  resolved := Array.replicate 8 none
  statics := none }

/-- the primitive byte -/
def k5 : Class := { plain "byte" none with kind := .primitive 'B', accessFlags := 0x411 }
/-- [B -/
def k6 : Class := { plain "[B" (some 0) with kind := .array 5 .byte, interfaces := #[3, 4], accessFlags := 1041 }

/-- the primitive int -/
def k7 : Class := { plain "int" none with kind := .primitive 'I', accessFlags := 0x411 }
/-- [I -/
def k8 : Class := { plain "[I" (some 0) with kind := .array 7 .int, interfaces := #[3, 4], accessFlags := 1041 }

def heap : Heap := #[]
def classes : Array Class := #[k0, k1, k2, k3, k4, k5, k6, k7, k8]
def interned : List (Array UInt16 × Addr) := []
def slotsUsed : Nat := 0
def theMethod : MethodId := ⟨1, 1⟩
def args0 : Array Value := #[.int 5, .int 7, .int 13, .int 2, .int 9]
def aboutOver (below : List Frame) : State where
  vm := { classes := classes, interned := interned.toArray }
  heap := heap
  slotsUsed := slotsUsed
  threads := #[{ frames := .invoking theMethod args0 :: below }]
def below0 : List Frame := [.native { method := ⟨0, 0⟩, args := #[] }]
def about1 : State := aboutOver below0
def p0 : Program := .bare "" "" ""
def e0 : Env := launch0.env 0 0 0
theorem w_frames : about1.frames = Frame.invoking theMethod args0 :: below0 := rfl
set_option maxRecDepth 65536 in
theorem w_args : argsFit about1.vm theMethod args0 = true := by decide +kernel
set_option maxRecDepth 65536 in
theorem w_heap : heapFits about1 = true := by decide +kernel
set_option maxRecDepth 65536 in
theorem w_runnable : about1.curStatus? = some .runnable := by decide +kernel
set_option maxRecDepth 65536 in
theorem w_alone : about1.alone = true := by decide +kernel
set_option maxRecDepth 65536 in
theorem w_named : about1.methodNamed? x = some theMethod := by decide +kernel
set_option maxRecDepth 65536 in
theorem w_hears : about1.hears theMethod below0 = true := by decide +kernel
set_option maxRecDepth 65536 in
theorem w_ripe : about1.ripe theMethod args0 below0 = true := by decide +kernel
theorem w_running : about1.status = .running := rfl
set_option maxRecDepth 65536 in
theorem w_room : about1.hasRoom e0.platform room_1 = true :=
  launch0.hasRoom_least _ room_1 (by decide +kernel) (by decide +kernel) (by decide +kernel) (by decide +kernel) (by decide +kernel) (by decide +kernel)
theorem allAtoms_all (ts : List Jvm.Cond) (a : Array Jvm.Value) (st : Jvm.State) : (allAtoms ts).before a st = ts.all (fun c => c.before a st) := by
  induction ts with
  | nil => rfl
  | cons c t ih =>
    show (Jvm.Cond.and c (allAtoms t)).before a st = _
    rw [Jvm.Cond.before_and, ih, List.all_cons]
def words1 : List Jvm.Cond := Jvm.Cond.code x code maxLocals ret :: tables_1
/-- a 'code' word, met by the world's own term for the bytes: nothing is compared byte by byte -/
theorem code_word {y : MethodName} {bytes : ByteArray} {mx : Nat} {rt : Option FieldType} {a : Array Value} {s : State} {m : MethodId} {meth : Method} {c : Code} (h1 : s.methodNamed? y = some m) (h2 : s.vm.method? m = some meth) (h3 : meth.code = some c) (h4 : c.code = bytes)
    (h5 : (c.maxLocals == mx && c.exceptionTable.isEmpty && decide (c.maxStack ≤ mostOperands) && decide (meth.sig.returnType = rt) && !meth.locks && decide (parseMethodDescriptor y.desc = some meth.sig)) = true) : (Jvm.Cond.code y bytes mx rt).before a s = true := by
  simp only [Bool.and_eq_true, beq_iff_eq, Bool.not_eq_true', decide_eq_true_eq] at h5
  obtain ⟨⟨⟨⟨⟨g1, g2⟩, g3⟩, g4⟩, g5⟩, g6⟩ := h5
  simp [Cond.before, Cond.holds, Cond.value, h1, h2, h3, h4, g1, g2, g3, g4, g5, g6]
def isCode : Jvm.Cond → Bool
  | .code _ _ _ _ => true
  | _ => false
theorem all_split {L : List Jvm.Cond} {P : Jvm.Cond → Bool} (h1 : L.all (fun c => isCode c || P c) = true) (h2 : ∀ c ∈ L.filter isCode, P c = true) : L.all P = true := by
  refine List.all_eq_true.mpr fun c hc => ?_
  have h := List.all_eq_true.mp h1 c hc
  rcases Bool.eq_false_or_eq_true (isCode c) with hi | hi
  · exact h2 c (List.mem_filter.mpr ⟨hc, hi⟩)
  · simpa [hi] using h
set_option maxRecDepth 65536 in
theorem w_c0 : (Jvm.Cond.code x code maxLocals ret).before args0 about1 = true := code_word (m := ⟨1, 1⟩) (meth := k1m1) (c := k1c1) (by decide +kernel) rfl rfl rfl (by decide +kernel)
set_option maxRecDepth 65536 in
theorem w_c1 : (Jvm.Cond.code ({ cls := "com/example/shardwright/shardwright/recommend/SitesToTry", name := "<init>", desc := "(I)V" } : Jvm.MethodName) prog_47_method_1_code (2 : Nat) (Option.none : Option Jvm.ClassFile.FieldType)).before args0 about1 = true := code_word (m := ⟨2, 0⟩) (meth := k2m0) (c := k2c0) (by decide +kernel) rfl rfl rfl (by decide +kernel)
set_option maxRecDepth 65536 in
theorem w_c2 : (Jvm.Cond.code ({ cls := "java/lang/Object", name := "<init>", desc := "()V" } : Jvm.MethodName) object_method_1_code (1 : Nat) (Option.none : Option Jvm.ClassFile.FieldType)).before args0 about1 = true := code_word (m := ⟨0, 0⟩) (meth := k0m0) (c := k0c0) (by decide +kernel) rfl rfl rfl (by decide +kernel)
set_option maxRecDepth 65536 in
theorem w_c3 : (Jvm.Cond.code ({ cls := "com/example/shardwright/shardwright/recommend/SitesToTry", name := "clear", desc := "()V" } : Jvm.MethodName) prog_47_method_2_code (1 : Nat) (Option.none : Option Jvm.ClassFile.FieldType)).before args0 about1 = true := code_word (m := ⟨2, 1⟩) (meth := k2m1) (c := k2c1) (by decide +kernel) rfl rfl rfl (by decide +kernel)
set_option maxRecDepth 65536 in
theorem w_c4 : (Jvm.Cond.code ({ cls := "com/example/shardwright/shardwright/recommend/SitesToTry", name := "take", desc := "(I)Z" } : Jvm.MethodName) prog_47_method_4_code (2 : Nat) (Option.some Jvm.ClassFile.FieldType.boolean)).before args0 about1 = true := code_word (m := ⟨2, 3⟩) (meth := k2m3) (c := k2c3) (by decide +kernel) rfl rfl rfl (by decide +kernel)
set_option maxRecDepth 65536 in
theorem w_c5 : (Jvm.Cond.code ({ cls := "com/example/shardwright/shardwright/recommend/SitesToTryTakePinLaw", name := "seen", desc := "(Lcom/example/shardwright/shardwright/recommend/SitesToTry;IIIIII)Z" } : Jvm.MethodName) method_3_code (8 : Nat) (Option.some Jvm.ClassFile.FieldType.boolean)).before args0 about1 = true := code_word (m := ⟨1, 2⟩) (meth := k1m2) (c := k1c2) (by decide +kernel) rfl rfl rfl (by decide +kernel)
set_option maxRecDepth 65536 in
theorem w_c6 : (Jvm.Cond.code ({ cls := "com/example/shardwright/shardwright/recommend/SitesToTry", name := "isTaken", desc := "(I)Z" } : Jvm.MethodName) prog_47_method_3_code (2 : Nat) (Option.some Jvm.ClassFile.FieldType.boolean)).before args0 about1 = true := code_word (m := ⟨2, 2⟩) (meth := k2m2) (c := k2c2) (by decide +kernel) rfl rfl rfl (by decide +kernel)
def codes1 : List Jvm.Cond := [Jvm.Cond.code x code maxLocals ret, Jvm.Cond.code ({ cls := "com/example/shardwright/shardwright/recommend/SitesToTry", name := "<init>", desc := "(I)V" } : Jvm.MethodName) prog_47_method_1_code (2 : Nat) (Option.none : Option Jvm.ClassFile.FieldType), Jvm.Cond.code ({ cls := "java/lang/Object", name := "<init>", desc := "()V" } : Jvm.MethodName) object_method_1_code (1 : Nat) (Option.none : Option Jvm.ClassFile.FieldType), Jvm.Cond.code ({ cls := "com/example/shardwright/shardwright/recommend/SitesToTry", name := "clear", desc := "()V" } : Jvm.MethodName) prog_47_method_2_code (1 : Nat) (Option.none : Option Jvm.ClassFile.FieldType), Jvm.Cond.code ({ cls := "com/example/shardwright/shardwright/recommend/SitesToTry", name := "take", desc := "(I)Z" } : Jvm.MethodName) prog_47_method_4_code (2 : Nat) (Option.some Jvm.ClassFile.FieldType.boolean), Jvm.Cond.code ({ cls := "com/example/shardwright/shardwright/recommend/SitesToTryTakePinLaw", name := "seen", desc := "(Lcom/example/shardwright/shardwright/recommend/SitesToTry;IIIIII)Z" } : Jvm.MethodName) method_3_code (8 : Nat) (Option.some Jvm.ClassFile.FieldType.boolean), Jvm.Cond.code ({ cls := "com/example/shardwright/shardwright/recommend/SitesToTry", name := "isTaken", desc := "(I)Z" } : Jvm.MethodName) prog_47_method_3_code (2 : Nat) (Option.some Jvm.ClassFile.FieldType.boolean)]
set_option maxRecDepth 65536 in
theorem codes_eq : words1.filter isCode = codes1 := rfl
theorem w_codes : ∀ c ∈ words1.filter isCode, c.before args0 about1 = true := by
  rw [codes_eq]
  intro c hc
  simp only [codes1, List.mem_cons, List.not_mem_nil, or_false] at hc
  rcases hc with rfl | rfl | rfl | rfl | rfl | rfl | rfl
  · exact w_c0
  · exact w_c1
  · exact w_c2
  · exact w_c3
  · exact w_c4
  · exact w_c5
  · exact w_c6
set_option maxRecDepth 65536 in
theorem w_t1 : (words1.take 24).all (fun c => isCode c || c.before args0 about1) = true := by decide +kernel
set_option maxRecDepth 65536 in
theorem w_t2 : (words1.drop 24).all (fun c => isCode c || c.before args0 about1) = true := by decide +kernel
theorem w_tables : (allAtoms (Jvm.Cond.code x code maxLocals ret :: tables_1)).before args0 about1 = true := by
  rw [allAtoms_all]
  show words1.all (fun c => c.before args0 about1) = true
  refine all_split ?_ w_codes
  rw [← List.take_append_drop 24 words1, List.all_append, w_t1, w_t2]
  rfl
set_option maxRecDepth 65536 in
theorem w_case : (Jvm.Cond.and given_1 narrow_1).before args0 about1 = true := by decide +kernel
theorem w_applies : (headSpec (Jvm.Cond.code x code maxLocals ret :: tables_1) room_1).applies x e0.platform about1 = true :=
  (Spec.applies_iff w_frames).mpr ⟨w_running, w_runnable, w_alone, w_named, w_hears, w_ripe, w_room, w_tables⟩
theorem atStart : AtStart classFile x code maxLocals ret World_1 tables_1 room_1 Calls_1 rest_1 Pre_1 launch0 p0 e0 about1 theMethod args0 below0 :=
  ⟨lists_1, trivial, launch0.admits_env _ _ _, launch0.least_env, fairChoices_fair.cas, fairChoices_fair.clock, w_frames, w_args, w_heap, w_applies, trivial, trivial, w_case⟩
end start1
theorem witness_1 : WitnessClaimed_1 := ⟨start1.p0, start1.e0, start1.about1, start1.theMethod, start1.args0, start1.below0, start1.atStart⟩
end Jvm.Pilot.@@N@@
