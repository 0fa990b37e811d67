import JvmDerived
import JvmDerived.Pilot.@@N@@Statement
import JvmDerived.Pilot.@@N@@Code
set_option linter.unusedVariables false
set_option linter.unusedSimpArgs false
namespace Jvm.RoadKit
open Sem ClassFile Op Lib Jvm.Stand Jvm.Free Jvm.LawKit
section New
variable {p : Program} {l : Launch} {e : Env} {R : Room} {s : State} {m : MethodId} {args : Array Value} {below : List Frame} {meth : Method} {c : Code} {T : State} {locs : List Loc} {cells slots : Nat}
theorem retI (X : Stand p l e R s m args below meth c T locs cells slots) (hx : p.tables.exec = Jvm.exec) {pc : Nat} {Ls : Array Slot} {z : Int32} {rest : List Value} (hret : meth.sig.returnType = some .int) (hd : decode c.code pc = .ok (.ireturn, 1)) {fs : List Frame}
    (hl : ∀ (f : JFrame) (acts : List Action), f.method = m → f.locked = none → f.entered = [] → (doReturn e (T.setTop f) acts (some (.int z))).1 = T.setFrames fs) : Steps p.tables e below (T.setTop (mkF m pc Ls (.int z :: rest))) (T.setFrames fs) := by
  have hm' : T.vm.method? m = some meth := X.method'
  have hn : narrow .int (.int z) = .int z := rfl
  show Steps p.tables e below (T.setTop { method := m, pc := pc, locals := Ls, stack := _ :: rest, locked := none }) _
  jvm_step X.here [X.here.top, hx, hd, hm', hret, hn]
  first | (intro acts; rw [hl _ acts rfl rfl rfl]) | rw [hl _ _ rfl rfl rfl]
  exact Steps.refl _
end New
end Jvm.RoadKit
namespace Jvm.Pilot.@@N@@
open Jvm Jvm.ClassFile Sem Op Lib Jvm.Free Jvm.Stand Jvm.LawKit Jvm.RoadKit Bundle Jvm.Pilot.@@N@@.Jvm.D
def Goes (tb : Tables) (e : Env) (below : List Frame) (Q : Outcome → State → Prop) (A : State) : Prop := ∃ s₂ o, Steps tb e below A s₂ ∧ s₂.status = .running ∧ Ended s₂ below o ∧ Q o s₂
theorem Goes.step {tb : Tables} {e : Env} {below : List Frame} {Q : Outcome → State → Prop} {A B : State} (h : ∀ t, Steps tb e below A t → Steps tb e below B t) (k : Goes tb e below Q A) : Goes tb e below Q B := by
  obtain ⟨s₂, o, h1, h2⟩ := k
  exact ⟨s₂, o, h _ h1, h2⟩
theorem Goes.start {tb : Tables} {e : Env} {below : List Frame} {Q : Outcome → State → Prop} {A B : State} (h : ∀ t, Steps tb e below A t → Steps tb e below B t) (k : Goes tb e below Q A) : ∃ s₂ o, Steps tb e below B s₂ ∧ s₂.status = .running ∧ Ended s₂ below o ∧ Q o s₂ := Goes.step h k
theorem Goes.done {tb : Tables} {e : Env} {below : List Frame} {Q : Outcome → State → Prop} {A s₂ : State} {o : Outcome} (h1 : Steps tb e below A s₂) (h2 : s₂.status = .running) (h3 : Ended s₂ below o) (h4 : Q o s₂) : Goes tb e below Q A := ⟨s₂, o, h1, h2, h3, h4⟩
def elemF (x0 x1 x2 x3 : Int64) (j : Int32) : Int64 := if j = 0 then x0 else if j = 1 then x1 else if j = 2 then x2 else x3
def Arr4 (Z : State) (h : Heap) (a : Addr) (xs : Int32 → Int64) : Prop := ∃ cl : Cell, Arr Z h a cl .long ∧ ∀ j : Int32, ¬ j < 0 → j < 4 → ¬ (j < 0 ∨ cl.slots.size ≤ j.toNatClampNeg) ∧ cl.slots[j.toNatClampNeg]? = some (.long (xs j))
theorem own_four (j : Int32) (h0 : ¬ j < 0) (h1 : j < 4) : j = 0 ∨ j = 1 ∨ j = 2 ∨ j = 3 := by
  have e0 : (0 : Int32).toInt = 0 := by decide
  have e1 : (1 : Int32).toInt = 1 := by decide
  have e2 : (2 : Int32).toInt = 2 := by decide
  have e3 : (3 : Int32).toInt = 3 := by decide
  have e4 : (4 : Int32).toInt = 4 := by decide
  rw [Int32.lt_iff_toInt_lt] at h0 h1
  rw [← Int32.toInt_inj, ← Int32.toInt_inj, ← Int32.toInt_inj, ← Int32.toInt_inj, e0, e1, e2, e3]
  rw [e0] at h0; rw [e4] at h1
  omega
theorem own_arr4 {Z : State} {h : Heap} {a : Addr} {k : ClassId} {x0 x1 x2 x3 : Int64} (F : Arv Z h a k .long (4 : Int32) [.long x0, .long x1, .long x2, .long x3] (.long (0 : Int64))) : Arr4 Z h a (elemF x0 x1 x2 x3) := by
  obtain ⟨cl, A, -, S, N, H, -⟩ := F
  refine ⟨cl, A, fun j h0 h1 => ?_⟩
  have hin := inb_of S ⟨h0, h1⟩
  refine ⟨hin, H.at hin ?_⟩
  rcases own_four j h0 h1 with rfl | rfl | rfl | rfl <;> rfl
def minF (a b : Int64) : Int64 := if b < a then b else a
def maxF (a b : Int64) : Int64 := if a < b then b else a
def Srt (xs : Int32 → Int64) : Prop := ∀ i j : Int32, 0 ≤ i.toInt → i.toInt ≤ j.toInt → j.toInt < 4 → (xs i).toInt ≤ (xs j).toInt
def FE (xs : Int32 → Int64) (key : Int64) (f t r : Int32) : Prop := f.toInt ≤ r.toInt ∧ r.toInt ≤ t.toInt ∧ (∀ j : Int32, f.toInt ≤ j.toInt → j.toInt < r.toInt → (xs j).toInt < key.toInt) ∧ ∀ j : Int32, r.toInt ≤ j.toInt → j.toInt < t.toInt → key.toInt ≤ (xs j).toInt
def Ik (xs : Int32 → Int64) (key : Int64) (f t : Int32) (k : Int) (e : Int32) : Prop := (e = t ∨ (k ≤ e.toInt ∧ f.toInt ≤ e.toInt ∧ e.toInt < t.toInt ∧ key.toInt ≤ (xs e).toInt)) ∧ ∀ j : Int32, k ≤ j.toInt → f.toInt ≤ j.toInt → j.toInt < t.toInt → j.toInt < e.toInt → (xs j).toInt < key.toInt
def Jv (xs : Int32 → Int64) (key : Int64) (f t lo hi : Int32) : Prop := 0 ≤ f.toInt ∧ t.toInt ≤ 4 ∧ f.toInt ≤ lo.toInt ∧ lo.toInt ≤ hi.toInt ∧ hi.toInt ≤ t.toInt ∧ (∀ j : Int32, f.toInt ≤ j.toInt → j.toInt < lo.toInt → (xs j).toInt < key.toInt) ∧ ∀ j : Int32, hi.toInt ≤ j.toInt → j.toInt < t.toInt → key.toInt ≤ (xs j).toInt
theorem own_z : (0 : Int32).toInt = 0 := by decide
theorem own_o : (1 : Int32).toInt = 1 := by decide
theorem own_w : (2 : Int32).toInt = 2 := by decide
theorem own_h : (3 : Int32).toInt = 3 := by decide
theorem own_f : (4 : Int32).toInt = 4 := by decide
theorem own_v : (5 : Int32).toInt = 5 := by decide
theorem own_min (a b : Int64) : (minF a b).toInt ≤ a.toInt ∧ (minF a b).toInt ≤ b.toInt ∧ ((minF a b).toInt = a.toInt ∨ (minF a b).toInt = b.toInt) := by
  by_cases h : b < a
  · have h' := h
    rw [Int64.lt_iff_toInt_lt] at h'
    rw [minF, if_pos h]; omega
  · have h' := h
    rw [Int64.lt_iff_toInt_lt] at h'
    rw [minF, if_neg h]; omega
theorem own_max (a b : Int64) : a.toInt ≤ (maxF a b).toInt ∧ b.toInt ≤ (maxF a b).toInt ∧ ((maxF a b).toInt = a.toInt ∨ (maxF a b).toInt = b.toInt) := by
  by_cases h : a < b
  · have h' := h
    rw [Int64.lt_iff_toInt_lt] at h'
    rw [maxF, if_pos h]; omega
  · have h' := h
    rw [Int64.lt_iff_toInt_lt] at h'
    rw [maxF, if_neg h]; omega
theorem own_sort3 (p q r s : Int64) (h1 : p.toInt ≤ q.toInt) (h2 : r.toInt ≤ s.toInt) : (minF p r).toInt ≤ (minF (minF q s) (maxF p r)).toInt ∧ (minF (minF q s) (maxF p r)).toInt ≤ (maxF (minF q s) (maxF p r)).toInt ∧ (maxF (minF q s) (maxF p r)).toInt ≤ (maxF q s).toInt := by
  have a1 := own_min p r
  have a2 := own_max p r
  have a3 := own_min q s
  have a4 := own_max q s
  generalize minF p r = x0 at *
  generalize maxF p r = u at *
  generalize minF q s = v at *
  generalize maxF q s = x3 at *
  have a5 := own_min v u
  have a6 := own_max v u
  generalize minF v u = x1 at *
  generalize maxF v u = x2 at *
  refine ⟨?_, ?_, ?_⟩ <;> omega
theorem own_mm (a b : Int64) : (minF a b).toInt ≤ (maxF a b).toInt := by
  have a1 := own_min a b
  have a2 := own_max a b
  omega
theorem own_srt (x0 x1 x2 x3 : Int64) (h1 : x0.toInt ≤ x1.toInt) (h2 : x1.toInt ≤ x2.toInt) (h3 : x2.toInt ≤ x3.toInt) : Srt (elemF x0 x1 x2 x3) := by
  intro i j a b d
  have hi : i = 0 ∨ i = 1 ∨ i = 2 ∨ i = 3 := own_four i (by rw [Int32.lt_iff_toInt_lt, own_z]; omega) (by rw [Int32.lt_iff_toInt_lt, own_f]; omega)
  have hj : j = 0 ∨ j = 1 ∨ j = 2 ∨ j = 3 := own_four j (by rw [Int32.lt_iff_toInt_lt, own_z]; omega) (by rw [Int32.lt_iff_toInt_lt, own_f]; omega)
  have e0 : elemF x0 x1 x2 x3 0 = x0 := rfl
  have e1 : elemF x0 x1 x2 x3 1 = x1 := rfl
  have e2 : elemF x0 x1 x2 x3 2 = x2 := rfl
  have e3 : elemF x0 x1 x2 x3 3 = x3 := rfl
  rcases hi with rfl | rfl | rfl | rfl <;> rcases hj with rfl | rfl | rfl | rfl <;> simp only [e0, e1, e2, e3, own_z, own_o, own_w, own_h] at * <;> omega
theorem own_i4 (xs : Int32 → Int64) (key : Int64) (f t : Int32) (h : t.toInt ≤ 4) : Ik xs key f t 4 t := ⟨Or.inl rfl, fun j a b d e => by omega⟩
theorem own_yes (xs : Int32 → Int64) (key : Int64) (f t : Int32) (k : Int) (kk : Int32) (hk : kk.toInt = k) (h1 : ¬ kk < f) (h2 : kk < t) (h3 : ¬ xs kk < key) : Ik xs key f t k kk := by
  rw [Int32.lt_iff_toInt_lt] at h1 h2
  rw [Int64.lt_iff_toInt_lt] at h3
  exact ⟨Or.inr ⟨by omega, by omega, by omega, by omega⟩, fun j a b d e => by omega⟩
theorem own_no (xs : Int32 → Int64) (key : Int64) (f t e : Int32) (k : Int) (kk : Int32) (hk : kk.toInt = k) (I : Ik xs key f t (k + 1) e) (h : f.toInt ≤ k → k < t.toInt → (xs kk).toInt < key.toInt) : Ik xs key f t k e := by
  refine ⟨I.1.imp id fun q => ⟨by omega, q.2⟩, fun j a b d g => ?_⟩
  by_cases q : j.toInt = k
  · have : j = kk := by rw [← Int32.toInt_inj]; omega
    subst this
    exact h (by omega) (by omega)
  · exact I.2 j (by omega) b d g
theorem own_no1 (xs : Int32 → Int64) (key : Int64) (f t e : Int32) (k : Int) (kk : Int32) (hk : kk.toInt = k) (I : Ik xs key f t (k + 1) e) (h : kk < f) : Ik xs key f t k e := by
  rw [Int32.lt_iff_toInt_lt] at h
  exact own_no xs key f t e k kk hk I (fun a b => by omega)
theorem own_no2 (xs : Int32 → Int64) (key : Int64) (f t e : Int32) (k : Int) (kk : Int32) (hk : kk.toInt = k) (I : Ik xs key f t (k + 1) e) (h : ¬ kk < t) : Ik xs key f t k e := by
  rw [Int32.lt_iff_toInt_lt] at h
  exact own_no xs key f t e k kk hk I (fun a b => by omega)
theorem own_no3 (xs : Int32 → Int64) (key : Int64) (f t e : Int32) (k : Int) (kk : Int32) (hk : kk.toInt = k) (I : Ik xs key f t (k + 1) e) (h : xs kk < key) : Ik xs key f t k e := by
  rw [Int64.lt_iff_toInt_lt] at h
  exact own_no xs key f t e k kk hk I (fun a b => h)
theorem own_fe (xs : Int32 → Int64) (key : Int64) (f t e : Int32) (hs : Srt xs) (h0 : 0 ≤ f.toInt) (hft : f.toInt ≤ t.toInt) (h4 : t.toInt ≤ 4) (I : Ik xs key f t 0 e) : FE xs key f t e := by
  obtain ⟨a, b⟩ := I
  rcases a with rfl | ⟨a1, a2, a3, a4⟩
  · exact ⟨hft, Int.le_refl _, fun j u v => b j (by omega) u v v, fun j u v => by omega⟩
  · refine ⟨a2, by omega, fun j u v => b j (by omega) u (by omega) v, fun j u v => ?_⟩
    have := hs e j (by omega) u (by omega)
    omega
theorem own_uniq (xs : Int32 → Int64) (key : Int64) (f t r e : Int32) (h1 : FE xs key f t r) (h2 : FE xs key f t e) : r = e := by
  obtain ⟨a1, a2, a3, a4⟩ := h1
  obtain ⟨b1, b2, b3, b4⟩ := h2
  rw [← Int32.toInt_inj]
  by_cases q : r.toInt < e.toInt
  · have u := b3 r a1 q
    have v := a4 r (Int.le_refl _) (by omega)
    omega
  · by_cases q2 : e.toInt < r.toInt
    · have u := a3 e b1 q2
      have v := b4 e (Int.le_refl _) (by omega)
      omega
    · omega
theorem own_jv0 (xs : Int32 → Int64) (key : Int64) (f t : Int32) (h0 : 0 ≤ f.toInt) (h : f.toInt ≤ t.toInt) (h4 : t.toInt ≤ 4) : Jv xs key f t f t := ⟨h0, h4, Int.le_refl _, h, Int.le_refl _, fun j a b => by omega, fun j a b => by omega⟩
theorem own_mid (xs : Int32 → Int64) (key : Int64) (f t lo hi : Int32) (J : Jv xs key f t lo hi) (h : lo < hi) : lo.toInt ≤ (((lo + hi).toUInt32 >>> ((1 : Int32) &&& 31).toUInt32).toInt32).toInt ∧ (((lo + hi).toUInt32 >>> ((1 : Int32) &&& 31).toUInt32).toInt32).toInt < hi.toInt := by
  obtain ⟨a1, a2, a3, a4, a5, a6, a7⟩ := J
  rw [Int32.lt_iff_toInt_lt] at h
  have e := c_iushr (lo + hi) 1 1 (by decide) (by decide)
  have a := c_iadd lo hi
  have r := rng32 (lo + hi)
  have e2 : ((2 ^ 1 : Nat) : Int) = 2 := by decide
  rw [e2] at e
  rw [e]; omega
theorem own_ix (xs : Int32 → Int64) (key : Int64) (f t lo hi md : Int32) (J : Jv xs key f t lo hi) (h1 : lo.toInt ≤ md.toInt) (h2 : md.toInt < hi.toInt) : ¬ md < 0 ∧ md < 4 := by
  obtain ⟨a1, a2, a3, a4, a5, a6, a7⟩ := J
  simp only [Int32.lt_iff_toInt_lt, own_z, own_f]; omega
theorem own_inc (i : Int32) (h0 : 0 ≤ i.toInt) (h : i.toInt ≤ 4) : (i + (1 : Int32)).toInt = i.toInt + 1 := by
  have e := c_iadd i 1
  rw [own_o] at e
  have r := rng32 (i + 1)
  omega
theorem own_jlo (xs : Int32 → Int64) (key : Int64) (f t lo hi md : Int32) (hs : Srt xs) (J : Jv xs key f t lo hi) (h1 : lo.toInt ≤ md.toInt) (h2 : md.toInt < hi.toInt) (hx : xs md < key) : Jv xs key f t (md + (1 : Int32)) hi := by
  obtain ⟨a1, a2, a3, a4, a5, a6, a7⟩ := J
  rw [Int64.lt_iff_toInt_lt] at hx
  have e := own_inc md (by omega) (by omega)
  refine ⟨a1, a2, by omega, by omega, a5, fun j u v => ?_, a7⟩
  have := hs j md (by omega) (by omega) (by omega)
  omega
theorem own_jhi (xs : Int32 → Int64) (key : Int64) (f t lo hi md : Int32) (hs : Srt xs) (J : Jv xs key f t lo hi) (h1 : lo.toInt ≤ md.toInt) (h2 : md.toInt < hi.toInt) (hx : ¬ xs md < key) : Jv xs key f t lo md := by
  obtain ⟨a1, a2, a3, a4, a5, a6, a7⟩ := J
  rw [Int64.lt_iff_toInt_lt] at hx
  refine ⟨a1, a2, a3, h1, by omega, a6, fun j u v => ?_⟩
  have := hs md j (by omega) u (by omega)
  omega
theorem own_jend (xs : Int32 → Int64) (key : Int64) (f t lo hi : Int32) (J : Jv xs key f t lo hi) (h : ¬ lo < hi) : FE xs key f t lo := by
  obtain ⟨a1, a2, a3, a4, a5, a6, a7⟩ := J
  rw [Int32.lt_iff_toInt_lt] at h
  exact ⟨a3, by omega, a6, fun j u v => a7 j (by omega) v⟩
theorem own_os {a : Addr} {b d x y v : Int32} {q : Int64} {s7 : Slot} (h : One s7) : storeLocals #[.val (.ref a), .val (.int b), .val (.int d), .val (.long q), .second, .val (.int x), .val (.int y), s7] 7 (.int v) = some #[.val (.ref a), .val (.int b), .val (.int d), .val (.long q), .second, .val (.int x), .val (.int y), .val (.int v)] := by
  rcases h with rfl | ⟨w, rfl, hw⟩
  · rfl
  · cases w <;> first | rfl | (simp [Value.category] at hw)
theorem own_from (r : Int32) : 0 ≤ ((r &&& (255 : Int32)) % (5 : Int32)).toInt ∧ ((r &&& (255 : Int32)) % (5 : Int32)).toInt ≤ 4 := by
  have e := c_mask r 255 8 (by decide) (by decide)
  have g := rng32 r
  have e8 : ((2 ^ 8 : Nat) : Int) = 256 := by decide
  rw [e8] at e
  have m := (c_irem (r &&& 255) 5 5 own_v).1 (by omega)
  rw [m]; omega
theorem own_sub (f : Int32) (h : 0 ≤ f.toInt ∧ f.toInt ≤ 4) : ((5 : Int32) - f).toInt = 5 - f.toInt := by
  have e := c_isub 5 f
  rw [own_v] at e
  have r := rng32 ((5 : Int32) - f)
  omega
theorem own_nz (f : Int32) (h : 0 ≤ f.toInt ∧ f.toInt ≤ 4) : ((5 : Int32) - f) ≠ 0 := by
  intro q
  have e := own_sub f h
  rw [q, own_z] at e
  omega
theorem own_to (f u : Int32) (h : 0 ≤ f.toInt ∧ f.toInt ≤ 4) (hu : 0 ≤ u.toInt) : f.toInt ≤ (f + (u % ((5 : Int32) - f))).toInt ∧ (f + (u % ((5 : Int32) - f))).toInt ≤ 4 := by
  have e := own_sub f h
  have m := (c_iremV u ((5 : Int32) - f)).1 hu (by omega)
  have a := c_iadd f (u % ((5 : Int32) - f))
  have g := rng32 (f + (u % ((5 : Int32) - f)))
  omega
theorem own_sh (r : Int32) : 0 ≤ ((r.toUInt32 >>> ((8 : Int32) &&& 31).toUInt32).toInt32).toInt := by
  have e := c_iushr r 8 8 (by decide) (by decide)
  rw [e]; omega
theorem ef_1 (m : MethodId) (x0 : Int64) (x1 : Int64) : entryFrame m #[(.long x0), (.long x1)] 4 = mkF m 0 #[.val (.long x0), .second, .val (.long x1), .second] [] := by first | (simp [entryFrame, mkF, argsToLocals, Value.category]; done) | rfl
def Q1 (Z : State) (q1 : Int64) (q2 : Int64) (h0 : Heap) (n0 : Nat) (v : Option Value) (h : Heap) (L : List Loc) : Prop := v = some (.long (minF q1 q2)) ∧ Fr n0 L ∧ h = h0
theorem d1_0 : decode jdk_29_method_70_code 0 = .ok (.lload_n 0, 1) := by decide +kernel
theorem d1_1 : decode jdk_29_method_70_code 1 = .ok (.lload_n 2, 1) := by decide +kernel
theorem d1_2 : decode jdk_29_method_70_code 2 = .ok (.lcmp, 1) := by decide +kernel
theorem d1_3 : decode jdk_29_method_70_code 3 = .ok (.ifCond .gt 7, 3) := by decide +kernel
theorem d1_6 : decode jdk_29_method_70_code 6 = .ok (.lload_n 0, 1) := by decide +kernel
theorem d1_7 : decode jdk_29_method_70_code 7 = .ok (.goto 4, 3) := by decide +kernel
theorem d1_10 : decode jdk_29_method_70_code 10 = .ok (.lload_n 2, 1) := by decide +kernel
theorem d1_11 : decode jdk_29_method_70_code 11 = .ok (.lreturn, 1) := by decide +kernel
set_option maxRecDepth 65536 in
set_option maxHeartbeats 40000000 in
theorem rm1 (l : Launch) (Z : State) (a0 : Array Value) (hw : ∀ d ∈ tables_1, d.before a0 Z = true) (ws : List Jvm.Cond) (q1 : Int64) (q2 : Int64) (h0 : Heap) (n0 : Nat) (Z0 : n0 ≤ h0.size) :
    MetFree l (⟨"java/lang/Math", "min", "(JJ)J"⟩ : MethodName) (head1 (Jvm.Cond.code (⟨"java/lang/Math", "min", "(JJ)J"⟩ : MethodName) jdk_29_method_70_code 4 (some .long) :: ws) ({ frames := 0, cells := 0, slots := 0, locals := 0 } : Room)) (fun a U => a = #[(.long q1), (.long q2)] ∧ Z.Warmed39 U.vm ∧ U.heap = h0) (fun _ _ _ _ _ => True) (fun _ U o U' => ∃ v L, o = .returned v ∧ Q1 Z q1 q2 h0 n0 v U'.heap L ∧ FrameEnd U o U' L ({ frames := 0, cells := 0, slots := 0, locals := 0 } : Room).cells ({ frames := 0, cells := 0, slots := 0, locals := 0 } : Room).slots) := by
  refine MetFree.of_bodySF (Jvm.Free.JP.mathPlain rfl (by decide +kernel)) hisR ?_
  intro p e s m args below meth c s₁ Bd hml0 hP hK
  obtain ⟨rfl, hZ, hh⟩ := hP
  have hx := Bd.exec
  have hby := Bd.bytes
  have hml : c.maxLocals = 4 := hml0
  have hown : s.vm.findClass "java/lang/Math" = some m.cls := findClass_of_methodNamed Bd.named
  have hnm := (name_of_methodNamed Bd.named Bd.method).1
  have X0 : Stand p l e ({ frames := 0, cells := 0, slots := 0, locals := 0 } : Room) s m #[(.long q1), (.long q2)] below meth c s₁ [] 0 0 := Stand.of_body Bd
  have e0 : s₁.heap = h0 := by rw [← hh, Bd.state]; rfl
  have N0 := Fr.nil n0
  refine Goes.start (Q := (fun o U' => ∃ v L, o = .returned v ∧ Q1 Z q1 q2 h0 n0 v U'.heap L ∧ FrameEnd s o U' L ({ frames := 0, cells := 0, slots := 0, locals := 0 } : Room).cells ({ frames := 0, cells := 0, slots := 0, locals := 0 } : Room).slots)) (A := s₁.setTop (mkF m 0 #[.val (.long q1), .second, .val (.long q2), .second] [])) (fun t k => castTop (ef_1 m q1 q2) k) ?_
  refine Goes.step (A := s₁.setTop (mkF m 3 #[.val (.long q1), .second, .val (.long q2), .second] [(.int (lcmpW q1 q2))])) (fun t kt => ?_) ?_
  · refine XS.lloadN X0.here hx rfl (hb hby d1_0) rfl ?_
    show Steps p.tables e below (s₁.setTop (mkF m 1 #[.val (.long q1), .second, .val (.long q2), .second] [(.long q1)])) _
    refine XS.lloadN X0.here hx rfl (hb hby d1_1) rfl ?_
    show Steps p.tables e below (s₁.setTop (mkF m 2 #[.val (.long q1), .second, .val (.long q2), .second] [(.long q2), (.long q1)])) _
    refine XS.lcmp X0.here hx rfl (hb hby d1_2) rfl ?_
    exact kt
  by_cases hc3_1 : q2 < q1
  · refine Goes.step (A := s₁.setTop (mkF m 10 #[.val (.long q1), .second, .val (.long q2), .second] [])) (fun t kt => XS.ifYes X0.here hx rfl (pc0 := 3) (pc' := 10) rfl (hb hby d1_3) rfl ((if0 _ _).trans (tlt ((lw_gt _ _).mpr hc3_1)).2.2.1) (by decide) (by decide) kt) ?_
    refine Goes.step (A := s₁.setTop (mkF m 11 #[.val (.long q1), .second, .val (.long q2), .second] [(.long q2)])) (fun t kt => ?_) ?_
    · refine XS.lloadN X0.here hx rfl (hb hby d1_10) rfl ?_
      exact kt
    obtain ⟨fs, hr, hrun, hended, hW, hsame⟩ := X0.leave (v := some (.long q2)) (fun h => by rw [Bd.returns] at h; cases h)
    refine Goes.done ?_ hrun hended ⟨_, _, rfl, ?_, ⟨_, rfl⟩, hW, hsame.mono (by decide) (by decide)⟩
    · jvm_step X0.here [X0.here.top, hx, (hb hby d1_11), X0.method', Bd.returns, narrow]
      first | (intro acts; rw [hr _ acts rfl rfl rfl]) | rw [hr _ _ rfl rfl rfl]
      exact Steps.refl _
    · show Q1 Z q1 q2 h0 n0 _ s₁.heap _
      rw [e0]
      exact ⟨congrArg some (congrArg Value.long (by simp [minF, hc3_1])), N0, rfl⟩
  · refine Goes.step (A := s₁.setTop (mkF m 6 #[.val (.long q1), .second, .val (.long q2), .second] [])) (fun t kt => XS.ifNo X0.here hx rfl (hb hby d1_3) rfl ((if0 _ _).trans (flt (fun q => hc3_1 ((lw_gt _ _).mp q))).2.2.1) kt) ?_
    refine Goes.step (A := s₁.setTop (mkF m 11 #[.val (.long q1), .second, .val (.long q2), .second] [(.long q1)])) (fun t kt => ?_) ?_
    · refine XS.lloadN X0.here hx rfl (hb hby d1_6) rfl ?_
      show Steps p.tables e below (s₁.setTop (mkF m 7 #[.val (.long q1), .second, .val (.long q2), .second] [(.long q1)])) _
      refine XS.goto X0.here hx rfl (pc0 := 7) (pc' := 11) rfl (hb hby d1_7) (by decide) (by decide) ?_
      exact kt
    obtain ⟨fs, hr, hrun, hended, hW, hsame⟩ := X0.leave (v := some (.long q1)) (fun h => by rw [Bd.returns] at h; cases h)
    refine Goes.done ?_ hrun hended ⟨_, _, rfl, ?_, ⟨_, rfl⟩, hW, hsame.mono (by decide) (by decide)⟩
    · jvm_step X0.here [X0.here.top, hx, (hb hby d1_11), X0.method', Bd.returns, narrow]
      first | (intro acts; rw [hr _ acts rfl rfl rfl]) | rw [hr _ _ rfl rfl rfl]
      exact Steps.refl _
    · show Q1 Z q1 q2 h0 n0 _ s₁.heap _
      rw [e0]
      exact ⟨congrArg some (congrArg Value.long (by simp [minF, hc3_1])), N0, rfl⟩
theorem ef_2 (m : MethodId) (x0 : Int64) (x1 : Int64) : entryFrame m #[(.long x0), (.long x1)] 4 = mkF m 0 #[.val (.long x0), .second, .val (.long x1), .second] [] := by first | (simp [entryFrame, mkF, argsToLocals, Value.category]; done) | rfl
def Q2 (Z : State) (q1 : Int64) (q2 : Int64) (h0 : Heap) (n0 : Nat) (v : Option Value) (h : Heap) (L : List Loc) : Prop := v = some (.long (maxF q1 q2)) ∧ Fr n0 L ∧ h = h0
theorem d2_0 : decode jdk_29_method_66_code 0 = .ok (.lload_n 0, 1) := by decide +kernel
theorem d2_1 : decode jdk_29_method_66_code 1 = .ok (.lload_n 2, 1) := by decide +kernel
theorem d2_2 : decode jdk_29_method_66_code 2 = .ok (.lcmp, 1) := by decide +kernel
theorem d2_3 : decode jdk_29_method_66_code 3 = .ok (.ifCond .lt 7, 3) := by decide +kernel
theorem d2_6 : decode jdk_29_method_66_code 6 = .ok (.lload_n 0, 1) := by decide +kernel
theorem d2_7 : decode jdk_29_method_66_code 7 = .ok (.goto 4, 3) := by decide +kernel
theorem d2_10 : decode jdk_29_method_66_code 10 = .ok (.lload_n 2, 1) := by decide +kernel
theorem d2_11 : decode jdk_29_method_66_code 11 = .ok (.lreturn, 1) := by decide +kernel
set_option maxRecDepth 65536 in
set_option maxHeartbeats 40000000 in
theorem rm2 (l : Launch) (Z : State) (a0 : Array Value) (hw : ∀ d ∈ tables_1, d.before a0 Z = true) (ws : List Jvm.Cond) (q1 : Int64) (q2 : Int64) (h0 : Heap) (n0 : Nat) (Z0 : n0 ≤ h0.size) :
    MetFree l (⟨"java/lang/Math", "max", "(JJ)J"⟩ : MethodName) (head1 (Jvm.Cond.code (⟨"java/lang/Math", "max", "(JJ)J"⟩ : MethodName) jdk_29_method_66_code 4 (some .long) :: ws) ({ frames := 0, cells := 0, slots := 0, locals := 0 } : Room)) (fun a U => a = #[(.long q1), (.long q2)] ∧ Z.Warmed39 U.vm ∧ U.heap = h0) (fun _ _ _ _ _ => True) (fun _ U o U' => ∃ v L, o = .returned v ∧ Q2 Z q1 q2 h0 n0 v U'.heap L ∧ FrameEnd U o U' L ({ frames := 0, cells := 0, slots := 0, locals := 0 } : Room).cells ({ frames := 0, cells := 0, slots := 0, locals := 0 } : Room).slots) := by
  refine MetFree.of_bodySF (Jvm.Free.JP.mathPlain rfl (by decide +kernel)) hisR ?_
  intro p e s m args below meth c s₁ Bd hml0 hP hK
  obtain ⟨rfl, hZ, hh⟩ := hP
  have hx := Bd.exec
  have hby := Bd.bytes
  have hml : c.maxLocals = 4 := hml0
  have hown : s.vm.findClass "java/lang/Math" = some m.cls := findClass_of_methodNamed Bd.named
  have hnm := (name_of_methodNamed Bd.named Bd.method).1
  have X0 : Stand p l e ({ frames := 0, cells := 0, slots := 0, locals := 0 } : Room) s m #[(.long q1), (.long q2)] below meth c s₁ [] 0 0 := Stand.of_body Bd
  have e0 : s₁.heap = h0 := by rw [← hh, Bd.state]; rfl
  have N0 := Fr.nil n0
  refine Goes.start (Q := (fun o U' => ∃ v L, o = .returned v ∧ Q2 Z q1 q2 h0 n0 v U'.heap L ∧ FrameEnd s o U' L ({ frames := 0, cells := 0, slots := 0, locals := 0 } : Room).cells ({ frames := 0, cells := 0, slots := 0, locals := 0 } : Room).slots)) (A := s₁.setTop (mkF m 0 #[.val (.long q1), .second, .val (.long q2), .second] [])) (fun t k => castTop (ef_2 m q1 q2) k) ?_
  refine Goes.step (A := s₁.setTop (mkF m 3 #[.val (.long q1), .second, .val (.long q2), .second] [(.int (lcmpW q1 q2))])) (fun t kt => ?_) ?_
  · refine XS.lloadN X0.here hx rfl (hb hby d2_0) rfl ?_
    show Steps p.tables e below (s₁.setTop (mkF m 1 #[.val (.long q1), .second, .val (.long q2), .second] [(.long q1)])) _
    refine XS.lloadN X0.here hx rfl (hb hby d2_1) rfl ?_
    show Steps p.tables e below (s₁.setTop (mkF m 2 #[.val (.long q1), .second, .val (.long q2), .second] [(.long q2), (.long q1)])) _
    refine XS.lcmp X0.here hx rfl (hb hby d2_2) rfl ?_
    exact kt
  by_cases hc3_2 : q1 < q2
  · refine Goes.step (A := s₁.setTop (mkF m 10 #[.val (.long q1), .second, .val (.long q2), .second] [])) (fun t kt => XS.ifYes X0.here hx rfl (pc0 := 3) (pc' := 10) rfl (hb hby d2_3) rfl ((if0 _ _).trans (tlt ((lw_lt _ _).mpr hc3_2)).1) (by decide) (by decide) kt) ?_
    refine Goes.step (A := s₁.setTop (mkF m 11 #[.val (.long q1), .second, .val (.long q2), .second] [(.long q2)])) (fun t kt => ?_) ?_
    · refine XS.lloadN X0.here hx rfl (hb hby d2_10) rfl ?_
      exact kt
    obtain ⟨fs, hr, hrun, hended, hW, hsame⟩ := X0.leave (v := some (.long q2)) (fun h => by rw [Bd.returns] at h; cases h)
    refine Goes.done ?_ hrun hended ⟨_, _, rfl, ?_, ⟨_, rfl⟩, hW, hsame.mono (by decide) (by decide)⟩
    · jvm_step X0.here [X0.here.top, hx, (hb hby d2_11), X0.method', Bd.returns, narrow]
      first | (intro acts; rw [hr _ acts rfl rfl rfl]) | rw [hr _ _ rfl rfl rfl]
      exact Steps.refl _
    · show Q2 Z q1 q2 h0 n0 _ s₁.heap _
      rw [e0]
      exact ⟨congrArg some (congrArg Value.long (by simp [maxF, hc3_2])), N0, rfl⟩
  · refine Goes.step (A := s₁.setTop (mkF m 6 #[.val (.long q1), .second, .val (.long q2), .second] [])) (fun t kt => XS.ifNo X0.here hx rfl (hb hby d2_3) rfl ((if0 _ _).trans (flt (fun q => hc3_2 ((lw_lt _ _).mp q))).1) kt) ?_
    refine Goes.step (A := s₁.setTop (mkF m 11 #[.val (.long q1), .second, .val (.long q2), .second] [(.long q1)])) (fun t kt => ?_) ?_
    · refine XS.lloadN X0.here hx rfl (hb hby d2_6) rfl ?_
      show Steps p.tables e below (s₁.setTop (mkF m 7 #[.val (.long q1), .second, .val (.long q2), .second] [(.long q1)])) _
      refine XS.goto X0.here hx rfl (pc0 := 7) (pc' := 11) rfl (hb hby d2_7) (by decide) (by decide) ?_
      exact kt
    obtain ⟨fs, hr, hrun, hended, hW, hsame⟩ := X0.leave (v := some (.long q1)) (fun h => by rw [Bd.returns] at h; cases h)
    refine Goes.done ?_ hrun hended ⟨_, _, rfl, ?_, ⟨_, rfl⟩, hW, hsame.mono (by decide) (by decide)⟩
    · jvm_step X0.here [X0.here.top, hx, (hb hby d2_11), X0.method', Bd.returns, narrow]
      first | (intro acts; rw [hr _ acts rfl rfl rfl]) | rw [hr _ _ rfl rfl rfl]
      exact Steps.refl _
    · show Q2 Z q1 q2 h0 n0 _ s₁.heap _
      rw [e0]
      exact ⟨congrArg some (congrArg Value.long (by simp [maxF, hc3_2])), N0, rfl⟩
theorem ef_3 (m : MethodId) (x0 : Addr) (x1 : Int32) (x2 : Int32) (x3 : Int64) : entryFrame m #[(.ref x0), (.int x1), (.int x2), (.long x3)] 8 = mkF m 0 #[.val (.ref x0), .val (.int x1), .val (.int x2), .val (.long x3), .second, .unset, .unset, .unset] [] := by first | (simp [entryFrame, mkF, argsToLocals, Value.category]; done) | rfl
def Q3 (Z : State) (p0 : Addr) (p1 : Int32) (p2 : Int32) (q3 : Int64) (xs : Int32 → Int64) (h0 : Heap) (n0 : Nat) (v : Option Value) (h : Heap) (L : List Loc) : Prop := ∃ r : Int32, v = some (.int r) ∧ Fr n0 L ∧ h = h0 ∧ FE xs q3 p1 p2 r
theorem d3_0 : decode prog_15_method_2_code 0 = .ok (.iload_n 1, 1) := by decide +kernel
theorem d3_1 : decode prog_15_method_2_code 1 = .ok (.istore 5, 2) := by decide +kernel
theorem d3_3 : decode prog_15_method_2_code 3 = .ok (.iload_n 2, 1) := by decide +kernel
theorem d3_4 : decode prog_15_method_2_code 4 = .ok (.istore 6, 2) := by decide +kernel
theorem d3_6 : decode prog_15_method_2_code 6 = .ok (.iload 5, 2) := by decide +kernel
theorem d3_8 : decode prog_15_method_2_code 8 = .ok (.iload 6, 2) := by decide +kernel
theorem d3_10 : decode prog_15_method_2_code 10 = .ok (.if_icmp .ge 37, 3) := by decide +kernel
theorem d3_13 : decode prog_15_method_2_code 13 = .ok (.iload 5, 2) := by decide +kernel
theorem d3_15 : decode prog_15_method_2_code 15 = .ok (.iload 6, 2) := by decide +kernel
theorem d3_17 : decode prog_15_method_2_code 17 = .ok (.iadd, 1) := by decide +kernel
theorem d3_18 : decode prog_15_method_2_code 18 = .ok (.iconst 1, 1) := by decide +kernel
theorem d3_19 : decode prog_15_method_2_code 19 = .ok (.iushr, 1) := by decide +kernel
theorem d3_20 : decode prog_15_method_2_code 20 = .ok (.istore 7, 2) := by decide +kernel
theorem d3_22 : decode prog_15_method_2_code 22 = .ok (.aload_n 0, 1) := by decide +kernel
theorem d3_23 : decode prog_15_method_2_code 23 = .ok (.iload 7, 2) := by decide +kernel
theorem d3_25 : decode prog_15_method_2_code 25 = .ok (.laload, 1) := by decide +kernel
theorem d3_26 : decode prog_15_method_2_code 26 = .ok (.lload_n 3, 1) := by decide +kernel
theorem d3_27 : decode prog_15_method_2_code 27 = .ok (.lcmp, 1) := by decide +kernel
theorem d3_28 : decode prog_15_method_2_code 28 = .ok (.ifCond .ge 12, 3) := by decide +kernel
theorem d3_31 : decode prog_15_method_2_code 31 = .ok (.iload 7, 2) := by decide +kernel
theorem d3_33 : decode prog_15_method_2_code 33 = .ok (.iconst 1, 1) := by decide +kernel
theorem d3_34 : decode prog_15_method_2_code 34 = .ok (.iadd, 1) := by decide +kernel
theorem d3_35 : decode prog_15_method_2_code 35 = .ok (.istore 5, 2) := by decide +kernel
theorem d3_37 : decode prog_15_method_2_code 37 = .ok (.goto 7, 3) := by decide +kernel
theorem d3_40 : decode prog_15_method_2_code 40 = .ok (.iload 7, 2) := by decide +kernel
theorem d3_42 : decode prog_15_method_2_code 42 = .ok (.istore 6, 2) := by decide +kernel
theorem d3_44 : decode prog_15_method_2_code 44 = .ok (.goto (-38), 3) := by decide +kernel
theorem d3_47 : decode prog_15_method_2_code 47 = .ok (.iload 5, 2) := by decide +kernel
theorem d3_49 : decode prog_15_method_2_code 49 = .ok (.ireturn, 1) := by decide +kernel
theorem pn_3 : plainName "com/example/plnr/plnr/check/SortedLongs" = true := by first | (simp [plainName, overriddenIn]; done) | decide +kernel
set_option maxRecDepth 65536 in
set_option maxHeartbeats 40000000 in
theorem rm3 (l : Launch) (Z : State) (a0 : Array Value) (hw : ∀ d ∈ tables_1, d.before a0 Z = true) (ws : List Jvm.Cond) (p0 : Addr) (p1 : Int32) (p2 : Int32) (q3 : Int64) (xs : Int32 → Int64) (h0 : Heap) (n0 : Nat) (Z0 : n0 ≤ h0.size) (A4 : Arr4 Z h0 p0 xs) (hs : Srt xs) (hf : 0 ≤ p1.toInt) (hft : p1.toInt ≤ p2.toInt) (ht : p2.toInt ≤ 4) :
    MetFree l (⟨"com/example/plnr/plnr/check/SortedLongs", "firstAtLeast", "([JIIJ)I"⟩ : MethodName) (head1 (Jvm.Cond.code (⟨"com/example/plnr/plnr/check/SortedLongs", "firstAtLeast", "([JIIJ)I"⟩ : MethodName) prog_15_method_2_code 8 (some .int) :: ws) ({ frames := 0, cells := 0, slots := 0, locals := 0 } : Room)) (fun a U => a = #[(.ref p0), (.int p1), (.int p2), (.long q3)] ∧ Z.Warmed39 U.vm ∧ U.heap = h0) (fun _ _ _ _ _ => True) (fun _ U o U' => ∃ v L, o = .returned v ∧ Q3 Z p0 p1 p2 q3 xs h0 n0 v U'.heap L ∧ FrameEnd U o U' L ({ frames := 0, cells := 0, slots := 0, locals := 0 } : Room).cells ({ frames := 0, cells := 0, slots := 0, locals := 0 } : Room).slots) := by
  refine MetFree.of_bodySF (plainFor_of_name pn_3) hisR ?_
  intro p e s m args below meth c s₁ Bd hml0 hP hK
  obtain ⟨rfl, hZ, hh⟩ := hP
  have hx := Bd.exec
  have hby := Bd.bytes
  have hml : c.maxLocals = 8 := hml0
  have hown : s.vm.findClass "com/example/plnr/plnr/check/SortedLongs" = some m.cls := findClass_of_methodNamed Bd.named
  have hnm := (name_of_methodNamed Bd.named Bd.method).1
  have X0 : Stand p l e ({ frames := 0, cells := 0, slots := 0, locals := 0 } : Room) s m #[(.ref p0), (.int p1), (.int p2), (.long q3)] below meth c s₁ [] 0 0 := Stand.of_body Bd
  have e0 : s₁.heap = h0 := by rw [← hh, Bd.state]; rfl
  have N0 := Fr.nil n0
  refine Goes.start (Q := (fun o U' => ∃ v L, o = .returned v ∧ Q3 Z p0 p1 p2 q3 xs h0 n0 v U'.heap L ∧ FrameEnd s o U' L ({ frames := 0, cells := 0, slots := 0, locals := 0 } : Room).cells ({ frames := 0, cells := 0, slots := 0, locals := 0 } : Room).slots)) (A := s₁.setTop (mkF m 0 #[.val (.ref p0), .val (.int p1), .val (.int p2), .val (.long q3), .second, .unset, .unset, .unset] [])) (fun t k => castTop (ef_3 m p0 p1 p2 q3) k) ?_
  obtain ⟨cl, Ar, Hat⟩ := A4
  have loop : ∀ (k : Nat) (lo hi : Int32) (s7 : Slot), One s7 → hi.toInt - lo.toInt ≤ k → Jv xs q3 p1 p2 lo hi → Goes p.tables e below (fun o U' => ∃ v L, o = .returned v ∧ Q3 Z p0 p1 p2 q3 xs h0 n0 v U'.heap L ∧ FrameEnd s o U' L ({ frames := 0, cells := 0, slots := 0, locals := 0 } : Room).cells ({ frames := 0, cells := 0, slots := 0, locals := 0 } : Room).slots) (s₁.setTop (mkF m 6 #[.val (.ref p0), .val (.int p1), .val (.int p2), .val (.long q3), .second, .val (.int lo), .val (.int hi), s7] [])) := by
    intro k
    induction k with
    | zero =>
      intro lo hi s7 h7 hk hinv
      have hlt : ¬ lo < hi := by rw [Int32.lt_iff_toInt_lt]; omega
      refine Goes.step (A := s₁.setTop (mkF m 10 #[.val (.ref p0), .val (.int p1), .val (.int p2), .val (.long q3), .second, .val (.int lo), .val (.int hi), s7] [(.int hi), (.int lo)])) (fun t kt => ?_) ?_
      · refine XS.iload X0.here hx rfl (hb hby d3_6) rfl ?_
        show Steps p.tables e below (s₁.setTop (mkF m 8 #[.val (.ref p0), .val (.int p1), .val (.int p2), .val (.long q3), .second, .val (.int lo), .val (.int hi), s7] [(.int lo)])) _
        refine XS.iload X0.here hx rfl (hb hby d3_8) rfl ?_
        exact kt
      refine Goes.step (A := s₁.setTop (mkF m 47 #[.val (.ref p0), .val (.int p1), .val (.int p2), .val (.long q3), .second, .val (.int lo), .val (.int hi), s7] [])) (fun t kt => XS.icmpYes X0.here hx rfl (pc0 := 10) (pc' := 47) rfl (hb hby d3_10) rfl (flt (hlt : ¬ (lo < hi))).2.1 (by decide) (by decide) kt) ?_
      refine Goes.step (A := s₁.setTop (mkF m 49 #[.val (.ref p0), .val (.int p1), .val (.int p2), .val (.long q3), .second, .val (.int lo), .val (.int hi), s7] [(.int lo)])) (fun t kt => ?_) ?_
      · refine XS.iload X0.here hx rfl (hb hby d3_47) rfl ?_
        exact kt
      obtain ⟨fs, hr, hrun, hended, hW, hsame⟩ := X0.leave (v := some (.int lo)) (fun h => by rw [Bd.returns] at h; cases h)
      refine Goes.done ?_ hrun hended ⟨_, _, rfl, ?_, ⟨_, rfl⟩, hW, hsame.mono (by decide) (by decide)⟩
      · exact retI X0 hx Bd.returns (hb hby d3_49) hr
      · show Q3 Z p0 p1 p2 q3 xs h0 n0 _ s₁.heap _
        rw [e0]
        exact ⟨_, rfl, N0, rfl, own_jend xs q3 p1 p2 lo hi hinv hlt⟩
    | succ k ih =>
      intro lo hi s7 h7 hk hinv
      by_cases hlt : lo < hi
      · have hmd := own_mid xs q3 p1 p2 lo hi hinv hlt
        have hix := own_ix xs q3 p1 p2 lo hi _ hinv hmd.1 hmd.2
        refine Goes.step (A := s₁.setTop (mkF m 10 #[.val (.ref p0), .val (.int p1), .val (.int p2), .val (.long q3), .second, .val (.int lo), .val (.int hi), s7] [(.int hi), (.int lo)])) (fun t kt => ?_) ?_
        · refine XS.iload X0.here hx rfl (hb hby d3_6) rfl ?_
          show Steps p.tables e below (s₁.setTop (mkF m 8 #[.val (.ref p0), .val (.int p1), .val (.int p2), .val (.long q3), .second, .val (.int lo), .val (.int hi), s7] [(.int lo)])) _
          refine XS.iload X0.here hx rfl (hb hby d3_8) rfl ?_
          exact kt
        refine Goes.step (A := s₁.setTop (mkF m 13 #[.val (.ref p0), .val (.int p1), .val (.int p2), .val (.long q3), .second, .val (.int lo), .val (.int hi), s7] [])) (fun t kt => XS.icmpNo X0.here hx rfl (hb hby d3_10) rfl (tlt (hlt : lo < hi)).2.1 kt) ?_
        refine Goes.step (A := s₁.setTop (mkF m 28 #[.val (.ref p0), .val (.int p1), .val (.int p2), .val (.long q3), .second, .val (.int lo), .val (.int hi), .val (.int (((lo + hi).toUInt32 >>> ((1 : Int32) &&& 31).toUInt32).toInt32))] [(.int (lcmpW (xs (((lo + hi).toUInt32 >>> ((1 : Int32) &&& 31).toUInt32).toInt32)) q3))])) (fun t kt => ?_) ?_
        · refine XS.iload X0.here hx rfl (hb hby d3_13) rfl ?_
          show Steps p.tables e below (s₁.setTop (mkF m 15 #[.val (.ref p0), .val (.int p1), .val (.int p2), .val (.long q3), .second, .val (.int lo), .val (.int hi), s7] [(.int lo)])) _
          refine XS.iload X0.here hx rfl (hb hby d3_15) rfl ?_
          show Steps p.tables e below (s₁.setTop (mkF m 17 #[.val (.ref p0), .val (.int p1), .val (.int p2), .val (.long q3), .second, .val (.int lo), .val (.int hi), s7] [(.int hi), (.int lo)])) _
          refine XS.iadd X0.here hx rfl (hb hby d3_17) rfl ?_
          show Steps p.tables e below (s₁.setTop (mkF m 18 #[.val (.ref p0), .val (.int p1), .val (.int p2), .val (.long q3), .second, .val (.int lo), .val (.int hi), s7] [(.int (lo + hi))])) _
          refine XS.iconst X0.here hx rfl (hb hby d3_18) ?_
          show Steps p.tables e below (s₁.setTop (mkF m 19 #[.val (.ref p0), .val (.int p1), .val (.int p2), .val (.long q3), .second, .val (.int lo), .val (.int hi), s7] [(.int (1 : Int32)), (.int (lo + hi))])) _
          refine XS.iushr X0.here hx rfl (hb hby d3_19) rfl ?_
          show Steps p.tables e below (s₁.setTop (mkF m 20 #[.val (.ref p0), .val (.int p1), .val (.int p2), .val (.long q3), .second, .val (.int lo), .val (.int hi), s7] [(.int (((lo + hi).toUInt32 >>> ((1 : Int32) &&& 31).toUInt32).toInt32))])) _
          refine XS.istore X0.here hx rfl (hb hby d3_20) rfl (l' := #[.val (.ref p0), .val (.int p1), .val (.int p2), .val (.long q3), .second, .val (.int lo), .val (.int hi), .val (.int (((lo + hi).toUInt32 >>> ((1 : Int32) &&& 31).toUInt32).toInt32))]) (own_os h7) ?_
          show Steps p.tables e below (s₁.setTop (mkF m 22 #[.val (.ref p0), .val (.int p1), .val (.int p2), .val (.long q3), .second, .val (.int lo), .val (.int hi), .val (.int (((lo + hi).toUInt32 >>> ((1 : Int32) &&& 31).toUInt32).toInt32))] [])) _
          refine XS.aloadN X0.here hx rfl (hb hby d3_22) rfl rfl ?_
          show Steps p.tables e below (s₁.setTop (mkF m 23 #[.val (.ref p0), .val (.int p1), .val (.int p2), .val (.long q3), .second, .val (.int lo), .val (.int hi), .val (.int (((lo + hi).toUInt32 >>> ((1 : Int32) &&& 31).toUInt32).toInt32))] [(.ref p0)])) _
          refine XS.iload X0.here hx rfl (hb hby d3_23) rfl ?_
          show Steps p.tables e below (s₁.setTop (mkF m 25 #[.val (.ref p0), .val (.int p1), .val (.int p2), .val (.long q3), .second, .val (.int lo), .val (.int hi), .val (.int (((lo + hi).toUInt32 >>> ((1 : Int32) &&& 31).toUInt32).toInt32))] [(.int (((lo + hi).toUInt32 >>> ((1 : Int32) &&& 31).toUInt32).toInt32)), (.ref p0)])) _
          refine X0.laload hx (j := (((lo + hi).toUInt32 >>> ((1 : Int32) &&& 31).toUInt32).toInt32)) (v := (.long (xs (((lo + hi).toUInt32 >>> ((1 : Int32) &&& 31).toUInt32).toInt32)))) (by rw [e0]; exact Ar.1) (State.isArrayOf_alike hZ.alike Ar.2.1) Ar.2.2 (Hat _ hix.1 hix.2).1 (Hat _ hix.1 hix.2).2 (g := (mkF m 25 #[.val (.ref p0), .val (.int p1), .val (.int p2), .val (.long q3), .second, .val (.int lo), .val (.int hi), .val (.int (((lo + hi).toUInt32 >>> ((1 : Int32) &&& 31).toUInt32).toInt32))] [(.int (((lo + hi).toUInt32 >>> ((1 : Int32) &&& 31).toUInt32).toInt32)), (.ref p0)])) rfl rfl (hb hby d3_25) _ ?_
          show Steps p.tables e below (s₁.setTop (mkF m 26 #[.val (.ref p0), .val (.int p1), .val (.int p2), .val (.long q3), .second, .val (.int lo), .val (.int hi), .val (.int (((lo + hi).toUInt32 >>> ((1 : Int32) &&& 31).toUInt32).toInt32))] [(.long (xs (((lo + hi).toUInt32 >>> ((1 : Int32) &&& 31).toUInt32).toInt32)))])) _
          refine XS.lloadN X0.here hx rfl (hb hby d3_26) rfl ?_
          show Steps p.tables e below (s₁.setTop (mkF m 27 #[.val (.ref p0), .val (.int p1), .val (.int p2), .val (.long q3), .second, .val (.int lo), .val (.int hi), .val (.int (((lo + hi).toUInt32 >>> ((1 : Int32) &&& 31).toUInt32).toInt32))] [(.long q3), (.long (xs (((lo + hi).toUInt32 >>> ((1 : Int32) &&& 31).toUInt32).toInt32)))])) _
          refine XS.lcmp X0.here hx rfl (hb hby d3_27) rfl ?_
          exact kt
        by_cases hc28_3 : (xs (((lo + hi).toUInt32 >>> ((1 : Int32) &&& 31).toUInt32).toInt32)) < q3
        · refine Goes.step (A := s₁.setTop (mkF m 31 #[.val (.ref p0), .val (.int p1), .val (.int p2), .val (.long q3), .second, .val (.int lo), .val (.int hi), .val (.int (((lo + hi).toUInt32 >>> ((1 : Int32) &&& 31).toUInt32).toInt32))] [])) (fun t kt => XS.ifNo X0.here hx rfl (hb hby d3_28) rfl ((if0 _ _).trans (tlt ((lw_lt _ _).mpr hc28_3)).2.1) kt) ?_
          refine Goes.step (A := s₁.setTop (mkF m 6 #[.val (.ref p0), .val (.int p1), .val (.int p2), .val (.long q3), .second, .val (.int ((((lo + hi).toUInt32 >>> ((1 : Int32) &&& 31).toUInt32).toInt32) + (1 : Int32))), .val (.int hi), .val (.int (((lo + hi).toUInt32 >>> ((1 : Int32) &&& 31).toUInt32).toInt32))] [])) (fun t kt => ?_) ?_
          · refine XS.iload X0.here hx rfl (hb hby d3_31) rfl ?_
            show Steps p.tables e below (s₁.setTop (mkF m 33 #[.val (.ref p0), .val (.int p1), .val (.int p2), .val (.long q3), .second, .val (.int lo), .val (.int hi), .val (.int (((lo + hi).toUInt32 >>> ((1 : Int32) &&& 31).toUInt32).toInt32))] [(.int (((lo + hi).toUInt32 >>> ((1 : Int32) &&& 31).toUInt32).toInt32))])) _
            refine XS.iconst X0.here hx rfl (hb hby d3_33) ?_
            show Steps p.tables e below (s₁.setTop (mkF m 34 #[.val (.ref p0), .val (.int p1), .val (.int p2), .val (.long q3), .second, .val (.int lo), .val (.int hi), .val (.int (((lo + hi).toUInt32 >>> ((1 : Int32) &&& 31).toUInt32).toInt32))] [(.int (1 : Int32)), (.int (((lo + hi).toUInt32 >>> ((1 : Int32) &&& 31).toUInt32).toInt32))])) _
            refine XS.iadd X0.here hx rfl (hb hby d3_34) rfl ?_
            show Steps p.tables e below (s₁.setTop (mkF m 35 #[.val (.ref p0), .val (.int p1), .val (.int p2), .val (.long q3), .second, .val (.int lo), .val (.int hi), .val (.int (((lo + hi).toUInt32 >>> ((1 : Int32) &&& 31).toUInt32).toInt32))] [(.int ((((lo + hi).toUInt32 >>> ((1 : Int32) &&& 31).toUInt32).toInt32) + (1 : Int32)))])) _
            refine XS.istore X0.here hx rfl (hb hby d3_35) rfl (l' := #[.val (.ref p0), .val (.int p1), .val (.int p2), .val (.long q3), .second, .val (.int ((((lo + hi).toUInt32 >>> ((1 : Int32) &&& 31).toUInt32).toInt32) + (1 : Int32))), .val (.int hi), .val (.int (((lo + hi).toUInt32 >>> ((1 : Int32) &&& 31).toUInt32).toInt32))]) rfl ?_
            show Steps p.tables e below (s₁.setTop (mkF m 37 #[.val (.ref p0), .val (.int p1), .val (.int p2), .val (.long q3), .second, .val (.int ((((lo + hi).toUInt32 >>> ((1 : Int32) &&& 31).toUInt32).toInt32) + (1 : Int32))), .val (.int hi), .val (.int (((lo + hi).toUInt32 >>> ((1 : Int32) &&& 31).toUInt32).toInt32))] [])) _
            refine XS.goto X0.here hx rfl (pc0 := 37) (pc' := 44) rfl (hb hby d3_37) (by decide) (by decide) ?_
            show Steps p.tables e below (s₁.setTop (mkF m 44 #[.val (.ref p0), .val (.int p1), .val (.int p2), .val (.long q3), .second, .val (.int ((((lo + hi).toUInt32 >>> ((1 : Int32) &&& 31).toUInt32).toInt32) + (1 : Int32))), .val (.int hi), .val (.int (((lo + hi).toUInt32 >>> ((1 : Int32) &&& 31).toUInt32).toInt32))] [])) _
            refine XS.goto X0.here hx rfl (pc0 := 44) (pc' := 6) rfl (hb hby d3_44) (by decide) (by decide) ?_
            exact kt
          exact ih _ _ _ (One.val rfl) (by have hl := hmd.1; have hh := hmd.2; have hi1 := own_inc (((lo + hi).toUInt32 >>> ((1 : Int32) &&& 31).toUInt32).toInt32) (by have := hinv.1; have := hinv.2.2.1; omega) (by have := hinv.2.1; have := hinv.2.2.2.2.1; omega); omega) (own_jlo xs q3 p1 p2 lo hi _ hs hinv hmd.1 hmd.2 hc28_3)
        · refine Goes.step (A := s₁.setTop (mkF m 40 #[.val (.ref p0), .val (.int p1), .val (.int p2), .val (.long q3), .second, .val (.int lo), .val (.int hi), .val (.int (((lo + hi).toUInt32 >>> ((1 : Int32) &&& 31).toUInt32).toInt32))] [])) (fun t kt => XS.ifYes X0.here hx rfl (pc0 := 28) (pc' := 40) rfl (hb hby d3_28) rfl ((if0 _ _).trans (flt (fun q => hc28_3 ((lw_lt _ _).mp q))).2.1) (by decide) (by decide) kt) ?_
          refine Goes.step (A := s₁.setTop (mkF m 6 #[.val (.ref p0), .val (.int p1), .val (.int p2), .val (.long q3), .second, .val (.int lo), .val (.int (((lo + hi).toUInt32 >>> ((1 : Int32) &&& 31).toUInt32).toInt32)), .val (.int (((lo + hi).toUInt32 >>> ((1 : Int32) &&& 31).toUInt32).toInt32))] [])) (fun t kt => ?_) ?_
          · refine XS.iload X0.here hx rfl (hb hby d3_40) rfl ?_
            show Steps p.tables e below (s₁.setTop (mkF m 42 #[.val (.ref p0), .val (.int p1), .val (.int p2), .val (.long q3), .second, .val (.int lo), .val (.int hi), .val (.int (((lo + hi).toUInt32 >>> ((1 : Int32) &&& 31).toUInt32).toInt32))] [(.int (((lo + hi).toUInt32 >>> ((1 : Int32) &&& 31).toUInt32).toInt32))])) _
            refine XS.istore X0.here hx rfl (hb hby d3_42) rfl (l' := #[.val (.ref p0), .val (.int p1), .val (.int p2), .val (.long q3), .second, .val (.int lo), .val (.int (((lo + hi).toUInt32 >>> ((1 : Int32) &&& 31).toUInt32).toInt32)), .val (.int (((lo + hi).toUInt32 >>> ((1 : Int32) &&& 31).toUInt32).toInt32))]) rfl ?_
            show Steps p.tables e below (s₁.setTop (mkF m 44 #[.val (.ref p0), .val (.int p1), .val (.int p2), .val (.long q3), .second, .val (.int lo), .val (.int (((lo + hi).toUInt32 >>> ((1 : Int32) &&& 31).toUInt32).toInt32)), .val (.int (((lo + hi).toUInt32 >>> ((1 : Int32) &&& 31).toUInt32).toInt32))] [])) _
            refine XS.goto X0.here hx rfl (pc0 := 44) (pc' := 6) rfl (hb hby d3_44) (by decide) (by decide) ?_
            exact kt
          exact ih _ _ _ (One.val rfl) (by have hl := hmd.1; have hh := hmd.2; omega) (own_jhi xs q3 p1 p2 lo hi _ hs hinv hmd.1 hmd.2 hc28_3)
      · refine Goes.step (A := s₁.setTop (mkF m 10 #[.val (.ref p0), .val (.int p1), .val (.int p2), .val (.long q3), .second, .val (.int lo), .val (.int hi), s7] [(.int hi), (.int lo)])) (fun t kt => ?_) ?_
        · refine XS.iload X0.here hx rfl (hb hby d3_6) rfl ?_
          show Steps p.tables e below (s₁.setTop (mkF m 8 #[.val (.ref p0), .val (.int p1), .val (.int p2), .val (.long q3), .second, .val (.int lo), .val (.int hi), s7] [(.int lo)])) _
          refine XS.iload X0.here hx rfl (hb hby d3_8) rfl ?_
          exact kt
        refine Goes.step (A := s₁.setTop (mkF m 47 #[.val (.ref p0), .val (.int p1), .val (.int p2), .val (.long q3), .second, .val (.int lo), .val (.int hi), s7] [])) (fun t kt => XS.icmpYes X0.here hx rfl (pc0 := 10) (pc' := 47) rfl (hb hby d3_10) rfl (flt (hlt : ¬ (lo < hi))).2.1 (by decide) (by decide) kt) ?_
        refine Goes.step (A := s₁.setTop (mkF m 49 #[.val (.ref p0), .val (.int p1), .val (.int p2), .val (.long q3), .second, .val (.int lo), .val (.int hi), s7] [(.int lo)])) (fun t kt => ?_) ?_
        · refine XS.iload X0.here hx rfl (hb hby d3_47) rfl ?_
          exact kt
        obtain ⟨fs, hr, hrun, hended, hW, hsame⟩ := X0.leave (v := some (.int lo)) (fun h => by rw [Bd.returns] at h; cases h)
        refine Goes.done ?_ hrun hended ⟨_, _, rfl, ?_, ⟨_, rfl⟩, hW, hsame.mono (by decide) (by decide)⟩
        · exact retI X0 hx Bd.returns (hb hby d3_49) hr
        · show Q3 Z p0 p1 p2 q3 xs h0 n0 _ s₁.heap _
          rw [e0]
          exact ⟨_, rfl, N0, rfl, own_jend xs q3 p1 p2 lo hi hinv hlt⟩
  refine Goes.step (A := s₁.setTop (mkF m 6 #[.val (.ref p0), .val (.int p1), .val (.int p2), .val (.long q3), .second, .val (.int p1), .val (.int p2), .unset] [])) (fun t kt => ?_) ?_
  · refine XS.iloadN X0.here hx rfl (hb hby d3_0) rfl ?_
    show Steps p.tables e below (s₁.setTop (mkF m 1 #[.val (.ref p0), .val (.int p1), .val (.int p2), .val (.long q3), .second, .unset, .unset, .unset] [(.int p1)])) _
    refine XS.istore X0.here hx rfl (hb hby d3_1) rfl (l' := #[.val (.ref p0), .val (.int p1), .val (.int p2), .val (.long q3), .second, .val (.int p1), .unset, .unset]) rfl ?_
    show Steps p.tables e below (s₁.setTop (mkF m 3 #[.val (.ref p0), .val (.int p1), .val (.int p2), .val (.long q3), .second, .val (.int p1), .unset, .unset] [])) _
    refine XS.iloadN X0.here hx rfl (hb hby d3_3) rfl ?_
    show Steps p.tables e below (s₁.setTop (mkF m 4 #[.val (.ref p0), .val (.int p1), .val (.int p2), .val (.long q3), .second, .val (.int p1), .unset, .unset] [(.int p2)])) _
    refine XS.istore X0.here hx rfl (hb hby d3_4) rfl (l' := #[.val (.ref p0), .val (.int p1), .val (.int p2), .val (.long q3), .second, .val (.int p1), .val (.int p2), .unset]) rfl ?_
    exact kt
  exact loop (p2.toInt - p1.toInt).toNat _ _ _ One.u (by omega) (own_jv0 xs q3 p1 p2 hf hft ht)
theorem ef_0 (m : MethodId) (x0 : Int64) (x1 : Int64) (x2 : Int64) (x3 : Int64) (x4 : Int64) (x5 : Int32) : entryFrame m #[(.long x0), (.long x1), (.long x2), (.long x3), (.long x4), (.int x5)] maxLocals = mkF m 0 #[.val (.long x0), .second, .val (.long x1), .second, .val (.long x2), .second, .val (.long x3), .second, .val (.long x4), .second, .val (.int x5), .unset, .unset, .unset, .unset, .unset, .unset, .unset, .unset, .unset, .unset, .unset, .unset, .unset, .unset, .unset] [] := by first | (simp [entryFrame, mkF, argsToLocals, Value.category, maxLocals]; done) | rfl
def Q0 (Z : State) (q1 : Int64) (q2 : Int64) (q3 : Int64) (q4 : Int64) (q5 : Int64) (p6 : Int32) (h0 : Heap) (n0 : Nat) (v : Option Value) (h : Heap) (L : List Loc) : Prop := v = some (.int 1) ∧ Fr n0 L
theorem pn_0 : plainName "com/example/plnr/plnr/check/SortedLongsFirstAtLeastPinLaw" = true := by first | (simp [plainName, overriddenIn]; done) | decide +kernel
theorem pd_0 : parseMethodDescriptor "(JJ)J" = some ⟨[.long, .long], some .long⟩ := by decide +kernel
theorem pd_1 : parseMethodDescriptor "([JIIJ)I" = some ⟨[(.array .long), .int, .int, .long], some .int⟩ := by decide +kernel
set_option maxRecDepth 65536 in
set_option maxHeartbeats 40000000 in
theorem rm0 (l : Launch) (Z : State) (a0 : Array Value) (hw : ∀ d ∈ tables_1, d.before a0 Z = true) (ws : List Jvm.Cond) (q1 : Int64) (q2 : Int64) (q3 : Int64) (q4 : Int64) (q5 : Int64) (p6 : Int32) (h0 : Heap) (n0 : Nat) (Z0 : n0 ≤ h0.size) :
    MetFree l x (head1 (Jvm.Cond.code x code maxLocals ret :: ws) room_1) (fun a U => a = #[(.long q1), (.long q2), (.long q3), (.long q4), (.long q5), (.int p6)] ∧ Z.Warmed39 U.vm ∧ U.heap = h0) (fun _ _ _ _ _ => True) (fun _ U o U' => ∃ v L, o = .returned v ∧ Q0 Z q1 q2 q3 q4 q5 p6 h0 n0 v U'.heap L ∧ FrameEnd U o U' L room_1.cells room_1.slots) := by
  refine MetFree.of_bodySF (plainFor_of_name pn_0) hisR ?_
  intro p e s m args below meth c s₁ Bd hml0 hP hK
  obtain ⟨rfl, hZ, hh⟩ := hP
  have hx := Bd.exec
  have hby := Bd.bytes
  have hml : c.maxLocals = 26 := hml0
  have hown : s.vm.findClass "com/example/plnr/plnr/check/SortedLongsFirstAtLeastPinLaw" = some m.cls := findClass_of_methodNamed Bd.named
  have hnm := (name_of_methodNamed Bd.named Bd.method).1
  have X0 : Stand p l e room_1 s m #[(.long q1), (.long q2), (.long q3), (.long q4), (.long q5), (.int p6)] below meth c s₁ [] 0 0 := Stand.of_body Bd
  have e0 : s₁.heap = h0 := by rw [← hh, Bd.state]; rfl
  have N0 := Fr.nil n0
  refine Goes.start (Q := (fun o U' => ∃ v L, o = .returned v ∧ Q0 Z q1 q2 q3 q4 q5 p6 h0 n0 v U'.heap L ∧ FrameEnd s o U' L room_1.cells room_1.slots)) (A := s₁.setTop (mkF m 0 #[.val (.long q1), .second, .val (.long q2), .second, .val (.long q3), .second, .val (.long q4), .second, .val (.long q5), .second, .val (.int p6), .unset, .unset, .unset, .unset, .unset, .unset, .unset, .unset, .unset, .unset, .unset, .unset, .unset, .unset, .unset] [])) (fun t k => castTop (ef_0 m q1 q2 q3 q4 q5 p6) k) ?_
  refine Goes.step (A := s₁.setTop (mkF m 18 #[.val (.long q1), .second, .val (.long q2), .second, .val (.long q3), .second, .val (.long q4), .second, .val (.long q5), .second, .val (.int p6), .val (.long q1), .second, .val (.long q2), .second, .val (.long q3), .second, .val (.long q4), .second, .unset, .unset, .unset, .unset, .unset, .unset, .unset] [(.long q2), (.long q1)])) (fun t kt => ?_) ?_
  · refine XS.lloadN X0.here hx rfl (hb hby at_0) rfl ?_
    show Steps p.tables e below (s₁.setTop (mkF m 1 #[.val (.long q1), .second, .val (.long q2), .second, .val (.long q3), .second, .val (.long q4), .second, .val (.long q5), .second, .val (.int p6), .unset, .unset, .unset, .unset, .unset, .unset, .unset, .unset, .unset, .unset, .unset, .unset, .unset, .unset, .unset] [(.long q1)])) _
    refine XS.lstore X0.here hx rfl (hb hby at_1) rfl (l' := #[.val (.long q1), .second, .val (.long q2), .second, .val (.long q3), .second, .val (.long q4), .second, .val (.long q5), .second, .val (.int p6), .val (.long q1), .second, .unset, .unset, .unset, .unset, .unset, .unset, .unset, .unset, .unset, .unset, .unset, .unset, .unset]) rfl ?_
    show Steps p.tables e below (s₁.setTop (mkF m 3 #[.val (.long q1), .second, .val (.long q2), .second, .val (.long q3), .second, .val (.long q4), .second, .val (.long q5), .second, .val (.int p6), .val (.long q1), .second, .unset, .unset, .unset, .unset, .unset, .unset, .unset, .unset, .unset, .unset, .unset, .unset, .unset] [])) _
    refine XS.lloadN X0.here hx rfl (hb hby at_3) rfl ?_
    show Steps p.tables e below (s₁.setTop (mkF m 4 #[.val (.long q1), .second, .val (.long q2), .second, .val (.long q3), .second, .val (.long q4), .second, .val (.long q5), .second, .val (.int p6), .val (.long q1), .second, .unset, .unset, .unset, .unset, .unset, .unset, .unset, .unset, .unset, .unset, .unset, .unset, .unset] [(.long q2)])) _
    refine XS.lstore X0.here hx rfl (hb hby at_4) rfl (l' := #[.val (.long q1), .second, .val (.long q2), .second, .val (.long q3), .second, .val (.long q4), .second, .val (.long q5), .second, .val (.int p6), .val (.long q1), .second, .val (.long q2), .second, .unset, .unset, .unset, .unset, .unset, .unset, .unset, .unset, .unset, .unset, .unset]) rfl ?_
    show Steps p.tables e below (s₁.setTop (mkF m 6 #[.val (.long q1), .second, .val (.long q2), .second, .val (.long q3), .second, .val (.long q4), .second, .val (.long q5), .second, .val (.int p6), .val (.long q1), .second, .val (.long q2), .second, .unset, .unset, .unset, .unset, .unset, .unset, .unset, .unset, .unset, .unset, .unset] [])) _
    refine XS.lload X0.here hx rfl (hb hby at_6) rfl ?_
    show Steps p.tables e below (s₁.setTop (mkF m 8 #[.val (.long q1), .second, .val (.long q2), .second, .val (.long q3), .second, .val (.long q4), .second, .val (.long q5), .second, .val (.int p6), .val (.long q1), .second, .val (.long q2), .second, .unset, .unset, .unset, .unset, .unset, .unset, .unset, .unset, .unset, .unset, .unset] [(.long q3)])) _
    refine XS.lstore X0.here hx rfl (hb hby at_8) rfl (l' := #[.val (.long q1), .second, .val (.long q2), .second, .val (.long q3), .second, .val (.long q4), .second, .val (.long q5), .second, .val (.int p6), .val (.long q1), .second, .val (.long q2), .second, .val (.long q3), .second, .unset, .unset, .unset, .unset, .unset, .unset, .unset, .unset, .unset]) rfl ?_
    show Steps p.tables e below (s₁.setTop (mkF m 10 #[.val (.long q1), .second, .val (.long q2), .second, .val (.long q3), .second, .val (.long q4), .second, .val (.long q5), .second, .val (.int p6), .val (.long q1), .second, .val (.long q2), .second, .val (.long q3), .second, .unset, .unset, .unset, .unset, .unset, .unset, .unset, .unset, .unset] [])) _
    refine XS.lload X0.here hx rfl (hb hby at_10) rfl ?_
    show Steps p.tables e below (s₁.setTop (mkF m 12 #[.val (.long q1), .second, .val (.long q2), .second, .val (.long q3), .second, .val (.long q4), .second, .val (.long q5), .second, .val (.int p6), .val (.long q1), .second, .val (.long q2), .second, .val (.long q3), .second, .unset, .unset, .unset, .unset, .unset, .unset, .unset, .unset, .unset] [(.long q4)])) _
    refine XS.lstore X0.here hx rfl (hb hby at_12) rfl (l' := #[.val (.long q1), .second, .val (.long q2), .second, .val (.long q3), .second, .val (.long q4), .second, .val (.long q5), .second, .val (.int p6), .val (.long q1), .second, .val (.long q2), .second, .val (.long q3), .second, .val (.long q4), .second, .unset, .unset, .unset, .unset, .unset, .unset, .unset]) rfl ?_
    show Steps p.tables e below (s₁.setTop (mkF m 14 #[.val (.long q1), .second, .val (.long q2), .second, .val (.long q3), .second, .val (.long q4), .second, .val (.long q5), .second, .val (.int p6), .val (.long q1), .second, .val (.long q2), .second, .val (.long q3), .second, .val (.long q4), .second, .unset, .unset, .unset, .unset, .unset, .unset, .unset] [])) _
    refine XS.lload X0.here hx rfl (hb hby at_14) rfl ?_
    show Steps p.tables e below (s₁.setTop (mkF m 16 #[.val (.long q1), .second, .val (.long q2), .second, .val (.long q3), .second, .val (.long q4), .second, .val (.long q5), .second, .val (.int p6), .val (.long q1), .second, .val (.long q2), .second, .val (.long q3), .second, .val (.long q4), .second, .unset, .unset, .unset, .unset, .unset, .unset, .unset] [(.long q1)])) _
    refine XS.lload X0.here hx rfl (hb hby at_16) rfl ?_
    exact kt
  obtain ⟨_, _, ⟨T1, L1, k1, n1⟩, -, X1, ⟨Lc1, hQ1, l1, y1, z1⟩, st1⟩ := Jvm.LawKit.callS X0 hx (y := (⟨"java/lang/Math", "min", "(JJ)J"⟩ : MethodName)) hown (mvT hZ (hw _ (List.mem_of_getElem? (i := 0) rfl))) (mvT hZ (hw _ (List.mem_of_getElem? (i := 1) rfl))) (mvT hZ (hw _ (List.mem_of_getElem? (i := 2) rfl))) (mvT hZ (hw _ (List.mem_of_getElem? (i := 3) rfl))) (by decide) (backOf (W := 0) (rm1 l Z a0 hw [] q1 q2 h0 n0 Z0) hZ (hw _ (List.mem_of_getElem? (i := 3) rfl)) (hw _ (List.mem_of_getElem? (i := 2) rfl)) (by decide) (by decide)) (g := (mkF m 18 #[.val (.long q1), .second, .val (.long q2), .second, .val (.long q3), .second, .val (.long q4), .second, .val (.long q5), .second, .val (.int p6), .val (.long q1), .second, .val (.long q2), .second, .val (.long q3), .second, .val (.long q4), .second, .unset, .unset, .unset, .unset, .unset, .unset, .unset] [(.long q2), (.long q1)])) rfl (by rw [hml]; rfl) (argsL := [(.long q1), (.long q2)]) (rest := []) (lenOf pd_0 rfl) rfl (by show 2 * 0 + _ ≤ _; exact Nat.le_of_eq rfl) (hb hby at_18) (fun _ _ => ⟨rfl, e0, (by decide : 0 + 0 ≤ _), (by decide : 0 + 0 ≤ _)⟩)
  dsimp only [Pt.U, Pt.locs, Pt.cells, Pt.slots] at X1 l1 y1 z1 st1 hQ1
  subst l1 y1 z1
  obtain ⟨rfl, N1q, e1⟩ := hQ1
  have N1 := Fr.app N0 N1q
  refine Goes.step (A := T1.setTop (mkF m 21 #[.val (.long q1), .second, .val (.long q2), .second, .val (.long q3), .second, .val (.long q4), .second, .val (.long q5), .second, .val (.int p6), .val (.long q1), .second, .val (.long q2), .second, .val (.long q3), .second, .val (.long q4), .second, .unset, .unset, .unset, .unset, .unset, .unset, .unset] [(.long (minF q1 q2))])) (fun t kt => st1 _ kt) ?_
  refine Goes.step (A := T1.setTop (mkF m 27 #[.val (.long q1), .second, .val (.long q2), .second, .val (.long q3), .second, .val (.long q4), .second, .val (.long q5), .second, .val (.int p6), .val (.long q1), .second, .val (.long q2), .second, .val (.long q3), .second, .val (.long q4), .second, .val (.long (minF q1 q2)), .second, .unset, .unset, .unset, .unset, .unset] [(.long q2), (.long q1)])) (fun t kt => ?_) ?_
  · refine XS.lstore X1.here hx rfl (hb hby at_21) rfl (l' := #[.val (.long q1), .second, .val (.long q2), .second, .val (.long q3), .second, .val (.long q4), .second, .val (.long q5), .second, .val (.int p6), .val (.long q1), .second, .val (.long q2), .second, .val (.long q3), .second, .val (.long q4), .second, .val (.long (minF q1 q2)), .second, .unset, .unset, .unset, .unset, .unset]) rfl ?_
    show Steps p.tables e below (T1.setTop (mkF m 23 #[.val (.long q1), .second, .val (.long q2), .second, .val (.long q3), .second, .val (.long q4), .second, .val (.long q5), .second, .val (.int p6), .val (.long q1), .second, .val (.long q2), .second, .val (.long q3), .second, .val (.long q4), .second, .val (.long (minF q1 q2)), .second, .unset, .unset, .unset, .unset, .unset] [])) _
    refine XS.lload X1.here hx rfl (hb hby at_23) rfl ?_
    show Steps p.tables e below (T1.setTop (mkF m 25 #[.val (.long q1), .second, .val (.long q2), .second, .val (.long q3), .second, .val (.long q4), .second, .val (.long q5), .second, .val (.int p6), .val (.long q1), .second, .val (.long q2), .second, .val (.long q3), .second, .val (.long q4), .second, .val (.long (minF q1 q2)), .second, .unset, .unset, .unset, .unset, .unset] [(.long q1)])) _
    refine XS.lload X1.here hx rfl (hb hby at_25) rfl ?_
    exact kt
  obtain ⟨_, _, ⟨T2, L2, k2, n2⟩, -, X2, ⟨Lc2, hQ2, l2, y2, z2⟩, st2⟩ := Jvm.LawKit.callS X1 hx (y := (⟨"java/lang/Math", "max", "(JJ)J"⟩ : MethodName)) hown (mvT hZ (hw _ (List.mem_of_getElem? (i := 4) rfl))) (mvT hZ (hw _ (List.mem_of_getElem? (i := 5) rfl))) (mvT hZ (hw _ (List.mem_of_getElem? (i := 2) rfl))) (mvT hZ (hw _ (List.mem_of_getElem? (i := 6) rfl))) (by decide) (backOf (W := 0) (rm2 l Z a0 hw [] q1 q2 h0 n0 Z0) hZ (hw _ (List.mem_of_getElem? (i := 6) rfl)) (hw _ (List.mem_of_getElem? (i := 2) rfl)) (by decide) (by decide)) (g := (mkF m 27 #[.val (.long q1), .second, .val (.long q2), .second, .val (.long q3), .second, .val (.long q4), .second, .val (.long q5), .second, .val (.int p6), .val (.long q1), .second, .val (.long q2), .second, .val (.long q3), .second, .val (.long q4), .second, .val (.long (minF q1 q2)), .second, .unset, .unset, .unset, .unset, .unset] [(.long q2), (.long q1)])) rfl (by rw [hml]; rfl) (argsL := [(.long q1), (.long q2)]) (rest := []) (lenOf pd_0 rfl) rfl (by show 2 * 0 + _ ≤ _; exact Nat.le_of_eq rfl) (hb hby at_27) (fun _ _ => ⟨rfl, e1, (by decide : 0 + 0 ≤ _), (by decide : 0 + 0 ≤ _)⟩)
  dsimp only [Pt.U, Pt.locs, Pt.cells, Pt.slots] at X2 l2 y2 z2 st2 hQ2
  subst l2 y2 z2
  obtain ⟨rfl, N2q, e2⟩ := hQ2
  have N2 := Fr.app N1 N2q
  refine Goes.step (A := T2.setTop (mkF m 30 #[.val (.long q1), .second, .val (.long q2), .second, .val (.long q3), .second, .val (.long q4), .second, .val (.long q5), .second, .val (.int p6), .val (.long q1), .second, .val (.long q2), .second, .val (.long q3), .second, .val (.long q4), .second, .val (.long (minF q1 q2)), .second, .unset, .unset, .unset, .unset, .unset] [(.long (maxF q1 q2))])) (fun t kt => st2 _ kt) ?_
  refine Goes.step (A := T2.setTop (mkF m 40 #[.val (.long q1), .second, .val (.long q2), .second, .val (.long q3), .second, .val (.long q4), .second, .val (.long q5), .second, .val (.int p6), .val (.long (minF q1 q2)), .second, .val (.long (maxF q1 q2)), .second, .val (.long q3), .second, .val (.long q4), .second, .val (.long (minF q1 q2)), .second, .unset, .unset, .unset, .unset, .unset] [(.long q4), (.long q3)])) (fun t kt => ?_) ?_
  · refine XS.lstore X2.here hx rfl (hb hby at_30) rfl (l' := #[.val (.long q1), .second, .val (.long q2), .second, .val (.long q3), .second, .val (.long q4), .second, .val (.long q5), .second, .val (.int p6), .val (.long q1), .second, .val (.long (maxF q1 q2)), .second, .val (.long q3), .second, .val (.long q4), .second, .val (.long (minF q1 q2)), .second, .unset, .unset, .unset, .unset, .unset]) rfl ?_
    show Steps p.tables e below (T2.setTop (mkF m 32 #[.val (.long q1), .second, .val (.long q2), .second, .val (.long q3), .second, .val (.long q4), .second, .val (.long q5), .second, .val (.int p6), .val (.long q1), .second, .val (.long (maxF q1 q2)), .second, .val (.long q3), .second, .val (.long q4), .second, .val (.long (minF q1 q2)), .second, .unset, .unset, .unset, .unset, .unset] [])) _
    refine XS.lload X2.here hx rfl (hb hby at_32) rfl ?_
    show Steps p.tables e below (T2.setTop (mkF m 34 #[.val (.long q1), .second, .val (.long q2), .second, .val (.long q3), .second, .val (.long q4), .second, .val (.long q5), .second, .val (.int p6), .val (.long q1), .second, .val (.long (maxF q1 q2)), .second, .val (.long q3), .second, .val (.long q4), .second, .val (.long (minF q1 q2)), .second, .unset, .unset, .unset, .unset, .unset] [(.long (minF q1 q2))])) _
    refine XS.lstore X2.here hx rfl (hb hby at_34) rfl (l' := #[.val (.long q1), .second, .val (.long q2), .second, .val (.long q3), .second, .val (.long q4), .second, .val (.long q5), .second, .val (.int p6), .val (.long (minF q1 q2)), .second, .val (.long (maxF q1 q2)), .second, .val (.long q3), .second, .val (.long q4), .second, .val (.long (minF q1 q2)), .second, .unset, .unset, .unset, .unset, .unset]) rfl ?_
    show Steps p.tables e below (T2.setTop (mkF m 36 #[.val (.long q1), .second, .val (.long q2), .second, .val (.long q3), .second, .val (.long q4), .second, .val (.long q5), .second, .val (.int p6), .val (.long (minF q1 q2)), .second, .val (.long (maxF q1 q2)), .second, .val (.long q3), .second, .val (.long q4), .second, .val (.long (minF q1 q2)), .second, .unset, .unset, .unset, .unset, .unset] [])) _
    refine XS.lload X2.here hx rfl (hb hby at_36) rfl ?_
    show Steps p.tables e below (T2.setTop (mkF m 38 #[.val (.long q1), .second, .val (.long q2), .second, .val (.long q3), .second, .val (.long q4), .second, .val (.long q5), .second, .val (.int p6), .val (.long (minF q1 q2)), .second, .val (.long (maxF q1 q2)), .second, .val (.long q3), .second, .val (.long q4), .second, .val (.long (minF q1 q2)), .second, .unset, .unset, .unset, .unset, .unset] [(.long q3)])) _
    refine XS.lload X2.here hx rfl (hb hby at_38) rfl ?_
    exact kt
  obtain ⟨_, _, ⟨T3, L3, k3, n3⟩, -, X3, ⟨Lc3, hQ3, l3, y3, z3⟩, st3⟩ := Jvm.LawKit.callS X2 hx (y := (⟨"java/lang/Math", "min", "(JJ)J"⟩ : MethodName)) hown (mvT hZ (hw _ (List.mem_of_getElem? (i := 0) rfl))) (mvT hZ (hw _ (List.mem_of_getElem? (i := 1) rfl))) (mvT hZ (hw _ (List.mem_of_getElem? (i := 2) rfl))) (mvT hZ (hw _ (List.mem_of_getElem? (i := 3) rfl))) (by decide) (backOf (W := 0) (rm1 l Z a0 hw [] q3 q4 h0 n0 Z0) hZ (hw _ (List.mem_of_getElem? (i := 3) rfl)) (hw _ (List.mem_of_getElem? (i := 2) rfl)) (by decide) (by decide)) (g := (mkF m 40 #[.val (.long q1), .second, .val (.long q2), .second, .val (.long q3), .second, .val (.long q4), .second, .val (.long q5), .second, .val (.int p6), .val (.long (minF q1 q2)), .second, .val (.long (maxF q1 q2)), .second, .val (.long q3), .second, .val (.long q4), .second, .val (.long (minF q1 q2)), .second, .unset, .unset, .unset, .unset, .unset] [(.long q4), (.long q3)])) rfl (by rw [hml]; rfl) (argsL := [(.long q3), (.long q4)]) (rest := []) (lenOf pd_0 rfl) rfl (by show 2 * 0 + _ ≤ _; exact Nat.le_of_eq rfl) (hb hby at_40) (fun _ _ => ⟨rfl, e2, (by decide : 0 + 0 ≤ _), (by decide : 0 + 0 ≤ _)⟩)
  dsimp only [Pt.U, Pt.locs, Pt.cells, Pt.slots] at X3 l3 y3 z3 st3 hQ3
  subst l3 y3 z3
  obtain ⟨rfl, N3q, e3⟩ := hQ3
  have N3 := Fr.app N2 N3q
  refine Goes.step (A := T3.setTop (mkF m 43 #[.val (.long q1), .second, .val (.long q2), .second, .val (.long q3), .second, .val (.long q4), .second, .val (.long q5), .second, .val (.int p6), .val (.long (minF q1 q2)), .second, .val (.long (maxF q1 q2)), .second, .val (.long q3), .second, .val (.long q4), .second, .val (.long (minF q1 q2)), .second, .unset, .unset, .unset, .unset, .unset] [(.long (minF q3 q4))])) (fun t kt => st3 _ kt) ?_
  refine Goes.step (A := T3.setTop (mkF m 49 #[.val (.long q1), .second, .val (.long q2), .second, .val (.long q3), .second, .val (.long q4), .second, .val (.long q5), .second, .val (.int p6), .val (.long (minF q1 q2)), .second, .val (.long (maxF q1 q2)), .second, .val (.long q3), .second, .val (.long q4), .second, .val (.long (minF q3 q4)), .second, .unset, .unset, .unset, .unset, .unset] [(.long q4), (.long q3)])) (fun t kt => ?_) ?_
  · refine XS.lstore X3.here hx rfl (hb hby at_43) rfl (l' := #[.val (.long q1), .second, .val (.long q2), .second, .val (.long q3), .second, .val (.long q4), .second, .val (.long q5), .second, .val (.int p6), .val (.long (minF q1 q2)), .second, .val (.long (maxF q1 q2)), .second, .val (.long q3), .second, .val (.long q4), .second, .val (.long (minF q3 q4)), .second, .unset, .unset, .unset, .unset, .unset]) rfl ?_
    show Steps p.tables e below (T3.setTop (mkF m 45 #[.val (.long q1), .second, .val (.long q2), .second, .val (.long q3), .second, .val (.long q4), .second, .val (.long q5), .second, .val (.int p6), .val (.long (minF q1 q2)), .second, .val (.long (maxF q1 q2)), .second, .val (.long q3), .second, .val (.long q4), .second, .val (.long (minF q3 q4)), .second, .unset, .unset, .unset, .unset, .unset] [])) _
    refine XS.lload X3.here hx rfl (hb hby at_45) rfl ?_
    show Steps p.tables e below (T3.setTop (mkF m 47 #[.val (.long q1), .second, .val (.long q2), .second, .val (.long q3), .second, .val (.long q4), .second, .val (.long q5), .second, .val (.int p6), .val (.long (minF q1 q2)), .second, .val (.long (maxF q1 q2)), .second, .val (.long q3), .second, .val (.long q4), .second, .val (.long (minF q3 q4)), .second, .unset, .unset, .unset, .unset, .unset] [(.long q3)])) _
    refine XS.lload X3.here hx rfl (hb hby at_47) rfl ?_
    exact kt
  obtain ⟨_, _, ⟨T4, L4, k4, n4⟩, -, X4, ⟨Lc4, hQ4, l4, y4, z4⟩, st4⟩ := Jvm.LawKit.callS X3 hx (y := (⟨"java/lang/Math", "max", "(JJ)J"⟩ : MethodName)) hown (mvT hZ (hw _ (List.mem_of_getElem? (i := 4) rfl))) (mvT hZ (hw _ (List.mem_of_getElem? (i := 5) rfl))) (mvT hZ (hw _ (List.mem_of_getElem? (i := 2) rfl))) (mvT hZ (hw _ (List.mem_of_getElem? (i := 6) rfl))) (by decide) (backOf (W := 0) (rm2 l Z a0 hw [] q3 q4 h0 n0 Z0) hZ (hw _ (List.mem_of_getElem? (i := 6) rfl)) (hw _ (List.mem_of_getElem? (i := 2) rfl)) (by decide) (by decide)) (g := (mkF m 49 #[.val (.long q1), .second, .val (.long q2), .second, .val (.long q3), .second, .val (.long q4), .second, .val (.long q5), .second, .val (.int p6), .val (.long (minF q1 q2)), .second, .val (.long (maxF q1 q2)), .second, .val (.long q3), .second, .val (.long q4), .second, .val (.long (minF q3 q4)), .second, .unset, .unset, .unset, .unset, .unset] [(.long q4), (.long q3)])) rfl (by rw [hml]; rfl) (argsL := [(.long q3), (.long q4)]) (rest := []) (lenOf pd_0 rfl) rfl (by show 2 * 0 + _ ≤ _; exact Nat.le_of_eq rfl) (hb hby at_49) (fun _ _ => ⟨rfl, e3, (by decide : 0 + 0 ≤ _), (by decide : 0 + 0 ≤ _)⟩)
  dsimp only [Pt.U, Pt.locs, Pt.cells, Pt.slots] at X4 l4 y4 z4 st4 hQ4
  subst l4 y4 z4
  obtain ⟨rfl, N4q, e4⟩ := hQ4
  have N4 := Fr.app N3 N4q
  refine Goes.step (A := T4.setTop (mkF m 52 #[.val (.long q1), .second, .val (.long q2), .second, .val (.long q3), .second, .val (.long q4), .second, .val (.long q5), .second, .val (.int p6), .val (.long (minF q1 q2)), .second, .val (.long (maxF q1 q2)), .second, .val (.long q3), .second, .val (.long q4), .second, .val (.long (minF q3 q4)), .second, .unset, .unset, .unset, .unset, .unset] [(.long (maxF q3 q4))])) (fun t kt => st4 _ kt) ?_
  refine Goes.step (A := T4.setTop (mkF m 62 #[.val (.long q1), .second, .val (.long q2), .second, .val (.long q3), .second, .val (.long q4), .second, .val (.long q5), .second, .val (.int p6), .val (.long (minF q1 q2)), .second, .val (.long (maxF q1 q2)), .second, .val (.long (minF q3 q4)), .second, .val (.long (maxF q3 q4)), .second, .val (.long (minF q3 q4)), .second, .unset, .unset, .unset, .unset, .unset] [(.long (minF q3 q4)), (.long (minF q1 q2))])) (fun t kt => ?_) ?_
  · refine XS.lstore X4.here hx rfl (hb hby at_52) rfl (l' := #[.val (.long q1), .second, .val (.long q2), .second, .val (.long q3), .second, .val (.long q4), .second, .val (.long q5), .second, .val (.int p6), .val (.long (minF q1 q2)), .second, .val (.long (maxF q1 q2)), .second, .val (.long q3), .second, .val (.long (maxF q3 q4)), .second, .val (.long (minF q3 q4)), .second, .unset, .unset, .unset, .unset, .unset]) rfl ?_
    show Steps p.tables e below (T4.setTop (mkF m 54 #[.val (.long q1), .second, .val (.long q2), .second, .val (.long q3), .second, .val (.long q4), .second, .val (.long q5), .second, .val (.int p6), .val (.long (minF q1 q2)), .second, .val (.long (maxF q1 q2)), .second, .val (.long q3), .second, .val (.long (maxF q3 q4)), .second, .val (.long (minF q3 q4)), .second, .unset, .unset, .unset, .unset, .unset] [])) _
    refine XS.lload X4.here hx rfl (hb hby at_54) rfl ?_
    show Steps p.tables e below (T4.setTop (mkF m 56 #[.val (.long q1), .second, .val (.long q2), .second, .val (.long q3), .second, .val (.long q4), .second, .val (.long q5), .second, .val (.int p6), .val (.long (minF q1 q2)), .second, .val (.long (maxF q1 q2)), .second, .val (.long q3), .second, .val (.long (maxF q3 q4)), .second, .val (.long (minF q3 q4)), .second, .unset, .unset, .unset, .unset, .unset] [(.long (minF q3 q4))])) _
    refine XS.lstore X4.here hx rfl (hb hby at_56) rfl (l' := #[.val (.long q1), .second, .val (.long q2), .second, .val (.long q3), .second, .val (.long q4), .second, .val (.long q5), .second, .val (.int p6), .val (.long (minF q1 q2)), .second, .val (.long (maxF q1 q2)), .second, .val (.long (minF q3 q4)), .second, .val (.long (maxF q3 q4)), .second, .val (.long (minF q3 q4)), .second, .unset, .unset, .unset, .unset, .unset]) rfl ?_
    show Steps p.tables e below (T4.setTop (mkF m 58 #[.val (.long q1), .second, .val (.long q2), .second, .val (.long q3), .second, .val (.long q4), .second, .val (.long q5), .second, .val (.int p6), .val (.long (minF q1 q2)), .second, .val (.long (maxF q1 q2)), .second, .val (.long (minF q3 q4)), .second, .val (.long (maxF q3 q4)), .second, .val (.long (minF q3 q4)), .second, .unset, .unset, .unset, .unset, .unset] [])) _
    refine XS.lload X4.here hx rfl (hb hby at_58) rfl ?_
    show Steps p.tables e below (T4.setTop (mkF m 60 #[.val (.long q1), .second, .val (.long q2), .second, .val (.long q3), .second, .val (.long q4), .second, .val (.long q5), .second, .val (.int p6), .val (.long (minF q1 q2)), .second, .val (.long (maxF q1 q2)), .second, .val (.long (minF q3 q4)), .second, .val (.long (maxF q3 q4)), .second, .val (.long (minF q3 q4)), .second, .unset, .unset, .unset, .unset, .unset] [(.long (minF q1 q2))])) _
    refine XS.lload X4.here hx rfl (hb hby at_60) rfl ?_
    exact kt
  obtain ⟨_, _, ⟨T5, L5, k5, n5⟩, -, X5, ⟨Lc5, hQ5, l5, y5, z5⟩, st5⟩ := Jvm.LawKit.callS X4 hx (y := (⟨"java/lang/Math", "min", "(JJ)J"⟩ : MethodName)) hown (mvT hZ (hw _ (List.mem_of_getElem? (i := 0) rfl))) (mvT hZ (hw _ (List.mem_of_getElem? (i := 1) rfl))) (mvT hZ (hw _ (List.mem_of_getElem? (i := 2) rfl))) (mvT hZ (hw _ (List.mem_of_getElem? (i := 3) rfl))) (by decide) (backOf (W := 0) (rm1 l Z a0 hw [] (minF q1 q2) (minF q3 q4) h0 n0 Z0) hZ (hw _ (List.mem_of_getElem? (i := 3) rfl)) (hw _ (List.mem_of_getElem? (i := 2) rfl)) (by decide) (by decide)) (g := (mkF m 62 #[.val (.long q1), .second, .val (.long q2), .second, .val (.long q3), .second, .val (.long q4), .second, .val (.long q5), .second, .val (.int p6), .val (.long (minF q1 q2)), .second, .val (.long (maxF q1 q2)), .second, .val (.long (minF q3 q4)), .second, .val (.long (maxF q3 q4)), .second, .val (.long (minF q3 q4)), .second, .unset, .unset, .unset, .unset, .unset] [(.long (minF q3 q4)), (.long (minF q1 q2))])) rfl (by rw [hml]; rfl) (argsL := [(.long (minF q1 q2)), (.long (minF q3 q4))]) (rest := []) (lenOf pd_0 rfl) rfl (by show 2 * 0 + _ ≤ _; exact Nat.le_of_eq rfl) (hb hby at_62) (fun _ _ => ⟨rfl, e4, (by decide : 0 + 0 ≤ _), (by decide : 0 + 0 ≤ _)⟩)
  dsimp only [Pt.U, Pt.locs, Pt.cells, Pt.slots] at X5 l5 y5 z5 st5 hQ5
  subst l5 y5 z5
  obtain ⟨rfl, N5q, e5⟩ := hQ5
  have N5 := Fr.app N4 N5q
  refine Goes.step (A := T5.setTop (mkF m 65 #[.val (.long q1), .second, .val (.long q2), .second, .val (.long q3), .second, .val (.long q4), .second, .val (.long q5), .second, .val (.int p6), .val (.long (minF q1 q2)), .second, .val (.long (maxF q1 q2)), .second, .val (.long (minF q3 q4)), .second, .val (.long (maxF q3 q4)), .second, .val (.long (minF q3 q4)), .second, .unset, .unset, .unset, .unset, .unset] [(.long (minF (minF q1 q2) (minF q3 q4)))])) (fun t kt => st5 _ kt) ?_
  refine Goes.step (A := T5.setTop (mkF m 71 #[.val (.long q1), .second, .val (.long q2), .second, .val (.long q3), .second, .val (.long q4), .second, .val (.long q5), .second, .val (.int p6), .val (.long (minF q1 q2)), .second, .val (.long (maxF q1 q2)), .second, .val (.long (minF q3 q4)), .second, .val (.long (maxF q3 q4)), .second, .val (.long (minF (minF q1 q2) (minF q3 q4))), .second, .unset, .unset, .unset, .unset, .unset] [(.long (minF q3 q4)), (.long (minF q1 q2))])) (fun t kt => ?_) ?_
  · refine XS.lstore X5.here hx rfl (hb hby at_65) rfl (l' := #[.val (.long q1), .second, .val (.long q2), .second, .val (.long q3), .second, .val (.long q4), .second, .val (.long q5), .second, .val (.int p6), .val (.long (minF q1 q2)), .second, .val (.long (maxF q1 q2)), .second, .val (.long (minF q3 q4)), .second, .val (.long (maxF q3 q4)), .second, .val (.long (minF (minF q1 q2) (minF q3 q4))), .second, .unset, .unset, .unset, .unset, .unset]) rfl ?_
    show Steps p.tables e below (T5.setTop (mkF m 67 #[.val (.long q1), .second, .val (.long q2), .second, .val (.long q3), .second, .val (.long q4), .second, .val (.long q5), .second, .val (.int p6), .val (.long (minF q1 q2)), .second, .val (.long (maxF q1 q2)), .second, .val (.long (minF q3 q4)), .second, .val (.long (maxF q3 q4)), .second, .val (.long (minF (minF q1 q2) (minF q3 q4))), .second, .unset, .unset, .unset, .unset, .unset] [])) _
    refine XS.lload X5.here hx rfl (hb hby at_67) rfl ?_
    show Steps p.tables e below (T5.setTop (mkF m 69 #[.val (.long q1), .second, .val (.long q2), .second, .val (.long q3), .second, .val (.long q4), .second, .val (.long q5), .second, .val (.int p6), .val (.long (minF q1 q2)), .second, .val (.long (maxF q1 q2)), .second, .val (.long (minF q3 q4)), .second, .val (.long (maxF q3 q4)), .second, .val (.long (minF (minF q1 q2) (minF q3 q4))), .second, .unset, .unset, .unset, .unset, .unset] [(.long (minF q1 q2))])) _
    refine XS.lload X5.here hx rfl (hb hby at_69) rfl ?_
    exact kt
  obtain ⟨_, _, ⟨T6, L6, k6, n6⟩, -, X6, ⟨Lc6, hQ6, l6, y6, z6⟩, st6⟩ := Jvm.LawKit.callS X5 hx (y := (⟨"java/lang/Math", "max", "(JJ)J"⟩ : MethodName)) hown (mvT hZ (hw _ (List.mem_of_getElem? (i := 4) rfl))) (mvT hZ (hw _ (List.mem_of_getElem? (i := 5) rfl))) (mvT hZ (hw _ (List.mem_of_getElem? (i := 2) rfl))) (mvT hZ (hw _ (List.mem_of_getElem? (i := 6) rfl))) (by decide) (backOf (W := 0) (rm2 l Z a0 hw [] (minF q1 q2) (minF q3 q4) h0 n0 Z0) hZ (hw _ (List.mem_of_getElem? (i := 6) rfl)) (hw _ (List.mem_of_getElem? (i := 2) rfl)) (by decide) (by decide)) (g := (mkF m 71 #[.val (.long q1), .second, .val (.long q2), .second, .val (.long q3), .second, .val (.long q4), .second, .val (.long q5), .second, .val (.int p6), .val (.long (minF q1 q2)), .second, .val (.long (maxF q1 q2)), .second, .val (.long (minF q3 q4)), .second, .val (.long (maxF q3 q4)), .second, .val (.long (minF (minF q1 q2) (minF q3 q4))), .second, .unset, .unset, .unset, .unset, .unset] [(.long (minF q3 q4)), (.long (minF q1 q2))])) rfl (by rw [hml]; rfl) (argsL := [(.long (minF q1 q2)), (.long (minF q3 q4))]) (rest := []) (lenOf pd_0 rfl) rfl (by show 2 * 0 + _ ≤ _; exact Nat.le_of_eq rfl) (hb hby at_71) (fun _ _ => ⟨rfl, e5, (by decide : 0 + 0 ≤ _), (by decide : 0 + 0 ≤ _)⟩)
  dsimp only [Pt.U, Pt.locs, Pt.cells, Pt.slots] at X6 l6 y6 z6 st6 hQ6
  subst l6 y6 z6
  obtain ⟨rfl, N6q, e6⟩ := hQ6
  have N6 := Fr.app N5 N6q
  refine Goes.step (A := T6.setTop (mkF m 74 #[.val (.long q1), .second, .val (.long q2), .second, .val (.long q3), .second, .val (.long q4), .second, .val (.long q5), .second, .val (.int p6), .val (.long (minF q1 q2)), .second, .val (.long (maxF q1 q2)), .second, .val (.long (minF q3 q4)), .second, .val (.long (maxF q3 q4)), .second, .val (.long (minF (minF q1 q2) (minF q3 q4))), .second, .unset, .unset, .unset, .unset, .unset] [(.long (maxF (minF q1 q2) (minF q3 q4)))])) (fun t kt => st6 _ kt) ?_
  refine Goes.step (A := T6.setTop (mkF m 84 #[.val (.long q1), .second, .val (.long q2), .second, .val (.long q3), .second, .val (.long q4), .second, .val (.long q5), .second, .val (.int p6), .val (.long (minF (minF q1 q2) (minF q3 q4))), .second, .val (.long (maxF q1 q2)), .second, .val (.long (maxF (minF q1 q2) (minF q3 q4))), .second, .val (.long (maxF q3 q4)), .second, .val (.long (minF (minF q1 q2) (minF q3 q4))), .second, .unset, .unset, .unset, .unset, .unset] [(.long (maxF q3 q4)), (.long (maxF q1 q2))])) (fun t kt => ?_) ?_
  · refine XS.lstore X6.here hx rfl (hb hby at_74) rfl (l' := #[.val (.long q1), .second, .val (.long q2), .second, .val (.long q3), .second, .val (.long q4), .second, .val (.long q5), .second, .val (.int p6), .val (.long (minF q1 q2)), .second, .val (.long (maxF q1 q2)), .second, .val (.long (maxF (minF q1 q2) (minF q3 q4))), .second, .val (.long (maxF q3 q4)), .second, .val (.long (minF (minF q1 q2) (minF q3 q4))), .second, .unset, .unset, .unset, .unset, .unset]) rfl ?_
    show Steps p.tables e below (T6.setTop (mkF m 76 #[.val (.long q1), .second, .val (.long q2), .second, .val (.long q3), .second, .val (.long q4), .second, .val (.long q5), .second, .val (.int p6), .val (.long (minF q1 q2)), .second, .val (.long (maxF q1 q2)), .second, .val (.long (maxF (minF q1 q2) (minF q3 q4))), .second, .val (.long (maxF q3 q4)), .second, .val (.long (minF (minF q1 q2) (minF q3 q4))), .second, .unset, .unset, .unset, .unset, .unset] [])) _
    refine XS.lload X6.here hx rfl (hb hby at_76) rfl ?_
    show Steps p.tables e below (T6.setTop (mkF m 78 #[.val (.long q1), .second, .val (.long q2), .second, .val (.long q3), .second, .val (.long q4), .second, .val (.long q5), .second, .val (.int p6), .val (.long (minF q1 q2)), .second, .val (.long (maxF q1 q2)), .second, .val (.long (maxF (minF q1 q2) (minF q3 q4))), .second, .val (.long (maxF q3 q4)), .second, .val (.long (minF (minF q1 q2) (minF q3 q4))), .second, .unset, .unset, .unset, .unset, .unset] [(.long (minF (minF q1 q2) (minF q3 q4)))])) _
    refine XS.lstore X6.here hx rfl (hb hby at_78) rfl (l' := #[.val (.long q1), .second, .val (.long q2), .second, .val (.long q3), .second, .val (.long q4), .second, .val (.long q5), .second, .val (.int p6), .val (.long (minF (minF q1 q2) (minF q3 q4))), .second, .val (.long (maxF q1 q2)), .second, .val (.long (maxF (minF q1 q2) (minF q3 q4))), .second, .val (.long (maxF q3 q4)), .second, .val (.long (minF (minF q1 q2) (minF q3 q4))), .second, .unset, .unset, .unset, .unset, .unset]) rfl ?_
    show Steps p.tables e below (T6.setTop (mkF m 80 #[.val (.long q1), .second, .val (.long q2), .second, .val (.long q3), .second, .val (.long q4), .second, .val (.long q5), .second, .val (.int p6), .val (.long (minF (minF q1 q2) (minF q3 q4))), .second, .val (.long (maxF q1 q2)), .second, .val (.long (maxF (minF q1 q2) (minF q3 q4))), .second, .val (.long (maxF q3 q4)), .second, .val (.long (minF (minF q1 q2) (minF q3 q4))), .second, .unset, .unset, .unset, .unset, .unset] [])) _
    refine XS.lload X6.here hx rfl (hb hby at_80) rfl ?_
    show Steps p.tables e below (T6.setTop (mkF m 82 #[.val (.long q1), .second, .val (.long q2), .second, .val (.long q3), .second, .val (.long q4), .second, .val (.long q5), .second, .val (.int p6), .val (.long (minF (minF q1 q2) (minF q3 q4))), .second, .val (.long (maxF q1 q2)), .second, .val (.long (maxF (minF q1 q2) (minF q3 q4))), .second, .val (.long (maxF q3 q4)), .second, .val (.long (minF (minF q1 q2) (minF q3 q4))), .second, .unset, .unset, .unset, .unset, .unset] [(.long (maxF q1 q2))])) _
    refine XS.lload X6.here hx rfl (hb hby at_82) rfl ?_
    exact kt
  obtain ⟨_, _, ⟨T7, L7, k7, n7⟩, -, X7, ⟨Lc7, hQ7, l7, y7, z7⟩, st7⟩ := Jvm.LawKit.callS X6 hx (y := (⟨"java/lang/Math", "min", "(JJ)J"⟩ : MethodName)) hown (mvT hZ (hw _ (List.mem_of_getElem? (i := 0) rfl))) (mvT hZ (hw _ (List.mem_of_getElem? (i := 1) rfl))) (mvT hZ (hw _ (List.mem_of_getElem? (i := 2) rfl))) (mvT hZ (hw _ (List.mem_of_getElem? (i := 3) rfl))) (by decide) (backOf (W := 0) (rm1 l Z a0 hw [] (maxF q1 q2) (maxF q3 q4) h0 n0 Z0) hZ (hw _ (List.mem_of_getElem? (i := 3) rfl)) (hw _ (List.mem_of_getElem? (i := 2) rfl)) (by decide) (by decide)) (g := (mkF m 84 #[.val (.long q1), .second, .val (.long q2), .second, .val (.long q3), .second, .val (.long q4), .second, .val (.long q5), .second, .val (.int p6), .val (.long (minF (minF q1 q2) (minF q3 q4))), .second, .val (.long (maxF q1 q2)), .second, .val (.long (maxF (minF q1 q2) (minF q3 q4))), .second, .val (.long (maxF q3 q4)), .second, .val (.long (minF (minF q1 q2) (minF q3 q4))), .second, .unset, .unset, .unset, .unset, .unset] [(.long (maxF q3 q4)), (.long (maxF q1 q2))])) rfl (by rw [hml]; rfl) (argsL := [(.long (maxF q1 q2)), (.long (maxF q3 q4))]) (rest := []) (lenOf pd_0 rfl) rfl (by show 2 * 0 + _ ≤ _; exact Nat.le_of_eq rfl) (hb hby at_84) (fun _ _ => ⟨rfl, e6, (by decide : 0 + 0 ≤ _), (by decide : 0 + 0 ≤ _)⟩)
  dsimp only [Pt.U, Pt.locs, Pt.cells, Pt.slots] at X7 l7 y7 z7 st7 hQ7
  subst l7 y7 z7
  obtain ⟨rfl, N7q, e7⟩ := hQ7
  have N7 := Fr.app N6 N7q
  refine Goes.step (A := T7.setTop (mkF m 87 #[.val (.long q1), .second, .val (.long q2), .second, .val (.long q3), .second, .val (.long q4), .second, .val (.long q5), .second, .val (.int p6), .val (.long (minF (minF q1 q2) (minF q3 q4))), .second, .val (.long (maxF q1 q2)), .second, .val (.long (maxF (minF q1 q2) (minF q3 q4))), .second, .val (.long (maxF q3 q4)), .second, .val (.long (minF (minF q1 q2) (minF q3 q4))), .second, .unset, .unset, .unset, .unset, .unset] [(.long (minF (maxF q1 q2) (maxF q3 q4)))])) (fun t kt => st7 _ kt) ?_
  refine Goes.step (A := T7.setTop (mkF m 93 #[.val (.long q1), .second, .val (.long q2), .second, .val (.long q3), .second, .val (.long q4), .second, .val (.long q5), .second, .val (.int p6), .val (.long (minF (minF q1 q2) (minF q3 q4))), .second, .val (.long (maxF q1 q2)), .second, .val (.long (maxF (minF q1 q2) (minF q3 q4))), .second, .val (.long (maxF q3 q4)), .second, .val (.long (minF (maxF q1 q2) (maxF q3 q4))), .second, .unset, .unset, .unset, .unset, .unset] [(.long (maxF q3 q4)), (.long (maxF q1 q2))])) (fun t kt => ?_) ?_
  · refine XS.lstore X7.here hx rfl (hb hby at_87) rfl (l' := #[.val (.long q1), .second, .val (.long q2), .second, .val (.long q3), .second, .val (.long q4), .second, .val (.long q5), .second, .val (.int p6), .val (.long (minF (minF q1 q2) (minF q3 q4))), .second, .val (.long (maxF q1 q2)), .second, .val (.long (maxF (minF q1 q2) (minF q3 q4))), .second, .val (.long (maxF q3 q4)), .second, .val (.long (minF (maxF q1 q2) (maxF q3 q4))), .second, .unset, .unset, .unset, .unset, .unset]) rfl ?_
    show Steps p.tables e below (T7.setTop (mkF m 89 #[.val (.long q1), .second, .val (.long q2), .second, .val (.long q3), .second, .val (.long q4), .second, .val (.long q5), .second, .val (.int p6), .val (.long (minF (minF q1 q2) (minF q3 q4))), .second, .val (.long (maxF q1 q2)), .second, .val (.long (maxF (minF q1 q2) (minF q3 q4))), .second, .val (.long (maxF q3 q4)), .second, .val (.long (minF (maxF q1 q2) (maxF q3 q4))), .second, .unset, .unset, .unset, .unset, .unset] [])) _
    refine XS.lload X7.here hx rfl (hb hby at_89) rfl ?_
    show Steps p.tables e below (T7.setTop (mkF m 91 #[.val (.long q1), .second, .val (.long q2), .second, .val (.long q3), .second, .val (.long q4), .second, .val (.long q5), .second, .val (.int p6), .val (.long (minF (minF q1 q2) (minF q3 q4))), .second, .val (.long (maxF q1 q2)), .second, .val (.long (maxF (minF q1 q2) (minF q3 q4))), .second, .val (.long (maxF q3 q4)), .second, .val (.long (minF (maxF q1 q2) (maxF q3 q4))), .second, .unset, .unset, .unset, .unset, .unset] [(.long (maxF q1 q2))])) _
    refine XS.lload X7.here hx rfl (hb hby at_91) rfl ?_
    exact kt
  obtain ⟨_, _, ⟨T8, L8, k8, n8⟩, -, X8, ⟨Lc8, hQ8, l8, y8, z8⟩, st8⟩ := Jvm.LawKit.callS X7 hx (y := (⟨"java/lang/Math", "max", "(JJ)J"⟩ : MethodName)) hown (mvT hZ (hw _ (List.mem_of_getElem? (i := 4) rfl))) (mvT hZ (hw _ (List.mem_of_getElem? (i := 5) rfl))) (mvT hZ (hw _ (List.mem_of_getElem? (i := 2) rfl))) (mvT hZ (hw _ (List.mem_of_getElem? (i := 6) rfl))) (by decide) (backOf (W := 0) (rm2 l Z a0 hw [] (maxF q1 q2) (maxF q3 q4) h0 n0 Z0) hZ (hw _ (List.mem_of_getElem? (i := 6) rfl)) (hw _ (List.mem_of_getElem? (i := 2) rfl)) (by decide) (by decide)) (g := (mkF m 93 #[.val (.long q1), .second, .val (.long q2), .second, .val (.long q3), .second, .val (.long q4), .second, .val (.long q5), .second, .val (.int p6), .val (.long (minF (minF q1 q2) (minF q3 q4))), .second, .val (.long (maxF q1 q2)), .second, .val (.long (maxF (minF q1 q2) (minF q3 q4))), .second, .val (.long (maxF q3 q4)), .second, .val (.long (minF (maxF q1 q2) (maxF q3 q4))), .second, .unset, .unset, .unset, .unset, .unset] [(.long (maxF q3 q4)), (.long (maxF q1 q2))])) rfl (by rw [hml]; rfl) (argsL := [(.long (maxF q1 q2)), (.long (maxF q3 q4))]) (rest := []) (lenOf pd_0 rfl) rfl (by show 2 * 0 + _ ≤ _; exact Nat.le_of_eq rfl) (hb hby at_93) (fun _ _ => ⟨rfl, e7, (by decide : 0 + 0 ≤ _), (by decide : 0 + 0 ≤ _)⟩)
  dsimp only [Pt.U, Pt.locs, Pt.cells, Pt.slots] at X8 l8 y8 z8 st8 hQ8
  subst l8 y8 z8
  obtain ⟨rfl, N8q, e8⟩ := hQ8
  have N8 := Fr.app N7 N8q
  refine Goes.step (A := T8.setTop (mkF m 96 #[.val (.long q1), .second, .val (.long q2), .second, .val (.long q3), .second, .val (.long q4), .second, .val (.long q5), .second, .val (.int p6), .val (.long (minF (minF q1 q2) (minF q3 q4))), .second, .val (.long (maxF q1 q2)), .second, .val (.long (maxF (minF q1 q2) (minF q3 q4))), .second, .val (.long (maxF q3 q4)), .second, .val (.long (minF (maxF q1 q2) (maxF q3 q4))), .second, .unset, .unset, .unset, .unset, .unset] [(.long (maxF (maxF q1 q2) (maxF q3 q4)))])) (fun t kt => st8 _ kt) ?_
  refine Goes.step (A := T8.setTop (mkF m 106 #[.val (.long q1), .second, .val (.long q2), .second, .val (.long q3), .second, .val (.long q4), .second, .val (.long q5), .second, .val (.int p6), .val (.long (minF (minF q1 q2) (minF q3 q4))), .second, .val (.long (minF (maxF q1 q2) (maxF q3 q4))), .second, .val (.long (maxF (minF q1 q2) (minF q3 q4))), .second, .val (.long (maxF (maxF q1 q2) (maxF q3 q4))), .second, .val (.long (minF (maxF q1 q2) (maxF q3 q4))), .second, .unset, .unset, .unset, .unset, .unset] [(.long (maxF (minF q1 q2) (minF q3 q4))), (.long (minF (maxF q1 q2) (maxF q3 q4)))])) (fun t kt => ?_) ?_
  · refine XS.lstore X8.here hx rfl (hb hby at_96) rfl (l' := #[.val (.long q1), .second, .val (.long q2), .second, .val (.long q3), .second, .val (.long q4), .second, .val (.long q5), .second, .val (.int p6), .val (.long (minF (minF q1 q2) (minF q3 q4))), .second, .val (.long (maxF q1 q2)), .second, .val (.long (maxF (minF q1 q2) (minF q3 q4))), .second, .val (.long (maxF (maxF q1 q2) (maxF q3 q4))), .second, .val (.long (minF (maxF q1 q2) (maxF q3 q4))), .second, .unset, .unset, .unset, .unset, .unset]) rfl ?_
    show Steps p.tables e below (T8.setTop (mkF m 98 #[.val (.long q1), .second, .val (.long q2), .second, .val (.long q3), .second, .val (.long q4), .second, .val (.long q5), .second, .val (.int p6), .val (.long (minF (minF q1 q2) (minF q3 q4))), .second, .val (.long (maxF q1 q2)), .second, .val (.long (maxF (minF q1 q2) (minF q3 q4))), .second, .val (.long (maxF (maxF q1 q2) (maxF q3 q4))), .second, .val (.long (minF (maxF q1 q2) (maxF q3 q4))), .second, .unset, .unset, .unset, .unset, .unset] [])) _
    refine XS.lload X8.here hx rfl (hb hby at_98) rfl ?_
    show Steps p.tables e below (T8.setTop (mkF m 100 #[.val (.long q1), .second, .val (.long q2), .second, .val (.long q3), .second, .val (.long q4), .second, .val (.long q5), .second, .val (.int p6), .val (.long (minF (minF q1 q2) (minF q3 q4))), .second, .val (.long (maxF q1 q2)), .second, .val (.long (maxF (minF q1 q2) (minF q3 q4))), .second, .val (.long (maxF (maxF q1 q2) (maxF q3 q4))), .second, .val (.long (minF (maxF q1 q2) (maxF q3 q4))), .second, .unset, .unset, .unset, .unset, .unset] [(.long (minF (maxF q1 q2) (maxF q3 q4)))])) _
    refine XS.lstore X8.here hx rfl (hb hby at_100) rfl (l' := #[.val (.long q1), .second, .val (.long q2), .second, .val (.long q3), .second, .val (.long q4), .second, .val (.long q5), .second, .val (.int p6), .val (.long (minF (minF q1 q2) (minF q3 q4))), .second, .val (.long (minF (maxF q1 q2) (maxF q3 q4))), .second, .val (.long (maxF (minF q1 q2) (minF q3 q4))), .second, .val (.long (maxF (maxF q1 q2) (maxF q3 q4))), .second, .val (.long (minF (maxF q1 q2) (maxF q3 q4))), .second, .unset, .unset, .unset, .unset, .unset]) rfl ?_
    show Steps p.tables e below (T8.setTop (mkF m 102 #[.val (.long q1), .second, .val (.long q2), .second, .val (.long q3), .second, .val (.long q4), .second, .val (.long q5), .second, .val (.int p6), .val (.long (minF (minF q1 q2) (minF q3 q4))), .second, .val (.long (minF (maxF q1 q2) (maxF q3 q4))), .second, .val (.long (maxF (minF q1 q2) (minF q3 q4))), .second, .val (.long (maxF (maxF q1 q2) (maxF q3 q4))), .second, .val (.long (minF (maxF q1 q2) (maxF q3 q4))), .second, .unset, .unset, .unset, .unset, .unset] [])) _
    refine XS.lload X8.here hx rfl (hb hby at_102) rfl ?_
    show Steps p.tables e below (T8.setTop (mkF m 104 #[.val (.long q1), .second, .val (.long q2), .second, .val (.long q3), .second, .val (.long q4), .second, .val (.long q5), .second, .val (.int p6), .val (.long (minF (minF q1 q2) (minF q3 q4))), .second, .val (.long (minF (maxF q1 q2) (maxF q3 q4))), .second, .val (.long (maxF (minF q1 q2) (minF q3 q4))), .second, .val (.long (maxF (maxF q1 q2) (maxF q3 q4))), .second, .val (.long (minF (maxF q1 q2) (maxF q3 q4))), .second, .unset, .unset, .unset, .unset, .unset] [(.long (minF (maxF q1 q2) (maxF q3 q4)))])) _
    refine XS.lload X8.here hx rfl (hb hby at_104) rfl ?_
    exact kt
  obtain ⟨_, _, ⟨T9, L9, k9, n9⟩, -, X9, ⟨Lc9, hQ9, l9, y9, z9⟩, st9⟩ := Jvm.LawKit.callS X8 hx (y := (⟨"java/lang/Math", "min", "(JJ)J"⟩ : MethodName)) hown (mvT hZ (hw _ (List.mem_of_getElem? (i := 0) rfl))) (mvT hZ (hw _ (List.mem_of_getElem? (i := 1) rfl))) (mvT hZ (hw _ (List.mem_of_getElem? (i := 2) rfl))) (mvT hZ (hw _ (List.mem_of_getElem? (i := 3) rfl))) (by decide) (backOf (W := 0) (rm1 l Z a0 hw [] (minF (maxF q1 q2) (maxF q3 q4)) (maxF (minF q1 q2) (minF q3 q4)) h0 n0 Z0) hZ (hw _ (List.mem_of_getElem? (i := 3) rfl)) (hw _ (List.mem_of_getElem? (i := 2) rfl)) (by decide) (by decide)) (g := (mkF m 106 #[.val (.long q1), .second, .val (.long q2), .second, .val (.long q3), .second, .val (.long q4), .second, .val (.long q5), .second, .val (.int p6), .val (.long (minF (minF q1 q2) (minF q3 q4))), .second, .val (.long (minF (maxF q1 q2) (maxF q3 q4))), .second, .val (.long (maxF (minF q1 q2) (minF q3 q4))), .second, .val (.long (maxF (maxF q1 q2) (maxF q3 q4))), .second, .val (.long (minF (maxF q1 q2) (maxF q3 q4))), .second, .unset, .unset, .unset, .unset, .unset] [(.long (maxF (minF q1 q2) (minF q3 q4))), (.long (minF (maxF q1 q2) (maxF q3 q4)))])) rfl (by rw [hml]; rfl) (argsL := [(.long (minF (maxF q1 q2) (maxF q3 q4))), (.long (maxF (minF q1 q2) (minF q3 q4)))]) (rest := []) (lenOf pd_0 rfl) rfl (by show 2 * 0 + _ ≤ _; exact Nat.le_of_eq rfl) (hb hby at_106) (fun _ _ => ⟨rfl, e8, (by decide : 0 + 0 ≤ _), (by decide : 0 + 0 ≤ _)⟩)
  dsimp only [Pt.U, Pt.locs, Pt.cells, Pt.slots] at X9 l9 y9 z9 st9 hQ9
  subst l9 y9 z9
  obtain ⟨rfl, N9q, e9⟩ := hQ9
  have N9 := Fr.app N8 N9q
  refine Goes.step (A := T9.setTop (mkF m 109 #[.val (.long q1), .second, .val (.long q2), .second, .val (.long q3), .second, .val (.long q4), .second, .val (.long q5), .second, .val (.int p6), .val (.long (minF (minF q1 q2) (minF q3 q4))), .second, .val (.long (minF (maxF q1 q2) (maxF q3 q4))), .second, .val (.long (maxF (minF q1 q2) (minF q3 q4))), .second, .val (.long (maxF (maxF q1 q2) (maxF q3 q4))), .second, .val (.long (minF (maxF q1 q2) (maxF q3 q4))), .second, .unset, .unset, .unset, .unset, .unset] [(.long (minF (minF (maxF q1 q2) (maxF q3 q4)) (maxF (minF q1 q2) (minF q3 q4))))])) (fun t kt => st9 _ kt) ?_
  refine Goes.step (A := T9.setTop (mkF m 115 #[.val (.long q1), .second, .val (.long q2), .second, .val (.long q3), .second, .val (.long q4), .second, .val (.long q5), .second, .val (.int p6), .val (.long (minF (minF q1 q2) (minF q3 q4))), .second, .val (.long (minF (maxF q1 q2) (maxF q3 q4))), .second, .val (.long (maxF (minF q1 q2) (minF q3 q4))), .second, .val (.long (maxF (maxF q1 q2) (maxF q3 q4))), .second, .val (.long (minF (minF (maxF q1 q2) (maxF q3 q4)) (maxF (minF q1 q2) (minF q3 q4)))), .second, .unset, .unset, .unset, .unset, .unset] [(.long (maxF (minF q1 q2) (minF q3 q4))), (.long (minF (maxF q1 q2) (maxF q3 q4)))])) (fun t kt => ?_) ?_
  · refine XS.lstore X9.here hx rfl (hb hby at_109) rfl (l' := #[.val (.long q1), .second, .val (.long q2), .second, .val (.long q3), .second, .val (.long q4), .second, .val (.long q5), .second, .val (.int p6), .val (.long (minF (minF q1 q2) (minF q3 q4))), .second, .val (.long (minF (maxF q1 q2) (maxF q3 q4))), .second, .val (.long (maxF (minF q1 q2) (minF q3 q4))), .second, .val (.long (maxF (maxF q1 q2) (maxF q3 q4))), .second, .val (.long (minF (minF (maxF q1 q2) (maxF q3 q4)) (maxF (minF q1 q2) (minF q3 q4)))), .second, .unset, .unset, .unset, .unset, .unset]) rfl ?_
    show Steps p.tables e below (T9.setTop (mkF m 111 #[.val (.long q1), .second, .val (.long q2), .second, .val (.long q3), .second, .val (.long q4), .second, .val (.long q5), .second, .val (.int p6), .val (.long (minF (minF q1 q2) (minF q3 q4))), .second, .val (.long (minF (maxF q1 q2) (maxF q3 q4))), .second, .val (.long (maxF (minF q1 q2) (minF q3 q4))), .second, .val (.long (maxF (maxF q1 q2) (maxF q3 q4))), .second, .val (.long (minF (minF (maxF q1 q2) (maxF q3 q4)) (maxF (minF q1 q2) (minF q3 q4)))), .second, .unset, .unset, .unset, .unset, .unset] [])) _
    refine XS.lload X9.here hx rfl (hb hby at_111) rfl ?_
    show Steps p.tables e below (T9.setTop (mkF m 113 #[.val (.long q1), .second, .val (.long q2), .second, .val (.long q3), .second, .val (.long q4), .second, .val (.long q5), .second, .val (.int p6), .val (.long (minF (minF q1 q2) (minF q3 q4))), .second, .val (.long (minF (maxF q1 q2) (maxF q3 q4))), .second, .val (.long (maxF (minF q1 q2) (minF q3 q4))), .second, .val (.long (maxF (maxF q1 q2) (maxF q3 q4))), .second, .val (.long (minF (minF (maxF q1 q2) (maxF q3 q4)) (maxF (minF q1 q2) (minF q3 q4)))), .second, .unset, .unset, .unset, .unset, .unset] [(.long (minF (maxF q1 q2) (maxF q3 q4)))])) _
    refine XS.lload X9.here hx rfl (hb hby at_113) rfl ?_
    exact kt
  obtain ⟨_, _, ⟨T10, L10, k10, n10⟩, -, X10, ⟨Lc10, hQ10, l10, y10, z10⟩, st10⟩ := Jvm.LawKit.callS X9 hx (y := (⟨"java/lang/Math", "max", "(JJ)J"⟩ : MethodName)) hown (mvT hZ (hw _ (List.mem_of_getElem? (i := 4) rfl))) (mvT hZ (hw _ (List.mem_of_getElem? (i := 5) rfl))) (mvT hZ (hw _ (List.mem_of_getElem? (i := 2) rfl))) (mvT hZ (hw _ (List.mem_of_getElem? (i := 6) rfl))) (by decide) (backOf (W := 0) (rm2 l Z a0 hw [] (minF (maxF q1 q2) (maxF q3 q4)) (maxF (minF q1 q2) (minF q3 q4)) h0 n0 Z0) hZ (hw _ (List.mem_of_getElem? (i := 6) rfl)) (hw _ (List.mem_of_getElem? (i := 2) rfl)) (by decide) (by decide)) (g := (mkF m 115 #[.val (.long q1), .second, .val (.long q2), .second, .val (.long q3), .second, .val (.long q4), .second, .val (.long q5), .second, .val (.int p6), .val (.long (minF (minF q1 q2) (minF q3 q4))), .second, .val (.long (minF (maxF q1 q2) (maxF q3 q4))), .second, .val (.long (maxF (minF q1 q2) (minF q3 q4))), .second, .val (.long (maxF (maxF q1 q2) (maxF q3 q4))), .second, .val (.long (minF (minF (maxF q1 q2) (maxF q3 q4)) (maxF (minF q1 q2) (minF q3 q4)))), .second, .unset, .unset, .unset, .unset, .unset] [(.long (maxF (minF q1 q2) (minF q3 q4))), (.long (minF (maxF q1 q2) (maxF q3 q4)))])) rfl (by rw [hml]; rfl) (argsL := [(.long (minF (maxF q1 q2) (maxF q3 q4))), (.long (maxF (minF q1 q2) (minF q3 q4)))]) (rest := []) (lenOf pd_0 rfl) rfl (by show 2 * 0 + _ ≤ _; exact Nat.le_of_eq rfl) (hb hby at_115) (fun _ _ => ⟨rfl, e9, (by decide : 0 + 0 ≤ _), (by decide : 0 + 0 ≤ _)⟩)
  dsimp only [Pt.U, Pt.locs, Pt.cells, Pt.slots] at X10 l10 y10 z10 st10 hQ10
  subst l10 y10 z10
  obtain ⟨rfl, N10q, e10⟩ := hQ10
  have N10 := Fr.app N9 N10q
  refine Goes.step (A := T10.setTop (mkF m 118 #[.val (.long q1), .second, .val (.long q2), .second, .val (.long q3), .second, .val (.long q4), .second, .val (.long q5), .second, .val (.int p6), .val (.long (minF (minF q1 q2) (minF q3 q4))), .second, .val (.long (minF (maxF q1 q2) (maxF q3 q4))), .second, .val (.long (maxF (minF q1 q2) (minF q3 q4))), .second, .val (.long (maxF (maxF q1 q2) (maxF q3 q4))), .second, .val (.long (minF (minF (maxF q1 q2) (maxF q3 q4)) (maxF (minF q1 q2) (minF q3 q4)))), .second, .unset, .unset, .unset, .unset, .unset] [(.long (maxF (minF (maxF q1 q2) (maxF q3 q4)) (maxF (minF q1 q2) (minF q3 q4))))])) (fun t kt => st10 _ kt) ?_
  refine Goes.step (A := T10.setTop (mkF m 124 #[.val (.long q1), .second, .val (.long q2), .second, .val (.long q3), .second, .val (.long q4), .second, .val (.long q5), .second, .val (.int p6), .val (.long (minF (minF q1 q2) (minF q3 q4))), .second, .val (.long (minF (minF (maxF q1 q2) (maxF q3 q4)) (maxF (minF q1 q2) (minF q3 q4)))), .second, .val (.long (maxF (minF (maxF q1 q2) (maxF q3 q4)) (maxF (minF q1 q2) (minF q3 q4)))), .second, .val (.long (maxF (maxF q1 q2) (maxF q3 q4))), .second, .val (.long (minF (minF (maxF q1 q2) (maxF q3 q4)) (maxF (minF q1 q2) (minF q3 q4)))), .second, .unset, .unset, .unset, .unset, .unset] [])) (fun t kt => ?_) ?_
  · refine XS.lstore X10.here hx rfl (hb hby at_118) rfl (l' := #[.val (.long q1), .second, .val (.long q2), .second, .val (.long q3), .second, .val (.long q4), .second, .val (.long q5), .second, .val (.int p6), .val (.long (minF (minF q1 q2) (minF q3 q4))), .second, .val (.long (minF (maxF q1 q2) (maxF q3 q4))), .second, .val (.long (maxF (minF (maxF q1 q2) (maxF q3 q4)) (maxF (minF q1 q2) (minF q3 q4)))), .second, .val (.long (maxF (maxF q1 q2) (maxF q3 q4))), .second, .val (.long (minF (minF (maxF q1 q2) (maxF q3 q4)) (maxF (minF q1 q2) (minF q3 q4)))), .second, .unset, .unset, .unset, .unset, .unset]) rfl ?_
    show Steps p.tables e below (T10.setTop (mkF m 120 #[.val (.long q1), .second, .val (.long q2), .second, .val (.long q3), .second, .val (.long q4), .second, .val (.long q5), .second, .val (.int p6), .val (.long (minF (minF q1 q2) (minF q3 q4))), .second, .val (.long (minF (maxF q1 q2) (maxF q3 q4))), .second, .val (.long (maxF (minF (maxF q1 q2) (maxF q3 q4)) (maxF (minF q1 q2) (minF q3 q4)))), .second, .val (.long (maxF (maxF q1 q2) (maxF q3 q4))), .second, .val (.long (minF (minF (maxF q1 q2) (maxF q3 q4)) (maxF (minF q1 q2) (minF q3 q4)))), .second, .unset, .unset, .unset, .unset, .unset] [])) _
    refine XS.lload X10.here hx rfl (hb hby at_120) rfl ?_
    show Steps p.tables e below (T10.setTop (mkF m 122 #[.val (.long q1), .second, .val (.long q2), .second, .val (.long q3), .second, .val (.long q4), .second, .val (.long q5), .second, .val (.int p6), .val (.long (minF (minF q1 q2) (minF q3 q4))), .second, .val (.long (minF (maxF q1 q2) (maxF q3 q4))), .second, .val (.long (maxF (minF (maxF q1 q2) (maxF q3 q4)) (maxF (minF q1 q2) (minF q3 q4)))), .second, .val (.long (maxF (maxF q1 q2) (maxF q3 q4))), .second, .val (.long (minF (minF (maxF q1 q2) (maxF q3 q4)) (maxF (minF q1 q2) (minF q3 q4)))), .second, .unset, .unset, .unset, .unset, .unset] [(.long (minF (minF (maxF q1 q2) (maxF q3 q4)) (maxF (minF q1 q2) (minF q3 q4))))])) _
    refine XS.lstore X10.here hx rfl (hb hby at_122) rfl (l' := #[.val (.long q1), .second, .val (.long q2), .second, .val (.long q3), .second, .val (.long q4), .second, .val (.long q5), .second, .val (.int p6), .val (.long (minF (minF q1 q2) (minF q3 q4))), .second, .val (.long (minF (minF (maxF q1 q2) (maxF q3 q4)) (maxF (minF q1 q2) (minF q3 q4)))), .second, .val (.long (maxF (minF (maxF q1 q2) (maxF q3 q4)) (maxF (minF q1 q2) (minF q3 q4)))), .second, .val (.long (maxF (maxF q1 q2) (maxF q3 q4))), .second, .val (.long (minF (minF (maxF q1 q2) (maxF q3 q4)) (maxF (minF q1 q2) (minF q3 q4)))), .second, .unset, .unset, .unset, .unset, .unset]) rfl ?_
    exact kt
  have cont : ∀ (T9 : State) (L9 : List Loc) (X9 : Stand p l e room_1 s m #[(.long q1), (.long q2), (.long q3), (.long q4), (.long q5), (.int p6)] below meth c T9 L9 0 0) (e9 : T9.heap = h0) (N9 : Fr n0 L9) (x0 x1 x2 x3 tv : Int64) (hs1 : x0.toInt ≤ x1.toInt) (hs2 : x1.toInt ≤ x2.toInt) (hs3 : x2.toInt ≤ x3.toInt), Goes p.tables e below (fun o U' => ∃ v L, o = .returned v ∧ Q0 Z q1 q2 q3 q4 q5 p6 h0 n0 v U'.heap L ∧ FrameEnd s o U' L room_1.cells room_1.slots) (T9.setTop (mkF m 124 #[.val (.long q1), .second, .val (.long q2), .second, .val (.long q3), .second, .val (.long q4), .second, .val (.long q5), .second, .val (.int p6), .val (.long x0), .second, .val (.long x1), .second, .val (.long x2), .second, .val (.long x3), .second, .val (.long tv), .second, .unset, .unset, .unset, .unset, .unset] [])) := by
    intro T9 L9 X9 e9 N9 x0 x1 x2 x3 tv hs1 hs2 hs3
    refine Goes.step (A := T9.setTop (mkF m 125 #[.val (.long q1), .second, .val (.long q2), .second, .val (.long q3), .second, .val (.long q4), .second, .val (.long q5), .second, .val (.int p6), .val (.long x0), .second, .val (.long x1), .second, .val (.long x2), .second, .val (.long x3), .second, .val (.long tv), .second, .unset, .unset, .unset, .unset, .unset] [(.int (4 : Int32))])) (fun t kt => ?_) ?_
    · refine XS.iconst X9.here hx rfl (hb hby at_124) ?_
      exact kt
    obtain ⟨T11, h11, k11, X11, e11, E11, A11, st11⟩ := newP X9 hx hZ (hw _ (List.mem_of_getElem? (i := 7) rfl)) e9 (g := (mkF m 125 #[.val (.long q1), .second, .val (.long q2), .second, .val (.long q3), .second, .val (.long q4), .second, .val (.long q5), .second, .val (.int p6), .val (.long x0), .second, .val (.long x1), .second, .val (.long x2), .second, .val (.long x3), .second, .val (.long tv), .second, .unset, .unset, .unset, .unset, .unset] [(.int (4 : Int32))])) rfl (hb hby at_125) rfl (by decide) (cap := 4) (by decide) (by decide) (by decide) (by decide)
    obtain ⟨b11, g11⟩ : ∃ z, z = h0.size := ⟨_, rfl⟩
    rw [← g11] at A11 st11
    have gb_b11 : n0 ≤ b11 := Nat.le_trans Z0 (Nat.le_of_eq g11.symm)
    have Z11 : n0 ≤ h11.size := Nat.le_trans Z0 E11.1
    have V11_b11 : Arv Z h11 b11 k11 .long (4 : Int32) [(.long (0 : Int64)), (.long (0 : Int64)), (.long (0 : Int64)), (.long (0 : Int64))] (.long (0 : Int64)) := (Arv.new A11 (by decide)).pad (pad_rep [] (.long (0 : Int64)) 4)
    refine Goes.step (A := T11.setTop (mkF m 127 #[.val (.long q1), .second, .val (.long q2), .second, .val (.long q3), .second, .val (.long q4), .second, .val (.long q5), .second, .val (.int p6), .val (.long x0), .second, .val (.long x1), .second, .val (.long x2), .second, .val (.long x3), .second, .val (.long tv), .second, .unset, .unset, .unset, .unset, .unset] [(.ref b11)])) (fun t kt => st11 _ kt) ?_
    refine Goes.step (A := T11.setTop (mkF m 131 #[.val (.long q1), .second, .val (.long q2), .second, .val (.long q3), .second, .val (.long q4), .second, .val (.long q5), .second, .val (.int p6), .val (.long x0), .second, .val (.long x1), .second, .val (.long x2), .second, .val (.long x3), .second, .val (.long tv), .second, .unset, .unset, .unset, .unset, .unset] [(.long x0), (.int (0 : Int32)), (.ref b11), (.ref b11)])) (fun t kt => ?_) ?_
    · refine XS.dup X11.here hx rfl (hb hby at_127) rfl rfl ?_
      show Steps p.tables e below (T11.setTop (mkF m 128 #[.val (.long q1), .second, .val (.long q2), .second, .val (.long q3), .second, .val (.long q4), .second, .val (.long q5), .second, .val (.int p6), .val (.long x0), .second, .val (.long x1), .second, .val (.long x2), .second, .val (.long x3), .second, .val (.long tv), .second, .unset, .unset, .unset, .unset, .unset] [(.ref b11), (.ref b11)])) _
      refine XS.iconst X11.here hx rfl (hb hby at_128) ?_
      show Steps p.tables e below (T11.setTop (mkF m 129 #[.val (.long q1), .second, .val (.long q2), .second, .val (.long q3), .second, .val (.long q4), .second, .val (.long q5), .second, .val (.int p6), .val (.long x0), .second, .val (.long x1), .second, .val (.long x2), .second, .val (.long x3), .second, .val (.long tv), .second, .unset, .unset, .unset, .unset, .unset] [(.int (0 : Int32)), (.ref b11), (.ref b11)])) _
      refine XS.lload X11.here hx rfl (hb hby at_129) rfl ?_
      exact kt
    obtain ⟨cl12, Ar12, q12, S12, N12x, H12, G12⟩ := V11_b11
    have hin12 : ¬ ((0 : Int32) < 0 ∨ cl12.slots.size ≤ ((0 : Int32)).toNatClampNeg) := inb_of S12 ⟨by decide, by decide⟩
    obtain ⟨T12, h12, X12, e12, W12, st12⟩ := stJ X11 hx hZ e11 Ar12 (j := (0 : Int32)) hin12 (g := (mkF m 131 #[.val (.long q1), .second, .val (.long q2), .second, .val (.long q3), .second, .val (.long q4), .second, .val (.long q5), .second, .val (.int p6), .val (.long x0), .second, .val (.long x1), .second, .val (.long x2), .second, .val (.long x3), .second, .val (.long tv), .second, .unset, .unset, .unset, .unset, .unset] [(.long x0), (.int (0 : Int32)), (.ref b11), (.ref b11)])) rfl rfl (hb hby at_131)
    have N12 := Fr.snoc X12 N9 gb_b11
    have V12_b11 : Arv Z h12 b11 k11 .long (4 : Int32) [(.long x0), (.long (0 : Int64)), (.long (0 : Int64)), (.long (0 : Int64))] (.long (0 : Int64)) := Arv.set Ar12 q12 S12 N12x H12 G12 rfl W12 0 rfl (Nat.le_of_ble_eq_true rfl)
    have Z12 : n0 ≤ h12.size := Nat.le_trans Z11 (Keep.of_wr W12).1
    refine Goes.step (A := T12.setTop (mkF m 132 #[.val (.long q1), .second, .val (.long q2), .second, .val (.long q3), .second, .val (.long q4), .second, .val (.long q5), .second, .val (.int p6), .val (.long x0), .second, .val (.long x1), .second, .val (.long x2), .second, .val (.long x3), .second, .val (.long tv), .second, .unset, .unset, .unset, .unset, .unset] [(.ref b11)])) (fun t kt => st12 _ kt) ?_
    refine Goes.step (A := T12.setTop (mkF m 136 #[.val (.long q1), .second, .val (.long q2), .second, .val (.long q3), .second, .val (.long q4), .second, .val (.long q5), .second, .val (.int p6), .val (.long x0), .second, .val (.long x1), .second, .val (.long x2), .second, .val (.long x3), .second, .val (.long tv), .second, .unset, .unset, .unset, .unset, .unset] [(.long x1), (.int (1 : Int32)), (.ref b11), (.ref b11)])) (fun t kt => ?_) ?_
    · refine XS.dup X12.here hx rfl (hb hby at_132) rfl rfl ?_
      show Steps p.tables e below (T12.setTop (mkF m 133 #[.val (.long q1), .second, .val (.long q2), .second, .val (.long q3), .second, .val (.long q4), .second, .val (.long q5), .second, .val (.int p6), .val (.long x0), .second, .val (.long x1), .second, .val (.long x2), .second, .val (.long x3), .second, .val (.long tv), .second, .unset, .unset, .unset, .unset, .unset] [(.ref b11), (.ref b11)])) _
      refine XS.iconst X12.here hx rfl (hb hby at_133) ?_
      show Steps p.tables e below (T12.setTop (mkF m 134 #[.val (.long q1), .second, .val (.long q2), .second, .val (.long q3), .second, .val (.long q4), .second, .val (.long q5), .second, .val (.int p6), .val (.long x0), .second, .val (.long x1), .second, .val (.long x2), .second, .val (.long x3), .second, .val (.long tv), .second, .unset, .unset, .unset, .unset, .unset] [(.int (1 : Int32)), (.ref b11), (.ref b11)])) _
      refine XS.lload X12.here hx rfl (hb hby at_134) rfl ?_
      exact kt
    obtain ⟨cl13, Ar13, q13, S13, N13x, H13, G13⟩ := V12_b11
    have hin13 : ¬ ((1 : Int32) < 0 ∨ cl13.slots.size ≤ ((1 : Int32)).toNatClampNeg) := inb_of S13 ⟨by decide, by decide⟩
    obtain ⟨T13, h13, X13, e13, W13, st13⟩ := stJ X12 hx hZ e12 Ar13 (j := (1 : Int32)) hin13 (g := (mkF m 136 #[.val (.long q1), .second, .val (.long q2), .second, .val (.long q3), .second, .val (.long q4), .second, .val (.long q5), .second, .val (.int p6), .val (.long x0), .second, .val (.long x1), .second, .val (.long x2), .second, .val (.long x3), .second, .val (.long tv), .second, .unset, .unset, .unset, .unset, .unset] [(.long x1), (.int (1 : Int32)), (.ref b11), (.ref b11)])) rfl rfl (hb hby at_136)
    have N13 := Fr.snoc X13 N12 gb_b11
    have V13_b11 : Arv Z h13 b11 k11 .long (4 : Int32) [(.long x0), (.long x1), (.long (0 : Int64)), (.long (0 : Int64))] (.long (0 : Int64)) := Arv.set Ar13 q13 S13 N13x H13 G13 rfl W13 1 rfl (Nat.le_of_ble_eq_true rfl)
    have Z13 : n0 ≤ h13.size := Nat.le_trans Z12 (Keep.of_wr W13).1
    refine Goes.step (A := T13.setTop (mkF m 137 #[.val (.long q1), .second, .val (.long q2), .second, .val (.long q3), .second, .val (.long q4), .second, .val (.long q5), .second, .val (.int p6), .val (.long x0), .second, .val (.long x1), .second, .val (.long x2), .second, .val (.long x3), .second, .val (.long tv), .second, .unset, .unset, .unset, .unset, .unset] [(.ref b11)])) (fun t kt => st13 _ kt) ?_
    refine Goes.step (A := T13.setTop (mkF m 141 #[.val (.long q1), .second, .val (.long q2), .second, .val (.long q3), .second, .val (.long q4), .second, .val (.long q5), .second, .val (.int p6), .val (.long x0), .second, .val (.long x1), .second, .val (.long x2), .second, .val (.long x3), .second, .val (.long tv), .second, .unset, .unset, .unset, .unset, .unset] [(.long x2), (.int (2 : Int32)), (.ref b11), (.ref b11)])) (fun t kt => ?_) ?_
    · refine XS.dup X13.here hx rfl (hb hby at_137) rfl rfl ?_
      show Steps p.tables e below (T13.setTop (mkF m 138 #[.val (.long q1), .second, .val (.long q2), .second, .val (.long q3), .second, .val (.long q4), .second, .val (.long q5), .second, .val (.int p6), .val (.long x0), .second, .val (.long x1), .second, .val (.long x2), .second, .val (.long x3), .second, .val (.long tv), .second, .unset, .unset, .unset, .unset, .unset] [(.ref b11), (.ref b11)])) _
      refine XS.iconst X13.here hx rfl (hb hby at_138) ?_
      show Steps p.tables e below (T13.setTop (mkF m 139 #[.val (.long q1), .second, .val (.long q2), .second, .val (.long q3), .second, .val (.long q4), .second, .val (.long q5), .second, .val (.int p6), .val (.long x0), .second, .val (.long x1), .second, .val (.long x2), .second, .val (.long x3), .second, .val (.long tv), .second, .unset, .unset, .unset, .unset, .unset] [(.int (2 : Int32)), (.ref b11), (.ref b11)])) _
      refine XS.lload X13.here hx rfl (hb hby at_139) rfl ?_
      exact kt
    obtain ⟨cl14, Ar14, q14, S14, N14x, H14, G14⟩ := V13_b11
    have hin14 : ¬ ((2 : Int32) < 0 ∨ cl14.slots.size ≤ ((2 : Int32)).toNatClampNeg) := inb_of S14 ⟨by decide, by decide⟩
    obtain ⟨T14, h14, X14, e14, W14, st14⟩ := stJ X13 hx hZ e13 Ar14 (j := (2 : Int32)) hin14 (g := (mkF m 141 #[.val (.long q1), .second, .val (.long q2), .second, .val (.long q3), .second, .val (.long q4), .second, .val (.long q5), .second, .val (.int p6), .val (.long x0), .second, .val (.long x1), .second, .val (.long x2), .second, .val (.long x3), .second, .val (.long tv), .second, .unset, .unset, .unset, .unset, .unset] [(.long x2), (.int (2 : Int32)), (.ref b11), (.ref b11)])) rfl rfl (hb hby at_141)
    have N14 := Fr.snoc X14 N13 gb_b11
    have V14_b11 : Arv Z h14 b11 k11 .long (4 : Int32) [(.long x0), (.long x1), (.long x2), (.long (0 : Int64))] (.long (0 : Int64)) := Arv.set Ar14 q14 S14 N14x H14 G14 rfl W14 2 rfl (Nat.le_of_ble_eq_true rfl)
    have Z14 : n0 ≤ h14.size := Nat.le_trans Z13 (Keep.of_wr W14).1
    refine Goes.step (A := T14.setTop (mkF m 142 #[.val (.long q1), .second, .val (.long q2), .second, .val (.long q3), .second, .val (.long q4), .second, .val (.long q5), .second, .val (.int p6), .val (.long x0), .second, .val (.long x1), .second, .val (.long x2), .second, .val (.long x3), .second, .val (.long tv), .second, .unset, .unset, .unset, .unset, .unset] [(.ref b11)])) (fun t kt => st14 _ kt) ?_
    refine Goes.step (A := T14.setTop (mkF m 146 #[.val (.long q1), .second, .val (.long q2), .second, .val (.long q3), .second, .val (.long q4), .second, .val (.long q5), .second, .val (.int p6), .val (.long x0), .second, .val (.long x1), .second, .val (.long x2), .second, .val (.long x3), .second, .val (.long tv), .second, .unset, .unset, .unset, .unset, .unset] [(.long x3), (.int (3 : Int32)), (.ref b11), (.ref b11)])) (fun t kt => ?_) ?_
    · refine XS.dup X14.here hx rfl (hb hby at_142) rfl rfl ?_
      show Steps p.tables e below (T14.setTop (mkF m 143 #[.val (.long q1), .second, .val (.long q2), .second, .val (.long q3), .second, .val (.long q4), .second, .val (.long q5), .second, .val (.int p6), .val (.long x0), .second, .val (.long x1), .second, .val (.long x2), .second, .val (.long x3), .second, .val (.long tv), .second, .unset, .unset, .unset, .unset, .unset] [(.ref b11), (.ref b11)])) _
      refine XS.iconst X14.here hx rfl (hb hby at_143) ?_
      show Steps p.tables e below (T14.setTop (mkF m 144 #[.val (.long q1), .second, .val (.long q2), .second, .val (.long q3), .second, .val (.long q4), .second, .val (.long q5), .second, .val (.int p6), .val (.long x0), .second, .val (.long x1), .second, .val (.long x2), .second, .val (.long x3), .second, .val (.long tv), .second, .unset, .unset, .unset, .unset, .unset] [(.int (3 : Int32)), (.ref b11), (.ref b11)])) _
      refine XS.lload X14.here hx rfl (hb hby at_144) rfl ?_
      exact kt
    obtain ⟨cl15, Ar15, q15, S15, N15x, H15, G15⟩ := V14_b11
    have hin15 : ¬ ((3 : Int32) < 0 ∨ cl15.slots.size ≤ ((3 : Int32)).toNatClampNeg) := inb_of S15 ⟨by decide, by decide⟩
    obtain ⟨T15, h15, X15, e15, W15, st15⟩ := stJ X14 hx hZ e14 Ar15 (j := (3 : Int32)) hin15 (g := (mkF m 146 #[.val (.long q1), .second, .val (.long q2), .second, .val (.long q3), .second, .val (.long q4), .second, .val (.long q5), .second, .val (.int p6), .val (.long x0), .second, .val (.long x1), .second, .val (.long x2), .second, .val (.long x3), .second, .val (.long tv), .second, .unset, .unset, .unset, .unset, .unset] [(.long x3), (.int (3 : Int32)), (.ref b11), (.ref b11)])) rfl rfl (hb hby at_146)
    have N15 := Fr.snoc X15 N14 gb_b11
    have V15_b11 : Arv Z h15 b11 k11 .long (4 : Int32) [(.long x0), (.long x1), (.long x2), (.long x3)] (.long (0 : Int64)) := Arv.set Ar15 q15 S15 N15x H15 G15 rfl W15 3 rfl (Nat.le_of_ble_eq_true rfl)
    have Z15 : n0 ≤ h15.size := Nat.le_trans Z14 (Keep.of_wr W15).1
    refine Goes.step (A := T15.setTop (mkF m 147 #[.val (.long q1), .second, .val (.long q2), .second, .val (.long q3), .second, .val (.long q4), .second, .val (.long q5), .second, .val (.int p6), .val (.long x0), .second, .val (.long x1), .second, .val (.long x2), .second, .val (.long x3), .second, .val (.long tv), .second, .unset, .unset, .unset, .unset, .unset] [(.ref b11)])) (fun t kt => st15 _ kt) ?_
    refine Goes.step (A := T15.setTop (mkF m 178 #[.val (.long q1), .second, .val (.long q2), .second, .val (.long q3), .second, .val (.long q4), .second, .val (.long q5), .second, .val (.int p6), .val (.long x0), .second, .val (.long x1), .second, .val (.long x2), .second, .val (.long x3), .second, .val (.long tv), .second, .val (.ref b11), .val (.int ((p6 &&& (255 : Int32)) % (5 : Int32))), .val (.int (((p6 &&& (255 : Int32)) % (5 : Int32)) + (((p6.toUInt32 >>> ((8 : Int32) &&& 31).toUInt32).toInt32) % ((5 : Int32) - ((p6 &&& (255 : Int32)) % (5 : Int32)))))), .val (.int (((p6 &&& (255 : Int32)) % (5 : Int32)) + (((p6.toUInt32 >>> ((8 : Int32) &&& 31).toUInt32).toInt32) % ((5 : Int32) - ((p6 &&& (255 : Int32)) % (5 : Int32)))))), .unset] [])) (fun t kt => ?_) ?_
    · refine XS.astore X15.here hx rfl (hb hby at_147) rfl rfl (l' := #[.val (.long q1), .second, .val (.long q2), .second, .val (.long q3), .second, .val (.long q4), .second, .val (.long q5), .second, .val (.int p6), .val (.long x0), .second, .val (.long x1), .second, .val (.long x2), .second, .val (.long x3), .second, .val (.long tv), .second, .val (.ref b11), .unset, .unset, .unset, .unset]) rfl ?_
      show Steps p.tables e below (T15.setTop (mkF m 149 #[.val (.long q1), .second, .val (.long q2), .second, .val (.long q3), .second, .val (.long q4), .second, .val (.long q5), .second, .val (.int p6), .val (.long x0), .second, .val (.long x1), .second, .val (.long x2), .second, .val (.long x3), .second, .val (.long tv), .second, .val (.ref b11), .unset, .unset, .unset, .unset] [])) _
      refine XS.iload X15.here hx rfl (hb hby at_149) rfl ?_
      show Steps p.tables e below (T15.setTop (mkF m 151 #[.val (.long q1), .second, .val (.long q2), .second, .val (.long q3), .second, .val (.long q4), .second, .val (.long q5), .second, .val (.int p6), .val (.long x0), .second, .val (.long x1), .second, .val (.long x2), .second, .val (.long x3), .second, .val (.long tv), .second, .val (.ref b11), .unset, .unset, .unset, .unset] [(.int p6)])) _
      refine XS.sipush X15.here hx rfl (hb hby at_151) ?_
      show Steps p.tables e below (T15.setTop (mkF m 154 #[.val (.long q1), .second, .val (.long q2), .second, .val (.long q3), .second, .val (.long q4), .second, .val (.long q5), .second, .val (.int p6), .val (.long x0), .second, .val (.long x1), .second, .val (.long x2), .second, .val (.long x3), .second, .val (.long tv), .second, .val (.ref b11), .unset, .unset, .unset, .unset] [(.int (255 : Int32)), (.int p6)])) _
      refine XS.iand X15.here hx rfl (hb hby at_154) rfl ?_
      show Steps p.tables e below (T15.setTop (mkF m 155 #[.val (.long q1), .second, .val (.long q2), .second, .val (.long q3), .second, .val (.long q4), .second, .val (.long q5), .second, .val (.int p6), .val (.long x0), .second, .val (.long x1), .second, .val (.long x2), .second, .val (.long x3), .second, .val (.long tv), .second, .val (.ref b11), .unset, .unset, .unset, .unset] [(.int (p6 &&& (255 : Int32)))])) _
      refine XS.iconst X15.here hx rfl (hb hby at_155) ?_
      show Steps p.tables e below (T15.setTop (mkF m 156 #[.val (.long q1), .second, .val (.long q2), .second, .val (.long q3), .second, .val (.long q4), .second, .val (.long q5), .second, .val (.int p6), .val (.long x0), .second, .val (.long x1), .second, .val (.long x2), .second, .val (.long x3), .second, .val (.long tv), .second, .val (.ref b11), .unset, .unset, .unset, .unset] [(.int (5 : Int32)), (.int (p6 &&& (255 : Int32)))])) _
      refine Jvm.RoadKit.iremM X15 hx rfl (hb hby at_156) rfl (by decide) ?_
      show Steps p.tables e below (T15.setTop (mkF m 157 #[.val (.long q1), .second, .val (.long q2), .second, .val (.long q3), .second, .val (.long q4), .second, .val (.long q5), .second, .val (.int p6), .val (.long x0), .second, .val (.long x1), .second, .val (.long x2), .second, .val (.long x3), .second, .val (.long tv), .second, .val (.ref b11), .unset, .unset, .unset, .unset] [(.int ((p6 &&& (255 : Int32)) % (5 : Int32)))])) _
      refine XS.istore X15.here hx rfl (hb hby at_157) rfl (l' := #[.val (.long q1), .second, .val (.long q2), .second, .val (.long q3), .second, .val (.long q4), .second, .val (.long q5), .second, .val (.int p6), .val (.long x0), .second, .val (.long x1), .second, .val (.long x2), .second, .val (.long x3), .second, .val (.long tv), .second, .val (.ref b11), .val (.int ((p6 &&& (255 : Int32)) % (5 : Int32))), .unset, .unset, .unset]) rfl ?_
      show Steps p.tables e below (T15.setTop (mkF m 159 #[.val (.long q1), .second, .val (.long q2), .second, .val (.long q3), .second, .val (.long q4), .second, .val (.long q5), .second, .val (.int p6), .val (.long x0), .second, .val (.long x1), .second, .val (.long x2), .second, .val (.long x3), .second, .val (.long tv), .second, .val (.ref b11), .val (.int ((p6 &&& (255 : Int32)) % (5 : Int32))), .unset, .unset, .unset] [])) _
      refine XS.iload X15.here hx rfl (hb hby at_159) rfl ?_
      show Steps p.tables e below (T15.setTop (mkF m 161 #[.val (.long q1), .second, .val (.long q2), .second, .val (.long q3), .second, .val (.long q4), .second, .val (.long q5), .second, .val (.int p6), .val (.long x0), .second, .val (.long x1), .second, .val (.long x2), .second, .val (.long x3), .second, .val (.long tv), .second, .val (.ref b11), .val (.int ((p6 &&& (255 : Int32)) % (5 : Int32))), .unset, .unset, .unset] [(.int ((p6 &&& (255 : Int32)) % (5 : Int32)))])) _
      refine XS.iload X15.here hx rfl (hb hby at_161) rfl ?_
      show Steps p.tables e below (T15.setTop (mkF m 163 #[.val (.long q1), .second, .val (.long q2), .second, .val (.long q3), .second, .val (.long q4), .second, .val (.long q5), .second, .val (.int p6), .val (.long x0), .second, .val (.long x1), .second, .val (.long x2), .second, .val (.long x3), .second, .val (.long tv), .second, .val (.ref b11), .val (.int ((p6 &&& (255 : Int32)) % (5 : Int32))), .unset, .unset, .unset] [(.int p6), (.int ((p6 &&& (255 : Int32)) % (5 : Int32)))])) _
      refine XS.bipush X15.here hx rfl (hb hby at_163) ?_
      show Steps p.tables e below (T15.setTop (mkF m 165 #[.val (.long q1), .second, .val (.long q2), .second, .val (.long q3), .second, .val (.long q4), .second, .val (.long q5), .second, .val (.int p6), .val (.long x0), .second, .val (.long x1), .second, .val (.long x2), .second, .val (.long x3), .second, .val (.long tv), .second, .val (.ref b11), .val (.int ((p6 &&& (255 : Int32)) % (5 : Int32))), .unset, .unset, .unset] [(.int (8 : Int32)), (.int p6), (.int ((p6 &&& (255 : Int32)) % (5 : Int32)))])) _
      refine XS.iushr X15.here hx rfl (hb hby at_165) rfl ?_
      show Steps p.tables e below (T15.setTop (mkF m 166 #[.val (.long q1), .second, .val (.long q2), .second, .val (.long q3), .second, .val (.long q4), .second, .val (.long q5), .second, .val (.int p6), .val (.long x0), .second, .val (.long x1), .second, .val (.long x2), .second, .val (.long x3), .second, .val (.long tv), .second, .val (.ref b11), .val (.int ((p6 &&& (255 : Int32)) % (5 : Int32))), .unset, .unset, .unset] [(.int ((p6.toUInt32 >>> ((8 : Int32) &&& 31).toUInt32).toInt32)), (.int ((p6 &&& (255 : Int32)) % (5 : Int32)))])) _
      refine XS.iconst X15.here hx rfl (hb hby at_166) ?_
      show Steps p.tables e below (T15.setTop (mkF m 167 #[.val (.long q1), .second, .val (.long q2), .second, .val (.long q3), .second, .val (.long q4), .second, .val (.long q5), .second, .val (.int p6), .val (.long x0), .second, .val (.long x1), .second, .val (.long x2), .second, .val (.long x3), .second, .val (.long tv), .second, .val (.ref b11), .val (.int ((p6 &&& (255 : Int32)) % (5 : Int32))), .unset, .unset, .unset] [(.int (5 : Int32)), (.int ((p6.toUInt32 >>> ((8 : Int32) &&& 31).toUInt32).toInt32)), (.int ((p6 &&& (255 : Int32)) % (5 : Int32)))])) _
      refine XS.iload X15.here hx rfl (hb hby at_167) rfl ?_
      show Steps p.tables e below (T15.setTop (mkF m 169 #[.val (.long q1), .second, .val (.long q2), .second, .val (.long q3), .second, .val (.long q4), .second, .val (.long q5), .second, .val (.int p6), .val (.long x0), .second, .val (.long x1), .second, .val (.long x2), .second, .val (.long x3), .second, .val (.long tv), .second, .val (.ref b11), .val (.int ((p6 &&& (255 : Int32)) % (5 : Int32))), .unset, .unset, .unset] [(.int ((p6 &&& (255 : Int32)) % (5 : Int32))), (.int (5 : Int32)), (.int ((p6.toUInt32 >>> ((8 : Int32) &&& 31).toUInt32).toInt32)), (.int ((p6 &&& (255 : Int32)) % (5 : Int32)))])) _
      refine XS.isub X15.here hx rfl (hb hby at_169) rfl ?_
      show Steps p.tables e below (T15.setTop (mkF m 170 #[.val (.long q1), .second, .val (.long q2), .second, .val (.long q3), .second, .val (.long q4), .second, .val (.long q5), .second, .val (.int p6), .val (.long x0), .second, .val (.long x1), .second, .val (.long x2), .second, .val (.long x3), .second, .val (.long tv), .second, .val (.ref b11), .val (.int ((p6 &&& (255 : Int32)) % (5 : Int32))), .unset, .unset, .unset] [(.int ((5 : Int32) - ((p6 &&& (255 : Int32)) % (5 : Int32)))), (.int ((p6.toUInt32 >>> ((8 : Int32) &&& 31).toUInt32).toInt32)), (.int ((p6 &&& (255 : Int32)) % (5 : Int32)))])) _
      refine Jvm.RoadKit.iremM X15 hx rfl (hb hby at_170) rfl (own_nz _ (own_from p6)) ?_
      show Steps p.tables e below (T15.setTop (mkF m 171 #[.val (.long q1), .second, .val (.long q2), .second, .val (.long q3), .second, .val (.long q4), .second, .val (.long q5), .second, .val (.int p6), .val (.long x0), .second, .val (.long x1), .second, .val (.long x2), .second, .val (.long x3), .second, .val (.long tv), .second, .val (.ref b11), .val (.int ((p6 &&& (255 : Int32)) % (5 : Int32))), .unset, .unset, .unset] [(.int (((p6.toUInt32 >>> ((8 : Int32) &&& 31).toUInt32).toInt32) % ((5 : Int32) - ((p6 &&& (255 : Int32)) % (5 : Int32))))), (.int ((p6 &&& (255 : Int32)) % (5 : Int32)))])) _
      refine XS.iadd X15.here hx rfl (hb hby at_171) rfl ?_
      show Steps p.tables e below (T15.setTop (mkF m 172 #[.val (.long q1), .second, .val (.long q2), .second, .val (.long q3), .second, .val (.long q4), .second, .val (.long q5), .second, .val (.int p6), .val (.long x0), .second, .val (.long x1), .second, .val (.long x2), .second, .val (.long x3), .second, .val (.long tv), .second, .val (.ref b11), .val (.int ((p6 &&& (255 : Int32)) % (5 : Int32))), .unset, .unset, .unset] [(.int (((p6 &&& (255 : Int32)) % (5 : Int32)) + (((p6.toUInt32 >>> ((8 : Int32) &&& 31).toUInt32).toInt32) % ((5 : Int32) - ((p6 &&& (255 : Int32)) % (5 : Int32))))))])) _
      refine XS.istore X15.here hx rfl (hb hby at_172) rfl (l' := #[.val (.long q1), .second, .val (.long q2), .second, .val (.long q3), .second, .val (.long q4), .second, .val (.long q5), .second, .val (.int p6), .val (.long x0), .second, .val (.long x1), .second, .val (.long x2), .second, .val (.long x3), .second, .val (.long tv), .second, .val (.ref b11), .val (.int ((p6 &&& (255 : Int32)) % (5 : Int32))), .val (.int (((p6 &&& (255 : Int32)) % (5 : Int32)) + (((p6.toUInt32 >>> ((8 : Int32) &&& 31).toUInt32).toInt32) % ((5 : Int32) - ((p6 &&& (255 : Int32)) % (5 : Int32)))))), .unset, .unset]) rfl ?_
      show Steps p.tables e below (T15.setTop (mkF m 174 #[.val (.long q1), .second, .val (.long q2), .second, .val (.long q3), .second, .val (.long q4), .second, .val (.long q5), .second, .val (.int p6), .val (.long x0), .second, .val (.long x1), .second, .val (.long x2), .second, .val (.long x3), .second, .val (.long tv), .second, .val (.ref b11), .val (.int ((p6 &&& (255 : Int32)) % (5 : Int32))), .val (.int (((p6 &&& (255 : Int32)) % (5 : Int32)) + (((p6.toUInt32 >>> ((8 : Int32) &&& 31).toUInt32).toInt32) % ((5 : Int32) - ((p6 &&& (255 : Int32)) % (5 : Int32)))))), .unset, .unset] [])) _
      refine XS.iload X15.here hx rfl (hb hby at_174) rfl ?_
      show Steps p.tables e below (T15.setTop (mkF m 176 #[.val (.long q1), .second, .val (.long q2), .second, .val (.long q3), .second, .val (.long q4), .second, .val (.long q5), .second, .val (.int p6), .val (.long x0), .second, .val (.long x1), .second, .val (.long x2), .second, .val (.long x3), .second, .val (.long tv), .second, .val (.ref b11), .val (.int ((p6 &&& (255 : Int32)) % (5 : Int32))), .val (.int (((p6 &&& (255 : Int32)) % (5 : Int32)) + (((p6.toUInt32 >>> ((8 : Int32) &&& 31).toUInt32).toInt32) % ((5 : Int32) - ((p6 &&& (255 : Int32)) % (5 : Int32)))))), .unset, .unset] [(.int (((p6 &&& (255 : Int32)) % (5 : Int32)) + (((p6.toUInt32 >>> ((8 : Int32) &&& 31).toUInt32).toInt32) % ((5 : Int32) - ((p6 &&& (255 : Int32)) % (5 : Int32))))))])) _
      refine XS.istore X15.here hx rfl (hb hby at_176) rfl (l' := #[.val (.long q1), .second, .val (.long q2), .second, .val (.long q3), .second, .val (.long q4), .second, .val (.long q5), .second, .val (.int p6), .val (.long x0), .second, .val (.long x1), .second, .val (.long x2), .second, .val (.long x3), .second, .val (.long tv), .second, .val (.ref b11), .val (.int ((p6 &&& (255 : Int32)) % (5 : Int32))), .val (.int (((p6 &&& (255 : Int32)) % (5 : Int32)) + (((p6.toUInt32 >>> ((8 : Int32) &&& 31).toUInt32).toInt32) % ((5 : Int32) - ((p6 &&& (255 : Int32)) % (5 : Int32)))))), .val (.int (((p6 &&& (255 : Int32)) % (5 : Int32)) + (((p6.toUInt32 >>> ((8 : Int32) &&& 31).toUInt32).toInt32) % ((5 : Int32) - ((p6 &&& (255 : Int32)) % (5 : Int32)))))), .unset]) rfl ?_
      exact kt
    have A4 := own_arr4 V15_b11
    have hs := own_srt x0 x1 x2 x3 hs1 hs2 hs3
    have hf := own_from p6
    have ht := own_to _ _ hf (own_sh p6)
    obtain ⟨cl, Ar, Hat⟩ := A4
    have A4 := own_arr4 V15_b11
    have c3 : ∀ (fv tt ev : Int32) (hf : 0 ≤ fv.toInt ∧ fv.toInt ≤ 4) (ht : fv.toInt ≤ tt.toInt ∧ tt.toInt ≤ 4) (I : Ik (elemF x0 x1 x2 x3) q5 fv tt 4 ev), Goes p.tables e below (fun o U' => ∃ v L, o = .returned v ∧ Q0 Z q1 q2 q3 q4 q5 p6 h0 n0 v U'.heap L ∧ FrameEnd s o U' L room_1.cells room_1.slots) (T15.setTop (mkF m 178 #[.val (.long q1), .second, .val (.long q2), .second, .val (.long q3), .second, .val (.long q4), .second, .val (.long q5), .second, .val (.int p6), .val (.long x0), .second, .val (.long x1), .second, .val (.long x2), .second, .val (.long x3), .second, .val (.long tv), .second, .val (.ref b11), .val (.int fv), .val (.int tt), .val (.int ev), .unset] [])) := by
      intro fv tt ev hf ht I
      have d3 : ∀ (e3v : Int32) (I3 : Ik (elemF x0 x1 x2 x3) q5 fv tt 3 e3v), Goes p.tables e below (fun o U' => ∃ v L, o = .returned v ∧ Q0 Z q1 q2 q3 q4 q5 p6 h0 n0 v U'.heap L ∧ FrameEnd s o U' L room_1.cells room_1.slots) (T15.setTop (mkF m 203 #[.val (.long q1), .second, .val (.long q2), .second, .val (.long q3), .second, .val (.long q4), .second, .val (.long q5), .second, .val (.int p6), .val (.long x0), .second, .val (.long x1), .second, .val (.long x2), .second, .val (.long x3), .second, .val (.long tv), .second, .val (.ref b11), .val (.int fv), .val (.int tt), .val (.int e3v), .unset] [])) := by
        intro e3v I3
        have d2 : ∀ (e2v : Int32) (I2 : Ik (elemF x0 x1 x2 x3) q5 fv tt 2 e2v), Goes p.tables e below (fun o U' => ∃ v L, o = .returned v ∧ Q0 Z q1 q2 q3 q4 q5 p6 h0 n0 v U'.heap L ∧ FrameEnd s o U' L room_1.cells room_1.slots) (T15.setTop (mkF m 228 #[.val (.long q1), .second, .val (.long q2), .second, .val (.long q3), .second, .val (.long q4), .second, .val (.long q5), .second, .val (.int p6), .val (.long x0), .second, .val (.long x1), .second, .val (.long x2), .second, .val (.long x3), .second, .val (.long tv), .second, .val (.ref b11), .val (.int fv), .val (.int tt), .val (.int e2v), .unset] [])) := by
          intro e2v I2
          have d1 : ∀ (e1v : Int32) (I1 : Ik (elemF x0 x1 x2 x3) q5 fv tt 1 e1v), Goes p.tables e below (fun o U' => ∃ v L, o = .returned v ∧ Q0 Z q1 q2 q3 q4 q5 p6 h0 n0 v U'.heap L ∧ FrameEnd s o U' L room_1.cells room_1.slots) (T15.setTop (mkF m 253 #[.val (.long q1), .second, .val (.long q2), .second, .val (.long q3), .second, .val (.long q4), .second, .val (.long q5), .second, .val (.int p6), .val (.long x0), .second, .val (.long x1), .second, .val (.long x2), .second, .val (.long x3), .second, .val (.long tv), .second, .val (.ref b11), .val (.int fv), .val (.int tt), .val (.int e1v), .unset] [])) := by
            intro e1v I1
            have d0 : ∀ (e0v : Int32) (I0 : Ik (elemF x0 x1 x2 x3) q5 fv tt 0 e0v), Goes p.tables e below (fun o U' => ∃ v L, o = .returned v ∧ Q0 Z q1 q2 q3 q4 q5 p6 h0 n0 v U'.heap L ∧ FrameEnd s o U' L room_1.cells room_1.slots) (T15.setTop (mkF m 278 #[.val (.long q1), .second, .val (.long q2), .second, .val (.long q3), .second, .val (.long q4), .second, .val (.long q5), .second, .val (.int p6), .val (.long x0), .second, .val (.long x1), .second, .val (.long x2), .second, .val (.long x3), .second, .val (.long tv), .second, .val (.ref b11), .val (.int fv), .val (.int tt), .val (.int e0v), .unset] [])) := by
              intro e0v I0
              have hE := own_fe (elemF x0 x1 x2 x3) q5 fv tt e0v hs hf.1 ht.1 ht.2 I0
              refine Goes.step (A := T15.setTop (mkF m 286 #[.val (.long q1), .second, .val (.long q2), .second, .val (.long q3), .second, .val (.long q4), .second, .val (.long q5), .second, .val (.int p6), .val (.long x0), .second, .val (.long x1), .second, .val (.long x2), .second, .val (.long x3), .second, .val (.long tv), .second, .val (.ref b11), .val (.int fv), .val (.int tt), .val (.int e0v), .unset] [(.long q5), (.int tt), (.int fv), (.ref b11)])) (fun t kt => ?_) ?_
              · refine XS.aload X15.here hx rfl (hb hby at_278) rfl rfl ?_
                show Steps p.tables e below (T15.setTop (mkF m 280 #[.val (.long q1), .second, .val (.long q2), .second, .val (.long q3), .second, .val (.long q4), .second, .val (.long q5), .second, .val (.int p6), .val (.long x0), .second, .val (.long x1), .second, .val (.long x2), .second, .val (.long x3), .second, .val (.long tv), .second, .val (.ref b11), .val (.int fv), .val (.int tt), .val (.int e0v), .unset] [(.ref b11)])) _
                refine XS.iload X15.here hx rfl (hb hby at_280) rfl ?_
                show Steps p.tables e below (T15.setTop (mkF m 282 #[.val (.long q1), .second, .val (.long q2), .second, .val (.long q3), .second, .val (.long q4), .second, .val (.long q5), .second, .val (.int p6), .val (.long x0), .second, .val (.long x1), .second, .val (.long x2), .second, .val (.long x3), .second, .val (.long tv), .second, .val (.ref b11), .val (.int fv), .val (.int tt), .val (.int e0v), .unset] [(.int fv), (.ref b11)])) _
                refine XS.iload X15.here hx rfl (hb hby at_282) rfl ?_
                show Steps p.tables e below (T15.setTop (mkF m 284 #[.val (.long q1), .second, .val (.long q2), .second, .val (.long q3), .second, .val (.long q4), .second, .val (.long q5), .second, .val (.int p6), .val (.long x0), .second, .val (.long x1), .second, .val (.long x2), .second, .val (.long x3), .second, .val (.long tv), .second, .val (.ref b11), .val (.int fv), .val (.int tt), .val (.int e0v), .unset] [(.int tt), (.int fv), (.ref b11)])) _
                refine XS.lload X15.here hx rfl (hb hby at_284) rfl ?_
                exact kt
              obtain ⟨_, _, ⟨T16, L16, k16, n16⟩, -, X16, ⟨Lc16, hQ16, l16, y16, z16⟩, st16⟩ := Jvm.LawKit.callS X15 hx (y := (⟨"com/example/plnr/plnr/check/SortedLongs", "firstAtLeast", "([JIIJ)I"⟩ : MethodName)) hown (mvT hZ (hw _ (List.mem_of_getElem? (i := 8) rfl))) (mvT hZ (hw _ (List.mem_of_getElem? (i := 9) rfl))) (mvT hZ (hw _ (List.mem_of_getElem? (i := 10) rfl))) (mvT hZ (hw _ (List.mem_of_getElem? (i := 11) rfl))) (by decide) (backOf (W := 0) (rm3 l Z a0 hw [] b11 fv tt q5 (elemF x0 x1 x2 x3) h15 n0 Z15 A4 hs hf.1 ht.1 ht.2) hZ (hw _ (List.mem_of_getElem? (i := 11) rfl)) (hw _ (List.mem_of_getElem? (i := 10) rfl)) (by decide) (by decide)) (g := (mkF m 286 #[.val (.long q1), .second, .val (.long q2), .second, .val (.long q3), .second, .val (.long q4), .second, .val (.long q5), .second, .val (.int p6), .val (.long x0), .second, .val (.long x1), .second, .val (.long x2), .second, .val (.long x3), .second, .val (.long tv), .second, .val (.ref b11), .val (.int fv), .val (.int tt), .val (.int e0v), .unset] [(.long q5), (.int tt), (.int fv), (.ref b11)])) rfl (by rw [hml]; rfl) (argsL := [(.ref b11), (.int fv), (.int tt), (.long q5)]) (rest := []) (lenOf pd_1 rfl) rfl (by show 2 * 0 + _ ≤ _; exact Nat.le_of_eq rfl) (hb hby at_286) (fun _ _ => ⟨rfl, e15, (by decide : 1 + 0 ≤ _), (by decide : 4 + 0 ≤ _)⟩)
              dsimp only [Pt.U, Pt.locs, Pt.cells, Pt.slots] at X16 l16 y16 z16 st16 hQ16
              subst l16 y16 z16
              obtain ⟨r16, rfl, N16q, e16, hR⟩ := hQ16
              have N16 := Fr.app N15 N16q
              refine Goes.step (A := T16.setTop (mkF m 289 #[.val (.long q1), .second, .val (.long q2), .second, .val (.long q3), .second, .val (.long q4), .second, .val (.long q5), .second, .val (.int p6), .val (.long x0), .second, .val (.long x1), .second, .val (.long x2), .second, .val (.long x3), .second, .val (.long tv), .second, .val (.ref b11), .val (.int fv), .val (.int tt), .val (.int e0v), .unset] [(.int r16)])) (fun t kt => st16 _ kt) ?_
              refine Goes.step (A := T16.setTop (mkF m 295 #[.val (.long q1), .second, .val (.long q2), .second, .val (.long q3), .second, .val (.long q4), .second, .val (.long q5), .second, .val (.int p6), .val (.long x0), .second, .val (.long x1), .second, .val (.long x2), .second, .val (.long x3), .second, .val (.long tv), .second, .val (.ref b11), .val (.int fv), .val (.int tt), .val (.int e0v), .val (.int r16)] [(.int e0v), (.int r16)])) (fun t kt => ?_) ?_
              · refine XS.istore X16.here hx rfl (hb hby at_289) rfl (l' := #[.val (.long q1), .second, .val (.long q2), .second, .val (.long q3), .second, .val (.long q4), .second, .val (.long q5), .second, .val (.int p6), .val (.long x0), .second, .val (.long x1), .second, .val (.long x2), .second, .val (.long x3), .second, .val (.long tv), .second, .val (.ref b11), .val (.int fv), .val (.int tt), .val (.int e0v), .val (.int r16)]) rfl ?_
                show Steps p.tables e below (T16.setTop (mkF m 291 #[.val (.long q1), .second, .val (.long q2), .second, .val (.long q3), .second, .val (.long q4), .second, .val (.long q5), .second, .val (.int p6), .val (.long x0), .second, .val (.long x1), .second, .val (.long x2), .second, .val (.long x3), .second, .val (.long tv), .second, .val (.ref b11), .val (.int fv), .val (.int tt), .val (.int e0v), .val (.int r16)] [])) _
                refine XS.iload X16.here hx rfl (hb hby at_291) rfl ?_
                show Steps p.tables e below (T16.setTop (mkF m 293 #[.val (.long q1), .second, .val (.long q2), .second, .val (.long q3), .second, .val (.long q4), .second, .val (.long q5), .second, .val (.int p6), .val (.long x0), .second, .val (.long x1), .second, .val (.long x2), .second, .val (.long x3), .second, .val (.long tv), .second, .val (.ref b11), .val (.int fv), .val (.int tt), .val (.int e0v), .val (.int r16)] [(.int r16)])) _
                refine XS.iload X16.here hx rfl (hb hby at_293) rfl ?_
                exact kt
              refine Goes.step (A := T16.setTop (mkF m 298 #[.val (.long q1), .second, .val (.long q2), .second, .val (.long q3), .second, .val (.long q4), .second, .val (.long q5), .second, .val (.int p6), .val (.long x0), .second, .val (.long x1), .second, .val (.long x2), .second, .val (.long x3), .second, .val (.long tv), .second, .val (.ref b11), .val (.int fv), .val (.int tt), .val (.int e0v), .val (.int r16)] [])) (fun t kt => XS.icmpNo X16.here hx rfl (hb hby at_295) rfl (teq (own_uniq _ _ _ _ _ _ hR hE : r16 = e0v)).2 kt) ?_
              refine Goes.step (A := T16.setTop (mkF m 303 #[.val (.long q1), .second, .val (.long q2), .second, .val (.long q3), .second, .val (.long q4), .second, .val (.long q5), .second, .val (.int p6), .val (.long x0), .second, .val (.long x1), .second, .val (.long x2), .second, .val (.long x3), .second, .val (.long tv), .second, .val (.ref b11), .val (.int fv), .val (.int tt), .val (.int e0v), .val (.int r16)] [(.int (1 : Int32))])) (fun t kt => ?_) ?_
              · refine XS.iconst X16.here hx rfl (hb hby at_298) ?_
                show Steps p.tables e below (T16.setTop (mkF m 299 #[.val (.long q1), .second, .val (.long q2), .second, .val (.long q3), .second, .val (.long q4), .second, .val (.long q5), .second, .val (.int p6), .val (.long x0), .second, .val (.long x1), .second, .val (.long x2), .second, .val (.long x3), .second, .val (.long tv), .second, .val (.ref b11), .val (.int fv), .val (.int tt), .val (.int e0v), .val (.int r16)] [(.int (1 : Int32))])) _
                refine XS.goto X16.here hx rfl (pc0 := 299) (pc' := 303) rfl (hb hby at_299) (by decide) (by decide) ?_
                exact kt
              obtain ⟨fs, hr, hrun, hended, hW, hsame⟩ := X16.leave (v := some (.int (1 : Int32))) (fun h => by rw [Bd.returns] at h; cases h)
              refine Goes.done ?_ hrun hended ⟨_, _, rfl, ?_, ⟨_, rfl⟩, hW, hsame.mono (by decide) (by decide)⟩
              · exact retN X16 hx (t := .boolean) Bd.returns (by simp) (hb hby at_303) hr
              · show Q0 Z q1 q2 q3 q4 q5 p6 h0 n0 _ T16.heap _
                rw [e16]
                exact ⟨rfl, N16⟩
            refine Goes.step (A := T15.setTop (mkF m 256 #[.val (.long q1), .second, .val (.long q2), .second, .val (.long q3), .second, .val (.long q4), .second, .val (.long q5), .second, .val (.int p6), .val (.long x0), .second, .val (.long x1), .second, .val (.long x2), .second, .val (.long x3), .second, .val (.long tv), .second, .val (.ref b11), .val (.int fv), .val (.int tt), .val (.int e1v), .unset] [(.int fv), (.int (0 : Int32))])) (fun t kt => ?_) ?_
            · refine XS.iconst X15.here hx rfl (hb hby at_253) ?_
              show Steps p.tables e below (T15.setTop (mkF m 254 #[.val (.long q1), .second, .val (.long q2), .second, .val (.long q3), .second, .val (.long q4), .second, .val (.long q5), .second, .val (.int p6), .val (.long x0), .second, .val (.long x1), .second, .val (.long x2), .second, .val (.long x3), .second, .val (.long tv), .second, .val (.ref b11), .val (.int fv), .val (.int tt), .val (.int e1v), .unset] [(.int (0 : Int32))])) _
              refine XS.iload X15.here hx rfl (hb hby at_254) rfl ?_
              exact kt
            by_cases hc256_4 : (0 : Int32) < fv
            · refine Goes.step (A := T15.setTop (mkF m 278 #[.val (.long q1), .second, .val (.long q2), .second, .val (.long q3), .second, .val (.long q4), .second, .val (.long q5), .second, .val (.int p6), .val (.long x0), .second, .val (.long x1), .second, .val (.long x2), .second, .val (.long x3), .second, .val (.long tv), .second, .val (.ref b11), .val (.int fv), .val (.int tt), .val (.int e1v), .unset] [])) (fun t kt => XS.icmpYes X15.here hx rfl (pc0 := 256) (pc' := 278) rfl (hb hby at_256) rfl (tlt hc256_4).1 (by decide) (by decide) kt) ?_
              exact d0 _ (own_no1 _ _ _ _ _ 0 _ own_z I1 hc256_4)
            · refine Goes.step (A := T15.setTop (mkF m 259 #[.val (.long q1), .second, .val (.long q2), .second, .val (.long q3), .second, .val (.long q4), .second, .val (.long q5), .second, .val (.int p6), .val (.long x0), .second, .val (.long x1), .second, .val (.long x2), .second, .val (.long x3), .second, .val (.long tv), .second, .val (.ref b11), .val (.int fv), .val (.int tt), .val (.int e1v), .unset] [])) (fun t kt => XS.icmpNo X15.here hx rfl (hb hby at_256) rfl (flt hc256_4).1 kt) ?_
              refine Goes.step (A := T15.setTop (mkF m 262 #[.val (.long q1), .second, .val (.long q2), .second, .val (.long q3), .second, .val (.long q4), .second, .val (.long q5), .second, .val (.int p6), .val (.long x0), .second, .val (.long x1), .second, .val (.long x2), .second, .val (.long x3), .second, .val (.long tv), .second, .val (.ref b11), .val (.int fv), .val (.int tt), .val (.int e1v), .unset] [(.int tt), (.int (0 : Int32))])) (fun t kt => ?_) ?_
              · refine XS.iconst X15.here hx rfl (hb hby at_259) ?_
                show Steps p.tables e below (T15.setTop (mkF m 260 #[.val (.long q1), .second, .val (.long q2), .second, .val (.long q3), .second, .val (.long q4), .second, .val (.long q5), .second, .val (.int p6), .val (.long x0), .second, .val (.long x1), .second, .val (.long x2), .second, .val (.long x3), .second, .val (.long tv), .second, .val (.ref b11), .val (.int fv), .val (.int tt), .val (.int e1v), .unset] [(.int (0 : Int32))])) _
                refine XS.iload X15.here hx rfl (hb hby at_260) rfl ?_
                exact kt
              by_cases hc262_5 : (0 : Int32) < tt
              · refine Goes.step (A := T15.setTop (mkF m 265 #[.val (.long q1), .second, .val (.long q2), .second, .val (.long q3), .second, .val (.long q4), .second, .val (.long q5), .second, .val (.int p6), .val (.long x0), .second, .val (.long x1), .second, .val (.long x2), .second, .val (.long x3), .second, .val (.long tv), .second, .val (.ref b11), .val (.int fv), .val (.int tt), .val (.int e1v), .unset] [])) (fun t kt => XS.icmpNo X15.here hx rfl (hb hby at_262) rfl (tlt hc262_5).2.1 kt) ?_
                refine Goes.step (A := T15.setTop (mkF m 272 #[.val (.long q1), .second, .val (.long q2), .second, .val (.long q3), .second, .val (.long q4), .second, .val (.long q5), .second, .val (.int p6), .val (.long x0), .second, .val (.long x1), .second, .val (.long x2), .second, .val (.long x3), .second, .val (.long tv), .second, .val (.ref b11), .val (.int fv), .val (.int tt), .val (.int e1v), .unset] [(.int (lcmpW ((elemF x0 x1 x2 x3) (0 : Int32)) q5))])) (fun t kt => ?_) ?_
                · refine XS.aload X15.here hx rfl (hb hby at_265) rfl rfl ?_
                  show Steps p.tables e below (T15.setTop (mkF m 267 #[.val (.long q1), .second, .val (.long q2), .second, .val (.long q3), .second, .val (.long q4), .second, .val (.long q5), .second, .val (.int p6), .val (.long x0), .second, .val (.long x1), .second, .val (.long x2), .second, .val (.long x3), .second, .val (.long tv), .second, .val (.ref b11), .val (.int fv), .val (.int tt), .val (.int e1v), .unset] [(.ref b11)])) _
                  refine XS.iconst X15.here hx rfl (hb hby at_267) ?_
                  show Steps p.tables e below (T15.setTop (mkF m 268 #[.val (.long q1), .second, .val (.long q2), .second, .val (.long q3), .second, .val (.long q4), .second, .val (.long q5), .second, .val (.int p6), .val (.long x0), .second, .val (.long x1), .second, .val (.long x2), .second, .val (.long x3), .second, .val (.long tv), .second, .val (.ref b11), .val (.int fv), .val (.int tt), .val (.int e1v), .unset] [(.int (0 : Int32)), (.ref b11)])) _
                  refine X15.laload hx (j := (0 : Int32)) (v := (.long ((elemF x0 x1 x2 x3) (0 : Int32)))) (by rw [e15]; exact Ar.1) (State.isArrayOf_alike hZ.alike Ar.2.1) Ar.2.2 (Hat _ (by decide) (by decide)).1 (Hat _ (by decide) (by decide)).2 (g := (mkF m 268 #[.val (.long q1), .second, .val (.long q2), .second, .val (.long q3), .second, .val (.long q4), .second, .val (.long q5), .second, .val (.int p6), .val (.long x0), .second, .val (.long x1), .second, .val (.long x2), .second, .val (.long x3), .second, .val (.long tv), .second, .val (.ref b11), .val (.int fv), .val (.int tt), .val (.int e1v), .unset] [(.int (0 : Int32)), (.ref b11)])) rfl rfl (hb hby at_268) _ ?_
                  show Steps p.tables e below (T15.setTop (mkF m 269 #[.val (.long q1), .second, .val (.long q2), .second, .val (.long q3), .second, .val (.long q4), .second, .val (.long q5), .second, .val (.int p6), .val (.long x0), .second, .val (.long x1), .second, .val (.long x2), .second, .val (.long x3), .second, .val (.long tv), .second, .val (.ref b11), .val (.int fv), .val (.int tt), .val (.int e1v), .unset] [(.long ((elemF x0 x1 x2 x3) (0 : Int32)))])) _
                  refine XS.lload X15.here hx rfl (hb hby at_269) rfl ?_
                  show Steps p.tables e below (T15.setTop (mkF m 271 #[.val (.long q1), .second, .val (.long q2), .second, .val (.long q3), .second, .val (.long q4), .second, .val (.long q5), .second, .val (.int p6), .val (.long x0), .second, .val (.long x1), .second, .val (.long x2), .second, .val (.long x3), .second, .val (.long tv), .second, .val (.ref b11), .val (.int fv), .val (.int tt), .val (.int e1v), .unset] [(.long q5), (.long ((elemF x0 x1 x2 x3) (0 : Int32)))])) _
                  refine XS.lcmp X15.here hx rfl (hb hby at_271) rfl ?_
                  exact kt
                by_cases hc272_6 : ((elemF x0 x1 x2 x3) (0 : Int32)) < q5
                · refine Goes.step (A := T15.setTop (mkF m 278 #[.val (.long q1), .second, .val (.long q2), .second, .val (.long q3), .second, .val (.long q4), .second, .val (.long q5), .second, .val (.int p6), .val (.long x0), .second, .val (.long x1), .second, .val (.long x2), .second, .val (.long x3), .second, .val (.long tv), .second, .val (.ref b11), .val (.int fv), .val (.int tt), .val (.int e1v), .unset] [])) (fun t kt => XS.ifYes X15.here hx rfl (pc0 := 272) (pc' := 278) rfl (hb hby at_272) rfl ((if0 _ _).trans (tlt ((lw_lt _ _).mpr hc272_6)).1) (by decide) (by decide) kt) ?_
                  exact d0 _ (own_no3 _ _ _ _ _ 0 _ own_z I1 hc272_6)
                · refine Goes.step (A := T15.setTop (mkF m 275 #[.val (.long q1), .second, .val (.long q2), .second, .val (.long q3), .second, .val (.long q4), .second, .val (.long q5), .second, .val (.int p6), .val (.long x0), .second, .val (.long x1), .second, .val (.long x2), .second, .val (.long x3), .second, .val (.long tv), .second, .val (.ref b11), .val (.int fv), .val (.int tt), .val (.int e1v), .unset] [])) (fun t kt => XS.ifNo X15.here hx rfl (hb hby at_272) rfl ((if0 _ _).trans (flt (fun q => hc272_6 ((lw_lt _ _).mp q))).1) kt) ?_
                  refine Goes.step (A := T15.setTop (mkF m 278 #[.val (.long q1), .second, .val (.long q2), .second, .val (.long q3), .second, .val (.long q4), .second, .val (.long q5), .second, .val (.int p6), .val (.long x0), .second, .val (.long x1), .second, .val (.long x2), .second, .val (.long x3), .second, .val (.long tv), .second, .val (.ref b11), .val (.int fv), .val (.int tt), .val (.int (0 : Int32)), .unset] [])) (fun t kt => ?_) ?_
                  · refine XS.iconst X15.here hx rfl (hb hby at_275) ?_
                    show Steps p.tables e below (T15.setTop (mkF m 276 #[.val (.long q1), .second, .val (.long q2), .second, .val (.long q3), .second, .val (.long q4), .second, .val (.long q5), .second, .val (.int p6), .val (.long x0), .second, .val (.long x1), .second, .val (.long x2), .second, .val (.long x3), .second, .val (.long tv), .second, .val (.ref b11), .val (.int fv), .val (.int tt), .val (.int e1v), .unset] [(.int (0 : Int32))])) _
                    refine XS.istore X15.here hx rfl (hb hby at_276) rfl (l' := #[.val (.long q1), .second, .val (.long q2), .second, .val (.long q3), .second, .val (.long q4), .second, .val (.long q5), .second, .val (.int p6), .val (.long x0), .second, .val (.long x1), .second, .val (.long x2), .second, .val (.long x3), .second, .val (.long tv), .second, .val (.ref b11), .val (.int fv), .val (.int tt), .val (.int (0 : Int32)), .unset]) rfl ?_
                    exact kt
                  exact d0 _ (own_yes _ _ _ _ _ _ own_z hc256_4 hc262_5 hc272_6)
              · refine Goes.step (A := T15.setTop (mkF m 278 #[.val (.long q1), .second, .val (.long q2), .second, .val (.long q3), .second, .val (.long q4), .second, .val (.long q5), .second, .val (.int p6), .val (.long x0), .second, .val (.long x1), .second, .val (.long x2), .second, .val (.long x3), .second, .val (.long tv), .second, .val (.ref b11), .val (.int fv), .val (.int tt), .val (.int e1v), .unset] [])) (fun t kt => XS.icmpYes X15.here hx rfl (pc0 := 262) (pc' := 278) rfl (hb hby at_262) rfl (flt hc262_5).2.1 (by decide) (by decide) kt) ?_
                exact d0 _ (own_no2 _ _ _ _ _ 0 _ own_z I1 hc262_5)
          refine Goes.step (A := T15.setTop (mkF m 231 #[.val (.long q1), .second, .val (.long q2), .second, .val (.long q3), .second, .val (.long q4), .second, .val (.long q5), .second, .val (.int p6), .val (.long x0), .second, .val (.long x1), .second, .val (.long x2), .second, .val (.long x3), .second, .val (.long tv), .second, .val (.ref b11), .val (.int fv), .val (.int tt), .val (.int e2v), .unset] [(.int fv), (.int (1 : Int32))])) (fun t kt => ?_) ?_
          · refine XS.iconst X15.here hx rfl (hb hby at_228) ?_
            show Steps p.tables e below (T15.setTop (mkF m 229 #[.val (.long q1), .second, .val (.long q2), .second, .val (.long q3), .second, .val (.long q4), .second, .val (.long q5), .second, .val (.int p6), .val (.long x0), .second, .val (.long x1), .second, .val (.long x2), .second, .val (.long x3), .second, .val (.long tv), .second, .val (.ref b11), .val (.int fv), .val (.int tt), .val (.int e2v), .unset] [(.int (1 : Int32))])) _
            refine XS.iload X15.here hx rfl (hb hby at_229) rfl ?_
            exact kt
          by_cases hc231_7 : (1 : Int32) < fv
          · refine Goes.step (A := T15.setTop (mkF m 253 #[.val (.long q1), .second, .val (.long q2), .second, .val (.long q3), .second, .val (.long q4), .second, .val (.long q5), .second, .val (.int p6), .val (.long x0), .second, .val (.long x1), .second, .val (.long x2), .second, .val (.long x3), .second, .val (.long tv), .second, .val (.ref b11), .val (.int fv), .val (.int tt), .val (.int e2v), .unset] [])) (fun t kt => XS.icmpYes X15.here hx rfl (pc0 := 231) (pc' := 253) rfl (hb hby at_231) rfl (tlt hc231_7).1 (by decide) (by decide) kt) ?_
            exact d1 _ (own_no1 _ _ _ _ _ 1 _ own_o I2 hc231_7)
          · refine Goes.step (A := T15.setTop (mkF m 234 #[.val (.long q1), .second, .val (.long q2), .second, .val (.long q3), .second, .val (.long q4), .second, .val (.long q5), .second, .val (.int p6), .val (.long x0), .second, .val (.long x1), .second, .val (.long x2), .second, .val (.long x3), .second, .val (.long tv), .second, .val (.ref b11), .val (.int fv), .val (.int tt), .val (.int e2v), .unset] [])) (fun t kt => XS.icmpNo X15.here hx rfl (hb hby at_231) rfl (flt hc231_7).1 kt) ?_
            refine Goes.step (A := T15.setTop (mkF m 237 #[.val (.long q1), .second, .val (.long q2), .second, .val (.long q3), .second, .val (.long q4), .second, .val (.long q5), .second, .val (.int p6), .val (.long x0), .second, .val (.long x1), .second, .val (.long x2), .second, .val (.long x3), .second, .val (.long tv), .second, .val (.ref b11), .val (.int fv), .val (.int tt), .val (.int e2v), .unset] [(.int tt), (.int (1 : Int32))])) (fun t kt => ?_) ?_
            · refine XS.iconst X15.here hx rfl (hb hby at_234) ?_
              show Steps p.tables e below (T15.setTop (mkF m 235 #[.val (.long q1), .second, .val (.long q2), .second, .val (.long q3), .second, .val (.long q4), .second, .val (.long q5), .second, .val (.int p6), .val (.long x0), .second, .val (.long x1), .second, .val (.long x2), .second, .val (.long x3), .second, .val (.long tv), .second, .val (.ref b11), .val (.int fv), .val (.int tt), .val (.int e2v), .unset] [(.int (1 : Int32))])) _
              refine XS.iload X15.here hx rfl (hb hby at_235) rfl ?_
              exact kt
            by_cases hc237_8 : (1 : Int32) < tt
            · refine Goes.step (A := T15.setTop (mkF m 240 #[.val (.long q1), .second, .val (.long q2), .second, .val (.long q3), .second, .val (.long q4), .second, .val (.long q5), .second, .val (.int p6), .val (.long x0), .second, .val (.long x1), .second, .val (.long x2), .second, .val (.long x3), .second, .val (.long tv), .second, .val (.ref b11), .val (.int fv), .val (.int tt), .val (.int e2v), .unset] [])) (fun t kt => XS.icmpNo X15.here hx rfl (hb hby at_237) rfl (tlt hc237_8).2.1 kt) ?_
              refine Goes.step (A := T15.setTop (mkF m 247 #[.val (.long q1), .second, .val (.long q2), .second, .val (.long q3), .second, .val (.long q4), .second, .val (.long q5), .second, .val (.int p6), .val (.long x0), .second, .val (.long x1), .second, .val (.long x2), .second, .val (.long x3), .second, .val (.long tv), .second, .val (.ref b11), .val (.int fv), .val (.int tt), .val (.int e2v), .unset] [(.int (lcmpW ((elemF x0 x1 x2 x3) (1 : Int32)) q5))])) (fun t kt => ?_) ?_
              · refine XS.aload X15.here hx rfl (hb hby at_240) rfl rfl ?_
                show Steps p.tables e below (T15.setTop (mkF m 242 #[.val (.long q1), .second, .val (.long q2), .second, .val (.long q3), .second, .val (.long q4), .second, .val (.long q5), .second, .val (.int p6), .val (.long x0), .second, .val (.long x1), .second, .val (.long x2), .second, .val (.long x3), .second, .val (.long tv), .second, .val (.ref b11), .val (.int fv), .val (.int tt), .val (.int e2v), .unset] [(.ref b11)])) _
                refine XS.iconst X15.here hx rfl (hb hby at_242) ?_
                show Steps p.tables e below (T15.setTop (mkF m 243 #[.val (.long q1), .second, .val (.long q2), .second, .val (.long q3), .second, .val (.long q4), .second, .val (.long q5), .second, .val (.int p6), .val (.long x0), .second, .val (.long x1), .second, .val (.long x2), .second, .val (.long x3), .second, .val (.long tv), .second, .val (.ref b11), .val (.int fv), .val (.int tt), .val (.int e2v), .unset] [(.int (1 : Int32)), (.ref b11)])) _
                refine X15.laload hx (j := (1 : Int32)) (v := (.long ((elemF x0 x1 x2 x3) (1 : Int32)))) (by rw [e15]; exact Ar.1) (State.isArrayOf_alike hZ.alike Ar.2.1) Ar.2.2 (Hat _ (by decide) (by decide)).1 (Hat _ (by decide) (by decide)).2 (g := (mkF m 243 #[.val (.long q1), .second, .val (.long q2), .second, .val (.long q3), .second, .val (.long q4), .second, .val (.long q5), .second, .val (.int p6), .val (.long x0), .second, .val (.long x1), .second, .val (.long x2), .second, .val (.long x3), .second, .val (.long tv), .second, .val (.ref b11), .val (.int fv), .val (.int tt), .val (.int e2v), .unset] [(.int (1 : Int32)), (.ref b11)])) rfl rfl (hb hby at_243) _ ?_
                show Steps p.tables e below (T15.setTop (mkF m 244 #[.val (.long q1), .second, .val (.long q2), .second, .val (.long q3), .second, .val (.long q4), .second, .val (.long q5), .second, .val (.int p6), .val (.long x0), .second, .val (.long x1), .second, .val (.long x2), .second, .val (.long x3), .second, .val (.long tv), .second, .val (.ref b11), .val (.int fv), .val (.int tt), .val (.int e2v), .unset] [(.long ((elemF x0 x1 x2 x3) (1 : Int32)))])) _
                refine XS.lload X15.here hx rfl (hb hby at_244) rfl ?_
                show Steps p.tables e below (T15.setTop (mkF m 246 #[.val (.long q1), .second, .val (.long q2), .second, .val (.long q3), .second, .val (.long q4), .second, .val (.long q5), .second, .val (.int p6), .val (.long x0), .second, .val (.long x1), .second, .val (.long x2), .second, .val (.long x3), .second, .val (.long tv), .second, .val (.ref b11), .val (.int fv), .val (.int tt), .val (.int e2v), .unset] [(.long q5), (.long ((elemF x0 x1 x2 x3) (1 : Int32)))])) _
                refine XS.lcmp X15.here hx rfl (hb hby at_246) rfl ?_
                exact kt
              by_cases hc247_9 : ((elemF x0 x1 x2 x3) (1 : Int32)) < q5
              · refine Goes.step (A := T15.setTop (mkF m 253 #[.val (.long q1), .second, .val (.long q2), .second, .val (.long q3), .second, .val (.long q4), .second, .val (.long q5), .second, .val (.int p6), .val (.long x0), .second, .val (.long x1), .second, .val (.long x2), .second, .val (.long x3), .second, .val (.long tv), .second, .val (.ref b11), .val (.int fv), .val (.int tt), .val (.int e2v), .unset] [])) (fun t kt => XS.ifYes X15.here hx rfl (pc0 := 247) (pc' := 253) rfl (hb hby at_247) rfl ((if0 _ _).trans (tlt ((lw_lt _ _).mpr hc247_9)).1) (by decide) (by decide) kt) ?_
                exact d1 _ (own_no3 _ _ _ _ _ 1 _ own_o I2 hc247_9)
              · refine Goes.step (A := T15.setTop (mkF m 250 #[.val (.long q1), .second, .val (.long q2), .second, .val (.long q3), .second, .val (.long q4), .second, .val (.long q5), .second, .val (.int p6), .val (.long x0), .second, .val (.long x1), .second, .val (.long x2), .second, .val (.long x3), .second, .val (.long tv), .second, .val (.ref b11), .val (.int fv), .val (.int tt), .val (.int e2v), .unset] [])) (fun t kt => XS.ifNo X15.here hx rfl (hb hby at_247) rfl ((if0 _ _).trans (flt (fun q => hc247_9 ((lw_lt _ _).mp q))).1) kt) ?_
                refine Goes.step (A := T15.setTop (mkF m 253 #[.val (.long q1), .second, .val (.long q2), .second, .val (.long q3), .second, .val (.long q4), .second, .val (.long q5), .second, .val (.int p6), .val (.long x0), .second, .val (.long x1), .second, .val (.long x2), .second, .val (.long x3), .second, .val (.long tv), .second, .val (.ref b11), .val (.int fv), .val (.int tt), .val (.int (1 : Int32)), .unset] [])) (fun t kt => ?_) ?_
                · refine XS.iconst X15.here hx rfl (hb hby at_250) ?_
                  show Steps p.tables e below (T15.setTop (mkF m 251 #[.val (.long q1), .second, .val (.long q2), .second, .val (.long q3), .second, .val (.long q4), .second, .val (.long q5), .second, .val (.int p6), .val (.long x0), .second, .val (.long x1), .second, .val (.long x2), .second, .val (.long x3), .second, .val (.long tv), .second, .val (.ref b11), .val (.int fv), .val (.int tt), .val (.int e2v), .unset] [(.int (1 : Int32))])) _
                  refine XS.istore X15.here hx rfl (hb hby at_251) rfl (l' := #[.val (.long q1), .second, .val (.long q2), .second, .val (.long q3), .second, .val (.long q4), .second, .val (.long q5), .second, .val (.int p6), .val (.long x0), .second, .val (.long x1), .second, .val (.long x2), .second, .val (.long x3), .second, .val (.long tv), .second, .val (.ref b11), .val (.int fv), .val (.int tt), .val (.int (1 : Int32)), .unset]) rfl ?_
                  exact kt
                exact d1 _ (own_yes _ _ _ _ _ _ own_o hc231_7 hc237_8 hc247_9)
            · refine Goes.step (A := T15.setTop (mkF m 253 #[.val (.long q1), .second, .val (.long q2), .second, .val (.long q3), .second, .val (.long q4), .second, .val (.long q5), .second, .val (.int p6), .val (.long x0), .second, .val (.long x1), .second, .val (.long x2), .second, .val (.long x3), .second, .val (.long tv), .second, .val (.ref b11), .val (.int fv), .val (.int tt), .val (.int e2v), .unset] [])) (fun t kt => XS.icmpYes X15.here hx rfl (pc0 := 237) (pc' := 253) rfl (hb hby at_237) rfl (flt hc237_8).2.1 (by decide) (by decide) kt) ?_
              exact d1 _ (own_no2 _ _ _ _ _ 1 _ own_o I2 hc237_8)
        refine Goes.step (A := T15.setTop (mkF m 206 #[.val (.long q1), .second, .val (.long q2), .second, .val (.long q3), .second, .val (.long q4), .second, .val (.long q5), .second, .val (.int p6), .val (.long x0), .second, .val (.long x1), .second, .val (.long x2), .second, .val (.long x3), .second, .val (.long tv), .second, .val (.ref b11), .val (.int fv), .val (.int tt), .val (.int e3v), .unset] [(.int fv), (.int (2 : Int32))])) (fun t kt => ?_) ?_
        · refine XS.iconst X15.here hx rfl (hb hby at_203) ?_
          show Steps p.tables e below (T15.setTop (mkF m 204 #[.val (.long q1), .second, .val (.long q2), .second, .val (.long q3), .second, .val (.long q4), .second, .val (.long q5), .second, .val (.int p6), .val (.long x0), .second, .val (.long x1), .second, .val (.long x2), .second, .val (.long x3), .second, .val (.long tv), .second, .val (.ref b11), .val (.int fv), .val (.int tt), .val (.int e3v), .unset] [(.int (2 : Int32))])) _
          refine XS.iload X15.here hx rfl (hb hby at_204) rfl ?_
          exact kt
        by_cases hc206_10 : (2 : Int32) < fv
        · refine Goes.step (A := T15.setTop (mkF m 228 #[.val (.long q1), .second, .val (.long q2), .second, .val (.long q3), .second, .val (.long q4), .second, .val (.long q5), .second, .val (.int p6), .val (.long x0), .second, .val (.long x1), .second, .val (.long x2), .second, .val (.long x3), .second, .val (.long tv), .second, .val (.ref b11), .val (.int fv), .val (.int tt), .val (.int e3v), .unset] [])) (fun t kt => XS.icmpYes X15.here hx rfl (pc0 := 206) (pc' := 228) rfl (hb hby at_206) rfl (tlt hc206_10).1 (by decide) (by decide) kt) ?_
          exact d2 _ (own_no1 _ _ _ _ _ 2 _ own_w I3 hc206_10)
        · refine Goes.step (A := T15.setTop (mkF m 209 #[.val (.long q1), .second, .val (.long q2), .second, .val (.long q3), .second, .val (.long q4), .second, .val (.long q5), .second, .val (.int p6), .val (.long x0), .second, .val (.long x1), .second, .val (.long x2), .second, .val (.long x3), .second, .val (.long tv), .second, .val (.ref b11), .val (.int fv), .val (.int tt), .val (.int e3v), .unset] [])) (fun t kt => XS.icmpNo X15.here hx rfl (hb hby at_206) rfl (flt hc206_10).1 kt) ?_
          refine Goes.step (A := T15.setTop (mkF m 212 #[.val (.long q1), .second, .val (.long q2), .second, .val (.long q3), .second, .val (.long q4), .second, .val (.long q5), .second, .val (.int p6), .val (.long x0), .second, .val (.long x1), .second, .val (.long x2), .second, .val (.long x3), .second, .val (.long tv), .second, .val (.ref b11), .val (.int fv), .val (.int tt), .val (.int e3v), .unset] [(.int tt), (.int (2 : Int32))])) (fun t kt => ?_) ?_
          · refine XS.iconst X15.here hx rfl (hb hby at_209) ?_
            show Steps p.tables e below (T15.setTop (mkF m 210 #[.val (.long q1), .second, .val (.long q2), .second, .val (.long q3), .second, .val (.long q4), .second, .val (.long q5), .second, .val (.int p6), .val (.long x0), .second, .val (.long x1), .second, .val (.long x2), .second, .val (.long x3), .second, .val (.long tv), .second, .val (.ref b11), .val (.int fv), .val (.int tt), .val (.int e3v), .unset] [(.int (2 : Int32))])) _
            refine XS.iload X15.here hx rfl (hb hby at_210) rfl ?_
            exact kt
          by_cases hc212_11 : (2 : Int32) < tt
          · refine Goes.step (A := T15.setTop (mkF m 215 #[.val (.long q1), .second, .val (.long q2), .second, .val (.long q3), .second, .val (.long q4), .second, .val (.long q5), .second, .val (.int p6), .val (.long x0), .second, .val (.long x1), .second, .val (.long x2), .second, .val (.long x3), .second, .val (.long tv), .second, .val (.ref b11), .val (.int fv), .val (.int tt), .val (.int e3v), .unset] [])) (fun t kt => XS.icmpNo X15.here hx rfl (hb hby at_212) rfl (tlt hc212_11).2.1 kt) ?_
            refine Goes.step (A := T15.setTop (mkF m 222 #[.val (.long q1), .second, .val (.long q2), .second, .val (.long q3), .second, .val (.long q4), .second, .val (.long q5), .second, .val (.int p6), .val (.long x0), .second, .val (.long x1), .second, .val (.long x2), .second, .val (.long x3), .second, .val (.long tv), .second, .val (.ref b11), .val (.int fv), .val (.int tt), .val (.int e3v), .unset] [(.int (lcmpW ((elemF x0 x1 x2 x3) (2 : Int32)) q5))])) (fun t kt => ?_) ?_
            · refine XS.aload X15.here hx rfl (hb hby at_215) rfl rfl ?_
              show Steps p.tables e below (T15.setTop (mkF m 217 #[.val (.long q1), .second, .val (.long q2), .second, .val (.long q3), .second, .val (.long q4), .second, .val (.long q5), .second, .val (.int p6), .val (.long x0), .second, .val (.long x1), .second, .val (.long x2), .second, .val (.long x3), .second, .val (.long tv), .second, .val (.ref b11), .val (.int fv), .val (.int tt), .val (.int e3v), .unset] [(.ref b11)])) _
              refine XS.iconst X15.here hx rfl (hb hby at_217) ?_
              show Steps p.tables e below (T15.setTop (mkF m 218 #[.val (.long q1), .second, .val (.long q2), .second, .val (.long q3), .second, .val (.long q4), .second, .val (.long q5), .second, .val (.int p6), .val (.long x0), .second, .val (.long x1), .second, .val (.long x2), .second, .val (.long x3), .second, .val (.long tv), .second, .val (.ref b11), .val (.int fv), .val (.int tt), .val (.int e3v), .unset] [(.int (2 : Int32)), (.ref b11)])) _
              refine X15.laload hx (j := (2 : Int32)) (v := (.long ((elemF x0 x1 x2 x3) (2 : Int32)))) (by rw [e15]; exact Ar.1) (State.isArrayOf_alike hZ.alike Ar.2.1) Ar.2.2 (Hat _ (by decide) (by decide)).1 (Hat _ (by decide) (by decide)).2 (g := (mkF m 218 #[.val (.long q1), .second, .val (.long q2), .second, .val (.long q3), .second, .val (.long q4), .second, .val (.long q5), .second, .val (.int p6), .val (.long x0), .second, .val (.long x1), .second, .val (.long x2), .second, .val (.long x3), .second, .val (.long tv), .second, .val (.ref b11), .val (.int fv), .val (.int tt), .val (.int e3v), .unset] [(.int (2 : Int32)), (.ref b11)])) rfl rfl (hb hby at_218) _ ?_
              show Steps p.tables e below (T15.setTop (mkF m 219 #[.val (.long q1), .second, .val (.long q2), .second, .val (.long q3), .second, .val (.long q4), .second, .val (.long q5), .second, .val (.int p6), .val (.long x0), .second, .val (.long x1), .second, .val (.long x2), .second, .val (.long x3), .second, .val (.long tv), .second, .val (.ref b11), .val (.int fv), .val (.int tt), .val (.int e3v), .unset] [(.long ((elemF x0 x1 x2 x3) (2 : Int32)))])) _
              refine XS.lload X15.here hx rfl (hb hby at_219) rfl ?_
              show Steps p.tables e below (T15.setTop (mkF m 221 #[.val (.long q1), .second, .val (.long q2), .second, .val (.long q3), .second, .val (.long q4), .second, .val (.long q5), .second, .val (.int p6), .val (.long x0), .second, .val (.long x1), .second, .val (.long x2), .second, .val (.long x3), .second, .val (.long tv), .second, .val (.ref b11), .val (.int fv), .val (.int tt), .val (.int e3v), .unset] [(.long q5), (.long ((elemF x0 x1 x2 x3) (2 : Int32)))])) _
              refine XS.lcmp X15.here hx rfl (hb hby at_221) rfl ?_
              exact kt
            by_cases hc222_12 : ((elemF x0 x1 x2 x3) (2 : Int32)) < q5
            · refine Goes.step (A := T15.setTop (mkF m 228 #[.val (.long q1), .second, .val (.long q2), .second, .val (.long q3), .second, .val (.long q4), .second, .val (.long q5), .second, .val (.int p6), .val (.long x0), .second, .val (.long x1), .second, .val (.long x2), .second, .val (.long x3), .second, .val (.long tv), .second, .val (.ref b11), .val (.int fv), .val (.int tt), .val (.int e3v), .unset] [])) (fun t kt => XS.ifYes X15.here hx rfl (pc0 := 222) (pc' := 228) rfl (hb hby at_222) rfl ((if0 _ _).trans (tlt ((lw_lt _ _).mpr hc222_12)).1) (by decide) (by decide) kt) ?_
              exact d2 _ (own_no3 _ _ _ _ _ 2 _ own_w I3 hc222_12)
            · refine Goes.step (A := T15.setTop (mkF m 225 #[.val (.long q1), .second, .val (.long q2), .second, .val (.long q3), .second, .val (.long q4), .second, .val (.long q5), .second, .val (.int p6), .val (.long x0), .second, .val (.long x1), .second, .val (.long x2), .second, .val (.long x3), .second, .val (.long tv), .second, .val (.ref b11), .val (.int fv), .val (.int tt), .val (.int e3v), .unset] [])) (fun t kt => XS.ifNo X15.here hx rfl (hb hby at_222) rfl ((if0 _ _).trans (flt (fun q => hc222_12 ((lw_lt _ _).mp q))).1) kt) ?_
              refine Goes.step (A := T15.setTop (mkF m 228 #[.val (.long q1), .second, .val (.long q2), .second, .val (.long q3), .second, .val (.long q4), .second, .val (.long q5), .second, .val (.int p6), .val (.long x0), .second, .val (.long x1), .second, .val (.long x2), .second, .val (.long x3), .second, .val (.long tv), .second, .val (.ref b11), .val (.int fv), .val (.int tt), .val (.int (2 : Int32)), .unset] [])) (fun t kt => ?_) ?_
              · refine XS.iconst X15.here hx rfl (hb hby at_225) ?_
                show Steps p.tables e below (T15.setTop (mkF m 226 #[.val (.long q1), .second, .val (.long q2), .second, .val (.long q3), .second, .val (.long q4), .second, .val (.long q5), .second, .val (.int p6), .val (.long x0), .second, .val (.long x1), .second, .val (.long x2), .second, .val (.long x3), .second, .val (.long tv), .second, .val (.ref b11), .val (.int fv), .val (.int tt), .val (.int e3v), .unset] [(.int (2 : Int32))])) _
                refine XS.istore X15.here hx rfl (hb hby at_226) rfl (l' := #[.val (.long q1), .second, .val (.long q2), .second, .val (.long q3), .second, .val (.long q4), .second, .val (.long q5), .second, .val (.int p6), .val (.long x0), .second, .val (.long x1), .second, .val (.long x2), .second, .val (.long x3), .second, .val (.long tv), .second, .val (.ref b11), .val (.int fv), .val (.int tt), .val (.int (2 : Int32)), .unset]) rfl ?_
                exact kt
              exact d2 _ (own_yes _ _ _ _ _ _ own_w hc206_10 hc212_11 hc222_12)
          · refine Goes.step (A := T15.setTop (mkF m 228 #[.val (.long q1), .second, .val (.long q2), .second, .val (.long q3), .second, .val (.long q4), .second, .val (.long q5), .second, .val (.int p6), .val (.long x0), .second, .val (.long x1), .second, .val (.long x2), .second, .val (.long x3), .second, .val (.long tv), .second, .val (.ref b11), .val (.int fv), .val (.int tt), .val (.int e3v), .unset] [])) (fun t kt => XS.icmpYes X15.here hx rfl (pc0 := 212) (pc' := 228) rfl (hb hby at_212) rfl (flt hc212_11).2.1 (by decide) (by decide) kt) ?_
            exact d2 _ (own_no2 _ _ _ _ _ 2 _ own_w I3 hc212_11)
      refine Goes.step (A := T15.setTop (mkF m 181 #[.val (.long q1), .second, .val (.long q2), .second, .val (.long q3), .second, .val (.long q4), .second, .val (.long q5), .second, .val (.int p6), .val (.long x0), .second, .val (.long x1), .second, .val (.long x2), .second, .val (.long x3), .second, .val (.long tv), .second, .val (.ref b11), .val (.int fv), .val (.int tt), .val (.int ev), .unset] [(.int fv), (.int (3 : Int32))])) (fun t kt => ?_) ?_
      · refine XS.iconst X15.here hx rfl (hb hby at_178) ?_
        show Steps p.tables e below (T15.setTop (mkF m 179 #[.val (.long q1), .second, .val (.long q2), .second, .val (.long q3), .second, .val (.long q4), .second, .val (.long q5), .second, .val (.int p6), .val (.long x0), .second, .val (.long x1), .second, .val (.long x2), .second, .val (.long x3), .second, .val (.long tv), .second, .val (.ref b11), .val (.int fv), .val (.int tt), .val (.int ev), .unset] [(.int (3 : Int32))])) _
        refine XS.iload X15.here hx rfl (hb hby at_179) rfl ?_
        exact kt
      by_cases hc181_13 : (3 : Int32) < fv
      · refine Goes.step (A := T15.setTop (mkF m 203 #[.val (.long q1), .second, .val (.long q2), .second, .val (.long q3), .second, .val (.long q4), .second, .val (.long q5), .second, .val (.int p6), .val (.long x0), .second, .val (.long x1), .second, .val (.long x2), .second, .val (.long x3), .second, .val (.long tv), .second, .val (.ref b11), .val (.int fv), .val (.int tt), .val (.int ev), .unset] [])) (fun t kt => XS.icmpYes X15.here hx rfl (pc0 := 181) (pc' := 203) rfl (hb hby at_181) rfl (tlt hc181_13).1 (by decide) (by decide) kt) ?_
        exact d3 _ (own_no1 _ _ _ _ _ 3 _ own_h I hc181_13)
      · refine Goes.step (A := T15.setTop (mkF m 184 #[.val (.long q1), .second, .val (.long q2), .second, .val (.long q3), .second, .val (.long q4), .second, .val (.long q5), .second, .val (.int p6), .val (.long x0), .second, .val (.long x1), .second, .val (.long x2), .second, .val (.long x3), .second, .val (.long tv), .second, .val (.ref b11), .val (.int fv), .val (.int tt), .val (.int ev), .unset] [])) (fun t kt => XS.icmpNo X15.here hx rfl (hb hby at_181) rfl (flt hc181_13).1 kt) ?_
        refine Goes.step (A := T15.setTop (mkF m 187 #[.val (.long q1), .second, .val (.long q2), .second, .val (.long q3), .second, .val (.long q4), .second, .val (.long q5), .second, .val (.int p6), .val (.long x0), .second, .val (.long x1), .second, .val (.long x2), .second, .val (.long x3), .second, .val (.long tv), .second, .val (.ref b11), .val (.int fv), .val (.int tt), .val (.int ev), .unset] [(.int tt), (.int (3 : Int32))])) (fun t kt => ?_) ?_
        · refine XS.iconst X15.here hx rfl (hb hby at_184) ?_
          show Steps p.tables e below (T15.setTop (mkF m 185 #[.val (.long q1), .second, .val (.long q2), .second, .val (.long q3), .second, .val (.long q4), .second, .val (.long q5), .second, .val (.int p6), .val (.long x0), .second, .val (.long x1), .second, .val (.long x2), .second, .val (.long x3), .second, .val (.long tv), .second, .val (.ref b11), .val (.int fv), .val (.int tt), .val (.int ev), .unset] [(.int (3 : Int32))])) _
          refine XS.iload X15.here hx rfl (hb hby at_185) rfl ?_
          exact kt
        by_cases hc187_14 : (3 : Int32) < tt
        · refine Goes.step (A := T15.setTop (mkF m 190 #[.val (.long q1), .second, .val (.long q2), .second, .val (.long q3), .second, .val (.long q4), .second, .val (.long q5), .second, .val (.int p6), .val (.long x0), .second, .val (.long x1), .second, .val (.long x2), .second, .val (.long x3), .second, .val (.long tv), .second, .val (.ref b11), .val (.int fv), .val (.int tt), .val (.int ev), .unset] [])) (fun t kt => XS.icmpNo X15.here hx rfl (hb hby at_187) rfl (tlt hc187_14).2.1 kt) ?_
          refine Goes.step (A := T15.setTop (mkF m 197 #[.val (.long q1), .second, .val (.long q2), .second, .val (.long q3), .second, .val (.long q4), .second, .val (.long q5), .second, .val (.int p6), .val (.long x0), .second, .val (.long x1), .second, .val (.long x2), .second, .val (.long x3), .second, .val (.long tv), .second, .val (.ref b11), .val (.int fv), .val (.int tt), .val (.int ev), .unset] [(.int (lcmpW ((elemF x0 x1 x2 x3) (3 : Int32)) q5))])) (fun t kt => ?_) ?_
          · refine XS.aload X15.here hx rfl (hb hby at_190) rfl rfl ?_
            show Steps p.tables e below (T15.setTop (mkF m 192 #[.val (.long q1), .second, .val (.long q2), .second, .val (.long q3), .second, .val (.long q4), .second, .val (.long q5), .second, .val (.int p6), .val (.long x0), .second, .val (.long x1), .second, .val (.long x2), .second, .val (.long x3), .second, .val (.long tv), .second, .val (.ref b11), .val (.int fv), .val (.int tt), .val (.int ev), .unset] [(.ref b11)])) _
            refine XS.iconst X15.here hx rfl (hb hby at_192) ?_
            show Steps p.tables e below (T15.setTop (mkF m 193 #[.val (.long q1), .second, .val (.long q2), .second, .val (.long q3), .second, .val (.long q4), .second, .val (.long q5), .second, .val (.int p6), .val (.long x0), .second, .val (.long x1), .second, .val (.long x2), .second, .val (.long x3), .second, .val (.long tv), .second, .val (.ref b11), .val (.int fv), .val (.int tt), .val (.int ev), .unset] [(.int (3 : Int32)), (.ref b11)])) _
            refine X15.laload hx (j := (3 : Int32)) (v := (.long ((elemF x0 x1 x2 x3) (3 : Int32)))) (by rw [e15]; exact Ar.1) (State.isArrayOf_alike hZ.alike Ar.2.1) Ar.2.2 (Hat _ (by decide) (by decide)).1 (Hat _ (by decide) (by decide)).2 (g := (mkF m 193 #[.val (.long q1), .second, .val (.long q2), .second, .val (.long q3), .second, .val (.long q4), .second, .val (.long q5), .second, .val (.int p6), .val (.long x0), .second, .val (.long x1), .second, .val (.long x2), .second, .val (.long x3), .second, .val (.long tv), .second, .val (.ref b11), .val (.int fv), .val (.int tt), .val (.int ev), .unset] [(.int (3 : Int32)), (.ref b11)])) rfl rfl (hb hby at_193) _ ?_
            show Steps p.tables e below (T15.setTop (mkF m 194 #[.val (.long q1), .second, .val (.long q2), .second, .val (.long q3), .second, .val (.long q4), .second, .val (.long q5), .second, .val (.int p6), .val (.long x0), .second, .val (.long x1), .second, .val (.long x2), .second, .val (.long x3), .second, .val (.long tv), .second, .val (.ref b11), .val (.int fv), .val (.int tt), .val (.int ev), .unset] [(.long ((elemF x0 x1 x2 x3) (3 : Int32)))])) _
            refine XS.lload X15.here hx rfl (hb hby at_194) rfl ?_
            show Steps p.tables e below (T15.setTop (mkF m 196 #[.val (.long q1), .second, .val (.long q2), .second, .val (.long q3), .second, .val (.long q4), .second, .val (.long q5), .second, .val (.int p6), .val (.long x0), .second, .val (.long x1), .second, .val (.long x2), .second, .val (.long x3), .second, .val (.long tv), .second, .val (.ref b11), .val (.int fv), .val (.int tt), .val (.int ev), .unset] [(.long q5), (.long ((elemF x0 x1 x2 x3) (3 : Int32)))])) _
            refine XS.lcmp X15.here hx rfl (hb hby at_196) rfl ?_
            exact kt
          by_cases hc197_15 : ((elemF x0 x1 x2 x3) (3 : Int32)) < q5
          · refine Goes.step (A := T15.setTop (mkF m 203 #[.val (.long q1), .second, .val (.long q2), .second, .val (.long q3), .second, .val (.long q4), .second, .val (.long q5), .second, .val (.int p6), .val (.long x0), .second, .val (.long x1), .second, .val (.long x2), .second, .val (.long x3), .second, .val (.long tv), .second, .val (.ref b11), .val (.int fv), .val (.int tt), .val (.int ev), .unset] [])) (fun t kt => XS.ifYes X15.here hx rfl (pc0 := 197) (pc' := 203) rfl (hb hby at_197) rfl ((if0 _ _).trans (tlt ((lw_lt _ _).mpr hc197_15)).1) (by decide) (by decide) kt) ?_
            exact d3 _ (own_no3 _ _ _ _ _ 3 _ own_h I hc197_15)
          · refine Goes.step (A := T15.setTop (mkF m 200 #[.val (.long q1), .second, .val (.long q2), .second, .val (.long q3), .second, .val (.long q4), .second, .val (.long q5), .second, .val (.int p6), .val (.long x0), .second, .val (.long x1), .second, .val (.long x2), .second, .val (.long x3), .second, .val (.long tv), .second, .val (.ref b11), .val (.int fv), .val (.int tt), .val (.int ev), .unset] [])) (fun t kt => XS.ifNo X15.here hx rfl (hb hby at_197) rfl ((if0 _ _).trans (flt (fun q => hc197_15 ((lw_lt _ _).mp q))).1) kt) ?_
            refine Goes.step (A := T15.setTop (mkF m 203 #[.val (.long q1), .second, .val (.long q2), .second, .val (.long q3), .second, .val (.long q4), .second, .val (.long q5), .second, .val (.int p6), .val (.long x0), .second, .val (.long x1), .second, .val (.long x2), .second, .val (.long x3), .second, .val (.long tv), .second, .val (.ref b11), .val (.int fv), .val (.int tt), .val (.int (3 : Int32)), .unset] [])) (fun t kt => ?_) ?_
            · refine XS.iconst X15.here hx rfl (hb hby at_200) ?_
              show Steps p.tables e below (T15.setTop (mkF m 201 #[.val (.long q1), .second, .val (.long q2), .second, .val (.long q3), .second, .val (.long q4), .second, .val (.long q5), .second, .val (.int p6), .val (.long x0), .second, .val (.long x1), .second, .val (.long x2), .second, .val (.long x3), .second, .val (.long tv), .second, .val (.ref b11), .val (.int fv), .val (.int tt), .val (.int ev), .unset] [(.int (3 : Int32))])) _
              refine XS.istore X15.here hx rfl (hb hby at_201) rfl (l' := #[.val (.long q1), .second, .val (.long q2), .second, .val (.long q3), .second, .val (.long q4), .second, .val (.long q5), .second, .val (.int p6), .val (.long x0), .second, .val (.long x1), .second, .val (.long x2), .second, .val (.long x3), .second, .val (.long tv), .second, .val (.ref b11), .val (.int fv), .val (.int tt), .val (.int (3 : Int32)), .unset]) rfl ?_
              exact kt
            exact d3 _ (own_yes _ _ _ _ _ _ own_h hc181_13 hc187_14 hc197_15)
        · refine Goes.step (A := T15.setTop (mkF m 203 #[.val (.long q1), .second, .val (.long q2), .second, .val (.long q3), .second, .val (.long q4), .second, .val (.long q5), .second, .val (.int p6), .val (.long x0), .second, .val (.long x1), .second, .val (.long x2), .second, .val (.long x3), .second, .val (.long tv), .second, .val (.ref b11), .val (.int fv), .val (.int tt), .val (.int ev), .unset] [])) (fun t kt => XS.icmpYes X15.here hx rfl (pc0 := 187) (pc' := 203) rfl (hb hby at_187) rfl (flt hc187_14).2.1 (by decide) (by decide) kt) ?_
          exact d3 _ (own_no2 _ _ _ _ _ 3 _ own_h I hc187_14)
    exact c3 _ _ _ hf ht (own_i4 _ _ _ _ ht.2)
  have srt := own_sort3 (minF q1 q2) (maxF q1 q2) (minF q3 q4) (maxF q3 q4) (own_mm _ _) (own_mm _ _)
  exact cont _ _ X10 e10 N10 _ _ _ _ _ srt.1 srt.2.1 srt.2.2
set_option maxRecDepth 65536 in
set_option maxHeartbeats 40000000 in
theorem comes_1 {Post : Tables → Env → Array Value → State → Outcome → State → Prop} (hpost : ∀ tb e args s v u, (limb_1_1.after args s (.returned v) u = true ∧ limb_1_2.after args s (.returned v) u = true ∧ True) → FrameEnd s (.returned v) u (Jvm.fieldLocs frame_1_writes args s ++ Jvm.arrayLocs frame_1_arrays args s ++ Jvm.staticLocs frame_1_statics s) 16 128 → Post tb e args s (.returned v) u) :
    ArmFor flags0 classFile x code maxLocals ret World_1 tables_1 room_1 Calls_1 rest_1 Pre_1 Post := by
  intro l hfl _ _ p e ha hc hk s m args below hf hA hF happ hP
  obtain ⟨hcalls, hrest, hpre⟩ := hP
  obtain ⟨-, -, -, hnamed, -, -, -, hat⟩ := (Spec.applies_iff hf).mp happ
  obtain ⟨hg, hn⟩ := and_e (Cond.before_iff.mp (show (Jvm.Cond.and given_1 narrow_1).before args s = true from hpre))
  obtain ⟨hcnt, hr0⟩ := and_e hg
  obtain ⟨ha0, hr1⟩ := and_e hr0
  obtain ⟨ha1, hr2⟩ := and_e hr1
  obtain ⟨ha2, hr3⟩ := and_e hr2
  obtain ⟨ha3, hr4⟩ := and_e hr3
  obtain ⟨ha4, hr5⟩ := and_e hr4
  obtain ⟨w0, w1, w2, w3, w4, w5, rfl⟩ : ∃ w0 w1 w2 w3 w4 w5 : Value, args = #[w0, w1, w2, w3, w4, w5] := by
    have hs : args.size = 6 := by simpa [Cond.value, given_1] using hcnt
    obtain ⟨L⟩ := args
    match L, hs with
    | [w0, w1, w2, w3, w4, w5], _ => exact ⟨w0, w1, w2, w3, w4, w5, rfl⟩
  have hw := fun d (hd : d ∈ tables_1) => atoms_spec (ws := Jvm.Cond.code x code maxLocals ret :: tables_1) hat d (List.mem_cons_of_mem _ hd)
  obtain ⟨i0, ei0⟩ := isL_v ha0
  obtain rfl : w0 = (.long i0) := Option.some.inj ei0
  obtain ⟨i1, ei1⟩ := isL_v ha1
  obtain rfl : w1 = (.long i1) := Option.some.inj ei1
  obtain ⟨i2, ei2⟩ := isL_v ha2
  obtain rfl : w2 = (.long i2) := Option.some.inj ei2
  obtain ⟨i3, ei3⟩ := isL_v ha3
  obtain rfl : w3 = (.long i3) := Option.some.inj ei3
  obtain ⟨i4, ei4⟩ := isL_v ha4
  obtain rfl : w4 = (.long i4) := Option.some.inj ei4
  obtain ⟨i5, ei5⟩ := is_v hr5
  obtain rfl : w5 = (.int i5) := Option.some.inj ei5
  obtain ⟨n, o, h1, h2, h3, _, L, rfl, ⟨rfl, N⟩, hq⟩ := rm0 l s _ hw tables_1 i0 i1 i2 i3 i4 i5 s.heap s.heap.size (Nat.le_refl _) p e ha hc hk s m _ below hf ((Spec.applies_iff_loose hf).mp happ).1 ⟨rfl, State.Warmed39.refl s, rfl⟩ trivial
  refine ⟨n, _, h1, h2, h3, hpost _ _ _ _ _ _ ⟨Cond.after_iff.mpr rfl, Cond.after_iff.mpr (eq_i res_at (Term.int_eval (1)) rfl), trivial⟩ ⟨hq.1, hq.2.1, (hq.2.2.sift fun y hy => Or.inr (N y hy)).mono (by decide) (by decide)⟩⟩
theorem main_1_1 : Claimed_1_1 := comes_1 fun _ _ _ _ _ _ h hF => ⟨h.1, hF⟩
theorem main_1_2 : Claimed_1_2 := comes_1 fun _ _ _ _ _ _ h hF => ⟨h.2.1, hF⟩
end Jvm.Pilot.@@N@@
namespace Jvm.Pilot.@@N@@
open Jvm Jvm.ClassFile Sem Op Lib Jvm.Free Jvm.Stand Jvm.Pilot.@@N@@.Jvm.D
/-! MADE BY PROGRAM (witnessworld.py) out of the Statement's table words and the real class files: 12 classes; the members and pool entries that the words name. The judged class is class 1, her method 1. -/
namespace start1
open Jvm.ClassFile
def u (s : String) : CpInfo := .utf8 (stringToUtf16 s)
/-- a pool by its gaps: so many unusable entries, then the entry; so many at the end -/
def gap : Nat → List CpInfo → List CpInfo
  | 0, r => r
  | n + 1, r => .unusable :: gap n r
def poolList (es : List (Nat × CpInfo)) (last : Nat) : List CpInfo := es.foldr (fun e r => gap e.1 (e.2 :: r)) (gap last [])
def pool (es : List (Nat × CpInfo)) (last : Nat) : Array CpInfo := ⟨poolList es last⟩
def fileOf (pool : Array CpInfo) (this : Nat) (attrs : Array Attribute := #[]) (ms : Array MethodInfo := #[]) (fl : Nat := 33) (sup : Nat := 0) (ifs : Array Nat := #[]) (fds : Array FieldInfo := #[]) : ClassFile where
  minorVersion := 0
  majorVersion := 65
  constantPool := pool
  accessFlags := fl
  thisClass := this
  superClass := sup
  interfaces := ifs
  fields := fds
  methods := ms
  attributes := attrs
def plain (name : String) (sup : Option ClassId) : Class where
  name := name
  kind := .ordinary
  loader := none
  accessFlags := 33
  super := sup
  interfaces := #[]
  cf := none
  fields := #[]
  methods := #[]
  instanceTypes := #[]
  staticTypes := #[]
  resolved := #[]
  callSites := []
  init := .initialized
  statics := none
  mirror := none

def pool0 : Array CpInfo := pool [(5, u "<init>"), (0, u "()V"), (1, .class_ 10), (1, u "java/lang/Object")] 113

def k0m0 : Method := { name := "<init>", desc := "()V", sig := { parameters := [], returnType := none }, accessFlags := 1, code := none }
/-- java/lang/Object -/
def k0 : Class := { plain "java/lang/Object" none with
  accessFlags := 33
  interfaces := #[]
  cf := some (fileOf pool0 8 #[] #[{ accessFlags := 1, nameIndex := 5, descriptorIndex := 6, attributes := #[] }] 33 0 #[] #[])
  fields := #[]
  methods := #[k0m0]
  instanceTypes := #[]
  staticTypes := #[]
  resolved := Array.replicate 124 none
  statics := none }

def pool1 : Array CpInfo := pool [(2, .class_ 4), (1, u "java/lang/Object"), (0, u "<init>"), (0, u "()V"), (0, .methodref 8 9), (0, .class_ 10), (0, .nameAndType 11 12), (0, u "java/lang/Math"), (0, u "min"), (0, u "(JJ)J"), (0, .methodref 8 14), (0, .nameAndType 15 12), (0, u "max"), (0, .methodref 17 18), (0, .class_ 19), (0, .nameAndType 20 21), (0, u "com/example/plnr/plnr/check/SortedLongs"), (0, u "firstAtLeast"), (0, u "([JIIJ)I"), (0, .class_ 23), (0, u "com/example/plnr/plnr/check/SortedLongsFirstAtLeastPinLaw"), (2, u "law"), (0, u "(JJJJJI)Z")] 5

def k1m0 : Method := { name := "<init>", desc := "()V", sig := { parameters := [], returnType := none }, accessFlags := 2, code := none }
def k1c1 : Code := { maxStack := 5, maxLocals := 26, code := code, exceptionTable := #[], attributes := #[] }
def k1m1 : Method := { name := "law", desc := "(JJJJJI)Z", sig := { parameters := [.long, .long, .long, .long, .long, .int], returnType := some .boolean }, accessFlags := 9, code := some k1c1 }
/-- com/example/plnr/plnr/check/SortedLongsFirstAtLeastPinLaw -/
def k1 : Class := { plain "com/example/plnr/plnr/check/SortedLongsFirstAtLeastPinLaw" (some 0) with
  accessFlags := 49
  interfaces := #[]
  cf := some (fileOf pool1 22 #[] #[{ accessFlags := 2, nameIndex := 5, descriptorIndex := 6, attributes := #[] }, { accessFlags := 9, nameIndex := 26, descriptorIndex := 27, attributes := #[] }] 49 2 #[] #[])
  fields := #[]
  methods := #[k1m0, k1m1]
  instanceTypes := #[]
  staticTypes := #[]
  resolved := Array.replicate 33 none
  statics := none }

def pool2 : Array CpInfo := pool [(1, .class_ 2), (0, u "java/lang/Math"), (1, .class_ 6), (1, u "java/lang/Object"), (0, u "<init>"), (0, u "()V"), (89, .class_ 100), (1, u "java/lang/Math$RandomNumberGeneratorHolder"), (20, u "(JJ)J"), (50, u "negativeZeroFloatBits"), (0, u "J"), (2, u "negativeZeroDoubleBits"), (21, u "max"), (2, u "min"), (43, u "$assertionsDisabled"), (0, u "Z"), (91, u "twoToTheDoubleScaleDown"), (0, u "D"), (4, u "twoToTheDoubleScaleUp"), (9, u "E"), (3, u "PI"), (2, u "TAU"), (2, u "DEGREES_TO_RADIANS"), (0, u "RADIANS_TO_DEGREES")] 94

def k2m0 : Method := { name := "<init>", desc := "()V", sig := { parameters := [], returnType := none }, accessFlags := 2, code := none }
def k2c1 : Code := { maxStack := 4, maxLocals := 4, code := jdk_29_method_66_code, exceptionTable := #[], attributes := #[] }
def k2m1 : Method := { name := "max", desc := "(JJ)J", sig := { parameters := [.long, .long], returnType := some .long }, accessFlags := 9, code := some k2c1 }
def k2c2 : Code := { maxStack := 4, maxLocals := 4, code := jdk_29_method_70_code, exceptionTable := #[], attributes := #[] }
def k2m2 : Method := { name := "min", desc := "(JJ)J", sig := { parameters := [.long, .long], returnType := some .long }, accessFlags := 9, code := some k2c2 }
/-- java/lang/Math -/
def k2 : Class := { plain "java/lang/Math" (some 0) with
  accessFlags := 49
  interfaces := #[]
  cf := some (fileOf pool2 1 #[.nestMembers #[98]] #[{ accessFlags := 2, nameIndex := 7, descriptorIndex := 8, attributes := #[] }, { accessFlags := 9, nameIndex := 198, descriptorIndex := 121, attributes := #[] }, { accessFlags := 9, nameIndex := 201, descriptorIndex := 121, attributes := #[] }] 49 4 #[] #[{ accessFlags := 25, nameIndex := 354, descriptorIndex := 339, attributes := #[] }, { accessFlags := 25, nameIndex := 358, descriptorIndex := 339, attributes := #[] }, { accessFlags := 25, nameIndex := 361, descriptorIndex := 339, attributes := #[] }, { accessFlags := 26, nameIndex := 364, descriptorIndex := 339, attributes := #[] }, { accessFlags := 26, nameIndex := 365, descriptorIndex := 339, attributes := #[] }, { accessFlags := 26, nameIndex := 172, descriptorIndex := 173, attributes := #[] }, { accessFlags := 26, nameIndex := 176, descriptorIndex := 173, attributes := #[] }, { accessFlags := 8, nameIndex := 344, descriptorIndex := 339, attributes := #[] }, { accessFlags := 8, nameIndex := 338, descriptorIndex := 339, attributes := #[] }, { accessFlags := 4120, nameIndex := 245, descriptorIndex := 246, attributes := #[] }])
  fields := #[{ name := "E", type := .double, accessFlags := 25, slot := 0, constantValue := 0 }, { name := "PI", type := .double, accessFlags := 25, slot := 1, constantValue := 0 }, { name := "TAU", type := .double, accessFlags := 25, slot := 2, constantValue := 0 }, { name := "DEGREES_TO_RADIANS", type := .double, accessFlags := 26, slot := 3, constantValue := 0 }, { name := "RADIANS_TO_DEGREES", type := .double, accessFlags := 26, slot := 4, constantValue := 0 }, { name := "negativeZeroFloatBits", type := .long, accessFlags := 26, slot := 5, constantValue := 0 }, { name := "negativeZeroDoubleBits", type := .long, accessFlags := 26, slot := 6, constantValue := 0 }, { name := "twoToTheDoubleScaleUp", type := .double, accessFlags := 8, slot := 7, constantValue := 0 }, { name := "twoToTheDoubleScaleDown", type := .double, accessFlags := 8, slot := 8, constantValue := 0 }, { name := "$assertionsDisabled", type := .boolean, accessFlags := 4120, slot := 9, constantValue := 0 }]
  methods := #[k2m0, k2m1, k2m2]
  instanceTypes := #[]
  staticTypes := #[.double, .double, .double, .double, .double, .long, .long, .double, .double, .boolean]
  resolved := Array.replicate 460 none
  statics := none }

def pool3 : Array CpInfo := pool [(2, .class_ 4), (1, u "java/lang/Object"), (0, u "<init>"), (0, u "()V"), (0, .class_ 8), (0, u "com/example/plnr/plnr/check/SortedLongs"), (2, u "firstAtLeast"), (0, u "([JIIJ)I")] 3

def k3m0 : Method := { name := "<init>", desc := "()V", sig := { parameters := [], returnType := none }, accessFlags := 2, code := none }
def k3c1 : Code := { maxStack := 4, maxLocals := 8, code := prog_15_method_2_code, exceptionTable := #[], attributes := #[] }
def k3m1 : Method := { name := "firstAtLeast", desc := "([JIIJ)I", sig := { parameters := [(.array .long), .int, .int, .long], returnType := some .int }, accessFlags := 8, code := some k3c1 }
/-- com/example/plnr/plnr/check/SortedLongs -/
def k3 : Class := { plain "com/example/plnr/plnr/check/SortedLongs" (some 0) with
  accessFlags := 48
  interfaces := #[]
  cf := some (fileOf pool3 7 #[] #[{ accessFlags := 2, nameIndex := 5, descriptorIndex := 6, attributes := #[] }, { accessFlags := 8, nameIndex := 11, descriptorIndex := 12, attributes := #[] }] 48 2 #[] #[])
  fields := #[]
  methods := #[k3m0, k3m1]
  instanceTypes := #[]
  staticTypes := #[]
  resolved := Array.replicate 16 none
  statics := none }

def pool4 : Array CpInfo := pool [(1, u "java/lang/Cloneable"), (0, .class_ 1), (0, u "java/lang/Object"), (0, .class_ 3)] 3

/-- java/lang/Cloneable -/
def k4 : Class := { plain "java/lang/Cloneable" (some 0) with
  accessFlags := 1537
  interfaces := #[]
  cf := some (fileOf pool4 2 #[] #[] 1537 4 #[] #[])
  fields := #[]
  methods := #[]
  instanceTypes := #[]
  staticTypes := #[]
  resolved := Array.replicate 8 none
  statics := none }

def pool5 : Array CpInfo := pool [(1, u "java/io/Serializable"), (0, .class_ 1), (0, u "java/lang/Object"), (0, .class_ 3)] 3

/-- java/io/Serializable -/
def k5 : Class := { plain "java/io/Serializable" (some 0) with
  accessFlags := 1537
  interfaces := #[]
  cf := some (fileOf pool5 2 #[] #[] 1537 4 #[] #[])
  fields := #[]
  methods := #[]
  instanceTypes := #[]
  staticTypes := #[]
  resolved := Array.replicate 8 none
  statics := none }

/-- the primitive byte -/
def k6 : Class := { plain "byte" none with kind := .primitive 'B', accessFlags := 0x411 }
/-- [B -/
def k7 : Class := { plain "[B" (some 0) with kind := .array 6 .byte, interfaces := #[4, 5], accessFlags := 1041 }

/-- the primitive int -/
def k8 : Class := { plain "int" none with kind := .primitive 'I', accessFlags := 0x411 }
/-- [I -/
def k9 : Class := { plain "[I" (some 0) with kind := .array 8 .int, interfaces := #[4, 5], accessFlags := 1041 }

/-- the primitive long -/
def k10 : Class := { plain "long" none with kind := .primitive 'J', accessFlags := 0x411 }
/-- [J -/
def k11 : Class := { plain "[J" (some 0) with kind := .array 10 .long, interfaces := #[4, 5], accessFlags := 1041 }

def heap : Heap := #[]
def classes : Array Class := #[k0, k1, k2, k3, k4, k5, k6, k7, k8, k9, k10, k11]
def interned : List (Array UInt16 × Addr) := []
def slotsUsed : Nat := 0
def theMethod : MethodId := ⟨1, 1⟩
def args0 : Array Value := #[.long 5, .long 7, .long 2, .long 9, .long 3, .int 300]
def aboutOver (below : List Frame) : State where
  vm := { classes := classes, interned := interned.toArray }
  heap := heap
  slotsUsed := slotsUsed
  threads := #[{ frames := .invoking theMethod args0 :: below }]
def below0 : List Frame := [.native { method := ⟨0, 0⟩, args := #[] }]
def about1 : State := aboutOver below0
def p0 : Program := .bare "" "" ""
def e0 : Env := launch0.env 0 0 0
theorem w_frames : about1.frames = Frame.invoking theMethod args0 :: below0 := rfl
set_option maxRecDepth 65536 in
theorem w_args : argsFit about1.vm theMethod args0 = true := by decide +kernel
set_option maxRecDepth 65536 in
theorem w_heap : heapFits about1 = true := by decide +kernel
set_option maxRecDepth 65536 in
theorem w_runnable : about1.curStatus? = some .runnable := by decide +kernel
set_option maxRecDepth 65536 in
theorem w_alone : about1.alone = true := by decide +kernel
set_option maxRecDepth 65536 in
theorem w_named : about1.methodNamed? x = some theMethod := by decide +kernel
set_option maxRecDepth 65536 in
theorem w_hears : about1.hears theMethod below0 = true := by decide +kernel
set_option maxRecDepth 65536 in
theorem w_ripe : about1.ripe theMethod args0 below0 = true := by decide +kernel
theorem w_running : about1.status = .running := rfl
set_option maxRecDepth 65536 in
theorem w_room : about1.hasRoom e0.platform room_1 = true :=
  launch0.hasRoom_least _ room_1 (by decide +kernel) (by decide +kernel) (by decide +kernel) (by decide +kernel) (by decide +kernel) (by decide +kernel)
theorem allAtoms_all (ts : List Jvm.Cond) (a : Array Jvm.Value) (st : Jvm.State) : (allAtoms ts).before a st = ts.all (fun c => c.before a st) := by
  induction ts with
  | nil => rfl
  | cons c t ih =>
    show (Jvm.Cond.and c (allAtoms t)).before a st = _
    rw [Jvm.Cond.before_and, ih, List.all_cons]
def words1 : List Jvm.Cond := Jvm.Cond.code x code maxLocals ret :: tables_1
/-- a 'code' word, met by the world's own term for the bytes: nothing is compared byte by byte -/
theorem code_word {y : MethodName} {bytes : ByteArray} {mx : Nat} {rt : Option FieldType} {a : Array Value} {s : State} {m : MethodId} {meth : Method} {c : Code} (h1 : s.methodNamed? y = some m) (h2 : s.vm.method? m = some meth) (h3 : meth.code = some c) (h4 : c.code = bytes)
    (h5 : (c.maxLocals == mx && c.exceptionTable.isEmpty && decide (c.maxStack ≤ mostOperands) && decide (meth.sig.returnType = rt) && !meth.locks && decide (parseMethodDescriptor y.desc = some meth.sig)) = true) : (Jvm.Cond.code y bytes mx rt).before a s = true := by
  simp only [Bool.and_eq_true, beq_iff_eq, Bool.not_eq_true', decide_eq_true_eq] at h5
  obtain ⟨⟨⟨⟨⟨g1, g2⟩, g3⟩, g4⟩, g5⟩, g6⟩ := h5
  simp [Cond.before, Cond.holds, Cond.value, h1, h2, h3, h4, g1, g2, g3, g4, g5, g6]
def isCode : Jvm.Cond → Bool
  | .code _ _ _ _ => true
  | _ => false
theorem all_split {L : List Jvm.Cond} {P : Jvm.Cond → Bool} (h1 : L.all (fun c => isCode c || P c) = true) (h2 : ∀ c ∈ L.filter isCode, P c = true) : L.all P = true := by
  refine List.all_eq_true.mpr fun c hc => ?_
  have h := List.all_eq_true.mp h1 c hc
  rcases Bool.eq_false_or_eq_true (isCode c) with hi | hi
  · exact h2 c (List.mem_filter.mpr ⟨hc, hi⟩)
  · simpa [hi] using h
set_option maxRecDepth 65536 in
theorem w_c0 : (Jvm.Cond.code x code maxLocals ret).before args0 about1 = true := code_word (m := ⟨1, 1⟩) (meth := k1m1) (c := k1c1) (by decide +kernel) rfl rfl rfl (by decide +kernel)
set_option maxRecDepth 65536 in
theorem w_c1 : (Jvm.Cond.code ({ cls := "java/lang/Math", name := "min", desc := "(JJ)J" } : Jvm.MethodName) jdk_29_method_70_code (4 : Nat) (Option.some Jvm.ClassFile.FieldType.long)).before args0 about1 = true := code_word (m := ⟨2, 2⟩) (meth := k2m2) (c := k2c2) (by decide +kernel) rfl rfl rfl (by decide +kernel)
set_option maxRecDepth 65536 in
theorem w_c2 : (Jvm.Cond.code ({ cls := "java/lang/Math", name := "max", desc := "(JJ)J" } : Jvm.MethodName) jdk_29_method_66_code (4 : Nat) (Option.some Jvm.ClassFile.FieldType.long)).before args0 about1 = true := code_word (m := ⟨2, 1⟩) (meth := k2m1) (c := k2c1) (by decide +kernel) rfl rfl rfl (by decide +kernel)
set_option maxRecDepth 65536 in
theorem w_c3 : (Jvm.Cond.code ({ cls := "com/example/plnr/plnr/check/SortedLongs", name := "firstAtLeast", desc := "([JIIJ)I" } : Jvm.MethodName) prog_15_method_2_code (8 : Nat) (Option.some Jvm.ClassFile.FieldType.int)).before args0 about1 = true := code_word (m := ⟨3, 1⟩) (meth := k3m1) (c := k3c1) (by decide +kernel) rfl rfl rfl (by decide +kernel)
def codes1 : List Jvm.Cond := [Jvm.Cond.code x code maxLocals ret, Jvm.Cond.code ({ cls := "java/lang/Math", name := "min", desc := "(JJ)J" } : Jvm.MethodName) jdk_29_method_70_code (4 : Nat) (Option.some Jvm.ClassFile.FieldType.long), Jvm.Cond.code ({ cls := "java/lang/Math", name := "max", desc := "(JJ)J" } : Jvm.MethodName) jdk_29_method_66_code (4 : Nat) (Option.some Jvm.ClassFile.FieldType.long), Jvm.Cond.code ({ cls := "com/example/plnr/plnr/check/SortedLongs", name := "firstAtLeast", desc := "([JIIJ)I" } : Jvm.MethodName) prog_15_method_2_code (8 : Nat) (Option.some Jvm.ClassFile.FieldType.int)]
set_option maxRecDepth 65536 in
theorem codes_eq : words1.filter isCode = codes1 := rfl
theorem w_codes : ∀ c ∈ words1.filter isCode, c.before args0 about1 = true := by
  rw [codes_eq]
  intro c hc
  simp only [codes1, List.mem_cons, List.not_mem_nil, or_false] at hc
  rcases hc with rfl | rfl | rfl | rfl
  · exact w_c0
  · exact w_c1
  · exact w_c2
  · exact w_c3
set_option maxRecDepth 65536 in
theorem w_t1 : words1.all (fun c => isCode c || c.before args0 about1) = true := by decide +kernel
theorem w_tables : (allAtoms (Jvm.Cond.code x code maxLocals ret :: tables_1)).before args0 about1 = true := by
  rw [allAtoms_all]
  show words1.all (fun c => c.before args0 about1) = true
  refine all_split ?_ w_codes
  rw [w_t1]
set_option maxRecDepth 65536 in
theorem w_case : (Jvm.Cond.and given_1 narrow_1).before args0 about1 = true := by decide +kernel
theorem w_applies : (headSpec (Jvm.Cond.code x code maxLocals ret :: tables_1) room_1).applies x e0.platform about1 = true :=
  (Spec.applies_iff w_frames).mpr ⟨w_running, w_runnable, w_alone, w_named, w_hears, w_ripe, w_room, w_tables⟩
theorem atStart : AtStart classFile x code maxLocals ret World_1 tables_1 room_1 Calls_1 rest_1 Pre_1 launch0 p0 e0 about1 theMethod args0 below0 :=
  ⟨lists_1, trivial, launch0.admits_env _ _ _, launch0.least_env, fairChoices_fair.cas, fairChoices_fair.clock, w_frames, w_args, w_heap, w_applies, trivial, trivial, w_case⟩
end start1
theorem witness_1 : WitnessClaimed_1 := ⟨start1.p0, start1.e0, start1.about1, start1.theMethod, start1.args0, start1.below0, start1.atStart⟩
end Jvm.Pilot.@@N@@
